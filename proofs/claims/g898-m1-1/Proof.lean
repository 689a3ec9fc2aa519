import JvmDerived
import JvmDerived.Pilot.@@N@@Statement
import JvmDerived.Pilot.@@N@@Code
set_option linter.unusedVariables false
set_option linter.unusedSimpArgs false
namespace Jvm.RoadKit
open Sem ClassFile Op Lib Jvm.Stand Jvm.Free Jvm.LawKit
section New
variable {p : Program} {l : Launch} {e : Env} {R : Room} {s : State} {m : MethodId} {args : Array Value} {below : List Frame} {meth : Method} {c : Code} {T : State} {locs : List Loc} {cells slots : Nat}
theorem retI (X : Stand p l e R s m args below meth c T locs cells slots) (hx : p.tables.exec = Jvm.exec) {pc : Nat} {Ls : Array Slot} {z : Int32} {rest : List Value} (hret : meth.sig.returnType = some .int) (hd : decode c.code pc = .ok (.ireturn, 1)) {fs : List Frame}
    (hl : ∀ (f : JFrame) (acts : List Action), f.method = m → f.locked = none → f.entered = [] → (doReturn e (T.setTop f) acts (some (.int z))).1 = T.setFrames fs) : Steps p.tables e below (T.setTop (mkF m pc Ls (.int z :: rest))) (T.setFrames fs) := by
  have hm' : T.vm.method? m = some meth := X.method'
  have hn : narrow .int (.int z) = .int z := rfl
  show Steps p.tables e below (T.setTop { method := m, pc := pc, locals := Ls, stack := _ :: rest, locked := none }) _
  jvm_step X.here [X.here.top, hx, hd, hm', hret, hn]
  first | (intro acts; rw [hl _ acts rfl rfl rfl]) | rw [hl _ _ rfl rfl rfl]
  exact Steps.refl _
end New
end Jvm.RoadKit
/- laws to paste: Road.backV, Road.backArv, Road.lenW, Road.chN, Road.eqW, Road.empW, Road.codOf (cut by pick.py; bodies as the Statement names them) -/
namespace Jvm.Pilot.@@N@@
namespace StrChars
open Jvm Sem ClassFile Op Lib Jvm.Stand Jvm.Free.XT Jvm.Free.ALB Jvm.Free.JM Jvm.Free
open Jvm.Lib.Cold (StaticIs)
/-- a char array whose places are chars -/
def Ch (a : Addr) (A : Cell) (U : State) : Prop := Arr .char a A U ∧ Typed .char A
theorem Ch.mv {a : Addr} {A : Cell} {U U' : State} (h : Ch a A U) (hal : U.vm.Alike U'.vm) (hh : U'.heap = U.heap) : Ch a A U' := ⟨h.1.mv hal hh, h.2⟩
theorem Ch.keep {a : Addr} {A : Cell} {U U' : State} (h : Ch a A U) (hal : U.vm.Alike U'.vm) (hk : U'.heap[a]? = some A) : Ch a A U' := ⟨h.1.keep hal hk, h.2⟩
/-- what place i of a char[]'s cell holds -/
def cv (A : Cell) (i : Nat) : Int32 := match A.slots[i]? with | some (.int x) => x | _ => 0
theorem Ch.get {a : Addr} {A : Cell} {U : State} (h : Ch a A U) {i : Nat} (hi : i < A.slots.size) : A.slots[i]? = some (.int (cv A i)) := by
  have e := Array.getElem?_eq_getElem hi
  have f := h.2 i _ e
  unfold cv; rw [e]
  generalize A.slots[i] = v at f
  cases v <;> simp [fits] at f ⊢
/-- the byte that i2b leaves of a char -/
def lo8 (x : Int32) : Int32 := x.toInt8.toInt32
theorem fits_lo8 (y : Int32) : fits .byte (.int (lo8 y)) = true := by
  have h1 := y.toInt8.le_toInt
  have h2 := y.toInt8.toInt_lt
  simp only [lo8, fits, Bool.and_eq_true, decide_eq_true_eq, Int32.le_iff_toInt_le, Int8.toInt_toInt32, show (-128 : Int32).toInt = -128 from by decide, show (127 : Int32).toInt = 127 from by decide]
  omega
/-- A' is A but that each place j of lo .. hi - 1 holds f j -/
def Laid (A A' : Cell) (lo hi : Nat) (f : Nat → Value) : Prop := A'.cls = A.cls ∧ A'.vm = A.vm ∧ A'.slots.size = A.slots.size ∧ ∀ i, A'.slots[i]? = if lo ≤ i ∧ i < hi then some (f i) else A.slots[i]?
theorem Laid.zero (A : Cell) (lo : Nat) (f : Nat → Value) : Laid A A lo (lo + 0) f := ⟨rfl, rfl, rfl, fun i => by rw [if_neg (by omega)]⟩
theorem Laid.step {A Ak : Cell} {lo k : Nat} {f : Nat → Value} {v : Value} (h : Laid A Ak lo k f) (hlo : lo ≤ k) (hk : k < Ak.slots.size) (hv : v = f k) : Laid A (Ak.setSlot k v) lo (k + 1) f := by
  refine ⟨h.1, h.2.1, by simpa [Cell.setSlot] using h.2.2.1, fun i => ?_⟩
  by_cases e : k = i
  · subst e; rw [Cell.slots_setSlot_self v hk, if_pos (by omega), hv]
  · rw [Cell.slots_setSlot_ne v e, h.2.2.2 i]
    by_cases q : lo ≤ i ∧ i < k
    · rw [if_pos q, if_pos (by omega)]
    · rw [if_neg q, if_neg (by omega)]
def U16 : String := "java/lang/StringUTF16"
namespace Cmp5
def yN : MethodName := ⟨"java/lang/StringUTF16", "compress", "([CI[BII)I"⟩
abbrev yB : ByteArray := jdk_52_method_21_code
theorem d0 : decode yB 0 = .ok (.iconst 0, 1) := by decide +kernel
theorem d1 : decode yB 1 = .ok (.istore 5, 2) := by decide +kernel
theorem d3 : decode yB 3 = .ok (.iload 5, 2) := by decide +kernel
theorem d5 : decode yB 5 = .ok (.iload 4, 2) := by decide +kernel
theorem d7 : decode yB 7 = .ok (.if_icmp (.ge) 37, 3) := by decide +kernel
theorem d10 : decode yB 10 = .ok (.aload_n 0, 1) := by decide +kernel
theorem d11 : decode yB 11 = .ok (.iload_n 1, 1) := by decide +kernel
theorem d12 : decode yB 12 = .ok (.caload, 1) := by decide +kernel
theorem d13 : decode yB 13 = .ok (.istore 6, 2) := by decide +kernel
theorem d15 : decode yB 15 = .ok (.iload 6, 2) := by decide +kernel
theorem d17 : decode yB 17 = .ok (.sipush 255, 3) := by decide +kernel
theorem d20 : decode yB 20 = .ok (.if_icmp (.le) 6, 3) := by decide +kernel
theorem d26 : decode yB 26 = .ok (.aload_n 2, 1) := by decide +kernel
theorem d27 : decode yB 27 = .ok (.iload_n 3, 1) := by decide +kernel
theorem d28 : decode yB 28 = .ok (.iload 6, 2) := by decide +kernel
theorem d30 : decode yB 30 = .ok (.i2b, 1) := by decide +kernel
theorem d31 : decode yB 31 = .ok (.bastore, 1) := by decide +kernel
theorem d32 : decode yB 32 = .ok (.iinc 1 1, 3) := by decide +kernel
theorem d35 : decode yB 35 = .ok (.iinc 3 1, 3) := by decide +kernel
theorem d38 : decode yB 38 = .ok (.iinc 5 1, 3) := by decide +kernel
theorem d41 : decode yB 41 = .ok (.goto (-38), 3) := by decide +kernel
theorem d44 : decode yB 44 = .ok (.iload 4, 2) := by decide +kernel
theorem d46 : decode yB 46 = .ok (.ireturn, 1) := by decide +kernel
def site : List Cond := []
def tab : Cond := tabOf yN yB 7 (some .int) site
def P (b : Addr) (A : Cell) (d : Addr) (B : Cell) (o q len : Nat) (args : Array Value) (s : State) : Prop := args = #[.ref b, .int (Int32.ofNat o), .ref d, .int (Int32.ofNat q), .int (Int32.ofNat len)] ∧ Ch b A s ∧ Arr .byte d B s ∧ b ≠ d ∧ o + len ≤ A.slots.size ∧ q + len ≤ B.slots.size ∧ ∀ i, i < len → ¬ 255 < cv A (o + i)
def E (b : Addr) (A : Cell) (d : Addr) (B : Cell) (o q len : Nat) (r : Option Value) (s u : State) : Prop := r = some (.int (Int32.ofNat len)) ∧ ∃ B', Put d B' s u ∧ Laid B B' q (q + len) (fun j => Value.int (lo8 (cv A (o + (j - q)))))
/-- no char of the range above 255: len; the places written hold each char's low byte -/
theorem law (l : Launch) (b : Addr) (A : Cell) (d : Addr) (B : Cell) (o q len : Nat) : Law l yN 5 5 0 0 yB 7 (some .int) site (P b A d B o q len) (E b A d B o q len) (copyLocs d q len) 0 0 := by
  refine Law.of_walk (plainFor_of_name (by decide +kernel)) (by decide +kernel) (by decide +kernel) (by decide) (fun _ _ h => by rw [h.1]; rfl) (fun _ U U' hal hh h => ⟨h.1, h.2.1.mv hal hh, h.2.2.1.mv hal hh, h.2.2.2⟩) (fun r U U' V V' h1 hal h2 h => ⟨h.1, h.2.elim fun B' q => ⟨B', q.1.mv h1 h2, q.2⟩⟩) ?_
  intro p e s m args below meth c s₁ X0 hexec hbytes hml hret hlk hnm hown hh0 W hP
  obtain ⟨rfl, hA, hB, hne, l1, l2, hp⟩ := hP
  have c1 : Steps p.tables e below (s₁.setTop (entryFrame m #[.ref b, .int (Int32.ofNat o), .ref d, .int (Int32.ofNat q), .int (Int32.ofNat len)] 7)) (s₁.setTop (mkF m 0 #[.val (.ref b), .val (.int (Int32.ofNat o)), .val (.ref d), .val (.int (Int32.ofNat q)), .val (.int (Int32.ofNat len)), .unset, .unset] [])) := entry rfl
  have hA0 := hA.1.mv X0.warmed.alike hh0
  have hB0 := hB.mv X0.warmed.alike hh0
  have a31 := hA.1.2.2.2
  have c2 : Steps p.tables e below (s₁.setTop (entryFrame m #[.ref b, .int (Int32.ofNat o), .ref d, .int (Int32.ofNat q), .int (Int32.ofNat len)] 7)) (s₁.setTop (mkF m 3 #[.val (.ref b), .val (.int (Int32.ofNat o)), .val (.ref d), .val (.int (Int32.ofNat q)), .val (.int (Int32.ofNat len)), .val (.int 0), .unset] [])) := c1.trans (by
    refine iconstV X0.here hexec rfl 0 (hb hbytes d0) (by decide) ?_
    refine XS.istore X0.here hexec rfl (hb hbytes d1) rfl rfl ?_
    exact Steps.refl _)
  have loop : ∀ (r i : Nat), i + r = len → ∀ (z : Slot), (z = .unset ∨ ∃ w, z = .val w ∧ w.category = 1) → ∀ (Tl : State) (Bk : Cell), Stand p l e { frames := 0, locals := 0, cells := 0, slots := 0 } s m #[.ref b, .int (Int32.ofNat o), .ref d, .int (Int32.ofNat q), .int (Int32.ofNat len)] below meth c Tl ([] ++ copyLocs d q i) 0 0 → Put d Bk s₁ Tl → Laid B Bk q (q + i) (fun j => Value.int (lo8 (cv A (o + (j - q))))) →
      Steps p.tables e below (s₁.setTop (entryFrame m #[.ref b, .int (Int32.ofNat o), .ref d, .int (Int32.ofNat q), .int (Int32.ofNat len)] 7)) (Tl.setTop (mkF m 3 #[.val (.ref b), .val (.int (Int32.ofNat (o + i))), .val (.ref d), .val (.int (Int32.ofNat (q + i))), .val (.int (Int32.ofNat len)), .val (.int (Int32.ofNat i)), z] [])) → ∃ (T' : State) (B' : Cell) (z' : Slot), Stand p l e { frames := 0, locals := 0, cells := 0, slots := 0 } s m #[.ref b, .int (Int32.ofNat o), .ref d, .int (Int32.ofNat q), .int (Int32.ofNat len)] below meth c T' ([] ++ copyLocs d q len) 0 0 ∧ Put d B' s₁ T' ∧ Laid B B' q (q + len) (fun j => Value.int (lo8 (cv A (o + (j - q))))) ∧
      Steps p.tables e below (s₁.setTop (entryFrame m #[.ref b, .int (Int32.ofNat o), .ref d, .int (Int32.ofNat q), .int (Int32.ofNat len)] 7)) (T'.setTop (mkF m 3 #[.val (.ref b), .val (.int (Int32.ofNat (o + len))), .val (.ref d), .val (.int (Int32.ofNat (q + len))), .val (.int (Int32.ofNat len)), .val (.int (Int32.ofNat len)), z'] [])) := by
    intro r
    induction r with
    | zero =>
      intro i hi z hz Tl Bk Xl pl fl cl
      have hil : i = len := by omega
      rw [hil] at Xl fl cl
      exact ⟨Tl, Bk, z, Xl, pl, fl, cl⟩
    | succ r ih =>
      intro i hi z hz Tl Bk Xl pl fl cl
      have all := X0.warmed.alike.symm.trans Xl.warmed.alike
      have hAl := hA0.keep all (pl.other hne hA0.1)
      have hBk := hB0.like all pl.1 fl.1 fl.2.1 fl.2.2.1
      have hlt : q + i < Bk.slots.size := by rw [fl.2.2.1]; omega
      have c3 : Steps p.tables e below (s₁.setTop (entryFrame m #[.ref b, .int (Int32.ofNat o), .ref d, .int (Int32.ofNat q), .int (Int32.ofNat len)] 7)) (Tl.setTop (mkF m 12 #[.val (.ref b), .val (.int (Int32.ofNat (o + i))), .val (.ref d), .val (.int (Int32.ofNat (q + i))), .val (.int (Int32.ofNat len)), .val (.int (Int32.ofNat i)), z] [.int (Int32.ofNat (o + i)), .ref b])) := cl.trans (by
        refine XS.iload Xl.here hexec rfl (hb hbytes d3) rfl ?_
        refine XS.iload Xl.here hexec rfl (hb hbytes d5) rfl ?_
        refine XS.icmpNo Xl.here hexec rfl (hb hbytes d7) rfl (ii_ge_f (lt32 (by omega) (by omega))) ?_
        refine XS.aloadN Xl.here hexec rfl (hb hbytes d10) rfl rfl ?_
        refine XS.iloadN Xl.here hexec rfl (hb hbytes d11) rfl ?_
        exact Steps.refl _)
      have c4 : Steps p.tables e below (s₁.setTop (entryFrame m #[.ref b, .int (Int32.ofNat o), .ref d, .int (Int32.ofNat q), .int (Int32.ofNat len)] 7)) (Tl.setTop (mkF m 13 #[.val (.ref b), .val (.int (Int32.ofNat (o + i))), .val (.ref d), .val (.int (Int32.ofNat (q + i))), .val (.int (Int32.ofNat len)), .val (.int (Int32.ofNat i)), z] [.int (cv A (o + i))])) := c3.trans (by
        refine Xl.aget hexec hAl rfl (hA.get (i := o + i) (by omega)) rfl rfl (hb hbytes d12) ?_
        exact Steps.refl _)
      have c5 : Steps p.tables e below (s₁.setTop (entryFrame m #[.ref b, .int (Int32.ofNat o), .ref d, .int (Int32.ofNat q), .int (Int32.ofNat len)] 7)) (Tl.setTop (mkF m 15 #[.val (.ref b), .val (.int (Int32.ofNat (o + i))), .val (.ref d), .val (.int (Int32.ofNat (q + i))), .val (.int (Int32.ofNat len)), .val (.int (Int32.ofNat i)), .val (.int (cv A (o + i)))] [])) := c4.trans (by
        refine XS.istoreS Xl.here hexec rfl (hb hbytes d13) rfl rfl hz ?_
        exact Steps.refl _)
      have c6 : Steps p.tables e below (s₁.setTop (entryFrame m #[.ref b, .int (Int32.ofNat o), .ref d, .int (Int32.ofNat q), .int (Int32.ofNat len)] 7)) (Tl.setTop (mkF m 31 #[.val (.ref b), .val (.int (Int32.ofNat (o + i))), .val (.ref d), .val (.int (Int32.ofNat (q + i))), .val (.int (Int32.ofNat len)), .val (.int (Int32.ofNat i)), .val (.int (cv A (o + i)))] [.int (lo8 (cv A (o + i))), .int (Int32.ofNat (q + i)), .ref d])) := c5.trans (by
        refine XS.iload Xl.here hexec rfl (hb hbytes d15) rfl ?_
        refine sipushV Xl.here hexec rfl 255 (hb hbytes d17) (by decide) ?_
        refine XS.icmpYes Xl.here hexec rfl (pc0 := 20) rfl (hb hbytes d20) rfl (ii_le_t (hp i (by omega))) (by decide) rfl ?_
        refine XS.aloadN Xl.here hexec rfl (hb hbytes d26) rfl rfl ?_
        refine XS.iloadN Xl.here hexec rfl (hb hbytes d27) rfl ?_
        refine XS.iload Xl.here hexec rfl (hb hbytes d28) rfl ?_
        refine i2b Xl.here hexec rfl (hb hbytes d30) rfl ?_
        exact Steps.refl _)
      obtain ⟨T7, X7, p7, st7⟩ := Xl.aput hexec hBk rfl hlt rfl (fits_lo8 (cv A (o + i))) (g := (mkF m 31 #[.val (.ref b), .val (.int (Int32.ofNat (o + i))), .val (.ref d), .val (.int (Int32.ofNat (q + i))), .val (.int (Int32.ofNat len)), .val (.int (Int32.ofNat i)), .val (.int (cv A (o + i)))] [.int (lo8 (cv A (o + i))), .int (Int32.ofNat (q + i)), .ref d])) rfl (rest := []) rfl (hb hbytes d31)
      have c8 : Steps p.tables e below (s₁.setTop (entryFrame m #[.ref b, .int (Int32.ofNat o), .ref d, .int (Int32.ofNat q), .int (Int32.ofNat len)] 7)) (T7.setTop (mkF m 32 #[.val (.ref b), .val (.int (Int32.ofNat (o + i))), .val (.ref d), .val (.int (Int32.ofNat (q + i))), .val (.int (Int32.ofNat len)), .val (.int (Int32.ofNat i)), .val (.int (cv A (o + i)))] [])) := c6.trans (st7 _ (Steps.refl _))
      have c9 : Steps p.tables e below (s₁.setTop (entryFrame m #[.ref b, .int (Int32.ofNat o), .ref d, .int (Int32.ofNat q), .int (Int32.ofNat len)] 7)) (T7.setTop (mkF m 3 #[.val (.ref b), .val (.int (Int32.ofNat (o + i) + 1)), .val (.ref d), .val (.int (Int32.ofNat (q + i) + 1)), .val (.int (Int32.ofNat len)), .val (.int (Int32.ofNat i + 1)), .val (.int (cv A (o + i)))] [])) := c8.trans (by
        refine iincV X7.here hexec rfl 1 (hb hbytes d32) (by decide) rfl rfl ?_
        refine iincV X7.here hexec rfl 1 (hb hbytes d35) (by decide) rfl rfl ?_
        refine iincV X7.here hexec rfl 1 (hb hbytes d38) (by decide) rfl rfl ?_
        refine XS.goto X7.here hexec rfl (pc0 := 41) rfl (hb hbytes d41) (by decide) rfl ?_
        exact Steps.refl _)
      have c10 : Steps p.tables e below (s₁.setTop (entryFrame m #[.ref b, .int (Int32.ofNat o), .ref d, .int (Int32.ofNat q), .int (Int32.ofNat len)] 7)) (T7.setTop (mkF m 3 #[.val (.ref b), .val (.int (Int32.ofNat (o + (i + 1)))), .val (.ref d), .val (.int (Int32.ofNat (q + (i + 1)))), .val (.int (Int32.ofNat len)), .val (.int (Int32.ofNat (i + 1))), .val (.int (cv A (o + i)))] [])) := by
        have := c9
        rw [succ32, succ32, succ32] at this
        exact this
      exact ih (i + 1) (by omega) _ (Or.inr ⟨_, rfl, rfl⟩) T7 _ (by rw [copyLocs_step, ← List.append_assoc]; exact X7) (pl.trans p7) (fl.step (by omega) hlt (by simp)) c10
  obtain ⟨T9, B9, z9, X9, p9, f9, g9⟩ := loop len 0 (by omega) .unset (Or.inl rfl) s₁ B (by simpa [copyLocs] using X0) ⟨hB0.1, fun _ _ => rfl, rfl⟩ (Laid.zero _ _ _) c2
  have c11 : Steps p.tables e below (s₁.setTop (entryFrame m #[.ref b, .int (Int32.ofNat o), .ref d, .int (Int32.ofNat q), .int (Int32.ofNat len)] 7)) (T9.setTop (mkF m 46 #[.val (.ref b), .val (.int (Int32.ofNat (o + len))), .val (.ref d), .val (.int (Int32.ofNat (q + len))), .val (.int (Int32.ofNat len)), .val (.int (Int32.ofNat len)), z9] [.int (Int32.ofNat len)])) := g9.trans (by
    refine XS.iload X9.here hexec rfl (hb hbytes d3) rfl ?_
    refine XS.iload X9.here hexec rfl (hb hbytes d5) rfl ?_
    refine XS.icmpYes X9.here hexec rfl (pc0 := 7) rfl (hb hbytes d7) rfl (ii_ge_t (nlt32 (by omega) (Nat.le_refl _))) (by decide) rfl ?_
    refine XS.iload X9.here hexec rfl (hb hbytes d44) rfl ?_
    exact Steps.refl _)
  exact ⟨T9, some (.int (Int32.ofNat len)), _, _, _, X9, by simp, rfl, rfl, (fun h => by cases h), ⟨rfl, B9, p9.from hh0, f9⟩, fun fs hl => c11.trans (X9.ireturnOut hexec hret rfl (Or.inl rfl) (hb hbytes d46) hl)⟩
end Cmp5
namespace Cmp3
def yN : MethodName := ⟨"java/lang/StringUTF16", "compress", "([CII)[B"⟩
abbrev yB : ByteArray := jdk_52_method_16_code
theorem d0 : decode yB 0 = .ok (.iload_n 2, 1) := by decide +kernel
theorem d1 : decode yB 1 = .ok (.newarray .byte, 2) := by decide +kernel
theorem d3 : decode yB 3 = .ok (.astore_n 3, 1) := by decide +kernel
theorem d4 : decode yB 4 = .ok (.aload_n 0, 1) := by decide +kernel
theorem d5 : decode yB 5 = .ok (.iload_n 1, 1) := by decide +kernel
theorem d6 : decode yB 6 = .ok (.aload_n 3, 1) := by decide +kernel
theorem d7 : decode yB 7 = .ok (.iconst 0, 1) := by decide +kernel
theorem d8 : decode yB 8 = .ok (.iload_n 2, 1) := by decide +kernel
theorem d9 : decode yB 9 = .ok (.invokestatic 115, 3) := by decide +kernel
theorem d12 : decode yB 12 = .ok (.istore 4, 2) := by decide +kernel
theorem d14 : decode yB 14 = .ok (.iload 4, 2) := by decide +kernel
theorem d16 : decode yB 16 = .ok (.iload_n 2, 1) := by decide +kernel
theorem d17 : decode yB 17 = .ok (.if_icmp (.eq) 40, 3) := by decide +kernel
theorem d57 : decode yB 57 = .ok (.aload_n 3, 1) := by decide +kernel
theorem d58 : decode yB 58 = .ok (.areturn, 1) := by decide +kernel
def site : List Cond := [.arrayClass .byte, Cmp5.tab] ++ staticW U16 115 Cmp5.yN
def tab : Cond := tabOf yN yB 6 (some (.array .byte)) site
def P (b : Addr) (A : Cell) (o len : Nat) (args : Array Value) (s : State) : Prop := args = #[.ref b, .int (Int32.ofNat o), .int (Int32.ofNat len)] ∧ Ch b A s ∧ o + len ≤ A.slots.size ∧ len ≤ 536870912 ∧ ∀ i, i < len → ¬ 255 < cv A (o + i)
def E (b : Addr) (A : Cell) (o len : Nat) (r : Option Value) (s u : State) : Prop := NewArr .byte "[B" len (fun j => .int (lo8 (cv A (o + j)))) r s u ∧ u.heap.size = s.heap.size + 1
/-- no char of the range above 255: a new byte[] of their low bytes -/
theorem law (l : Launch) (b : Addr) (A : Cell) (o len : Nat) : Law l yN 3 3 1 18 yB 6 (some (.array .byte)) site (P b A o len) (E b A o len) [] 1 len := by
  refine Law.of_walk (plainFor_of_name (by decide +kernel)) (by decide +kernel) (by decide +kernel) (by decide) (fun _ _ h => by rw [h.1]; rfl) (fun _ U U' hal hh h => ⟨h.1, h.2.1.mv hal hh, h.2.2⟩) (fun r U U' V V' h1 hal h2 h => ⟨NewArr.mv r U U' V V' h1 hal h2 h.1, by rw [h1, h2]; exact h.2⟩) ?_
  intro p e s m args below meth c s₁ X0 hexec hbytes hml hret hlk hnm hown hh0 W hP
  obtain ⟨rfl, hA, l1, l2, hp⟩ := hP
  have a31 := hA.1.2.2.2
  have c1 : Steps p.tables e below (s₁.setTop (entryFrame m #[.ref b, .int (Int32.ofNat o), .int (Int32.ofNat len)] 6)) (s₁.setTop (mkF m 0 #[.val (.ref b), .val (.int (Int32.ofNat o)), .val (.int (Int32.ofNat len)), .unset, .unset, .unset] [])) := entry rfl
  have c2 : Steps p.tables e below (s₁.setTop (entryFrame m #[.ref b, .int (Int32.ofNat o), .int (Int32.ofNat len)] 6)) (s₁.setTop (mkF m 1 #[.val (.ref b), .val (.int (Int32.ofNat o)), .val (.int (Int32.ofNat len)), .unset, .unset, .unset] [.int (Int32.ofNat len)])) := c1.trans (by
    refine XS.iloadN X0.here hexec rfl (hb hbytes d0) rfl ?_
    exact Steps.refl _)
  obtain ⟨T3, B3, X3, ba3, bs3, bv3, bh3, bf3, st3⟩ := X0.anew hexec (atype := .byte) (wk W (.arrayClass .byte)) rfl (by show len * 1 ≤ _; omega) (by omega) (g := (mkF m 1 #[.val (.ref b), .val (.int (Int32.ofNat o)), .val (.int (Int32.ofNat len)), .unset, .unset, .unset] [.int (Int32.ofNat len)])) rfl (hb hbytes d1) (rest := []) rfl (Nat.le_refl _) (by show 0 + len ≤ len; omega)
  rw [hh0] at ba3 st3
  have kp3 : XT.Kept s T3 := (XT.Kept.of_eq hh0).push bh3
  have hA3 := hA.keep X3.warmed.alike (kp3 _ _ hA.1.1)
  have hne : b ≠ s.heap.size := hA.1.ne
  have c4 : Steps p.tables e below (s₁.setTop (entryFrame m #[.ref b, .int (Int32.ofNat o), .int (Int32.ofNat len)] 6)) (T3.setTop (mkF m 3 #[.val (.ref b), .val (.int (Int32.ofNat o)), .val (.int (Int32.ofNat len)), .unset, .unset, .unset] [.ref s.heap.size])) := c2.trans (st3 _ (Steps.refl _))
  have c5 : Steps p.tables e below (s₁.setTop (entryFrame m #[.ref b, .int (Int32.ofNat o), .int (Int32.ofNat len)] 6)) (T3.setTop (mkF m 9 #[.val (.ref b), .val (.int (Int32.ofNat o)), .val (.int (Int32.ofNat len)), .val (.ref s.heap.size), .unset, .unset] [.int (Int32.ofNat len), .int 0, .ref s.heap.size, .int (Int32.ofNat o), .ref b])) := c4.trans (by
    refine XS.astoreN X3.here hexec rfl (hb hbytes d3) rfl rfl rfl ?_
    refine XS.aloadN X3.here hexec rfl (hb hbytes d4) rfl rfl ?_
    refine XS.iloadN X3.here hexec rfl (hb hbytes d5) rfl ?_
    refine XS.aloadN X3.here hexec rfl (hb hbytes d6) rfl rfl ?_
    refine iconstV X3.here hexec rfl 0 (hb hbytes d7) (by decide) ?_
    refine XS.iloadN X3.here hexec rfl (hb hbytes d8) rfl ?_
    exact Steps.refl _)
  obtain ⟨v6, T6, X6, E6, g6⟩ := X3.callS hexec (Cmp5.law l b A s.heap.size B3 o 0 len) hown (wks W (staticW U16 115 Cmp5.yN)) (wk W Cmp5.tab) (W := 0) (Nat.le_of_ble_eq_true rfl) (Nat.le_of_ble_eq_true rfl) (Nat.le_refl _) (by show 0 + len + 0 ≤ len; omega) (g := (mkF m 9 #[.val (.ref b), .val (.int (Int32.ofNat o)), .val (.int (Int32.ofNat len)), .val (.ref s.heap.size), .unset, .unset] [.int (Int32.ofNat len), .int (Int32.ofNat 0), .ref s.heap.size, .int (Int32.ofNat o), .ref b])) rfl (by rw [hml]; rfl) c5 (argsL := [.ref b, .int (Int32.ofNat o), .ref s.heap.size, .int (Int32.ofNat 0), .int (Int32.ofNat len)]) (rest := []) rfl rfl (by show 2 * 0 + 0 ≤ _; decide) (hb hbytes d9) (⟨rfl, hA3, ba3, hne, l1, by rw [bs3]; simp, hp⟩)
  obtain ⟨rfl, B6, p6, f6⟩ := E6
  have c7 : Steps p.tables e below (s₁.setTop (entryFrame m #[.ref b, .int (Int32.ofNat o), .int (Int32.ofNat len)] 6)) (T6.setTop (mkF m 12 #[.val (.ref b), .val (.int (Int32.ofNat o)), .val (.int (Int32.ofNat len)), .val (.ref s.heap.size), .unset, .unset] [.int (Int32.ofNat len)])) := g6
  have c8 : Steps p.tables e below (s₁.setTop (entryFrame m #[.ref b, .int (Int32.ofNat o), .int (Int32.ofNat len)] 6)) (T6.setTop (mkF m 58 #[.val (.ref b), .val (.int (Int32.ofNat o)), .val (.int (Int32.ofNat len)), .val (.ref s.heap.size), .val (.int (Int32.ofNat len)), .unset] [.ref s.heap.size])) := c7.trans (by
    refine XS.istore X6.here hexec rfl (hb hbytes d12) rfl rfl ?_
    refine XS.iload X6.here hexec rfl (hb hbytes d14) rfl ?_
    refine XS.iloadN X6.here hexec rfl (hb hbytes d16) rfl ?_
    refine XS.icmpYes X6.here hexec rfl (pc0 := 17) rfl (hb hbytes d17) rfl (ii_eq_t rfl) (by decide) rfl ?_
    refine XS.aloadN X6.here hexec rfl (hb hbytes d57) rfl rfl ?_
    exact Steps.refl _)
  have X8 := X6.wide (L' := []) (cells' := 1) (slots' := len) (fun x hx hlt => by
    simp only [List.nil_append, copyLocs, List.mem_map, List.mem_range] at hx
    obtain ⟨i, -, rfl⟩ := hx
    exact absurd hlt (Nat.lt_irrefl _)) (Nat.le_refl _) (by omega)
  exact ⟨T6, some (.ref s.heap.size), _, _, _, X8, rfl, rfl, rfl, (fun h => by cases h), ⟨⟨rfl, B6, ba3.like (X3.warmed.alike.symm.trans X6.warmed.alike) p6.1 f6.1 f6.2.1 f6.2.2.1, f6.2.1.trans bv3, by rw [X6.warmed.alike.findClass, f6.1]; exact bf3, by rw [f6.2.2.1, bs3]; simp, fun j hj => by rw [f6.2.2.2 j, if_pos (by omega)]; rfl, kp3.put p6 (Nat.le_refl _)⟩, by rw [p6.2.2, bh3, hh0]; simp⟩, fun fs hl => c8.trans (X8.areturnOut hexec rfl hret rfl (hb hbytes d58) hl)⟩
end Cmp3
namespace CodL
def yN : MethodName := ⟨"java/lang/StringUTF16", "coderFromArrayLen", "([BI)B"⟩
abbrev yB : ByteArray := jdk_52_method_15_code
theorem d0 : decode yB 0 = .ok (.iload_n 1, 1) := by decide +kernel
theorem d1 : decode yB 1 = .ok (.aload_n 0, 1) := by decide +kernel
theorem d2 : decode yB 2 = .ok (.arraylength, 1) := by decide +kernel
theorem d3 : decode yB 3 = .ok (.isub, 1) := by decide +kernel
theorem d4 : decode yB 4 = .ok (.bipush 31, 2) := by decide +kernel
theorem d6 : decode yB 6 = .ok (.iushr, 1) := by decide +kernel
theorem d7 : decode yB 7 = .ok (.i2b, 1) := by decide +kernel
theorem d8 : decode yB 8 = .ok (.ireturn, 1) := by decide +kernel
def site : List Cond := []
def tab : Cond := tabOf yN yB 2 (some .byte) site
def P (d : Addr) (B : Cell) (args : Array Value) (s : State) : Prop := args = #[.ref d, .int (Int32.ofNat B.slots.size)] ∧ Arr .byte d B s
def E (r : Option Value) (s u : State) : Prop := XT.PureE (some (.int 0)) r s u
/-- an array as long as the number of chars: LATIN1 -/
theorem law (l : Launch) (d : Addr) (B : Cell) : Law l yN 2 2 0 0 yB 2 (some .byte) site (P d B) E [] 0 0 := by
  refine Law.of_walk (plainFor_of_name (by decide +kernel)) (by decide +kernel) (by decide +kernel) (by decide) (fun _ _ h => by rw [h.1]; rfl) (fun _ U U' hal hh h => ⟨h.1, h.2.mv hal hh⟩) (fun r U U' V V' h1 hal h2 h => XT.PureE.mv r U U' V V' h1 hal h2 h) ?_
  intro p e s m args below meth c s₁ X0 hexec hbytes hml hret hlk hnm hown hh0 W hP
  obtain ⟨rfl, hB⟩ := hP
  have hB0 := hB.mv X0.warmed.alike hh0
  have c1 : Steps p.tables e below (s₁.setTop (entryFrame m #[.ref d, .int (Int32.ofNat B.slots.size)] 2)) (s₁.setTop (mkF m 0 #[.val (.ref d), .val (.int (Int32.ofNat B.slots.size))] [])) := entry rfl
  have c2 : Steps p.tables e below (s₁.setTop (entryFrame m #[.ref d, .int (Int32.ofNat B.slots.size)] 2)) (s₁.setTop (mkF m 2 #[.val (.ref d), .val (.int (Int32.ofNat B.slots.size))] [.ref d, .int (Int32.ofNat B.slots.size)])) := c1.trans (by
    refine XS.iloadN X0.here hexec rfl (hb hbytes d0) rfl ?_
    refine XS.aloadN X0.here hexec rfl (hb hbytes d1) rfl rfl ?_
    exact Steps.refl _)
  have c3 : Steps p.tables e below (s₁.setTop (entryFrame m #[.ref d, .int (Int32.ofNat B.slots.size)] 2)) (s₁.setTop (mkF m 8 #[.val (.ref d), .val (.int (Int32.ofNat B.slots.size))] [.int (lo8 (ushr (Int32.ofNat B.slots.size - Int32.ofNat B.slots.size) 31))])) := c2.trans (by
    refine X0.alen hexec hB0 rfl rfl (hb hbytes d2) ?_
    refine XS.isub X0.here hexec rfl (hb hbytes d3) rfl ?_
    refine bipushV X0.here hexec rfl 31 (hb hbytes d4) (by decide) ?_
    refine iushr X0.here hexec rfl (hb hbytes d6) rfl ?_
    refine i2b X0.here hexec rfl (hb hbytes d7) rfl ?_
    exact Steps.refl _)
  have e0 : lo8 (ushr (Int32.ofNat B.slots.size - Int32.ofNat B.slots.size) 31) = 0 := by rw [Int32.sub_self]; decide
  rw [e0] at c3
  exact ⟨s₁, some (.int 0), _, _, _, X0, rfl, rfl, rfl, (fun h => by cases h), ⟨rfl, hh0⟩, fun fs hl => c3.trans (X0.ireturnOut hexec hret rfl (Or.inr (Or.inr (Or.inl rfl))) (hb hbytes d8) hl)⟩
end CodL
/-- the String at a is Latin-1 over a new byte[] (the heap's one new cell): the low bytes of the len chars of A from o on; every cell but a is kept -/
def Got (a : Addr) (D : Cell) (fV fC : Field) (A : Cell) (o len : Nat) (r : Option Value) (s u : State) : Prop := r = none ∧ ∃ D' V : Cell, Blank "java/lang/String" a D' u ∧ Same D D' [fV.slot, fC.slot] ∧ D'.slots[fV.slot]? = some (.ref s.heap.size) ∧ D'.slots[fC.slot]? = some (.int 0) ∧ Arr .byte s.heap.size V u ∧ V.vm = .none ∧ u.vm.findClass "[B" = some V.cls ∧ V.slots.size = len ∧ (∀ j, j < len → V.slots[j]? = some (.int (lo8 (cv A (o + j))))) ∧ (∀ (y : Addr) (c : Cell), y ≠ a → s.heap[y]? = some c → u.heap[y]? = some c) ∧ u.heap.size = s.heap.size + 1
theorem Got.mv {a : Addr} {D A : Cell} {fV fC : Field} {o len : Nat} : ∀ r (U U' V V' : State), U'.heap = U.heap → V.vm.Alike V'.vm → V'.heap = V.heap → Got a D fV fC A o len r U V → Got a D fV fC A o len r U' V' :=
  fun r U U' V V' h1 hal h2 ⟨e0, D', X, a1, a2, a3, a4, a5, a6, a7, a8, a9, a10, a11⟩ => ⟨e0, D', X, a1.mv hal h2, a2, by rw [h1]; exact a3, a4, by rw [h1]; exact a5.mv hal h2, a6, by rw [hal.findClass]; exact a7, a8, a9, by rw [h1, h2]; exact a10, by rw [h1, h2]; exact a11⟩
namespace New4
def yN : MethodName := ⟨"java/lang/String", "<init>", "([CIILjava/lang/Void;)V"⟩
abbrev yB : ByteArray := jdk_42_method_149_code
theorem d0 : decode yB 0 = .ok (.aload_n 0, 1) := by decide +kernel
theorem d1 : decode yB 1 = .ok (.invokespecial 1, 3) := by decide +kernel
theorem d4 : decode yB 4 = .ok (.iload_n 3, 1) := by decide +kernel
theorem d5 : decode yB 5 = .ok (.ifCond (.ne) 22, 3) := by decide +kernel
theorem d27 : decode yB 27 = .ok (.getstatic 38, 3) := by decide +kernel
theorem d30 : decode yB 30 = .ok (.ifCond (.eq) 28, 3) := by decide +kernel
theorem d33 : decode yB 33 = .ok (.aload_n 1, 1) := by decide +kernel
theorem d34 : decode yB 34 = .ok (.iload_n 2, 1) := by decide +kernel
theorem d35 : decode yB 35 = .ok (.iload_n 3, 1) := by decide +kernel
theorem d36 : decode yB 36 = .ok (.invokestatic 177, 3) := by decide +kernel
theorem d39 : decode yB 39 = .ok (.astore 5, 2) := by decide +kernel
theorem d41 : decode yB 41 = .ok (.aload_n 0, 1) := by decide +kernel
theorem d42 : decode yB 42 = .ok (.aload 5, 2) := by decide +kernel
theorem d44 : decode yB 44 = .ok (.iload_n 3, 1) := by decide +kernel
theorem d45 : decode yB 45 = .ok (.invokestatic 47, 3) := by decide +kernel
theorem d48 : decode yB 48 = .ok (.putfield 15, 3) := by decide +kernel
theorem d51 : decode yB 51 = .ok (.aload_n 0, 1) := by decide +kernel
theorem d52 : decode yB 52 = .ok (.aload 5, 2) := by decide +kernel
theorem d54 : decode yB 54 = .ok (.putfield 9, 3) := by decide +kernel
theorem d57 : decode yB 57 = .ok (.return_, 1) := by decide +kernel
def site : List Cond := [.fieldLink "java/lang/String" 38 "java/lang/String" "COMPACT_STRINGS" "Z", Cmp3.tab, CodL.tab, .laysFinal "java/lang/String" "java/lang/String" "value" "[B", .fieldLink "java/lang/String" 9 "java/lang/String" "value" "[B", .laysFinal "java/lang/String" "java/lang/String" "coder" "B", .fieldLink "java/lang/String" 15 "java/lang/String" "coder" "B"] ++ objW "java/lang/String" 1 ++ staticW "java/lang/String" 177 Cmp3.yN ++ staticW "java/lang/String" 47 CodL.yN
def tab : Cond := tabOf yN yB 6 none site
def P (a : Addr) (D : Cell) (fV fC : Field) (b : Addr) (A : Cell) (z : Int32) (o len : Nat) (args : Array Value) (s : State) : Prop := args = #[.ref a, .ref b, .int (Int32.ofNat o), .int (Int32.ofNat len), .null] ∧ Blank "java/lang/String" a D s ∧ Found "java/lang/String" "value" "[B" fV s ∧ Found "java/lang/String" "coder" "B" fC s ∧ Ch b A s ∧ StaticIs s "java/lang/String" "COMPACT_STRINGS" "Z" (.int z) ∧ ¬ z = 0 ∧ 0 < len ∧ o + len ≤ A.slots.size ∧ len ≤ 536870912 ∧ ∀ i, i < len → ¬ 255 < cv A (o + i)
def E (a : Addr) (D : Cell) (fV fC : Field) (A : Cell) (o len : Nat) (r : Option Value) (s u : State) : Prop := Got a D fV fC A o len r s u
/-- len > 0, no char of the range above 255: a Latin-1 String of their low bytes -/
theorem law (l : Launch) (a : Addr) (D : Cell) (fV fC : Field) (b : Addr) (A : Cell) (z : Int32) (o len : Nat) : Law l yN 5 4 2 35 yB 6 none site (P a D fV fC b A z o len) (E a D fV fC A o len) [⟨a, fC.slot⟩, ⟨a, fV.slot⟩] 1 len := by
  refine Law.of_walk (plainFor_of_name (by decide +kernel)) (by decide +kernel) (by decide +kernel) (by decide) (fun _ _ h => by rw [h.1]; rfl) (fun _ U U' hal hh h => ⟨h.1, h.2.1.mv hal hh, h.2.2.1.al hal, h.2.2.2.1.al hal, h.2.2.2.2.1.mv hal hh, h.2.2.2.2.2.1.there hal hh, h.2.2.2.2.2.2⟩) (fun r U U' V V' h1 hal h2 h => Got.mv r U U' V V' h1 hal h2 h) ?_
  intro p e s m args below meth c s₁ X0 hexec hbytes hml hret hlk hnm hown hh0 W hP
  obtain ⟨rfl, hB, f1, f2, hA, s1, hz, l0, l1, l2, hp⟩ := hP
  have a31 := hA.1.2.2.2
  have c1 : Steps p.tables e below (s₁.setTop (entryFrame m #[.ref a, .ref b, .int (Int32.ofNat o), .int (Int32.ofNat len), .null] 6)) (s₁.setTop (mkF m 0 #[.val (.ref a), .val (.ref b), .val (.int (Int32.ofNat o)), .val (.int (Int32.ofNat len)), .val .null, .unset] [])) := entry rfl
  have c2 : Steps p.tables e below (s₁.setTop (entryFrame m #[.ref a, .ref b, .int (Int32.ofNat o), .int (Int32.ofNat len), .null] 6)) (s₁.setTop (mkF m 1 #[.val (.ref a), .val (.ref b), .val (.int (Int32.ofNat o)), .val (.int (Int32.ofNat len)), .val .null, .unset] [.ref a])) := c1.trans (by
    refine XS.aloadN X0.here hexec rfl (hb hbytes d0) rfl rfl ?_
    exact Steps.refl _)
  obtain ⟨T3, X3, q3, st3⟩ := X0.oinit hexec hown (wks W (objW "java/lang/String" 1)) (g := (mkF m 1 #[.val (.ref a), .val (.ref b), .val (.int (Int32.ofNat o)), .val (.int (Int32.ofNat len)), .val .null, .unset] [.ref a])) rfl (by rw [hml]; rfl) (rest := []) rfl (hb hbytes d1) (W := 0) (by show 2 * 0 + 0 ≤ _; decide) (Nat.le_of_ble_eq_true rfl) (Nat.le_of_ble_eq_true rfl)
  have hh3 := q3.trans hh0
  have c4 : Steps p.tables e below (s₁.setTop (entryFrame m #[.ref a, .ref b, .int (Int32.ofNat o), .int (Int32.ofNat len), .null] 6)) (T3.setTop (mkF m 27 #[.val (.ref a), .val (.ref b), .val (.int (Int32.ofNat o)), .val (.int (Int32.ofNat len)), .val .null, .unset] [])) := (c2.trans (st3 _ (Steps.refl _))).trans (by
    refine XS.iloadN X3.here hexec rfl (hb hbytes d4) rfl ?_
    refine XS.ifYes X3.here hexec rfl (pc0 := 5) rfl (hb hbytes d5) rfl (i0_ne_t (nz32 (by omega) l0)) (by decide) rfl ?_
    exact Steps.refl _)
  obtain ⟨T5, X5, q5, st5⟩ := X3.sget hexec hown (wk W (.fieldLink "java/lang/String" 38 "java/lang/String" "COMPACT_STRINGS" "Z")) s1 (fun _ _ h => by rw [hh3]; exact h) (g := (mkF m 27 #[.val (.ref a), .val (.ref b), .val (.int (Int32.ofNat o)), .val (.int (Int32.ofNat len)), .val .null, .unset] [])) rfl (hb hbytes d27)
  have hh5 := q5.trans hh3
  have c6 : Steps p.tables e below (s₁.setTop (entryFrame m #[.ref a, .ref b, .int (Int32.ofNat o), .int (Int32.ofNat len), .null] 6)) (T5.setTop (mkF m 30 #[.val (.ref a), .val (.ref b), .val (.int (Int32.ofNat o)), .val (.int (Int32.ofNat len)), .val .null, .unset] [.int z])) := c4.trans (st5 _ (Steps.refl _))
  have c7 : Steps p.tables e below (s₁.setTop (entryFrame m #[.ref a, .ref b, .int (Int32.ofNat o), .int (Int32.ofNat len), .null] 6)) (T5.setTop (mkF m 36 #[.val (.ref a), .val (.ref b), .val (.int (Int32.ofNat o)), .val (.int (Int32.ofNat len)), .val .null, .unset] [.int (Int32.ofNat len), .int (Int32.ofNat o), .ref b])) := c6.trans (by
    refine XS.ifNo X5.here hexec rfl (hb hbytes d30) rfl (i0_eq_f hz) ?_
    refine XS.aloadN X5.here hexec rfl (hb hbytes d33) rfl rfl ?_
    refine XS.iloadN X5.here hexec rfl (hb hbytes d34) rfl ?_
    refine XS.iloadN X5.here hexec rfl (hb hbytes d35) rfl ?_
    exact Steps.refl _)
  obtain ⟨v8, T8, X8, E8, g8⟩ := X5.callS hexec (Cmp3.law l b A o len) hown (wks W (staticW "java/lang/String" 177 Cmp3.yN)) (wk W Cmp3.tab) (W := 0) (Nat.le_of_ble_eq_true rfl) (Nat.le_of_ble_eq_true rfl) (Nat.le_refl _) (by show 0 + len ≤ len; omega) (g := (mkF m 36 #[.val (.ref a), .val (.ref b), .val (.int (Int32.ofNat o)), .val (.int (Int32.ofNat len)), .val .null, .unset] [.int (Int32.ofNat len), .int (Int32.ofNat o), .ref b])) rfl (by rw [hml]; rfl) c7 (argsL := [.ref b, .int (Int32.ofNat o), .int (Int32.ofNat len)]) (rest := []) rfl rfl (by show 2 * 0 + 0 ≤ _; decide) (hb hbytes d36) (⟨rfl, hA.mv X5.warmed.alike hh5, l1, l2, hp⟩)
  obtain ⟨e8, z8⟩ := E8
  obtain ⟨rfl, N, n1, n2, n3, n4, n5, n6⟩ := NewArr.mv _ T5 s _ _ hh5.symm (Vm.Alike.refl _) rfl e8
  rw [hh5] at z8
  have hB1 := hB.keep X8.warmed.alike (n6 _ _ hB.1)
  have hne : s.heap.size ≠ a := (Nat.ne_of_lt (Array.getElem?_eq_some_iff.mp hB.1).1).symm
  have c9 : Steps p.tables e below (s₁.setTop (entryFrame m #[.ref a, .ref b, .int (Int32.ofNat o), .int (Int32.ofNat len), .null] 6)) (T8.setTop (mkF m 39 #[.val (.ref a), .val (.ref b), .val (.int (Int32.ofNat o)), .val (.int (Int32.ofNat len)), .val .null, .unset] [.ref s.heap.size])) := g8
  have c10 : Steps p.tables e below (s₁.setTop (entryFrame m #[.ref a, .ref b, .int (Int32.ofNat o), .int (Int32.ofNat len), .null] 6)) (T8.setTop (mkF m 45 #[.val (.ref a), .val (.ref b), .val (.int (Int32.ofNat o)), .val (.int (Int32.ofNat len)), .val .null, .val (.ref s.heap.size)] [.int (Int32.ofNat N.slots.size), .ref s.heap.size, .ref a])) := by
    have hc : Steps p.tables e below (s₁.setTop (entryFrame m #[.ref a, .ref b, .int (Int32.ofNat o), .int (Int32.ofNat len), .null] 6)) (T8.setTop (mkF m 45 #[.val (.ref a), .val (.ref b), .val (.int (Int32.ofNat o)), .val (.int (Int32.ofNat len)), .val .null, .val (.ref s.heap.size)] [.int (Int32.ofNat len), .ref s.heap.size, .ref a])) := c9.trans (by
      refine XS.astore X8.here hexec rfl (hb hbytes d39) rfl rfl rfl ?_
      refine XS.aloadN X8.here hexec rfl (hb hbytes d41) rfl rfl ?_
      refine XS.aload X8.here hexec rfl (hb hbytes d42) rfl rfl ?_
      refine XS.iloadN X8.here hexec rfl (hb hbytes d44) rfl ?_
      exact Steps.refl _)
    rw [n4]; exact hc
  obtain ⟨v11, T11, X11, E11, g11⟩ := X8.callS hexec (CodL.law l s.heap.size N) hown (wks W (staticW "java/lang/String" 47 CodL.yN)) (wk W CodL.tab) (W := 1) (Nat.le_of_ble_eq_true rfl) (Nat.le_of_ble_eq_true rfl) (Nat.le_refl _) (by show 0 + len + 0 ≤ len; omega) (g := (mkF m 45 #[.val (.ref a), .val (.ref b), .val (.int (Int32.ofNat o)), .val (.int (Int32.ofNat len)), .val .null, .val (.ref s.heap.size)] [.int (Int32.ofNat N.slots.size), .ref s.heap.size, .ref a])) rfl (by rw [hml]; rfl) c10 (argsL := [.ref s.heap.size, .int (Int32.ofNat N.slots.size)]) (rest := [.ref a]) rfl rfl (by show 2 * 0 + (1 + 0) ≤ _; decide) (hb hbytes d45) (⟨rfl, n1⟩)
  obtain ⟨rfl, q11⟩ := E11
  have hB11 := hB1.mv (X8.warmed.alike.symm.trans X11.warmed.alike) q11
  have c12 : Steps p.tables e below (s₁.setTop (entryFrame m #[.ref a, .ref b, .int (Int32.ofNat o), .int (Int32.ofNat len), .null] 6)) (T11.setTop (mkF m 48 #[.val (.ref a), .val (.ref b), .val (.int (Int32.ofNat o)), .val (.int (Int32.ofNat len)), .val .null, .val (.ref s.heap.size)] [.int 0, .ref a])) := g11
  obtain ⟨T13, X13, p13, bl13, sl13, st13⟩ := X11.finit hexec hown (wk W (.fieldLink "java/lang/String" 15 "java/lang/String" "coder" "B")) (Or.inr ⟨_, (wk W (.laysFinal "java/lang/String" "java/lang/String" "coder" "B"))⟩) (Or.inl ⟨rfl, hnm⟩) f2 (Or.inl rfl) hB11 (t := .byte) (by decide +kernel) rfl (g := (mkF m 48 #[.val (.ref a), .val (.ref b), .val (.int (Int32.ofNat o)), .val (.int (Int32.ofNat len)), .val .null, .val (.ref s.heap.size)] [.int 0, .ref a])) rfl (rest := []) rfl (hb hbytes d48)
  have c14 : Steps p.tables e below (s₁.setTop (entryFrame m #[.ref a, .ref b, .int (Int32.ofNat o), .int (Int32.ofNat len), .null] 6)) (T13.setTop (mkF m 54 #[.val (.ref a), .val (.ref b), .val (.int (Int32.ofNat o)), .val (.int (Int32.ofNat len)), .val .null, .val (.ref s.heap.size)] [.ref s.heap.size, .ref a])) := (c12.trans (st13 _ (Steps.refl _))).trans (by
    refine XS.aloadN X13.here hexec rfl (hb hbytes d51) rfl rfl ?_
    refine XS.aload X13.here hexec rfl (hb hbytes d52) rfl rfl ?_
    exact Steps.refl _)
  obtain ⟨T15, X15, p15, bl15, sl15, st15⟩ := X13.finit hexec hown (wk W (.fieldLink "java/lang/String" 9 "java/lang/String" "value" "[B")) (Or.inr ⟨_, (wk W (.laysFinal "java/lang/String" "java/lang/String" "value" "[B"))⟩) (Or.inl ⟨rfl, hnm⟩) f1 (Or.inl rfl) bl13 (t := (.array .byte)) (by decide +kernel) rfl (g := (mkF m 54 #[.val (.ref a), .val (.ref b), .val (.int (Int32.ofNat o)), .val (.int (Int32.ofNat len)), .val .null, .val (.ref s.heap.size)] [.ref s.heap.size, .ref a])) rfl (rest := []) rfl (hb hbytes d54)
  have c16 : Steps p.tables e below (s₁.setTop (entryFrame m #[.ref a, .ref b, .int (Int32.ofNat o), .int (Int32.ofNat len), .null] 6)) (T15.setTop (mkF m 57 #[.val (.ref a), .val (.ref b), .val (.int (Int32.ofNat o)), .val (.int (Int32.ofNat len)), .val .null, .val (.ref s.heap.size)] [])) := c14.trans (st15 _ (Steps.refl _))
  have ap := apart (Or.inr ⟨_, (wk W (.laysFinal "java/lang/String" "java/lang/String" "value" "[B"))⟩) (Or.inr ⟨_, (wk W (.laysFinal "java/lang/String" "java/lang/String" "coder" "B"))⟩) f1 f2 (t₁ := .array .byte) (t₂ := .byte) (by decide +kernel) (by decide +kernel) (by decide)
  have al := X8.warmed.alike.symm.trans X15.warmed.alike
  have n7 : T11.heap[s.heap.size]? = some N := by rw [q11]; exact n1.1
  exact ⟨T15, none, _, _, _, X15, by simp, rfl, by omega, (fun _ => rfl), ⟨rfl, _, N, bl15, ((Same.refl D _).set _ (by simp)).set _ (by simp), sl15, (Cell.slots_setSlot_ne _ ap).trans sl13, n1.keep al (p15.other hne (p13.other hne n7)), n2, by rw [al.findClass]; exact n3, n4, n5, fun y c h1 h2 => p15.other h1 (p13.other h1 (by rw [q11]; exact n6 y c h2)), by rw [p15.2.2, p13.2.2, q11]; exact z8⟩, fun fs hl => c16.trans (X15.returnOut hexec hret (hb hbytes d57) hl)⟩
end New4
namespace New1
def yN : MethodName := ⟨"java/lang/String", "<init>", "([C)V"⟩
abbrev yB : ByteArray := jdk_42_method_3_code
theorem d0 : decode yB 0 = .ok (.aload_n 0, 1) := by decide +kernel
theorem d1 : decode yB 1 = .ok (.aload_n 1, 1) := by decide +kernel
theorem d2 : decode yB 2 = .ok (.iconst 0, 1) := by decide +kernel
theorem d3 : decode yB 3 = .ok (.aload_n 1, 1) := by decide +kernel
theorem d4 : decode yB 4 = .ok (.arraylength, 1) := by decide +kernel
theorem d5 : decode yB 5 = .ok (.aconst_null, 1) := by decide +kernel
theorem d6 : decode yB 6 = .ok (.invokespecial 27, 3) := by decide +kernel
theorem d9 : decode yB 9 = .ok (.return_, 1) := by decide +kernel
def site : List Cond := [New4.tab] ++ initW "java/lang/String" 27 New4.yN
def tab : Cond := tabOf yN yB 2 none site
def P (a : Addr) (D : Cell) (fV fC : Field) (b : Addr) (A : Cell) (z : Int32) (args : Array Value) (s : State) : Prop := args = #[.ref a, .ref b] ∧ Blank "java/lang/String" a D s ∧ Found "java/lang/String" "value" "[B" fV s ∧ Found "java/lang/String" "coder" "B" fC s ∧ Ch b A s ∧ StaticIs s "java/lang/String" "COMPACT_STRINGS" "Z" (.int z) ∧ ¬ z = 0 ∧ 0 < A.slots.size ∧ A.slots.size ≤ 536870912 ∧ ∀ i, i < A.slots.size → ¬ 255 < cv A i
def E (a : Addr) (D : Cell) (fV fC : Field) (A : Cell) (r : Option Value) (s u : State) : Prop := Got a D fV fC A 0 A.slots.size r s u
/-- new String(chars), not empty, no char above 255: a Latin-1 String of their low bytes -/
theorem law (l : Launch) (a : Addr) (D : Cell) (fV fC : Field) (b : Addr) (A : Cell) (z : Int32) : Law l yN 2 1 3 52 yB 2 none site (P a D fV fC b A z) (E a D fV fC A) [⟨a, fC.slot⟩, ⟨a, fV.slot⟩] 1 A.slots.size := by
  refine Law.of_walk (plainFor_of_name (by decide +kernel)) (by decide +kernel) (by decide +kernel) (by decide) (fun _ _ h => by rw [h.1]; rfl) (fun _ U U' hal hh h => ⟨h.1, h.2.1.mv hal hh, h.2.2.1.al hal, h.2.2.2.1.al hal, h.2.2.2.2.1.mv hal hh, h.2.2.2.2.2.1.there hal hh, h.2.2.2.2.2.2⟩) (fun r U U' V V' h1 hal h2 h => Got.mv r U U' V V' h1 hal h2 h) ?_
  intro p e s m args below meth c s₁ X0 hexec hbytes hml hret hlk hnm hown hh0 W hP
  obtain ⟨rfl, hB, f1, f2, hA, s1, hz, l0, l2, hp⟩ := hP
  have c1 : Steps p.tables e below (s₁.setTop (entryFrame m #[.ref a, .ref b] 2)) (s₁.setTop (mkF m 0 #[.val (.ref a), .val (.ref b)] [])) := entry rfl
  have c2 : Steps p.tables e below (s₁.setTop (entryFrame m #[.ref a, .ref b] 2)) (s₁.setTop (mkF m 6 #[.val (.ref a), .val (.ref b)] [.null, .int (Int32.ofNat A.slots.size), .int 0, .ref b, .ref a])) := c1.trans (by
    refine XS.aloadN X0.here hexec rfl (hb hbytes d0) rfl rfl ?_
    refine XS.aloadN X0.here hexec rfl (hb hbytes d1) rfl rfl ?_
    refine iconstV X0.here hexec rfl 0 (hb hbytes d2) (by decide) ?_
    refine XS.aloadN X0.here hexec rfl (hb hbytes d3) rfl rfl ?_
    refine X0.alen hexec (hA.1.mv X0.warmed.alike hh0) rfl rfl (hb hbytes d4) ?_
    refine XS.aconstNull X0.here hexec rfl (hb hbytes d5) ?_
    exact Steps.refl _)
  obtain ⟨v3, T3, X3, E3, g3⟩ := X0.callN hexec (New4.law l a D fV fC b A z 0 A.slots.size) rfl hown (wks W (initW "java/lang/String" 27 New4.yN)) (W New4.tab (by simp only [site, List.mem_cons, List.mem_append, true_or, or_true])) (W := 0) (Nat.le_of_ble_eq_true rfl) (Nat.le_of_ble_eq_true rfl) (Nat.le_refl _) (by show 0 + A.slots.size ≤ A.slots.size; omega) (g := (mkF m 6 #[.val (.ref a), .val (.ref b)] [.null, .int (Int32.ofNat A.slots.size), .int (Int32.ofNat 0), .ref b, .ref a])) rfl (by rw [hml]; rfl) c2 (argsL := [.ref b, .int (Int32.ofNat 0), .int (Int32.ofNat A.slots.size), .null]) (rest := []) rfl rfl (by show 2 * 0 + 0 ≤ _; decide) (hb hbytes d6) (⟨rfl, hB.mv X0.warmed.alike hh0, f1.al X0.warmed.alike, f2.al X0.warmed.alike, hA.mv X0.warmed.alike hh0, s1.there X0.warmed.alike hh0, hz, l0, by omega, l2, fun i hi => by rw [Nat.zero_add]; exact hp i hi⟩)
  have e0 := Got.mv _ s₁ s _ _ hh0.symm (Vm.Alike.refl _) rfl E3
  obtain rfl := e0.1
  have c4 : Steps p.tables e below (s₁.setTop (entryFrame m #[.ref a, .ref b] 2)) (T3.setTop (mkF m 9 #[.val (.ref a), .val (.ref b)] [])) := g3
  exact ⟨T3, none, _, _, _, X3, by simp, rfl, by omega, (fun _ => rfl), e0, fun fs hl => c4.trans (X3.returnOut hexec hret (hb hbytes d9) hl)⟩
theorem pays {l : Launch} {R : Room} {p : Program} {e : Env} {below : List Frame} {s : State} {sargs : Array Value} {len W : Nat} (a : Addr) (D : Cell) (fV fC : Field) (b : Addr) (A : Cell) (z : Int32) (htab : tab.before sargs s = true) (hfr : 4 ≤ R.frames) (hlo : W + 65 ≤ R.locals) :
    Back l R p e below s sargs yN len W (fun A₁ a₁ => A₁.cells + 1 ≤ R.cells ∧ A₁.slots + A.slots.size ≤ R.slots ∧ P a D fV fC b A z a₁ A₁.U) (fun A₁ _ v₁ B₁ => E a D fV fC A v₁ A₁.U B₁.U ∧ B₁.locs = A₁.locs ++ [⟨a, fC.slot⟩, ⟨a, fV.slot⟩] ∧ B₁.cells = A₁.cells + 1 ∧ B₁.slots = A₁.slots + A.slots.size) :=
  (law l a D fV fC b A z).pays htab hfr (by omega)
end New1
/-- the byte, read back as charAt reads it, is the char -/
theorem lo8_mask {x : Int32} (h0 : ¬ x < 0) (h1 : ¬ 255 < x) : lo8 x &&& 255 = x := by
  have t : ∀ k : Fin 256, lo8 (Int32.ofNat k.val) &&& 255 = Int32.ofNat k.val := by decide +kernel
  rw [Int32.lt_iff_toInt_lt] at h0 h1
  have e0 : (0 : Int32).toInt = 0 := rfl
  have e1 : (255 : Int32).toInt = 255 := rfl
  obtain ⟨k, hk⟩ : ∃ k : Nat, x.toInt = k := ⟨x.toInt.toNat, by omega⟩
  have hx : x = Int32.ofNat k := Int32.toInt_inj.mp (by rw [hk, Int32.toInt_ofNat_small (by omega)])
  rw [hx]
  exact t ⟨k, by omega⟩
end StrChars
namespace StrChars.Road
open Jvm Sem ClassFile Op Lib Jvm.Stand Jvm.Free Jvm.Free.XT
open Jvm.Lib.Cold (StaticIs)
abbrev ST : String := "java/lang/String"
/-- every table word that New1's law asks, flat -/
abbrev words : List Jvm.Cond := [.code New1.yN New1.yB 2 none, .initialized ST, .methodLink ST 27 New4.yN, .instanceMethod New4.yN,
  .code New4.yN New4.yB 6 none, .fieldLink ST 38 ST "COMPACT_STRINGS" "Z", .laysFinal ST ST "value" "[B", .fieldLink ST 9 ST "value" "[B", .laysFinal ST ST "coder" "B", .fieldLink ST 15 ST "coder" "B",
  .methodLink ST 1 Lib.objectInit, .instanceMethod Lib.objectInit, .code Lib.objectInit ⟨#[0xb1]⟩ 1 none, .methodLink ST 177 Cmp3.yN, .static Cmp3.yN, .methodLink ST 47 CodL.yN, .static CodL.yN,
  .code Cmp3.yN Cmp3.yB 6 (some (.array .byte)), .initialized U16, .arrayClass .byte, .methodLink U16 115 Cmp5.yN, .static Cmp5.yN, .code Cmp5.yN Cmp5.yB 7 (some .int), .code CodL.yN CodL.yB 2 (some .byte)]
theorem tab_of {a : Array Value} {s : State} (h : ∀ w ∈ words, w.before a s = true) : New1.tab.before a s = true := by
  have h5 : Cmp5.tab.before a s = true := unparts (wk h (.code Cmp5.yN Cmp5.yB 7 (some .int))) (wks h (.initialized Cmp5.yN.cls :: Cmp5.site))
  have hc : CodL.tab.before a s = true := unparts (wk h (.code CodL.yN CodL.yB 2 (some .byte))) (wks h (.initialized CodL.yN.cls :: CodL.site))
  have q5 : ∀ w ∈ Cmp5.tab :: words, w.before a s = true := fun w hw => (List.mem_cons.mp hw).elim (fun e => e ▸ h5) (h w)
  have h3 : Cmp3.tab.before a s = true := unparts (wk q5 (.code Cmp3.yN Cmp3.yB 6 (some (.array .byte)))) (wks q5 (.initialized Cmp3.yN.cls :: Cmp3.site))
  have q3 : ∀ w ∈ Cmp3.tab :: CodL.tab :: words, w.before a s = true := fun w hw => (List.mem_cons.mp hw).elim (fun e => e ▸ h3) fun hw => (List.mem_cons.mp hw).elim (fun e => e ▸ hc) (h w)
  have h4 : New4.tab.before a s = true := unparts (wk q3 (.code New4.yN New4.yB 6 none)) (wks q3 (.initialized New4.yN.cls :: New4.site))
  have q4 : ∀ w ∈ New4.tab :: words, w.before a s = true := fun w hw => (List.mem_cons.mp hw).elim (fun e => e ▸ h4) (h w)
  exact unparts (wk q4 (.code New1.yN New1.yB 2 none)) (wks q4 (.initialized New1.yN.cls :: New1.site))
/-- the words ride from the start Z to the walk's own state -/
theorem moved {Z s : State} {a0 args : Array Value} (hZ : Z.Warmed39 s.vm) (hw : ∀ d ∈ words, d.before a0 Z = true) : ∀ d ∈ words, d.before args s = true := fun d hd => by
  have q := hw d hd
  have t : ∀ d ∈ words, d = .arrayClass .byte ∨ (d.onTables && d.keepsFace) = true := by decide +kernel
  rcases t d hd with rfl | t
  · exact RoadKit.mvA hZ q
  · exact RoadKit.mv hZ q t
/-- WHAT COMES BACK, over the tables of the start Z: h the heap at the call, h' behind it -/
def Q (Z : State) (x : Addr) (A : Cell) (h : Heap) (v : Option Value) (h' : Heap) (L : List Loc) : Prop := v = none ∧ (∀ y ∈ L, y.base = x) ∧ RoadKit.Keep h h' [x] ∧ h'.size = h.size + 1 ∧ RoadKit.Exa Z h' x ST ∧ RoadKit.Fld Z h' x ST "value" "[B" (.ref h.size) ∧ RoadKit.Fld Z h' x ST "coder" "B" (.int 0) ∧
  (∃ V : Cell, RoadKit.Arr Z h' h.size V .byte ∧ V.vm = .none ∧ Z.vm.findClass "[B" = some V.cls ∧ V.slots.size = A.slots.size ∧ ∀ j, j < A.slots.size → V.slots[j]? = some (.int (lo8 (cv A j)))) ∧
  ∀ (O n d : String) (w : Value), RoadKit.Fld Z h x O n d w → RoadKit.slotOf Z O n d ≠ RoadKit.slotOf Z ST "value" "[B" → RoadKit.slotOf Z O n d ≠ RoadKit.slotOf Z ST "coder" "B" → RoadKit.Fld Z h' x O n d w
/-- **new String(chars) AT A CALL, IN THE ROAD'S FORM**: for specialBack behind newO: x the fresh String, b the char[] with the cell A -/
theorem back {p : Program} {l : Launch} {e : Env} {R : Room} {s : State} {args : Array Value} {below : List Frame} {len W : Nat} {Z : State} {a0 : Array Value} {h : Heap} (hZ : Z.Warmed39 s.vm) (hw : ∀ d ∈ words, d.before a0 Z = true) {kI : Nat} (wi : (Jvm.Cond.instantiable ST kI).before a0 Z = true)
    {x b : Addr} {A : Cell} {z : Int32} {v0 c0 : Value} (E : RoadKit.Exa Z h x ST) (V : RoadKit.Fld Z h x ST "value" "[B" v0) (C : RoadKit.Fld Z h x ST "coder" "B" c0) (K : RoadKit.Arr Z h b A .char) (hty : Typed .char A) (S : RoadKit.Sta Z h ST "COMPACT_STRINGS" "Z" (.int z)) (hz : ¬ z = 0)
    (l0 : 0 < A.slots.size) (l2 : A.slots.size ≤ 536870912) (hp : ∀ i, i < A.slots.size → ¬ 255 < cv A i) (hfr : 4 ≤ R.frames) (hlo : W + 65 ≤ R.locals) :
    Back l R p e below s args New1.yN len W (fun P a => a = #[.ref x, .ref b] ∧ P.U.heap = h ∧ P.cells + 1 ≤ R.cells ∧ P.slots + A.slots.size ≤ R.slots)
      (fun P _ v B => ∃ L, Q Z x A h v B.U.heap L ∧ B.locs = P.locs ++ L ∧ B.cells = P.cells + 1 ∧ B.slots = P.slots + A.slots.size) := by
  intro m meth c P g ig mk a X hg hsize hdg hW hn hp'
  obtain ⟨rfl, rfl, r1, r2⟩ := hp'
  have al : Z.vm.Alike P.U.vm := hZ.alike.trans X.warmed.alike
  obtain ⟨D, cfV, kV, iV, fV, hD, gV, stV, knV, obV, asV, slV⟩ := id V
  obtain ⟨D', cfC, kC, iC, fC, hD', gC, stC, -, -, asC, slC⟩ := id C
  cases hD.symm.trans hD'
  obtain ⟨D2, kD, e1, e2, e3, e4, e5⟩ := id E
  cases hD.symm.trans e1
  obtain ⟨c2, k2, i1, i2, i3, -⟩ := Cond.instantiable_spec wi
  cases e2.symm.trans i1
  cases e3.symm.trans i2
  obtain ⟨kU, u1, u2⟩ := al.2.2 _ _ e3
  have hB : Blank ST x D P.U := ⟨hD, ⟨knV, fun q hq => by rw [hq] at obV; cases obV⟩, by rw [al.findClass]; exact e2, kU, u1, by rw [u2]; exact i3, by rw [u2]; exact e5 i3⟩
  have F1 : Found ST "value" "[B" fV P.U := ⟨SBG.found_only al ⟨cfV, kV, iV, gV⟩, stV⟩
  have F2 : Found ST "coder" "B" fC P.U := ⟨SBG.found_only al ⟨cfC, kC, iC, gC⟩, stC⟩
  have hA : Ch b A P.U := ⟨⟨K.1, State.isArrayOf_alike al K.2.1, K.2.2, by omega⟩, hty⟩
  have hS : StaticIs P.U ST "COMPACT_STRINGS" "Z" (.int z) := by
    obtain ⟨cfS, iS, kS, fS, st, cS, t1, t2, t3, t4, t5, t6, t7⟩ := S
    exact StaticIs.there (s := { Z with heap := P.U.heap }) ⟨cfS, iS, kS, fS, st, cS, t1, t2, t3, t4, t5, (fun q => by rw [q] at t6; cases t6), t7⟩ al rfl
  obtain ⟨v, B, X', ⟨⟨hv, E', V', q1, q2, q3, q4, q5, q6, q7, q8, q9, q10, q11⟩, hl, hc, hs⟩, st⟩ := New1.pays x D fV fC b A z (tab_of (moved hZ hw)) hfr hlo m meth c P g ig mk _ X hg hsize hdg hW hn ⟨r1, r2, rfl, hB, F1, F2, hA, hS, hz, l0, l2, hp⟩
  have al' : Z.vm.Alike B.U.vm := hZ.alike.trans X'.warmed.alike
  have hsz : E'.slots.size = D.slots.size := by
    obtain ⟨-, -, -, kB, w1, w2, w3⟩ := q1
    obtain ⟨kB', y1, y2⟩ := al'.2.2 _ _ e3
    rw [q2.2.1] at w1
    cases w1.symm.trans y1
    rw [w3, e5 i3, y2]
  refine ⟨v, B, X', ⟨_, ⟨hv, ?_, ⟨by omega, fun y cy hy hn' => q10 y cy (by simpa using hn') hy, fun y cy hy => ?_⟩, q11, ⟨E', _, q1.1, by rw [q2.2.1]; exact e2, by rw [q2.2.1]; exact e3, by rw [q2.1]; exact obV, fun _ => by rw [hsz]; exact e5 i3⟩,
    ⟨E', cfV, kV, iV, fV, q1.1, gV, stV, by rw [q2.1]; exact knV, by rw [q2.1]; exact obV, by rw [q2.2.1]; exact asV, q3⟩, ⟨E', cfC, kC, iC, fC, q1.1, gC, stC, by rw [q2.1]; exact knV, by rw [q2.1]; exact obV, by rw [q2.2.1]; exact asC, q4⟩,
    ⟨V', ⟨q5.1, State.isArrayOf_alike al'.symm q5.2.1, q5.2.2.1⟩, q6, by rw [← al'.findClass]; exact q7, q8, fun j hj => by have := q9 j hj; rwa [Nat.zero_add] at this⟩, fun O n d w F n1 n2 => ?_⟩, hl, hc, hs⟩, st⟩
  · intro y hy
    simp only [List.mem_cons, List.not_mem_nil, or_false] at hy
    rcases hy with rfl | rfl <;> rfl
  · by_cases q : y = x
    · subst q
      cases hD.symm.trans hy
      exact ⟨E', q1.1, q2.2.1, q2.1, hsz⟩
    · exact ⟨cy, q10 y cy q hy, rfl, rfl, rfl⟩
  · obtain ⟨D3, cf, k, i, f, g1, g2, g3, g4, g5, g6, g7⟩ := F
    cases hD.symm.trans g1
    simp only [RoadKit.slotOf, g2, gV, gC, Option.map_some, Option.getD_some] at n1 n2
    exact ⟨E', cf, k, i, f, q1.1, g2, g3, by rw [q2.1]; exact g4, by rw [q2.1]; exact g5, by rw [q2.2.1]; exact g6, by rw [q2.2.2 f.slot (by simp [n1, n2])]; exact g7⟩
end StrChars.Road
namespace StrChars.Road
open Jvm Sem ClassFile Op Lib Jvm.Stand Jvm.Free Jvm.Free.XT
/-- WHAT COMES BACK, the byte[] as a list of values -/
def QA (Z : State) (x : Addr) (zn : Int32) (cs : List Int32) (h : Heap) (v : Option Value) (h' : Heap) (L : List Loc) : Prop := v = none ∧ (∀ y ∈ L, y.base = x) ∧ RoadKit.Keep h h' [x] ∧ h'.size = h.size + 1 ∧ RoadKit.Exa Z h' x ST ∧ RoadKit.Fld Z h' x ST "value" "[B" (.ref h.size) ∧ RoadKit.Fld Z h' x ST "coder" "B" (.int 0) ∧
  (∃ kb, Z.vm.findClass "[B" = some kb ∧ RoadKit.Arv Z h' h.size kb .byte zn (cs.map fun c => .int (lo8 c)) (.int 0)) ∧
  ∀ (O n d : String) (w : Value), RoadKit.Fld Z h x O n d w → RoadKit.slotOf Z O n d ≠ RoadKit.slotOf Z ST "value" "[B" → RoadKit.slotOf Z O n d ≠ RoadKit.slotOf Z ST "coder" "B" → RoadKit.Fld Z h' x O n d w
/-- **new String(chars) AT A CALL, THE ARRAYS AS LISTS**: the char[] at b holds cs, not empty, no char above 255 -/
theorem backArv {p : Program} {l : Launch} {e : Env} {R : Room} {s : State} {args : Array Value} {below : List Frame} {len W : Nat} {Z : State} {a0 : Array Value} {h : Heap} (hZ : Z.Warmed39 s.vm) (hw : ∀ d ∈ words, d.before a0 Z = true) {kI : Nat} (wi : (Jvm.Cond.instantiable ST kI).before a0 Z = true)
    {x b : Addr} {k : ClassId} {zn z : Int32} {cs : List Int32} {dv v0 c0 : Value} (E : RoadKit.Exa Z h x ST) (V : RoadKit.Fld Z h x ST "value" "[B" v0) (C : RoadKit.Fld Z h x ST "coder" "B" c0) (K : RoadKit.Arv Z h b k .char zn (cs.map Value.int) dv) (S : RoadKit.Sta Z h ST "COMPACT_STRINGS" "Z" (.int z)) (hz : ¬ z = 0)
    (hlen : zn.toNatClampNeg = cs.length) (h0 : 0 < cs.length) (hbig : cs.length ≤ 536870912) (hall : ∀ c ∈ cs, ¬ 255 < c) (hfr : 4 ≤ R.frames) (hlo : W + 65 ≤ R.locals) :
    Back l R p e below s args New1.yN len W (fun P a => a = #[.ref x, .ref b] ∧ P.U.heap = h ∧ P.cells + 1 ≤ R.cells ∧ P.slots + cs.length ≤ R.slots)
      (fun P _ v B => ∃ L, QA Z x zn cs h v B.U.heap L ∧ B.locs = P.locs ++ L ∧ B.cells = P.cells + 1 ∧ B.slots = P.slots + cs.length) := by
  obtain ⟨A, K1, K2, K3, K4, K5, K6⟩ := K
  have e : A.slots.size = cs.length := K3.trans hlen
  have hat : ∀ (i : Nat) (hi : i < cs.length), A.slots[i]? = some (.int cs[i]) := fun i hi => by rw [K5 i (by omega)]; simp [List.getD_eq_getElem?_getD, hi]
  have hcv : ∀ (i : Nat) (hi : i < cs.length), cv A i = cs[i] := fun i hi => by unfold cv; rw [hat i hi]
  have hty : Typed .char A := fun i v hv => by
    have hi : i < A.slots.size := (Array.getElem?_eq_some_iff.mp hv).1
    have q := K5 i hi
    rw [hv] at q
    rw [Option.some.inj q]
    exact K6 i hi
  refine Back.mono (back hZ hw wi E V C K1 hty S hz (by omega) (by omega) (fun i hi => by rw [hcv i (by omega)]; exact hall _ (List.getElem_mem _)) hfr hlo) (fun P a hp => ⟨hp.1, hp.2.1, hp.2.2.1, by rw [e]; exact hp.2.2.2⟩) (fun P a v B hp hq => ?_)
  obtain ⟨L, ⟨q1, q2, q3, q4, q5, q6, q7, ⟨V', v1, v2, v3, v4, v5⟩, q9⟩, hl, hc, hs⟩ := hq
  refine ⟨L, ⟨q1, q2, q3, q4, q5, q6, q7, ⟨V'.cls, v3, V', v1, rfl, by rw [v4, e, hlen], K4, fun i hi => ?_, fun i hi => ?_⟩, q9⟩, hl, hc, by rw [hs, e]⟩
  · have hi' : i < cs.length := by omega
    rw [v5 i (by omega), hcv i hi']; simp [List.getD_eq_getElem?_getD, hi']
  · have hi' : i < cs.length := by omega
    simp only [List.getD_eq_getElem?_getD, List.getElem?_map, List.getElem?_eq_getElem hi', Option.map_some, Option.getD_some]
    exact fits_lo8 _
end StrChars.Road
namespace StrChars.Road
open Jvm Sem ClassFile Op Lib Jvm.Stand Jvm.Free Jvm.Free.XT
/-- WHAT COMES BACK, in the writer's own shape -/
def QV (Z : State) (x : Addr) (N : Int32) (bs : List Int32) (h : Heap) (n0 : Nat) (v : Option Value) (h' : Heap) (L : List Loc) : Prop := v = none ∧ RoadKit.Fr n0 L ∧ RoadKit.Keep h h' [x] ∧ RoadKit.Exa Z h' x ST ∧ RoadKit.Fld Z h' x ST "coder" "B" (.int 0) ∧
  ∃ (t : Addr) (kb : ClassId), n0 ≤ t ∧ h.size ≤ t ∧ ¬ t = x ∧ RoadKit.Fld Z h' x ST "value" "[B" (.ref t) ∧ RoadKit.Arv Z h' t kb .byte N (bs.map Value.int) (.int 0)
/-- **new String(chars) AT A CALL, FOR THE WRITER**: a char[] of n known ints, each 0 to 255 -/
theorem backV {p : Program} {l : Launch} {e : Env} {R : Room} {s : State} {args : Array Value} {below : List Frame} {len W : Nat} {Z : State} {a0 : Array Value} {h : Heap} (hZ : Z.Warmed39 s.vm) (hw : ∀ d ∈ words, d.before a0 Z = true) {kI : Nat} (wi : (Jvm.Cond.instantiable ST kI).before a0 Z = true)
    {x b : Addr} {kC : ClassId} {cs bs : List Int32} {d v0 c0 : Value} {z N : Int32} {n n0 : Nat} (hx0 : n0 ≤ x) (hh0 : n0 ≤ h.size) (E : RoadKit.Exa Z h x ST) (V : RoadKit.Fld Z h x ST "value" "[B" v0) (C : RoadKit.Fld Z h x ST "coder" "B" c0) (K : RoadKit.Arv Z h b kC .char N (cs.map Value.int) d) (S : RoadKit.Sta Z h ST "COMPACT_STRINGS" "Z" (.int z)) (hz : ¬ z = 0)
    (hn : cs.length = n) (hN : N = Int32.ofNat n) (l0 : 0 < n) (l2 : n ≤ 4000) (hp : ∀ c ∈ cs, ¬ c < 0 ∧ ¬ (255 : Int32) < c) (hb : bs = cs.map (fun c => c.toInt8.toInt32)) (hfr : 4 ≤ R.frames) (hlo : W + 65 ≤ R.locals) :
    Back l R p e below s args (⟨"java/lang/String", "<init>", "([C)V"⟩ : MethodName) len W (fun P a => a = #[.ref x, .ref b] ∧ P.U.heap = h ∧ P.cells + 1 ≤ R.cells ∧ P.slots + n ≤ R.slots)
      (fun P _ v B => ∃ L, QV Z x N bs h n0 v B.U.heap L ∧ B.locs = P.locs ++ L ∧ B.cells = P.cells + 1 ∧ B.slots = P.slots + n) := by
  subst hn hN hb
  refine Back.mono (backArv hZ hw wi E V C K S hz (n32 (by omega)) l0 (by omega) (fun c hc => (hp c hc).2) hfr hlo) (fun P a hp => hp) (fun P a v B hp hq => ?_)
  obtain ⟨L, ⟨q1, q2, q3, q4, q5, q6, q7, ⟨kb, v1, v2⟩, q9⟩, hl, hc, hs⟩ := hq
  exact ⟨L, ⟨q1, fun y hy => by rw [q2 y hy]; exact hx0, q3, q5, q7, h.size, kb, hh0, Nat.le_refl _, Nat.ne_of_gt E.lt, q6, by rw [List.map_map]; exact v2⟩, hl, hc, hs⟩
end StrChars.Road
namespace StrChars
open Jvm Sem ClassFile Op Lib Jvm.Stand Jvm.Free.XT Jvm.Free.ALB Jvm.Free.JM Jvm.Free
open Jvm.Lib.Cold (StaticIs)
def hi8 (x : Int32) : Int32 := lo8 (x >>> ((8 : Int32) &&& 31))
/-- what StringUTF16.getChar makes of two bytes -/
def pairCh (u v : Int32) : Int32 := (((u &&& 255) <<< ((0 : Int32) &&& 31)) ||| ((v &&& 255) <<< ((8 : Int32) &&& 31))).toUInt32.toUInt16.toUInt32.toInt32
theorem shr0 (c : Int32) : c >>> ((0 : Int32) &&& 31) = c := by
  have e : ((0 : Int32) &&& 31) = 0 := by decide
  rw [e]
  apply Int32.toBitVec_inj.mp
  rw [Int32.toBitVec_shiftRight]
  have e1 : ((0 : Int32).toBitVec.smod 32) = 0#32 := by decide
  rw [e1, BitVec.sshiftRight_eq']
  exact BitVec.sshiftRight_zero
theorem lo8_and (x : Int32) : (lo8 x &&& 255).toBitVec.toNat = x.toBitVec.toNat % 256 := by
  have h : (lo8 x).toBitVec = (x.toBitVec.signExtend 8).signExtend 32 := by rw [lo8, Int8.toBitVec_toInt32, Int32.toBitVec_toInt8]
  rw [Int32.toBitVec_and, BitVec.toNat_and, h]
  have e : ((x.toBitVec.signExtend 8).signExtend 32).toNat % 256 = x.toBitVec.toNat % 256 := by
    rw [BitVec.toNat_signExtend]
    have hlt := x.toBitVec.isLt
    simp only [BitVec.toNat_setWidth, BitVec.toNat_signExtend]
    split <;> split <;> omega
  rw [← e]
  exact Nat.and_two_pow_sub_one_eq_mod _ 8
theorem pair_says {c : Int32} (h0 : ¬ c < 0) (h1 : ¬ 65535 < c) : pairCh (lo8 c) (hi8 c) = c := by
  rw [Int32.lt_iff_toInt_lt] at h0 h1
  have e0 : (0 : Int32).toInt = 0 := rfl
  have e1 : (65535 : Int32).toInt = 65535 := rfl
  have hc : c.toInt = c.toBitVec.toNat := by
    have := c.toBitVec.isLt
    have e : c.toInt = c.toBitVec.toInt := rfl
    rw [e] at h0 h1
    rw [e]
    rw [BitVec.toInt_eq_toNat_cond] at h0 h1 ⊢
    split at h0 <;> split <;> omega
  have hn : c.toBitVec.toNat < 65536 := by omega
  have a1 := lo8_and c
  have a2 : (hi8 c &&& 255).toBitVec.toNat = c.toBitVec.toNat / 256 := by
    rw [hi8, lo8_and]
    have e : ((8 : Int32) &&& 31) = 8 := by decide
    rw [e, Int32.toBitVec_shiftRight]
    have e2 : ((8 : Int32).toBitVec.smod 32) = 8#32 := by decide
    rw [e2, BitVec.sshiftRight_eq', BitVec.toNat_sshiftRight_of_msb_false (by rw [BitVec.msb_eq_false_iff_two_mul_lt]; omega)]
    show c.toBitVec.toNat >>> 8 % 256 = _
    rw [Nat.shiftRight_eq_div_pow]
    omega
  unfold pairCh
  apply Int32.toBitVec_inj.mp
  apply BitVec.eq_of_toNat_eq
  have f0 : ((0 : Int32) &&& 31) = 0 := by decide
  have f8 : ((8 : Int32) &&& 31) = 8 := by decide
  rw [f0, f8]
  have g : (((lo8 c &&& 255) <<< (0 : Int32)) ||| ((hi8 c &&& 255) <<< (8 : Int32))).toBitVec.toNat = c.toBitVec.toNat := by
    rw [Int32.toBitVec_or, Int32.toBitVec_shiftLeft, Int32.toBitVec_shiftLeft]
    have s0 : ((0 : Int32).toBitVec.smod 32) = 0#32 := by decide
    have s8 : ((8 : Int32).toBitVec.smod 32) = 8#32 := by decide
    rw [s0, s8, BitVec.toNat_or]
    simp only [BitVec.shiftLeft_eq', BitVec.toNat_shiftLeft, a1, a2]
    show (c.toBitVec.toNat % 256) <<< 0 % 2 ^ 32 ||| (c.toBitVec.toNat / 256) <<< 8 % 2 ^ 32 = _
    rw [Nat.shiftLeft_zero, Nat.mod_eq_of_lt (show c.toBitVec.toNat % 256 < 2 ^ 32 by omega), Nat.mod_eq_of_lt (show (c.toBitVec.toNat / 256) <<< 8 < 2 ^ 32 by rw [Nat.shiftLeft_eq]; omega), Nat.or_comm, ← Nat.shiftLeft_add_eq_or_of_lt (by omega), Nat.shiftLeft_eq]
    omega
  show BitVec.toNat (((((lo8 c &&& 255) <<< (0 : Int32)) ||| ((hi8 c &&& 255) <<< (8 : Int32))).toBitVec.setWidth 16).setWidth 32) = _
  rw [BitVec.toNat_setWidth, BitVec.toNat_setWidth, g]
  omega
end StrChars
namespace StrChars
open Jvm Sem ClassFile Op Lib Jvm.Stand Jvm.Free.XT Jvm.Free.ALB Jvm.Free.JM Jvm.Free
open Jvm.Lib.Cold (StaticIs)
theorem shr1 {n : Nat} (h : 2 * n < 2 ^ 31) : Int32.ofNat (2 * n) >>> ((1 : Int32) &&& 31) = Int32.ofNat n := by
  have e : ((1 : Int32) &&& 31) = 1 := by decide
  rw [e]
  apply Int32.toBitVec_inj.mp
  rw [Int32.toBitVec_shiftRight]
  have e1 : ((1 : Int32).toBitVec.smod 32) = 1#32 := by decide
  have hm : (BitVec.ofNat 32 (2 * n)).toNat = 2 * n := by rw [BitVec.toNat_ofNat, Nat.mod_eq_of_lt (by omega)]
  rw [e1, BitVec.sshiftRight_eq']
  apply BitVec.eq_of_toNat_eq
  show ((BitVec.ofNat 32 (2 * n)).sshiftRight 1).toNat = (BitVec.ofNat 32 n).toNat
  rw [BitVec.toNat_sshiftRight_of_msb_false (by rw [BitVec.msb_eq_false_iff_two_mul_lt, hm]; omega), hm, BitVec.toNat_ofNat, Nat.shiftRight_eq_div_pow]
  omega
/-- charAt's cast of a byte read back -/
def chr8 (u : Int32) : Int32 := (u &&& 255).toUInt32.toUInt16.toUInt32.toInt32
theorem chr8_lo8 {c : Int32} (h0 : ¬ c < 0) (h1 : ¬ 255 < c) : chr8 (lo8 c) = c := by
  have t : ∀ k : Fin 256, (Int32.ofNat k.val).toUInt32.toUInt16.toUInt32.toInt32 = Int32.ofNat k.val := by decide +kernel
  unfold chr8
  rw [lo8_mask h0 h1]
  rw [Int32.lt_iff_toInt_lt] at h0 h1
  have e0 : (0 : Int32).toInt = 0 := rfl
  have e1 : (255 : Int32).toInt = 255 := rfl
  obtain ⟨k, hk⟩ : ∃ k : Nat, c.toInt = k := ⟨c.toInt.toNat, by omega⟩
  have hx : c = Int32.ofNat k := Int32.toInt_inj.mp (by rw [hk, Int32.toInt_ofNat_small (by omega)])
  rw [hx]
  exact t ⟨k, by omega⟩
theorem narrow_ch {c : Int32} (h0 : ¬ c < 0) (h1 : ¬ 65535 < c) : narrow .char (.int c) = .int c := by
  have q : narrow .char (.int (pairCh (lo8 c) (hi8 c))) = .int (pairCh (lo8 c) (hi8 c)) := narrow_c _
  rwa [pair_says h0 h1] at q
/-- the array's cell V codes the n chars f 0 .. f (n - 1) by the coder cd, as the JDK does: coder 1 just where some char is above 255 -/
def Cod (cd : Int32) (n : Nat) (f : Nat → Int32) (V : Cell) : Prop := (cd = 0 ∧ V.slots.size = n ∧ ∀ j, j < n → V.slots[j]? = some (.int (lo8 (f j))) ∧ ¬ 255 < f j) ∨ (cd = 1 ∧ V.slots.size = 2 * n ∧ (∀ j, j < n → V.slots[2 * j]? = some (.int (lo8 (f j))) ∧ V.slots[2 * j + 1]? = some (.int (hi8 (f j)))) ∧ ∃ j, j < n ∧ 255 < f j)
theorem Cod.cd {cd : Int32} {n : Nat} {f : Nat → Int32} {V : Cell} (h : Cod cd n f V) : cd = 0 ∨ cd = 1 := h.imp (fun q => q.1) fun q => q.1
theorem Cod.len {cd : Int32} {n : Nat} {f : Nat → Int32} {V : Cell} (h : Cod cd n f V) (hs : V.slots.size < 2 ^ 31) : Int32.ofNat V.slots.size >>> (cd &&& 31) = Int32.ofNat n := by
  rcases h with ⟨rfl, h, -⟩ | ⟨rfl, h, -⟩
  · rw [shr0, h]
  · rw [h, shr1 (by omega)]
/-- **x is a String of the n chars f 0 .. f (n - 1)**, Latin-1 or UTF-16; its array at t has the cell V -/
def Txt (x t : Addr) (V : Cell) (cd : Int32) (n : Nat) (f : Nat → Int32) (U : State) : Prop := Exact "java/lang/String" x U ∧ Has x "java/lang/String" "value" "[B" (.ref t) U ∧ Has x "java/lang/String" "coder" "B" (.int cd) U ∧ XT.Arr .byte t V U ∧ Cod cd n f V ∧ ∀ j, j < n → ¬ f j < 0 ∧ ¬ 65535 < f j
theorem Txt.mv {x t : Addr} {V : Cell} {cd : Int32} {n : Nat} {f : Nat → Int32} {U U' : State} (h : Txt x t V cd n f U) (hal : U.vm.Alike U'.vm) (hh : U'.heap = U.heap) : Txt x t V cd n f U' := ⟨h.1.mv hal hh, h.2.1.mv hal hh, h.2.2.1.mv hal hh, h.2.2.2.1.mv hal hh, h.2.2.2.2⟩
namespace Cdr
def yN : MethodName := ⟨"java/lang/String", "coder", "()B"⟩
abbrev yB : ByteArray := jdk_42_method_152_code
theorem d0 : decode yB 0 = .ok (.getstatic 38, 3) := by decide +kernel
theorem d3 : decode yB 3 = .ok (.ifCond (.eq) 10, 3) := by decide +kernel
theorem d6 : decode yB 6 = .ok (.aload_n 0, 1) := by decide +kernel
theorem d7 : decode yB 7 = .ok (.getfield 15, 3) := by decide +kernel
theorem d10 : decode yB 10 = .ok (.goto 4, 3) := by decide +kernel
theorem d14 : decode yB 14 = .ok (.ireturn, 1) := by decide +kernel
def site : List Cond := [.fieldLink "java/lang/String" 38 "java/lang/String" "COMPACT_STRINGS" "Z", .fieldLink "java/lang/String" 15 "java/lang/String" "coder" "B"]
def tab : Cond := tabOf yN yB 1 (some .byte) site
def P (x : Addr) (cd z : Int32) (args : Array Value) (s : State) : Prop := args = #[.ref x] ∧ Has x "java/lang/String" "coder" "B" (.int cd) s ∧ (cd = 0 ∨ cd = 1) ∧ StaticIs s "java/lang/String" "COMPACT_STRINGS" "Z" (.int z) ∧ ¬ z = 0
def E (cd : Int32) (r : Option Value) (s u : State) : Prop := XT.PureE (some (.int cd)) r s u
theorem law (l : Launch) (x : Addr) (cd z : Int32) : Law l yN 1 0 0 0 yB 1 (some .byte) site (P x cd z) (E cd) [] 0 0 := by
  refine Law.of_walk (plainFor_of_name (by decide +kernel)) (by decide +kernel) (by decide +kernel) (by decide) (fun _ _ h => by rw [h.1]; rfl) (fun _ U U' hal hh h => ⟨h.1, h.2.1.mv hal hh, h.2.2.1, h.2.2.2.1.there hal hh, h.2.2.2.2⟩) (fun r U U' V V' h1 hal h2 h => XT.PureE.mv r U U' V V' h1 hal h2 h) ?_
  intro p e s m args below meth c s₁ X0 hexec hbytes hml hret hlk hnm hown hh0 W hP
  obtain ⟨rfl, hx, hc, s1, hz⟩ := hP
  have c1 : Steps p.tables e below (s₁.setTop (entryFrame m #[.ref x] 1)) (s₁.setTop (mkF m 0 #[.val (.ref x)] [])) := entry rfl
  obtain ⟨T2, X2, q2, st2⟩ := X0.sget hexec hown (wk W (.fieldLink "java/lang/String" 38 "java/lang/String" "COMPACT_STRINGS" "Z")) s1 (fun _ _ h => by rw [hh0]; exact h) (g := (mkF m 0 #[.val (.ref x)] [])) rfl (hb hbytes d0)
  have hh2 := q2.trans hh0
  have c3 : Steps p.tables e below (s₁.setTop (entryFrame m #[.ref x] 1)) (T2.setTop (mkF m 7 #[.val (.ref x)] [.ref x])) := (c1.trans (st2 _ (Steps.refl _))).trans (by
    refine XS.ifNo X2.here hexec rfl (hb hbytes d3) rfl (i0_eq_f hz) ?_
    refine XS.aloadN X2.here hexec rfl (hb hbytes d6) rfl rfl ?_
    exact Steps.refl _)
  obtain ⟨T4, X4, q4, st4⟩ := X2.hget hexec hown (wk W (.fieldLink "java/lang/String" 15 "java/lang/String" "coder" "B")) (hx.mv X2.warmed.alike hh2) (g := (mkF m 7 #[.val (.ref x)] [.ref x])) rfl (rest := []) rfl (hb hbytes d7)
  have c5 : Steps p.tables e below (s₁.setTop (entryFrame m #[.ref x] 1)) (T4.setTop (mkF m 14 #[.val (.ref x)] [.int cd])) := (c3.trans (st4 _ (Steps.refl _))).trans (by
    refine XS.goto X4.here hexec rfl (pc0 := 10) rfl (hb hbytes d10) (by decide) rfl ?_
    exact Steps.refl _)
  exact ⟨T4, some (.int cd), _, _, _, X4, rfl, rfl, rfl, (fun h => by cases h), ⟨rfl, q4.trans hh2⟩, fun fs hl => c5.trans (X4.ireturnOut hexec hret (by rcases hc with rfl | rfl <;> rfl) (Or.inr (Or.inr (Or.inl rfl))) (hb hbytes d14) hl)⟩
end Cdr
namespace Len
def yN : MethodName := ⟨"java/lang/String", "length", "()I"⟩
abbrev yB : ByteArray := jdk_42_method_54_code
theorem d0 : decode yB 0 = .ok (.aload_n 0, 1) := by decide +kernel
theorem d1 : decode yB 1 = .ok (.getfield 9, 3) := by decide +kernel
theorem d4 : decode yB 4 = .ok (.arraylength, 1) := by decide +kernel
theorem d5 : decode yB 5 = .ok (.aload_n 0, 1) := by decide +kernel
theorem d6 : decode yB 6 = .ok (.invokevirtual 335, 3) := by decide +kernel
theorem d9 : decode yB 9 = .ok (.ishr, 1) := by decide +kernel
theorem d10 : decode yB 10 = .ok (.ireturn, 1) := by decide +kernel
def site : List Cond := [.fieldLink "java/lang/String" 9 "java/lang/String" "value" "[B", Cdr.tab] ++ virtW "java/lang/String" 335 "java/lang/String" Cdr.yN Cdr.yN
def tab : Cond := tabOf yN yB 1 (some .int) site
def P (x t : Addr) (V : Cell) (cd : Int32) (n : Nat) (f : Nat → Int32) (z : Int32) (args : Array Value) (s : State) : Prop := args = #[.ref x] ∧ Txt x t V cd n f s ∧ StaticIs s "java/lang/String" "COMPACT_STRINGS" "Z" (.int z) ∧ ¬ z = 0
def E (n : Nat) (r : Option Value) (s u : State) : Prop := XT.PureE (some (.int (Int32.ofNat n))) r s u
/-- length() of a String of n chars, in either coding -/
theorem law (l : Launch) (x t : Addr) (V : Cell) (cd : Int32) (n : Nat) (f : Nat → Int32) (z : Int32) : Law l yN 1 0 1 13 yB 1 (some .int) site (P x t V cd n f z) (E n) [] 0 0 := by
  refine Law.of_walk (plainFor_of_name (by decide +kernel)) (by decide +kernel) (by decide +kernel) (by decide) (fun _ _ h => by rw [h.1]; rfl) (fun _ U U' hal hh h => ⟨h.1, h.2.1.mv hal hh, h.2.2.1.there hal hh, h.2.2.2⟩) (fun r U U' V V' h1 hal h2 h => XT.PureE.mv r U U' V V' h1 hal h2 h) ?_
  intro p e s m args below meth c s₁ X0 hexec hbytes hml hret hlk hnm hown hh0 W hP
  obtain ⟨rfl, hx, s1, hz⟩ := hP
  have v31 := hx.2.2.2.1.2.2.2
  have c1 : Steps p.tables e below (s₁.setTop (entryFrame m #[.ref x] 1)) (s₁.setTop (mkF m 1 #[.val (.ref x)] [.ref x])) := Steps.trans (entry rfl) (by
    show Steps p.tables e below (s₁.setTop (mkF m 0 #[.val (.ref x)] [])) _
    refine XS.aloadN X0.here hexec rfl (hb hbytes d0) rfl rfl ?_
    exact Steps.refl _)
  obtain ⟨T2, X2, q2, st2⟩ := X0.hget hexec hown (wk W (.fieldLink "java/lang/String" 9 "java/lang/String" "value" "[B")) (hx.mv X0.warmed.alike hh0).2.1 (g := (mkF m 1 #[.val (.ref x)] [.ref x])) rfl (rest := []) rfl (hb hbytes d1)
  have hh2 := q2.trans hh0
  have hx2 := hx.mv X2.warmed.alike hh2
  have c3 : Steps p.tables e below (s₁.setTop (entryFrame m #[.ref x] 1)) (T2.setTop (mkF m 6 #[.val (.ref x)] [.ref x, .int (Int32.ofNat V.slots.size)])) := (c1.trans (st2 _ (Steps.refl _))).trans (by
    refine X2.alen hexec hx2.2.2.2.1 rfl rfl (hb hbytes d4) ?_
    refine XS.aloadN X2.here hexec rfl (hb hbytes d5) rfl rfl ?_
    exact Steps.refl _)
  obtain ⟨v4, T4, X4, E4, g4⟩ := X2.callV hexec (Cdr.law l x cd z) hown (wks W (virtW "java/lang/String" 335 "java/lang/String" Cdr.yN Cdr.yN)) rfl (by decide) (wk W Cdr.tab) (W := 1) (Nat.le_of_ble_eq_true rfl) (Nat.le_of_ble_eq_true rfl) (Nat.le_refl _) (Nat.le_refl _) (hx2.1.fc X2.warmed.alike) hx2.1.is (g := (mkF m 6 #[.val (.ref x)] [.ref x, .int (Int32.ofNat V.slots.size)])) rfl (by rw [hml]; rfl) c3 (argsL := []) (rest := [.int (Int32.ofNat V.slots.size)]) rfl rfl (by show 2 * 0 + (1 + 0) ≤ _; decide) (hb hbytes d6) (⟨rfl, hx2.2.2.1, hx.2.2.2.2.1.cd, s1.there X2.warmed.alike hh2, hz⟩)
  obtain ⟨rfl, q4⟩ := E4
  have c5 : Steps p.tables e below (s₁.setTop (entryFrame m #[.ref x] 1)) (T4.setTop (mkF m 10 #[.val (.ref x)] [.int (Int32.ofNat V.slots.size >>> (cd &&& 31))])) := Steps.trans g4 (by
    refine ishr X4.here hexec rfl (hb hbytes d9) rfl ?_
    exact Steps.refl _)
  rw [hx.2.2.2.2.1.len v31] at c5
  exact ⟨T4, some (.int (Int32.ofNat n)), _, _, _, X4, rfl, rfl, rfl, (fun h => by cases h), ⟨rfl, q4.trans hh2⟩, fun fs hl => c5.trans (X4.ireturnOut hexec hret rfl (Or.inl rfl) (hb hbytes d10) hl)⟩
theorem pays {l : Launch} {R : Room} {p : Program} {e : Env} {below : List Frame} {s : State} {sargs : Array Value} {len W : Nat} (x t : Addr) (V : Cell) (cd : Int32) (n : Nat) (f : Nat → Int32) (z : Int32) (htab : tab.before sargs s = true) (hfr : 2 ≤ R.frames) (hlo : W + 25 ≤ R.locals) :
    Back l R p e below s sargs yN len W (fun A₁ a₁ => A₁.cells + 0 ≤ R.cells ∧ A₁.slots + 0 ≤ R.slots ∧ P x t V cd n f z a₁ A₁.U) (fun A₁ _ v₁ B₁ => E n v₁ A₁.U B₁.U ∧ B₁.locs = A₁.locs ++ [] ∧ B₁.cells = A₁.cells + 0 ∧ B₁.slots = A₁.slots + 0) :=
  (law l x t V cd n f z).pays htab hfr (by omega)
end Len
namespace IsL
def yN : MethodName := ⟨"java/lang/String", "isLatin1", "()Z"⟩
abbrev yB : ByteArray := jdk_42_method_154_code
theorem d0 : decode yB 0 = .ok (.getstatic 38, 3) := by decide +kernel
theorem d3 : decode yB 3 = .ok (.ifCond (.eq) 14, 3) := by decide +kernel
theorem d6 : decode yB 6 = .ok (.aload_n 0, 1) := by decide +kernel
theorem d7 : decode yB 7 = .ok (.getfield 15, 3) := by decide +kernel
theorem d10 : decode yB 10 = .ok (.ifCond (.ne) 7, 3) := by decide +kernel
theorem d13 : decode yB 13 = .ok (.iconst 1, 1) := by decide +kernel
theorem d14 : decode yB 14 = .ok (.goto 4, 3) := by decide +kernel
theorem d17 : decode yB 17 = .ok (.iconst 0, 1) := by decide +kernel
theorem d18 : decode yB 18 = .ok (.ireturn, 1) := by decide +kernel
def site : List Cond := [.fieldLink "java/lang/String" 38 "java/lang/String" "COMPACT_STRINGS" "Z", .fieldLink "java/lang/String" 15 "java/lang/String" "coder" "B"]
def tab : Cond := tabOf yN yB 1 (some .boolean) site
def P (x : Addr) (cd z : Int32) (args : Array Value) (s : State) : Prop := args = #[.ref x] ∧ Has x "java/lang/String" "coder" "B" (.int cd) s ∧ (cd = 0 ∨ cd = 1) ∧ StaticIs s "java/lang/String" "COMPACT_STRINGS" "Z" (.int z) ∧ ¬ z = 0
def E (cd : Int32) (r : Option Value) (s u : State) : Prop := XT.PureE (some (.int (1 - cd))) r s u
theorem law (l : Launch) (x : Addr) (cd z : Int32) : Law l yN 1 0 0 0 yB 1 (some .boolean) site (P x cd z) (E cd) [] 0 0 := by
  refine Law.of_walk (plainFor_of_name (by decide +kernel)) (by decide +kernel) (by decide +kernel) (by decide) (fun _ _ h => by rw [h.1]; rfl) (fun _ U U' hal hh h => ⟨h.1, h.2.1.mv hal hh, h.2.2.1, h.2.2.2.1.there hal hh, h.2.2.2.2⟩) (fun r U U' V V' h1 hal h2 h => XT.PureE.mv r U U' V V' h1 hal h2 h) ?_
  intro p e s m args below meth c s₁ X0 hexec hbytes hml hret hlk hnm hown hh0 W hP
  obtain ⟨rfl, hx, hc, s1, hz⟩ := hP
  have c1 : Steps p.tables e below (s₁.setTop (entryFrame m #[.ref x] 1)) (s₁.setTop (mkF m 0 #[.val (.ref x)] [])) := entry rfl
  obtain ⟨T2, X2, q2, st2⟩ := X0.sget hexec hown (wk W (.fieldLink "java/lang/String" 38 "java/lang/String" "COMPACT_STRINGS" "Z")) s1 (fun _ _ h => by rw [hh0]; exact h) (g := (mkF m 0 #[.val (.ref x)] [])) rfl (hb hbytes d0)
  have hh2 := q2.trans hh0
  have c3 : Steps p.tables e below (s₁.setTop (entryFrame m #[.ref x] 1)) (T2.setTop (mkF m 7 #[.val (.ref x)] [.ref x])) := (c1.trans (st2 _ (Steps.refl _))).trans (by
    refine XS.ifNo X2.here hexec rfl (hb hbytes d3) rfl (i0_eq_f hz) ?_
    refine XS.aloadN X2.here hexec rfl (hb hbytes d6) rfl rfl ?_
    exact Steps.refl _)
  obtain ⟨T4, X4, q4, st4⟩ := X2.hget hexec hown (wk W (.fieldLink "java/lang/String" 15 "java/lang/String" "coder" "B")) (hx.mv X2.warmed.alike hh2) (g := (mkF m 7 #[.val (.ref x)] [.ref x])) rfl (rest := []) rfl (hb hbytes d7)
  have c5 : Steps p.tables e below (s₁.setTop (entryFrame m #[.ref x] 1)) (T4.setTop (mkF m 10 #[.val (.ref x)] [.int cd])) := c3.trans (st4 _ (Steps.refl _))
  have c6 : Steps p.tables e below (s₁.setTop (entryFrame m #[.ref x] 1)) (T4.setTop (mkF m 18 #[.val (.ref x)] [.int (1 - cd)])) := by
    rcases hc with rfl | rfl
    · exact c5.trans (by
        refine XS.ifNo X4.here hexec rfl (hb hbytes d10) rfl (i0_ne_f rfl) ?_
        refine iconstV X4.here hexec rfl 1 (hb hbytes d13) (by decide) ?_
        refine XS.goto X4.here hexec rfl (pc0 := 14) rfl (hb hbytes d14) (by decide) rfl ?_
        exact Steps.refl _)
    · exact c5.trans (by
        refine XS.ifYes X4.here hexec rfl (pc0 := 10) rfl (hb hbytes d10) rfl (i0_ne_t (by decide)) (by decide) rfl ?_
        refine iconstV X4.here hexec rfl 0 (hb hbytes d17) (by decide) ?_
        exact Steps.refl _)
  exact ⟨T4, some (.int (1 - cd)), _, _, _, X4, rfl, rfl, rfl, (fun h => by cases h), ⟨rfl, q4.trans hh2⟩, fun fs hl => c6.trans (X4.ireturnOut hexec hret (by rcases hc with rfl | rfl <;> rfl) (Or.inr (Or.inl rfl)) (hb hbytes d18) hl)⟩
end IsL
namespace LChA
def yN : MethodName := ⟨"java/lang/StringLatin1", "charAt", "([BI)C"⟩
abbrev yB : ByteArray := jdk_43_method_2_code
theorem d0 : decode yB 0 = .ok (.iload_n 1, 1) := by decide +kernel
theorem d1 : decode yB 1 = .ok (.aload_n 0, 1) := by decide +kernel
theorem d2 : decode yB 2 = .ok (.arraylength, 1) := by decide +kernel
theorem d3 : decode yB 3 = .ok (.invokestatic 9, 3) := by decide +kernel
theorem d6 : decode yB 6 = .ok (.aload_n 0, 1) := by decide +kernel
theorem d7 : decode yB 7 = .ok (.iload_n 1, 1) := by decide +kernel
theorem d8 : decode yB 8 = .ok (.baload, 1) := by decide +kernel
theorem d9 : decode yB 9 = .ok (.sipush 255, 3) := by decide +kernel
theorem d12 : decode yB 12 = .ok (.iand, 1) := by decide +kernel
theorem d13 : decode yB 13 = .ok (.i2c, 1) := by decide +kernel
theorem d14 : decode yB 14 = .ok (.ireturn, 1) := by decide +kernel
def site : List Cond := [JO.Str_checkIndex.tab] ++ staticW "java/lang/StringLatin1" 9 JO.Str_checkIndex.yN
def tab : Cond := tabOf yN yB 2 (some .char) site
def P (t : Addr) (V : Cell) (i : Nat) (u : Int32) (fm : Value) (args : Array Value) (s : State) : Prop := args = #[.ref t, .int (Int32.ofNat i)] ∧ XT.Arr .byte t V s ∧ V.slots[i]? = some (.int u) ∧ (StaticIs s "jdk/internal/util/Preconditions" "SIOOBE_FORMATTER" "Ljava/util/function/BiFunction;" fm ∧ fm.isRef = true)
def E (u : Int32) (r : Option Value) (s w : State) : Prop := XT.PureE (some (.int (chr8 u))) r s w
theorem law (l : Launch) (t : Addr) (V : Cell) (i : Nat) (u : Int32) (fm : Value) : Law l yN 2 2 2 27 yB 2 (some .char) site (P t V i u fm) (E u) [] 0 0 := by
  refine Law.of_walk (plainFor_of_name (by decide +kernel)) (by decide +kernel) (by decide +kernel) (by decide) (fun _ _ h => by rw [h.1]; rfl) (fun _ U U' hal hh h => ⟨h.1, h.2.1.mv hal hh, h.2.2.1, h.2.2.2.1.there hal hh, h.2.2.2.2⟩) (fun r U U' V V' h1 hal h2 h => XT.PureE.mv r U U' V V' h1 hal h2 h) ?_
  intro p e s m args below meth c s₁ X0 hexec hbytes hml hret hlk hnm hown hh0 W hP
  obtain ⟨rfl, hV, hu, s1, rf⟩ := hP
  have v31 := hV.2.2.2
  have hi : i < V.slots.size := (Array.getElem?_eq_some_iff.mp hu).1
  have c1 : Steps p.tables e below (s₁.setTop (entryFrame m #[.ref t, .int (Int32.ofNat i)] 2)) (s₁.setTop (mkF m 0 #[.val (.ref t), .val (.int (Int32.ofNat i))] [])) := entry rfl
  have c2 : Steps p.tables e below (s₁.setTop (entryFrame m #[.ref t, .int (Int32.ofNat i)] 2)) (s₁.setTop (mkF m 3 #[.val (.ref t), .val (.int (Int32.ofNat i))] [.int (Int32.ofNat V.slots.size), .int (Int32.ofNat i)])) := c1.trans (by
    refine XS.iloadN X0.here hexec rfl (hb hbytes d0) rfl ?_
    refine XS.aloadN X0.here hexec rfl (hb hbytes d1) rfl rfl ?_
    refine X0.alen hexec (hV.mv X0.warmed.alike hh0) rfl rfl (hb hbytes d2) ?_
    exact Steps.refl _)
  obtain ⟨v3, T3, X3, E3, g3⟩ := X0.callS hexec (JO.Str_checkIndex.law l (Int32.ofNat i) (Int32.ofNat V.slots.size) fm) hown (wks W (staticW "java/lang/StringLatin1" 9 JO.Str_checkIndex.yN)) (wk W JO.Str_checkIndex.tab) (W := 0) (Nat.le_of_ble_eq_true rfl) (Nat.le_of_ble_eq_true rfl) (Nat.le_refl _) (Nat.le_refl _) (g := (mkF m 3 #[.val (.ref t), .val (.int (Int32.ofNat i))] [.int (Int32.ofNat V.slots.size), .int (Int32.ofNat i)])) rfl (by rw [hml]; rfl) c2 (argsL := [.int (Int32.ofNat i), .int (Int32.ofNat V.slots.size)]) (rest := []) rfl rfl (by show 2 * 0 + 0 ≤ _; decide) (hb hbytes d3) (⟨rfl, rf, s1.there X0.warmed.alike hh0, Int32.ofNat_not_neg (by omega), lt32 v31 hi⟩)
  obtain ⟨rfl, q3⟩ := E3
  have hh3 := q3.trans hh0
  have c4 : Steps p.tables e below (s₁.setTop (entryFrame m #[.ref t, .int (Int32.ofNat i)] 2)) (T3.setTop (mkF m 14 #[.val (.ref t), .val (.int (Int32.ofNat i))] [.int (chr8 u)])) := Steps.trans g3 (by
    refine XS.aloadN X3.here hexec rfl (hb hbytes d6) rfl rfl ?_
    refine XS.iloadN X3.here hexec rfl (hb hbytes d7) rfl ?_
    refine X3.aget hexec (hV.mv X3.warmed.alike hh3) rfl hu rfl rfl (hb hbytes d8) ?_
    refine sipushV X3.here hexec rfl 255 (hb hbytes d9) (by decide) ?_
    refine XS.iand X3.here hexec rfl (hb hbytes d12) rfl ?_
    refine i2c X3.here hexec rfl (hb hbytes d13) rfl ?_
    exact Steps.refl _)
  exact ⟨T3, some (.int (chr8 u)), _, _, _, X3, rfl, rfl, rfl, (fun h => by cases h), ⟨rfl, hh3⟩, fun fs hl => c4.trans (X3.ireturnOut hexec hret (narrow_c _) (Or.inr (Or.inr (Or.inr (Or.inl rfl)))) (hb hbytes d14) hl)⟩
end LChA
end StrChars
namespace StrChars.Road
open Jvm Sem ClassFile Op Lib Jvm.Stand Jvm.Free Jvm.Free.XT
open Jvm.Lib.Cold (StaticIs)
theorem consq {a : Array Value} {s : State} {c : Jvm.Cond} {L : List Jvm.Cond} (h0 : c.before a s = true) (h : ∀ w ∈ L, w.before a s = true) : ∀ w ∈ c :: L, w.before a s = true := fun w hw => (List.mem_cons.mp hw).elim (fun e => e ▸ h0) (h w)
/-- the words of String.length(), either coding -/
abbrev wordsLen : List Jvm.Cond := [.code Len.yN Len.yB 1 (some .int), .initialized ST, .fieldLink ST 9 ST "value" "[B", .fieldLink ST 38 ST "COMPACT_STRINGS" "Z", .fieldLink ST 15 ST "coder" "B", .code Cdr.yN Cdr.yB 1 (some .byte), .methodLink ST 335 Cdr.yN, .declares Cdr.yN, .selects ST Cdr.yN Cdr.yN, .instanceMethod Cdr.yN]
theorem tabLen_of {a : Array Value} {s : State} (h : ∀ w ∈ wordsLen, w.before a s = true) : Len.tab.before a s = true := by
  have hc : Cdr.tab.before a s = true := unparts (wk h (.code Cdr.yN Cdr.yB 1 (some .byte))) (wks h (.initialized Cdr.yN.cls :: Cdr.site))
  have q := consq hc h
  exact unparts (wk q (.code Len.yN Len.yB 1 (some .int))) (wks q (.initialized Len.yN.cls :: Len.site))
theorem movedLen {Z s : State} {a0 args : Array Value} (hZ : Z.Warmed39 s.vm) (hw : ∀ d ∈ wordsLen, d.before a0 Z = true) : ∀ d ∈ wordsLen, d.before args s = true := fun d hd => by
  have q := hw d hd
  have t : ∀ d ∈ wordsLen, d = .arrayClass .byte ∨ (d.onTables && d.keepsFace) = true := by decide +kernel
  rcases t d hd with rfl | t
  · exact RoadKit.mvA hZ q
  · exact RoadKit.mv hZ q t
/-- the bytes of the chars cs, low before high -/
def wideBytes : List Int32 → List Value
  | [] => []
  | c :: cs => .int (lo8 c) :: .int (hi8 c) :: wideBytes cs
theorem wide_lo (d : Value) : ∀ (cs : List Int32) (j : Nat), j < cs.length → (wideBytes cs).getD (2 * j) d = .int (lo8 (cs.getD j 0))
  | [], j, h => absurd h (Nat.not_lt_zero j)
  | c :: cs, 0, _ => rfl
  | c :: cs, j + 1, h => by
    have q := wide_lo d cs j (by simpa using h)
    rw [show 2 * (j + 1) = 2 * j + 1 + 1 from by omega]
    simpa [wideBytes] using q
theorem wide_hi (d : Value) : ∀ (cs : List Int32) (j : Nat), j < cs.length → (wideBytes cs).getD (2 * j + 1) d = .int (hi8 (cs.getD j 0))
  | [], j, h => absurd h (Nat.not_lt_zero j)
  | c :: cs, 0, _ => rfl
  | c :: cs, j + 1, h => by
    have q := wide_hi d cs j (by simpa using h)
    rw [show 2 * (j + 1) + 1 = 2 * j + 1 + 1 + 1 from by omega]
    simpa [wideBytes] using q
theorem low_at (d : Value) (cs : List Int32) (j : Nat) (h : j < cs.length) : (cs.map fun c => Value.int (lo8 c)).getD j d = .int (lo8 (cs.getD j 0)) := by
  simp [List.getD_eq_getElem?_getD, h]
/-- an array of N2 bytes vs codes the chars cs by the coder cd -/
def CodA (cs : List Int32) (cd N2 : Int32) (vs : List Value) : Prop := (cd = 0 ∧ N2 = Int32.ofNat cs.length ∧ vs = (cs.map fun c => Value.int (lo8 c)) ∧ ∀ c ∈ cs, ¬ 255 < c) ∨ (cd = 1 ∧ N2 = Int32.ofNat (2 * cs.length) ∧ vs = wideBytes cs ∧ ∃ c ∈ cs, 255 < c)
theorem CodA.cod {cs : List Int32} {cd N2 : Int32} {vs : List Value} {V : Cell} (h : CodA cs cd N2 vs) (hn : 2 * cs.length < 2 ^ 31) (hs : V.slots.size = N2.toNatClampNeg) (hv : RoadKit.Has V vs (.int 0)) : Cod cd cs.length (fun j => cs.getD j 0) V := by
  rcases h with ⟨rfl, rfl, rfl, h⟩ | ⟨rfl, rfl, rfl, c, hc, hw⟩
  · rw [n32 (by omega)] at hs
    exact Or.inl ⟨rfl, hs, fun j hj => ⟨by rw [hv j (by omega), low_at _ _ _ hj], by
      have e : cs.getD j 0 = cs[j] := by simp [List.getD_eq_getElem?_getD, hj]
      show ¬ 255 < cs.getD j 0
      rw [e]; exact h _ (List.getElem_mem _)⟩⟩
  · rw [n32 (by omega)] at hs
    obtain ⟨j, hj, rfl⟩ := List.getElem_of_mem hc
    exact Or.inr ⟨rfl, hs, fun j hj => ⟨by rw [hv _ (by omega), wide_lo _ _ _ hj], by rw [hv _ (by omega), wide_hi _ _ _ hj]⟩, j, hj, by
      have e : cs.getD j 0 = cs[j] := by simp [List.getD_eq_getElem?_getD, hj]
      show 255 < cs.getD j 0
      rw [e]; exact hw⟩
/-- an object of exactly java/lang/String, its two fields found: as the laws ask it -/
theorem strObj {Z U : State} {a0 : Array Value} {kI : Nat} (wi : (Jvm.Cond.instantiable ST kI).before a0 Z = true) (al : Z.vm.Alike U.vm) {x : Addr} {v0 c0 : Value} (E : RoadKit.Exa Z U.heap x ST) (V : RoadKit.Fld Z U.heap x ST "value" "[B" v0) (C : RoadKit.Fld Z U.heap x ST "coder" "B" c0) :
    ∃ (D : Cell) (fV fC : Field), Blank ST x D U ∧ Found ST "value" "[B" fV U ∧ Found ST "coder" "B" fC U ∧ D.slots[fV.slot]? = some v0 ∧ D.slots[fC.slot]? = some c0 ∧ RoadKit.slotOf Z ST "value" "[B" = fV.slot ∧ RoadKit.slotOf Z ST "coder" "B" = fC.slot := by
  obtain ⟨D, cfV, kV, iV, fV, hD, gV, stV, knV, obV, asV, slV⟩ := V
  obtain ⟨D', cfC, kC, iC, fC, hD', gC, stC, -, -, asC, slC⟩ := C
  cases hD.symm.trans hD'
  obtain ⟨D2, kD, e1, e2, e3, e4, e5⟩ := E
  cases hD.symm.trans e1
  obtain ⟨c2, k2, i1, i2, i3, -⟩ := Cond.instantiable_spec wi
  cases e2.symm.trans i1
  cases e3.symm.trans i2
  obtain ⟨kU, u1, u2⟩ := al.2.2 _ _ e3
  exact ⟨D, fV, fC, ⟨hD, ⟨knV, fun q hq => by rw [hq] at obV; cases obV⟩, by rw [al.findClass]; exact e2, kU, u1, by rw [u2]; exact i3, by rw [u2]; exact e5 i3⟩, ⟨SBG.found_only al ⟨cfV, kV, iV, gV⟩, stV⟩, ⟨SBG.found_only al ⟨cfC, kC, iC, gC⟩, stC⟩, slV, slC, by simp [RoadKit.slotOf, gV], by simp [RoadKit.slotOf, gC]⟩
theorem sta_is {Z U : State} (al : Z.vm.Alike U.vm) {C n d : String} {v : Value} (S : RoadKit.Sta Z U.heap C n d v) : StaticIs U C n d v := by
  obtain ⟨cfS, iS, kS, fS, st, cS, t1, t2, t3, t4, t5, t6, t7⟩ := S
  exact StaticIs.there (s := { Z with heap := U.heap }) ⟨cfS, iS, kS, fS, st, cS, t1, t2, t3, t4, t5, (fun q => by rw [q] at t6; cases t6), t7⟩ al rfl
/-- **length() OF SUCH A STRING** -/
theorem lenW {p : Program} {l : Launch} {e : Env} {R : Room} {s : State} {args : Array Value} {below : List Frame} {len W : Nat} {Z : State} {a0 : Array Value} {h : Heap} (hZ : Z.Warmed39 s.vm) (hw : ∀ d ∈ wordsLen, d.before a0 Z = true) {kI : Nat} (wi : (Jvm.Cond.instantiable ST kI).before a0 Z = true)
    {x t : Addr} {kb : ClassId} {cs : List Int32} {cd N2 z : Int32} {vs : List Value} (E : RoadKit.Exa Z h x ST) (V : RoadKit.Fld Z h x ST "value" "[B" (.ref t)) (C : RoadKit.Fld Z h x ST "coder" "B" (.int cd)) (K : RoadKit.Arv Z h t kb .byte N2 vs (.int 0)) (hc : CodA cs cd N2 vs) (hb : ∀ c ∈ cs, ¬ c < 0 ∧ ¬ (65535 : Int32) < c)
    (S : RoadKit.Sta Z h ST "COMPACT_STRINGS" "Z" (.int z)) (hz : ¬ z = 0) (l2 : cs.length ≤ 4000) (hfr : 2 ≤ R.frames) (hlo : W + 25 ≤ R.locals) :
    Back l R p e below s args (⟨"java/lang/String", "length", "()I"⟩ : MethodName) len W (fun P a => a = #[.ref x] ∧ P.U.heap = h ∧ P.cells + 0 ≤ R.cells ∧ P.slots + 0 ≤ R.slots)
      (fun P _ v B => ∃ L, (v = some (.int (Int32.ofNat cs.length)) ∧ L = [] ∧ B.U.heap = h) ∧ B.locs = P.locs ++ L ∧ B.cells = P.cells + 0 ∧ B.slots = P.slots + 0) := by
  obtain ⟨A, K1, K2, K3, K4, K5, K6⟩ := K
  have hcod := hc.cod (by omega) K3 K5
  intro m meth c P g ig mk a X hg hsize hdg hW hn hp'
  obtain ⟨rfl, rfl, r1, r2⟩ := hp'
  have al : Z.vm.Alike P.U.vm := hZ.alike.trans X.warmed.alike
  obtain ⟨D, fV, fC, hB, F1, F2, g1, g2, -, -⟩ := strObj wi al E V C
  have hx : Txt x t A cd cs.length (fun j => cs.getD j 0) P.U := ⟨⟨_, hB.2.2.1, D, hB.1, rfl, by cases q : D.vm <;> first | rfl | exact absurd q (hB.2.1.2 _)⟩, Has.of hB F1 g1, Has.of hB F2 g2, ⟨K1.1, State.isArrayOf_alike al K1.2.1, K1.2.2, by rcases hcod with ⟨-, q, -⟩ | ⟨-, q, -⟩ <;> omega⟩, hcod, fun j hj => by
    have e : cs.getD j 0 = cs[j] := by simp [List.getD_eq_getElem?_getD, hj]
    show ¬ cs.getD j 0 < 0 ∧ ¬ 65535 < cs.getD j 0
    rw [e]; exact hb _ (List.getElem_mem _)⟩
  obtain ⟨v, B, X', ⟨⟨hv, hh⟩, hl, hk, hs⟩, st⟩ := Len.pays x t A cd cs.length (fun j => cs.getD j 0) z (tabLen_of (movedLen hZ hw)) hfr hlo m meth c P g ig mk _ X hg hsize hdg hW hn ⟨r1, r2, rfl, hx, sta_is al S, hz⟩
  exact ⟨v, B, X', ⟨[], ⟨hv, rfl, hh⟩, hl, hk, hs⟩, st⟩
end StrChars.Road
namespace StrChars
open Jvm Sem ClassFile Op Lib Jvm.Stand Jvm.Free.XT Jvm.Free.ALB Jvm.Free.JM Jvm.Free
open Jvm.Lib.Cold (StaticIs)
namespace Emp
def yN : MethodName := ⟨"java/lang/String", "isEmpty", "()Z"⟩
abbrev yB : ByteArray := jdk_42_method_55_code
theorem d0 : decode yB 0 = .ok (.aload_n 0, 1) := by decide +kernel
theorem d1 : decode yB 1 = .ok (.getfield 9, 3) := by decide +kernel
theorem d4 : decode yB 4 = .ok (.arraylength, 1) := by decide +kernel
theorem d5 : decode yB 5 = .ok (.ifCond (.ne) 7, 3) := by decide +kernel
theorem d8 : decode yB 8 = .ok (.iconst 1, 1) := by decide +kernel
theorem d9 : decode yB 9 = .ok (.goto 4, 3) := by decide +kernel
theorem d12 : decode yB 12 = .ok (.iconst 0, 1) := by decide +kernel
theorem d13 : decode yB 13 = .ok (.ireturn, 1) := by decide +kernel
def site : List Cond := [.fieldLink "java/lang/String" 9 "java/lang/String" "value" "[B"]
def tab : Cond := tabOf yN yB 1 (some .boolean) site
def P (x t : Addr) (V : Cell) (cd : Int32) (n : Nat) (f : Nat → Int32) (args : Array Value) (s : State) : Prop := args = #[.ref x] ∧ Txt x t V cd n f s
def E (n : Nat) (r : Option Value) (s u : State) : Prop := XT.PureE (some (.int (if n = 0 then 1 else 0))) r s u
/-- isEmpty() of a String of n chars -/
theorem law (l : Launch) (x t : Addr) (V : Cell) (cd : Int32) (n : Nat) (f : Nat → Int32) : Law l yN 1 0 0 0 yB 1 (some .boolean) site (P x t V cd n f) (E n) [] 0 0 := by
  refine Law.of_walk (plainFor_of_name (by decide +kernel)) (by decide +kernel) (by decide +kernel) (by decide) (fun _ _ h => by rw [h.1]; rfl) (fun _ U U' hal hh h => ⟨h.1, h.2.mv hal hh⟩) (fun r U U' V V' h1 hal h2 h => XT.PureE.mv r U U' V V' h1 hal h2 h) ?_
  intro p e s m args below meth c s₁ X0 hexec hbytes hml hret hlk hnm hown hh0 W hP
  obtain ⟨rfl, hx⟩ := hP
  have v31 := hx.2.2.2.1.2.2.2
  have c1 : Steps p.tables e below (s₁.setTop (entryFrame m #[.ref x] 1)) (s₁.setTop (mkF m 1 #[.val (.ref x)] [.ref x])) := Steps.trans (entry rfl) (by
    show Steps p.tables e below (s₁.setTop (mkF m 0 #[.val (.ref x)] [])) _
    refine XS.aloadN X0.here hexec rfl (hb hbytes d0) rfl rfl ?_
    exact Steps.refl _)
  obtain ⟨T2, X2, q2, st2⟩ := X0.hget hexec hown (wk W (.fieldLink "java/lang/String" 9 "java/lang/String" "value" "[B")) (hx.mv X0.warmed.alike hh0).2.1 (g := (mkF m 1 #[.val (.ref x)] [.ref x])) rfl (rest := []) rfl (hb hbytes d1)
  have hh2 := q2.trans hh0
  have hx2 := hx.mv X2.warmed.alike hh2
  have c3 : Steps p.tables e below (s₁.setTop (entryFrame m #[.ref x] 1)) (T2.setTop (mkF m 5 #[.val (.ref x)] [.int (Int32.ofNat V.slots.size)])) := (c1.trans (st2 _ (Steps.refl _))).trans (by
    refine X2.alen hexec hx2.2.2.2.1 rfl rfl (hb hbytes d4) ?_
    exact Steps.refl _)
  have hz : V.slots.size = 0 ↔ n = 0 := by
    rcases hx.2.2.2.2.1 with ⟨-, q, -⟩ | ⟨-, q, -⟩ <;> omega
  by_cases h0 : n = 0
  · have c4 : Steps p.tables e below (s₁.setTop (entryFrame m #[.ref x] 1)) (T2.setTop (mkF m 13 #[.val (.ref x)] [.int 1])) := c3.trans (by
      refine XS.ifNo X2.here hexec rfl (hb hbytes d5) rfl (i0_ne_f (by rw [hz.mpr h0]; rfl)) ?_
      refine iconstV X2.here hexec rfl 1 (hb hbytes d8) (by decide) ?_
      refine XS.goto X2.here hexec rfl (pc0 := 9) rfl (hb hbytes d9) (by decide) rfl ?_
      exact Steps.refl _)
    exact ⟨T2, some (.int 1), _, _, _, X2, rfl, rfl, rfl, (fun h => by cases h), ⟨by rw [if_pos h0], hh2⟩, fun fs hl => c4.trans (X2.ireturnOut hexec hret rfl (Or.inr (Or.inl rfl)) (hb hbytes d13) hl)⟩
  · have c4 : Steps p.tables e below (s₁.setTop (entryFrame m #[.ref x] 1)) (T2.setTop (mkF m 13 #[.val (.ref x)] [.int 0])) := c3.trans (by
      refine XS.ifYes X2.here hexec rfl (pc0 := 5) rfl (hb hbytes d5) rfl (i0_ne_t (nz32 v31 (by omega))) (by decide) rfl ?_
      refine iconstV X2.here hexec rfl 0 (hb hbytes d12) (by decide) ?_
      exact Steps.refl _)
    exact ⟨T2, some (.int 0), _, _, _, X2, rfl, rfl, rfl, (fun h => by cases h), ⟨by rw [if_neg h0], hh2⟩, fun fs hl => c4.trans (X2.ireturnOut hexec hret rfl (Or.inr (Or.inl rfl)) (hb hbytes d13) hl)⟩
theorem pays {l : Launch} {R : Room} {p : Program} {e : Env} {below : List Frame} {s : State} {sargs : Array Value} {len W : Nat} (x t : Addr) (V : Cell) (cd : Int32) (n : Nat) (f : Nat → Int32) (htab : tab.before sargs s = true) (hfr : 1 ≤ R.frames) (hlo : W + 12 ≤ R.locals) :
    Back l R p e below s sargs yN len W (fun A₁ a₁ => A₁.cells + 0 ≤ R.cells ∧ A₁.slots + 0 ≤ R.slots ∧ P x t V cd n f a₁ A₁.U) (fun A₁ _ v₁ B₁ => E n v₁ A₁.U B₁.U ∧ B₁.locs = A₁.locs ++ [] ∧ B₁.cells = A₁.cells + 0 ∧ B₁.slots = A₁.slots + 0) :=
  (law l x t V cd n f).pays htab hfr (by omega)
end Emp
/-- what place i of a byte[]'s cell holds -/
def yv (A : Cell) (i : Nat) : Int32 := match A.slots[i]? with | some (.int x) => x | _ => 0
theorem yv_get {a : Addr} {A : Cell} {U : State} (h : XT.Arr .byte a A U) (ht : Typed .byte A) {i : Nat} (hi : i < A.slots.size) : A.slots[i]? = some (.int (yv A i)) := by
  have e := Array.getElem?_eq_getElem hi
  have f := ht i _ e
  unfold yv; rw [e]
  generalize A.slots[i] = v at f
  cases v <;> simp [fits] at f ⊢
/-- the two arrays are equal, place for place -/
def EqC (A B : Cell) : Prop := A.slots.size = B.slots.size ∧ ∀ i, i < A.slots.size → yv A i = yv B i
/-- a boolean that says whether p -/
def Says01 (q : Prop) (r : Option Value) (s u : State) : Prop := ∃ v : Int32, r = some (.int v) ∧ u.heap = s.heap ∧ ((v = 1 ∧ q) ∨ (v = 0 ∧ ¬ q))
theorem Says01.mv {q : Prop} : ∀ r (U U' V V' : State), U'.heap = U.heap → V.vm.Alike V'.vm → V'.heap = V.heap → Says01 q r U V → Says01 q r U' V' :=
  fun r U U' V V' h1 _ h2 ⟨v, a, b, c⟩ => ⟨v, a, by rw [h1, h2]; exact b, c⟩
namespace LEq
def yN : MethodName := ⟨"java/lang/StringLatin1", "equals", "([B[B)Z"⟩
abbrev yB : ByteArray := jdk_43_method_13_code
theorem d0 : decode yB 0 = .ok (.aload_n 0, 1) := by decide +kernel
theorem d1 : decode yB 1 = .ok (.arraylength, 1) := by decide +kernel
theorem d2 : decode yB 2 = .ok (.aload_n 1, 1) := by decide +kernel
theorem d3 : decode yB 3 = .ok (.arraylength, 1) := by decide +kernel
theorem d4 : decode yB 4 = .ok (.if_icmp (.ne) 30, 3) := by decide +kernel
theorem d7 : decode yB 7 = .ok (.iconst 0, 1) := by decide +kernel
theorem d8 : decode yB 8 = .ok (.istore_n 2, 1) := by decide +kernel
theorem d9 : decode yB 9 = .ok (.iload_n 2, 1) := by decide +kernel
theorem d10 : decode yB 10 = .ok (.aload_n 0, 1) := by decide +kernel
theorem d11 : decode yB 11 = .ok (.arraylength, 1) := by decide +kernel
theorem d12 : decode yB 12 = .ok (.if_icmp (.ge) 20, 3) := by decide +kernel
theorem d15 : decode yB 15 = .ok (.aload_n 0, 1) := by decide +kernel
theorem d16 : decode yB 16 = .ok (.iload_n 2, 1) := by decide +kernel
theorem d17 : decode yB 17 = .ok (.baload, 1) := by decide +kernel
theorem d18 : decode yB 18 = .ok (.aload_n 1, 1) := by decide +kernel
theorem d19 : decode yB 19 = .ok (.iload_n 2, 1) := by decide +kernel
theorem d20 : decode yB 20 = .ok (.baload, 1) := by decide +kernel
theorem d21 : decode yB 21 = .ok (.if_icmp (.eq) 5, 3) := by decide +kernel
theorem d24 : decode yB 24 = .ok (.iconst 0, 1) := by decide +kernel
theorem d25 : decode yB 25 = .ok (.ireturn, 1) := by decide +kernel
theorem d26 : decode yB 26 = .ok (.iinc 2 1, 3) := by decide +kernel
theorem d29 : decode yB 29 = .ok (.goto (-20), 3) := by decide +kernel
theorem d32 : decode yB 32 = .ok (.iconst 1, 1) := by decide +kernel
theorem d33 : decode yB 33 = .ok (.ireturn, 1) := by decide +kernel
theorem d34 : decode yB 34 = .ok (.iconst 0, 1) := by decide +kernel
theorem d35 : decode yB 35 = .ok (.ireturn, 1) := by decide +kernel
def site : List Cond := []
def tab : Cond := tabOf yN yB 3 (some .boolean) site
def P (a : Addr) (A : Cell) (b : Addr) (B : Cell) (args : Array Value) (s : State) : Prop := args = #[.ref a, .ref b] ∧ XT.Arr .byte a A s ∧ Typed .byte A ∧ XT.Arr .byte b B s ∧ Typed .byte B
/-- whether two byte[] are equal, place for place -/
theorem law (l : Launch) (a : Addr) (A : Cell) (b : Addr) (B : Cell) : Law l yN 2 2 0 0 yB 3 (some .boolean) site (P a A b B) (Says01 (EqC A B)) [] 0 0 := by
  refine Law.of_walk (plainFor_of_name (by decide +kernel)) (by decide +kernel) (by decide +kernel) (by decide) (fun _ _ h => by rw [h.1]; rfl) (fun _ U U' hal hh h => ⟨h.1, h.2.1.mv hal hh, h.2.2.1, h.2.2.2.1.mv hal hh, h.2.2.2.2⟩) (fun r U U' V V' h1 hal h2 h => Says01.mv r U U' V V' h1 hal h2 h) ?_
  intro p e s m args below meth c s₁ X0 hexec hbytes hml hret hlk hnm hown hh0 W hP
  obtain ⟨rfl, hA, tA, hB, tB⟩ := hP
  have a31 := hA.2.2.2
  have b31 := hB.2.2.2
  have hA0 := hA.mv X0.warmed.alike hh0
  have hB0 := hB.mv X0.warmed.alike hh0
  have c1 : Steps p.tables e below (s₁.setTop (entryFrame m #[.ref a, .ref b] 3)) (s₁.setTop (mkF m 0 #[.val (.ref a), .val (.ref b), .unset] [])) := entry rfl
  have c2 : Steps p.tables e below (s₁.setTop (entryFrame m #[.ref a, .ref b] 3)) (s₁.setTop (mkF m 4 #[.val (.ref a), .val (.ref b), .unset] [.int (Int32.ofNat B.slots.size), .int (Int32.ofNat A.slots.size)])) := c1.trans (by
    refine XS.aloadN X0.here hexec rfl (hb hbytes d0) rfl rfl ?_
    refine X0.alen hexec hA0 rfl rfl (hb hbytes d1) ?_
    refine XS.aloadN X0.here hexec rfl (hb hbytes d2) rfl rfl ?_
    refine X0.alen hexec hB0 rfl rfl (hb hbytes d3) ?_
    exact Steps.refl _)
  by_cases hs : A.slots.size = B.slots.size
  · have c3 : Steps p.tables e below (s₁.setTop (entryFrame m #[.ref a, .ref b] 3)) (s₁.setTop (mkF m 9 #[.val (.ref a), .val (.ref b), .val (.int 0)] [])) := c2.trans (by
      refine XS.icmpNo X0.here hexec rfl (hb hbytes d4) rfl (ii_ne_f (by rw [hs])) ?_
      refine iconstV X0.here hexec rfl 0 (hb hbytes d7) (by decide) ?_
      refine XS.istoreN X0.here hexec rfl (hb hbytes d8) rfl rfl ?_
      exact Steps.refl _)
    have loop : ∀ (r i : Nat), i + r = A.slots.size → (∀ j, j < i → yv A j = yv B j) → Steps p.tables e below (s₁.setTop (entryFrame m #[.ref a, .ref b] 3)) (s₁.setTop (mkF m 9 #[.val (.ref a), .val (.ref b), .val (.int (Int32.ofNat i))] [])) → ∃ (pc : Nat) (Ls : Array Slot) (v : Int32), (pc = 25 ∨ pc = 33) ∧ ((v = 1 ∧ EqC A B) ∨ (v = 0 ∧ ¬ EqC A B)) ∧ Steps p.tables e below (s₁.setTop (entryFrame m #[.ref a, .ref b] 3)) (s₁.setTop (mkF m pc Ls [.int v])) := by
      intro r
      induction r with
      | zero =>
        intro i hi he cl
        exact ⟨33, _, 1, Or.inr rfl, Or.inl ⟨rfl, hs, fun j hj => he j (by omega)⟩, cl.trans (by
          refine XS.iloadN X0.here hexec rfl (hb hbytes d9) rfl ?_
          refine XS.aloadN X0.here hexec rfl (hb hbytes d10) rfl rfl ?_
          refine X0.alen hexec hA0 rfl rfl (hb hbytes d11) ?_
          refine XS.icmpYes X0.here hexec rfl (pc0 := 12) rfl (hb hbytes d12) rfl (ii_ge_t (nlt32 (by omega) (by omega))) (by decide) rfl ?_
          refine iconstV X0.here hexec rfl 1 (hb hbytes d32) (by decide) ?_
          exact Steps.refl _)⟩
      | succ r ih =>
        intro i hi he cl
        have c4 : Steps p.tables e below (s₁.setTop (entryFrame m #[.ref a, .ref b] 3)) (s₁.setTop (mkF m 21 #[.val (.ref a), .val (.ref b), .val (.int (Int32.ofNat i))] [.int (yv B i), .int (yv A i)])) := cl.trans (by
          refine XS.iloadN X0.here hexec rfl (hb hbytes d9) rfl ?_
          refine XS.aloadN X0.here hexec rfl (hb hbytes d10) rfl rfl ?_
          refine X0.alen hexec hA0 rfl rfl (hb hbytes d11) ?_
          refine XS.icmpNo X0.here hexec rfl (hb hbytes d12) rfl (ii_ge_f (lt32 (by omega) (by omega))) ?_
          refine XS.aloadN X0.here hexec rfl (hb hbytes d15) rfl rfl ?_
          refine XS.iloadN X0.here hexec rfl (hb hbytes d16) rfl ?_
          refine X0.aget hexec hA0 rfl (yv_get hA tA (i := i) (by omega)) rfl rfl (hb hbytes d17) ?_
          refine XS.aloadN X0.here hexec rfl (hb hbytes d18) rfl rfl ?_
          refine XS.iloadN X0.here hexec rfl (hb hbytes d19) rfl ?_
          refine X0.aget hexec hB0 rfl (yv_get hB tB (i := i) (by omega)) rfl rfl (hb hbytes d20) ?_
          exact Steps.refl _)
        by_cases hv : yv A i = yv B i
        · have c5 : Steps p.tables e below (s₁.setTop (entryFrame m #[.ref a, .ref b] 3)) (s₁.setTop (mkF m 9 #[.val (.ref a), .val (.ref b), .val (.int (Int32.ofNat i + 1))] [])) := c4.trans (by
            refine XS.icmpYes X0.here hexec rfl (pc0 := 21) rfl (hb hbytes d21) rfl (ii_eq_t hv) (by decide) rfl ?_
            refine iincV X0.here hexec rfl 1 (hb hbytes d26) (by decide) rfl rfl ?_
            refine XS.goto X0.here hexec rfl (pc0 := 29) rfl (hb hbytes d29) (by decide) rfl ?_
            exact Steps.refl _)
          rw [succ32] at c5
          exact ih (i + 1) (by omega) (fun j hj => by
            by_cases e : j = i
            · rw [e]; exact hv
            · exact he j (by omega)) c5
        · exact ⟨25, _, 0, Or.inl rfl, Or.inr ⟨rfl, fun q => hv (q.2 i (by omega))⟩, c4.trans (by
            refine XS.icmpNo X0.here hexec rfl (hb hbytes d21) rfl (ii_eq_f hv) ?_
            refine iconstV X0.here hexec rfl 0 (hb hbytes d24) (by decide) ?_
            exact Steps.refl _)⟩
    obtain ⟨pc, Ls, v, hpc, hv, cz⟩ := loop A.slots.size 0 (by omega) (fun j hj => absurd hj (Nat.not_lt_zero j)) c3
    have nv : narrow .boolean (.int v) = .int v := by rcases hv with ⟨rfl, -⟩ | ⟨rfl, -⟩ <;> rfl
    rcases hpc with rfl | rfl
    · exact ⟨s₁, some (.int v), _, _, _, X0, rfl, rfl, rfl, (fun h => by cases h), ⟨v, rfl, hh0, hv⟩, fun fs hl => cz.trans (X0.ireturnOut hexec hret nv (Or.inr (Or.inl rfl)) (hb hbytes d25) hl)⟩
    · exact ⟨s₁, some (.int v), _, _, _, X0, rfl, rfl, rfl, (fun h => by cases h), ⟨v, rfl, hh0, hv⟩, fun fs hl => cz.trans (X0.ireturnOut hexec hret nv (Or.inr (Or.inl rfl)) (hb hbytes d33) hl)⟩
  · have c3 : Steps p.tables e below (s₁.setTop (entryFrame m #[.ref a, .ref b] 3)) (s₁.setTop (mkF m 35 #[.val (.ref a), .val (.ref b), .unset] [.int 0])) := c2.trans (by
      refine XS.icmpYes X0.here hexec rfl (pc0 := 4) rfl (hb hbytes d4) rfl (ii_ne_t (ne32 a31 b31 hs)) (by decide) rfl ?_
      refine iconstV X0.here hexec rfl 0 (hb hbytes d34) (by decide) ?_
      exact Steps.refl _)
    exact ⟨s₁, some (.int 0), _, _, _, X0, rfl, rfl, rfl, (fun h => by cases h), ⟨0, rfl, hh0, Or.inr ⟨rfl, fun q => hs q.1⟩⟩, fun fs hl => c3.trans (X0.ireturnOut hexec hret rfl (Or.inr (Or.inl rfl)) (hb hbytes d35) hl)⟩
end LEq
theorem Cod.ty {cd : Int32} {n : Nat} {f : Nat → Int32} {V : Cell} (h : Cod cd n f V) : Typed .byte V := fun i v hv => by
  have hi : i < V.slots.size := (Array.getElem?_eq_some_iff.mp hv).1
  rcases h with ⟨-, k1, k2⟩ | ⟨-, k1, k2, -⟩
  · rw [(k2 i (by omega)).1] at hv; cases hv; exact fits_lo8 _
  · rcases Nat.mod_two_eq_zero_or_one i with e | e
    · obtain ⟨j, rfl⟩ : ∃ j, i = 2 * j := ⟨i / 2, by omega⟩
      rw [(k2 j (by omega)).1] at hv; cases hv; exact fits_lo8 _
    · obtain ⟨j, rfl⟩ : ∃ j, i = 2 * j + 1 := ⟨i / 2, by omega⟩
      rw [(k2 j (by omega)).2] at hv; cases hv; exact fits_lo8 _
/-- the same text -/
def SameT (n : Nat) (f : Nat → Int32) (k : Nat) (g : Nat → Int32) : Prop := n = k ∧ ∀ j, j < n → f j = g j
theorem lo8_inj {x y : Int32} (h0 : ¬ x < 0) (h1 : ¬ 255 < x) (k0 : ¬ y < 0) (k1 : ¬ 255 < y) (h : lo8 x = lo8 y) : x = y := by
  rw [← lo8_mask h0 h1, ← lo8_mask k0 k1, h]
/-- arrays coded by one coder are equal just where the texts are -/
theorem Cod.eqv {cd : Int32} {n k : Nat} {f g : Nat → Int32} {V V' : Cell} (h : Cod cd n f V) (h' : Cod cd k g V') (hf : ∀ j, j < n → ¬ f j < 0 ∧ ¬ 65535 < f j) (hg : ∀ j, j < k → ¬ g j < 0 ∧ ¬ 65535 < g j) : EqC V V' ↔ SameT n f k g := by
  have yvv : ∀ {W : Cell} {i : Nat} {x : Int32}, W.slots[i]? = some (.int x) → yv W i = x := fun q => by unfold yv; rw [q]
  rcases h with ⟨rfl, k1, k2⟩ | ⟨rfl, k1, k2, -⟩
  · rcases h' with ⟨-, m1, m2⟩ | ⟨e, -⟩
    · constructor
      · rintro ⟨e1, e2⟩
        refine ⟨by omega, fun j hj => ?_⟩
        have q := e2 j (by omega)
        rw [yvv (k2 j hj).1, yvv (m2 j (by omega)).1] at q
        exact lo8_inj (hf j hj).1 (k2 j hj).2 (hg j (by omega)).1 (m2 j (by omega)).2 q
      · rintro ⟨rfl, e2⟩
        refine ⟨by omega, fun j hj => ?_⟩
        rw [yvv (k2 j (by omega)).1, yvv (m2 j (by omega)).1, e2 j (by omega)]
    · exact absurd e (by decide)
  · rcases h' with ⟨e, -⟩ | ⟨-, m1, m2, -⟩
    · exact absurd e (by decide)
    · constructor
      · rintro ⟨e1, e2⟩
        refine ⟨by omega, fun j hj => ?_⟩
        have q1 := e2 (2 * j) (by omega)
        have q2 := e2 (2 * j + 1) (by omega)
        rw [yvv (k2 j hj).1, yvv (m2 j (by omega)).1] at q1
        rw [yvv (k2 j hj).2, yvv (m2 j (by omega)).2] at q2
        rw [← pair_says (hf j hj).1 (hf j hj).2, ← pair_says (hg j (by omega)).1 (hg j (by omega)).2, q1, q2]
      · rintro ⟨rfl, e2⟩
        refine ⟨by omega, fun i hi => ?_⟩
        rcases Nat.mod_two_eq_zero_or_one i with e | e
        · obtain ⟨j, rfl⟩ : ∃ j, i = 2 * j := ⟨i / 2, by omega⟩
          rw [yvv (k2 j (by omega)).1, yvv (m2 j (by omega)).1, e2 j (by omega)]
        · obtain ⟨j, rfl⟩ : ∃ j, i = 2 * j + 1 := ⟨i / 2, by omega⟩
          rw [yvv (k2 j (by omega)).2, yvv (m2 j (by omega)).2, e2 j (by omega)]
/-- two codings differ: so do the texts -/
theorem Cod.dif {cd cd' : Int32} {n k : Nat} {f g : Nat → Int32} {V V' : Cell} (h : Cod cd n f V) (h' : Cod cd' k g V') (hne : ¬ cd = cd') : ¬ SameT n f k g := by
  rintro ⟨rfl, e⟩
  rcases h with ⟨rfl, -, k2⟩ | ⟨rfl, -, -, j, hj, hw⟩
  · rcases h' with ⟨rfl, -⟩ | ⟨-, -, -, j, hj, hw⟩
    · exact hne rfl
    · exact (k2 j hj).2 (by rw [e j hj]; exact hw)
  · rcases h' with ⟨-, -, m2⟩ | ⟨rfl, -⟩
    · exact (m2 j hj).2 (by rw [← e j hj]; exact hw)
    · exact hne rfl
/-- an object of exactly C is an instance of C -/
theorem cinst {p : Program} {l : Launch} {e : Env} {R : Room} {s : State} {m : MethodId} {args : Array Value} {below : List Frame} {meth : Method} {c : Code} {T : State} {locs : List Loc} {cells slots : Nat} (X : Stand p l e R s m args below meth c T locs cells slots) (hexec : p.tables.exec = Jvm.exec) {own C : String} {index : Nat} (hown : s.vm.findClass own = some m.cls) (hlink : (Cond.classLink own index C).before args s = true) {a : Addr} (hE : Exact C a T)
    {g : JFrame} (hg : g.method = m) {rest : List Value} (hstack : g.stack = .ref a :: rest) (hdg : decode c.code g.pc = .ok (.instanceof index, 3)) :
    ∃ T', Stand p l e R s m args below meth c T' locs cells slots ∧ T'.heap = T.heap ∧ ∀ target, Steps p.tables e below (T'.setTop { g with pc := g.pc + 3, stack := .int 1 :: rest }) target → Steps p.tables e below (T.setTop g) target := by
  obtain ⟨cB, h1, D, h2, h3, h4⟩ := hE
  have h1' : s.vm.findClass C = some cB := by rw [← X.warmed.alike.findClass]; exact h1
  obtain ⟨vm', X', st⟩ := X.instanceofYes hexec hown hlink h2 h4 h1' (by rw [h3]; exact Jvm.Free.SB.assignable_self _ _) hg hstack hdg
  exact ⟨_, X', rfl, st⟩
theorem cself {p : Program} {l : Launch} {e : Env} {R : Room} {s : State} {m : MethodId} {args : Array Value} {below : List Frame} {meth : Method} {c : Code} {T : State} {locs : List Loc} {cells slots : Nat} (X : Stand p l e R s m args below meth c T locs cells slots) (hexec : p.tables.exec = Jvm.exec) {own C : String} {index : Nat} (hown : s.vm.findClass own = some m.cls) (hlink : (Cond.classLink own index C).before args s = true) {a : Addr} (hE : Exact C a T)
    {g : JFrame} (hg : g.method = m) {rest : List Value} (hstack : g.stack = .ref a :: rest) (hdg : decode c.code g.pc = .ok (.checkcast index, 3)) :
    ∃ T', Stand p l e R s m args below meth c T' locs cells slots ∧ T'.heap = T.heap ∧ ∀ target, Steps p.tables e below (T'.setTop { g with pc := g.pc + 3, stack := .ref a :: rest }) target → Steps p.tables e below (T.setTop g) target := by
  obtain ⟨cB, h1, D, h2, h3, h4⟩ := hE
  have h1' : s.vm.findClass C = some cB := by rw [← X.warmed.alike.findClass]; exact h1
  obtain ⟨vm', X', st⟩ := X.checkcastYes hexec hown hlink h2 h4 h1' (by rw [h3]; exact Jvm.Free.SB.assignable_self _ _) hg hstack hdg
  exact ⟨_, X', rfl, fun t h => st t (by rw [← hstack] at h; exact h)⟩
namespace SEq
def yN : MethodName := ⟨"java/lang/String", "equals", "(Ljava/lang/Object;)Z"⟩
abbrev yB : ByteArray := jdk_42_method_66_code
theorem d0 : decode yB 0 = .ok (.aload_n 0, 1) := by decide +kernel
theorem d1 : decode yB 1 = .ok (.aload_n 1, 1) := by decide +kernel
theorem d2 : decode yB 2 = .ok (.if_acmp (.ne) 5, 3) := by decide +kernel
theorem d5 : decode yB 5 = .ok (.iconst 1, 1) := by decide +kernel
theorem d6 : decode yB 6 = .ok (.ireturn, 1) := by decide +kernel
theorem d7 : decode yB 7 = .ok (.aload_n 1, 1) := by decide +kernel
theorem d8 : decode yB 8 = .ok (.instanceof 10, 3) := by decide +kernel
theorem d11 : decode yB 11 = .ok (.ifCond (.eq) 43, 3) := by decide +kernel
theorem d14 : decode yB 14 = .ok (.aload_n 1, 1) := by decide +kernel
theorem d15 : decode yB 15 = .ok (.checkcast 10, 3) := by decide +kernel
theorem d18 : decode yB 18 = .ok (.astore_n 2, 1) := by decide +kernel
theorem d19 : decode yB 19 = .ok (.getstatic 38, 3) := by decide +kernel
theorem d22 : decode yB 22 = .ok (.ifCond (.eq) 14, 3) := by decide +kernel
theorem d25 : decode yB 25 = .ok (.aload_n 0, 1) := by decide +kernel
theorem d26 : decode yB 26 = .ok (.getfield 15, 3) := by decide +kernel
theorem d29 : decode yB 29 = .ok (.aload_n 2, 1) := by decide +kernel
theorem d30 : decode yB 30 = .ok (.getfield 15, 3) := by decide +kernel
theorem d33 : decode yB 33 = .ok (.if_icmp (.ne) 21, 3) := by decide +kernel
theorem d36 : decode yB 36 = .ok (.aload_n 0, 1) := by decide +kernel
theorem d37 : decode yB 37 = .ok (.getfield 9, 3) := by decide +kernel
theorem d40 : decode yB 40 = .ok (.aload_n 2, 1) := by decide +kernel
theorem d41 : decode yB 41 = .ok (.getfield 9, 3) := by decide +kernel
theorem d44 : decode yB 44 = .ok (.invokestatic 541, 3) := by decide +kernel
theorem d47 : decode yB 47 = .ok (.ifCond (.eq) 7, 3) := by decide +kernel
theorem d50 : decode yB 50 = .ok (.iconst 1, 1) := by decide +kernel
theorem d51 : decode yB 51 = .ok (.goto 4, 3) := by decide +kernel
theorem d54 : decode yB 54 = .ok (.iconst 0, 1) := by decide +kernel
theorem d55 : decode yB 55 = .ok (.ireturn, 1) := by decide +kernel
def site : List Cond := [.classLink "java/lang/String" 10 "java/lang/String", .fieldLink "java/lang/String" 38 "java/lang/String" "COMPACT_STRINGS" "Z", .fieldLink "java/lang/String" 15 "java/lang/String" "coder" "B", .fieldLink "java/lang/String" 9 "java/lang/String" "value" "[B", LEq.tab] ++ staticW "java/lang/String" 541 LEq.yN
def tab : Cond := tabOf yN yB 3 (some .boolean) site
def P (x t : Addr) (V : Cell) (cd : Int32) (n : Nat) (f : Nat → Int32) (y t' : Addr) (V' : Cell) (cd' : Int32) (k : Nat) (g : Nat → Int32) (z : Int32) (args : Array Value) (s : State) : Prop := args = #[.ref x, .ref y] ∧ Txt x t V cd n f s ∧ Txt y t' V' cd' k g s ∧ StaticIs s "java/lang/String" "COMPACT_STRINGS" "Z" (.int z) ∧ ¬ z = 0
/-- equals(Object) of two Strings: whether the texts are the same -/
theorem law (l : Launch) (x t : Addr) (V : Cell) (cd : Int32) (n : Nat) (f : Nat → Int32) (y t' : Addr) (V' : Cell) (cd' : Int32) (k : Nat) (g : Nat → Int32) (z : Int32) : Law l yN 2 1 1 14 yB 3 (some .boolean) site (P x t V cd n f y t' V' cd' k g z) (Says01 (SameT n f k g)) [] 0 0 := by
  refine Law.of_walk (plainFor_of_name (by decide +kernel)) (by decide +kernel) (by decide +kernel) (by decide) (fun _ _ h => by rw [h.1]; rfl) (fun _ U U' hal hh h => ⟨h.1, h.2.1.mv hal hh, h.2.2.1.mv hal hh, h.2.2.2.1.there hal hh, h.2.2.2.2⟩) (fun r U U' V V' h1 hal h2 h => Says01.mv r U U' V V' h1 hal h2 h) ?_
  intro p e s m args below meth c s₁ X0 hexec hbytes hml hret hlk hnm hown hh0 W hP
  obtain ⟨rfl, hx, hy, s1, hz⟩ := hP
  have c1 : Steps p.tables e below (s₁.setTop (entryFrame m #[.ref x, .ref y] 3)) (s₁.setTop (mkF m 2 #[.val (.ref x), .val (.ref y), .unset] [.ref y, .ref x])) := Steps.trans (entry rfl) (by
    show Steps p.tables e below (s₁.setTop (mkF m 0 #[.val (.ref x), .val (.ref y), .unset] [])) _
    refine XS.aloadN X0.here hexec rfl (hb hbytes d0) rfl rfl ?_
    refine XS.aloadN X0.here hexec rfl (hb hbytes d1) rfl rfl ?_
    exact Steps.refl _)
  by_cases hxy : x = y
  · have c2 : Steps p.tables e below (s₁.setTop (entryFrame m #[.ref x, .ref y] 3)) (s₁.setTop (mkF m 6 #[.val (.ref x), .val (.ref y), .unset] [.int 1])) := c1.trans (by
      refine acmpNo X0.here hexec rfl (hb hbytes d2) rfl rfl rfl (by simp [acmp, hxy]) ?_
      refine iconstV X0.here hexec rfl 1 (hb hbytes d5) (by decide) ?_
      exact Steps.refl _)
    subst hxy
    have ec : cd = cd' := by
      obtain ⟨D, fd, a1, a2, a3⟩ := hx.2.2.1
      obtain ⟨D', fd', b1, b2, b3⟩ := hy.2.2.1
      cases a1.symm.trans b1
      obtain ⟨q1, q2, q3, q4⟩ := a2.1
      obtain ⟨r1, r2, r3, r4⟩ := b2.1
      cases q4.symm.trans r4
      cases a3.symm.trans b3; rfl
    have et : t = t' := by
      obtain ⟨D, fd, a1, a2, a3⟩ := hx.2.1
      obtain ⟨D', fd', b1, b2, b3⟩ := hy.2.1
      cases a1.symm.trans b1
      obtain ⟨q1, q2, q3, q4⟩ := a2.1
      obtain ⟨r1, r2, r3, r4⟩ := b2.1
      cases q4.symm.trans r4
      cases a3.symm.trans b3; rfl
    subst ec et
    have ev : V = V' := by cases hx.2.2.2.1.1.symm.trans hy.2.2.2.1.1; rfl
    subst ev
    have hs : SameT n f k g := (Cod.eqv hx.2.2.2.2.1 hy.2.2.2.2.1 hx.2.2.2.2.2 hy.2.2.2.2.2).mp ⟨rfl, fun _ _ => rfl⟩
    exact ⟨s₁, some (.int 1), _, _, _, X0, rfl, rfl, rfl, (fun h => by cases h), ⟨1, rfl, hh0, Or.inl ⟨rfl, hs⟩⟩, fun fs hl => c2.trans (X0.ireturnOut hexec hret rfl (Or.inr (Or.inl rfl)) (hb hbytes d6) hl)⟩
  · have c2 : Steps p.tables e below (s₁.setTop (entryFrame m #[.ref x, .ref y] 3)) (s₁.setTop (mkF m 8 #[.val (.ref x), .val (.ref y), .unset] [.ref y])) := c1.trans (by
      refine acmpYes X0.here hexec rfl (pc0 := 2) rfl (hb hbytes d2) rfl rfl rfl (by simp [acmp, hxy]) (by decide) rfl ?_
      refine XS.aloadN X0.here hexec rfl (hb hbytes d7) rfl rfl ?_
      exact Steps.refl _)
    obtain ⟨T3, X3, q3, st3⟩ := cinst X0 hexec hown (wk W (.classLink "java/lang/String" 10 "java/lang/String")) (hy.mv X0.warmed.alike hh0).1 (g := (mkF m 8 #[.val (.ref x), .val (.ref y), .unset] [.ref y])) rfl (rest := []) rfl (hb hbytes d8)
    have hh3 := q3.trans hh0
    have c4 : Steps p.tables e below (s₁.setTop (entryFrame m #[.ref x, .ref y] 3)) (T3.setTop (mkF m 15 #[.val (.ref x), .val (.ref y), .unset] [.ref y])) := (c2.trans (st3 _ (Steps.refl _))).trans (by
      refine XS.ifNo X3.here hexec rfl (hb hbytes d11) rfl (i0_eq_f (by decide)) ?_
      refine XS.aloadN X3.here hexec rfl (hb hbytes d14) rfl rfl ?_
      exact Steps.refl _)
    obtain ⟨T5, X5, q5, st5⟩ := cself X3 hexec hown (wk W (.classLink "java/lang/String" 10 "java/lang/String")) (hy.mv X3.warmed.alike hh3).1 (g := (mkF m 15 #[.val (.ref x), .val (.ref y), .unset] [.ref y])) rfl (rest := []) rfl (hb hbytes d15)
    have hh5 := q5.trans hh3
    have c6 : Steps p.tables e below (s₁.setTop (entryFrame m #[.ref x, .ref y] 3)) (T5.setTop (mkF m 19 #[.val (.ref x), .val (.ref y), .val (.ref y)] [])) := (c4.trans (st5 _ (Steps.refl _))).trans (by
      refine XS.astoreN X5.here hexec rfl (hb hbytes d18) rfl rfl rfl ?_
      exact Steps.refl _)
    obtain ⟨T7, X7, q7, st7⟩ := X5.sget hexec hown (wk W (.fieldLink "java/lang/String" 38 "java/lang/String" "COMPACT_STRINGS" "Z")) s1 (fun _ _ h => by rw [hh5]; exact h) (g := (mkF m 19 #[.val (.ref x), .val (.ref y), .val (.ref y)] [])) rfl (hb hbytes d19)
    have hh7 := q7.trans hh5
    have c8 : Steps p.tables e below (s₁.setTop (entryFrame m #[.ref x, .ref y] 3)) (T7.setTop (mkF m 26 #[.val (.ref x), .val (.ref y), .val (.ref y)] [.ref x])) := (c6.trans (st7 _ (Steps.refl _))).trans (by
      refine XS.ifNo X7.here hexec rfl (hb hbytes d22) rfl (i0_eq_f hz) ?_
      refine XS.aloadN X7.here hexec rfl (hb hbytes d25) rfl rfl ?_
      exact Steps.refl _)
    obtain ⟨T9, X9, q9, st9⟩ := X7.hget hexec hown (wk W (.fieldLink "java/lang/String" 15 "java/lang/String" "coder" "B")) (hx.mv X7.warmed.alike hh7).2.2.1 (g := (mkF m 26 #[.val (.ref x), .val (.ref y), .val (.ref y)] [.ref x])) rfl (rest := []) rfl (hb hbytes d26)
    have hh9 := q9.trans hh7
    have c10 : Steps p.tables e below (s₁.setTop (entryFrame m #[.ref x, .ref y] 3)) (T9.setTop (mkF m 30 #[.val (.ref x), .val (.ref y), .val (.ref y)] [.ref y, .int cd])) := (c8.trans (st9 _ (Steps.refl _))).trans (by
      refine XS.aloadN X9.here hexec rfl (hb hbytes d29) rfl rfl ?_
      exact Steps.refl _)
    obtain ⟨T11, X11, q11, st11⟩ := X9.hget hexec hown (wk W (.fieldLink "java/lang/String" 15 "java/lang/String" "coder" "B")) (hy.mv X9.warmed.alike hh9).2.2.1 (g := (mkF m 30 #[.val (.ref x), .val (.ref y), .val (.ref y)] [.ref y, .int cd])) rfl (rest := [.int cd]) rfl (hb hbytes d30)
    have hh11 := q11.trans hh9
    have c12 : Steps p.tables e below (s₁.setTop (entryFrame m #[.ref x, .ref y] 3)) (T11.setTop (mkF m 33 #[.val (.ref x), .val (.ref y), .val (.ref y)] [.int cd', .int cd])) := c10.trans (st11 _ (Steps.refl _))
    by_cases hcd : cd = cd'
    · subst hcd
      have c13 : Steps p.tables e below (s₁.setTop (entryFrame m #[.ref x, .ref y] 3)) (T11.setTop (mkF m 37 #[.val (.ref x), .val (.ref y), .val (.ref y)] [.ref x])) := c12.trans (by
        refine XS.icmpNo X11.here hexec rfl (hb hbytes d33) rfl (ii_ne_f rfl) ?_
        refine XS.aloadN X11.here hexec rfl (hb hbytes d36) rfl rfl ?_
        exact Steps.refl _)
      obtain ⟨T14, X14, q14, st14⟩ := X11.hget hexec hown (wk W (.fieldLink "java/lang/String" 9 "java/lang/String" "value" "[B")) (hx.mv X11.warmed.alike hh11).2.1 (g := (mkF m 37 #[.val (.ref x), .val (.ref y), .val (.ref y)] [.ref x])) rfl (rest := []) rfl (hb hbytes d37)
      have hh14 := q14.trans hh11
      have c15 : Steps p.tables e below (s₁.setTop (entryFrame m #[.ref x, .ref y] 3)) (T14.setTop (mkF m 41 #[.val (.ref x), .val (.ref y), .val (.ref y)] [.ref y, .ref t])) := (c13.trans (st14 _ (Steps.refl _))).trans (by
        refine XS.aloadN X14.here hexec rfl (hb hbytes d40) rfl rfl ?_
        exact Steps.refl _)
      obtain ⟨T16, X16, q16, st16⟩ := X14.hget hexec hown (wk W (.fieldLink "java/lang/String" 9 "java/lang/String" "value" "[B")) (hy.mv X14.warmed.alike hh14).2.1 (g := (mkF m 41 #[.val (.ref x), .val (.ref y), .val (.ref y)] [.ref y, .ref t])) rfl (rest := [.ref t]) rfl (hb hbytes d41)
      have hh16 := q16.trans hh14
      have c17 : Steps p.tables e below (s₁.setTop (entryFrame m #[.ref x, .ref y] 3)) (T16.setTop (mkF m 44 #[.val (.ref x), .val (.ref y), .val (.ref y)] [.ref t', .ref t])) := c15.trans (st16 _ (Steps.refl _))
      obtain ⟨v18, T18, X18, E18, g18⟩ := X16.callS hexec (LEq.law l t V t' V') hown (wks W (staticW "java/lang/String" 541 LEq.yN)) (wk W LEq.tab) (W := 0) (Nat.le_of_ble_eq_true rfl) (Nat.le_of_ble_eq_true rfl) (Nat.le_refl _) (Nat.le_refl _) (g := (mkF m 44 #[.val (.ref x), .val (.ref y), .val (.ref y)] [.ref t', .ref t])) rfl (by rw [hml]; rfl) c17 (argsL := [.ref t, .ref t']) (rest := []) rfl rfl (by show 2 * 0 + 0 ≤ _; decide) (hb hbytes d44) (⟨rfl, hx.2.2.2.1.mv X16.warmed.alike hh16, hx.2.2.2.2.1.ty, hy.2.2.2.1.mv X16.warmed.alike hh16, hy.2.2.2.2.1.ty⟩)
      obtain ⟨v, rfl, q18, hv⟩ := E18
      have iff := Cod.eqv hx.2.2.2.2.1 hy.2.2.2.2.1 hx.2.2.2.2.2 hy.2.2.2.2.2
      rcases hv with ⟨rfl, he⟩ | ⟨rfl, he⟩
      · have c19 : Steps p.tables e below (s₁.setTop (entryFrame m #[.ref x, .ref y] 3)) (T18.setTop (mkF m 55 #[.val (.ref x), .val (.ref y), .val (.ref y)] [.int 1])) := Steps.trans g18 (by
          refine XS.ifNo X18.here hexec rfl (hb hbytes d47) rfl (i0_eq_f (by decide)) ?_
          refine iconstV X18.here hexec rfl 1 (hb hbytes d50) (by decide) ?_
          refine XS.goto X18.here hexec rfl (pc0 := 51) rfl (hb hbytes d51) (by decide) rfl ?_
          exact Steps.refl _)
        exact ⟨T18, some (.int 1), _, _, _, X18, rfl, rfl, rfl, (fun h => by cases h), ⟨1, rfl, q18.trans hh16, Or.inl ⟨rfl, iff.mp he⟩⟩, fun fs hl => c19.trans (X18.ireturnOut hexec hret rfl (Or.inr (Or.inl rfl)) (hb hbytes d55) hl)⟩
      · have c19 : Steps p.tables e below (s₁.setTop (entryFrame m #[.ref x, .ref y] 3)) (T18.setTop (mkF m 55 #[.val (.ref x), .val (.ref y), .val (.ref y)] [.int 0])) := Steps.trans g18 (by
          refine XS.ifYes X18.here hexec rfl (pc0 := 47) rfl (hb hbytes d47) rfl (i0_eq_t rfl) (by decide) rfl ?_
          refine iconstV X18.here hexec rfl 0 (hb hbytes d54) (by decide) ?_
          exact Steps.refl _)
        exact ⟨T18, some (.int 0), _, _, _, X18, rfl, rfl, rfl, (fun h => by cases h), ⟨0, rfl, q18.trans hh16, Or.inr ⟨rfl, fun q => he (iff.mpr q)⟩⟩, fun fs hl => c19.trans (X18.ireturnOut hexec hret rfl (Or.inr (Or.inl rfl)) (hb hbytes d55) hl)⟩
    · have c13 : Steps p.tables e below (s₁.setTop (entryFrame m #[.ref x, .ref y] 3)) (T11.setTop (mkF m 55 #[.val (.ref x), .val (.ref y), .val (.ref y)] [.int 0])) := c12.trans (by
        refine XS.icmpYes X11.here hexec rfl (pc0 := 33) rfl (hb hbytes d33) rfl (ii_ne_t hcd) (by decide) rfl ?_
        refine iconstV X11.here hexec rfl 0 (hb hbytes d54) (by decide) ?_
        exact Steps.refl _)
      exact ⟨T11, some (.int 0), _, _, _, X11, rfl, rfl, rfl, (fun h => by cases h), ⟨0, rfl, hh11, Or.inr ⟨rfl, Cod.dif hx.2.2.2.2.1 hy.2.2.2.2.1 hcd⟩⟩, fun fs hl => c13.trans (X11.ireturnOut hexec hret rfl (Or.inr (Or.inl rfl)) (hb hbytes d55) hl)⟩
theorem pays {l : Launch} {R : Room} {p : Program} {e : Env} {below : List Frame} {s : State} {sargs : Array Value} {len W : Nat} (x t : Addr) (V : Cell) (cd : Int32) (n : Nat) (f : Nat → Int32) (y t' : Addr) (V' : Cell) (cd' : Int32) (k : Nat) (g : Nat → Int32) (z : Int32) (htab : tab.before sargs s = true) (hfr : 2 ≤ R.frames) (hlo : W + 28 ≤ R.locals) :
    Back l R p e below s sargs yN len W (fun A₁ a₁ => A₁.cells + 0 ≤ R.cells ∧ A₁.slots + 0 ≤ R.slots ∧ P x t V cd n f y t' V' cd' k g z a₁ A₁.U) (fun A₁ _ v₁ B₁ => Says01 (SameT n f k g) v₁ A₁.U B₁.U ∧ B₁.locs = A₁.locs ++ [] ∧ B₁.cells = A₁.cells + 0 ∧ B₁.slots = A₁.slots + 0) :=
  (law l x t V cd n f y t' V' cd' k g z).pays htab hfr (by omega)
end SEq
end StrChars
namespace StrChars.Road
open Jvm Sem ClassFile Op Lib Jvm.Stand Jvm.Free Jvm.Free.XT
open Jvm.Lib.Cold (StaticIs)
/-- the words of String.isEmpty() -/
abbrev wordsEmp : List Jvm.Cond := [.code Emp.yN Emp.yB 1 (some .boolean), .initialized ST, .fieldLink ST 9 ST "value" "[B"]
theorem tabEmp_of {a : Array Value} {s : State} (h : ∀ w ∈ wordsEmp, w.before a s = true) : Emp.tab.before a s = true := unparts (wk h (.code Emp.yN Emp.yB 1 (some .boolean))) (wks h (.initialized Emp.yN.cls :: Emp.site))
theorem movedEmp {Z s : State} {a0 args : Array Value} (hZ : Z.Warmed39 s.vm) (hw : ∀ d ∈ wordsEmp, d.before a0 Z = true) : ∀ d ∈ wordsEmp, d.before args s = true := fun d hd => by
  have t : ∀ d ∈ wordsEmp, (d.onTables && d.keepsFace) = true := by decide +kernel
  exact RoadKit.mv hZ (hw d hd) (t d hd)
/-- the words of String.equals(Object) -/
abbrev wordsEq : List Jvm.Cond := [.code SEq.yN SEq.yB 3 (some .boolean), .initialized ST, .classLink ST 10 ST, .fieldLink ST 38 ST "COMPACT_STRINGS" "Z", .fieldLink ST 15 ST "coder" "B", .fieldLink ST 9 ST "value" "[B", .methodLink ST 541 LEq.yN, .static LEq.yN, .code LEq.yN LEq.yB 3 (some .boolean), .initialized "java/lang/StringLatin1"]
theorem tabEq_of {a : Array Value} {s : State} (h : ∀ w ∈ wordsEq, w.before a s = true) : SEq.tab.before a s = true := by
  have hl : LEq.tab.before a s = true := unparts (wk h (.code LEq.yN LEq.yB 3 (some .boolean))) (wks h (.initialized LEq.yN.cls :: LEq.site))
  have q := consq hl h
  exact unparts (wk q (.code SEq.yN SEq.yB 3 (some .boolean))) (wks q (.initialized SEq.yN.cls :: SEq.site))
theorem movedEq {Z s : State} {a0 args : Array Value} (hZ : Z.Warmed39 s.vm) (hw : ∀ d ∈ wordsEq, d.before a0 Z = true) : ∀ d ∈ wordsEq, d.before args s = true := fun d hd => by
  have t : ∀ d ∈ wordsEq, (d.onTables && d.keepsFace) = true := by decide +kernel
  exact RoadKit.mv hZ (hw d hd) (t d hd)
/-- the road's facts of a String, as the laws ask it -/
theorem txt_of {Z U : State} {a0 : Array Value} {kI : Nat} (wi : (Jvm.Cond.instantiable ST kI).before a0 Z = true) (al : Z.vm.Alike U.vm) {x t : Addr} {kb : ClassId} {cs : List Int32} {cd N2 : Int32} {vs : List Value} (E : RoadKit.Exa Z U.heap x ST) (V : RoadKit.Fld Z U.heap x ST "value" "[B" (.ref t)) (C : RoadKit.Fld Z U.heap x ST "coder" "B" (.int cd)) (K : RoadKit.Arv Z U.heap t kb .byte N2 vs (.int 0)) (hc : CodA cs cd N2 vs) (hb : ∀ c ∈ cs, ¬ c < 0 ∧ ¬ (65535 : Int32) < c) (l2 : cs.length ≤ 4000) :
    ∃ A, Txt x t A cd cs.length (fun j => cs.getD j 0) U := by
  obtain ⟨A, K1, K2, K3, K4, K5, K6⟩ := K
  have hcod := hc.cod (by omega) K3 K5
  obtain ⟨D, fV, fC, hB, F1, F2, g1, g2, -, -⟩ := strObj wi al E V C
  exact ⟨A, ⟨_, hB.2.2.1, D, hB.1, rfl, by cases q : D.vm <;> first | rfl | exact absurd q (hB.2.1.2 _)⟩, Has.of hB F1 g1, Has.of hB F2 g2, ⟨K1.1, State.isArrayOf_alike al K1.2.1, K1.2.2, by rcases hcod with ⟨-, q, -⟩ | ⟨-, q, -⟩ <;> omega⟩, hcod, fun j hj => by
    have e : cs.getD j 0 = cs[j] := by simp [List.getD_eq_getElem?_getD, hj]
    show ¬ cs.getD j 0 < 0 ∧ ¬ 65535 < cs.getD j 0
    rw [e]; exact hb _ (List.getElem_mem _)⟩
theorem same_list (cs ds : List Int32) : SameT cs.length (fun j => cs.getD j 0) ds.length (fun j => ds.getD j 0) ↔ cs = ds := by
  constructor
  · rintro ⟨e, q⟩
    refine List.ext_getElem e fun j h1 h2 => ?_
    have := q j h1
    simpa [List.getD_eq_getElem?_getD, h1, h2] using this
  · rintro rfl
    exact ⟨rfl, fun _ _ => rfl⟩
/-- **isEmpty() OF SUCH A STRING** -/
theorem empW {p : Program} {l : Launch} {e : Env} {R : Room} {s : State} {args : Array Value} {below : List Frame} {len W : Nat} {Z : State} {a0 : Array Value} {h : Heap} (hZ : Z.Warmed39 s.vm) (hw : ∀ d ∈ wordsEmp, d.before a0 Z = true) {kI : Nat} (wi : (Jvm.Cond.instantiable ST kI).before a0 Z = true)
    {x t : Addr} {kb : ClassId} {cs : List Int32} {cd N2 : Int32} {vs : List Value} (E : RoadKit.Exa Z h x ST) (V : RoadKit.Fld Z h x ST "value" "[B" (.ref t)) (C : RoadKit.Fld Z h x ST "coder" "B" (.int cd)) (K : RoadKit.Arv Z h t kb .byte N2 vs (.int 0)) (hc : CodA cs cd N2 vs) (hb : ∀ c ∈ cs, ¬ c < 0 ∧ ¬ (65535 : Int32) < c) (l2 : cs.length ≤ 4000) (hfr : 1 ≤ R.frames) (hlo : W + 12 ≤ R.locals) :
    Back l R p e below s args (⟨"java/lang/String", "isEmpty", "()Z"⟩ : MethodName) len W (fun P a => a = #[.ref x] ∧ P.U.heap = h ∧ P.cells + 0 ≤ R.cells ∧ P.slots + 0 ≤ R.slots)
      (fun P _ v B => ∃ L, (v = some (.int (if cs.length = 0 then 1 else 0)) ∧ L = [] ∧ B.U.heap = h) ∧ B.locs = P.locs ++ L ∧ B.cells = P.cells + 0 ∧ B.slots = P.slots + 0) := by
  intro m meth c P g ig mk a X hg hsize hdg hW hn hp'
  obtain ⟨rfl, rfl, r1, r2⟩ := hp'
  have al : Z.vm.Alike P.U.vm := hZ.alike.trans X.warmed.alike
  obtain ⟨A, hx⟩ := txt_of wi al E V C K hc hb l2
  obtain ⟨v, B, X', ⟨⟨hv, hh⟩, hl, hk, hs⟩, st⟩ := Emp.pays x t A cd cs.length (fun j => cs.getD j 0) (tabEmp_of (movedEmp hZ hw)) hfr hlo m meth c P g ig mk _ X hg hsize hdg hW hn ⟨r1, r2, rfl, hx⟩
  exact ⟨v, B, X', ⟨[], ⟨hv, rfl, hh⟩, hl, hk, hs⟩, st⟩
/-- **equals(Object) OF TWO SUCH STRINGS**: 1 just where the chars are the same -/
theorem eqW {p : Program} {l : Launch} {e : Env} {R : Room} {s : State} {args : Array Value} {below : List Frame} {len W : Nat} {Z : State} {a0 : Array Value} {h : Heap} (hZ : Z.Warmed39 s.vm) (hw : ∀ d ∈ wordsEq, d.before a0 Z = true) {kI : Nat} (wi : (Jvm.Cond.instantiable ST kI).before a0 Z = true)
    {x t : Addr} {kb : ClassId} {cs : List Int32} {cd N2 : Int32} {vs : List Value} (E : RoadKit.Exa Z h x ST) (V : RoadKit.Fld Z h x ST "value" "[B" (.ref t)) (C : RoadKit.Fld Z h x ST "coder" "B" (.int cd)) (K : RoadKit.Arv Z h t kb .byte N2 vs (.int 0)) (hc : CodA cs cd N2 vs) (hb : ∀ c ∈ cs, ¬ c < 0 ∧ ¬ (65535 : Int32) < c) (l2 : cs.length ≤ 4000)
    {y t' : Addr} {kb' : ClassId} {ds : List Int32} {cd' N2' : Int32} {vs' : List Value} (E' : RoadKit.Exa Z h y ST) (V' : RoadKit.Fld Z h y ST "value" "[B" (.ref t')) (C' : RoadKit.Fld Z h y ST "coder" "B" (.int cd')) (K' : RoadKit.Arv Z h t' kb' .byte N2' vs' (.int 0)) (hc' : CodA ds cd' N2' vs') (hb' : ∀ c ∈ ds, ¬ c < 0 ∧ ¬ (65535 : Int32) < c) (l2' : ds.length ≤ 4000)
    {z : Int32} (S : RoadKit.Sta Z h ST "COMPACT_STRINGS" "Z" (.int z)) (hz : ¬ z = 0) (hfr : 2 ≤ R.frames) (hlo : W + 28 ≤ R.locals) :
    Back l R p e below s args (⟨"java/lang/String", "equals", "(Ljava/lang/Object;)Z"⟩ : MethodName) len W (fun P a => a = #[.ref x, .ref y] ∧ P.U.heap = h ∧ P.cells + 0 ≤ R.cells ∧ P.slots + 0 ≤ R.slots)
      (fun P _ v B => ∃ L, (((v = some (.int 1) ∧ cs = ds) ∨ (v = some (.int 0) ∧ ¬ cs = ds)) ∧ L = [] ∧ B.U.heap = h) ∧ B.locs = P.locs ++ L ∧ B.cells = P.cells + 0 ∧ B.slots = P.slots + 0) := by
  intro m meth c P g ig mk a X hg hsize hdg hW hn hp'
  obtain ⟨rfl, rfl, r1, r2⟩ := hp'
  have al : Z.vm.Alike P.U.vm := hZ.alike.trans X.warmed.alike
  obtain ⟨A, hx⟩ := txt_of wi al E V C K hc hb l2
  obtain ⟨A', hy⟩ := txt_of wi al E' V' C' K' hc' hb' l2'
  obtain ⟨v, B, X', ⟨⟨w, hv, hh, hq⟩, hl, hk, hs⟩, st⟩ := SEq.pays x t A cd cs.length (fun j => cs.getD j 0) y t' A' cd' ds.length (fun j => ds.getD j 0) z (tabEq_of (movedEq hZ hw)) hfr hlo m meth c P g ig mk _ X hg hsize hdg hW hn ⟨r1, r2, rfl, hx, hy, sta_is al S, hz⟩
  refine ⟨v, B, X', ⟨[], ⟨?_, rfl, hh⟩, hl, hk, hs⟩, st⟩
  rcases hq with ⟨rfl, q⟩ | ⟨rfl, q⟩
  · exact Or.inl ⟨hv, (same_list cs ds).mp q⟩
  · exact Or.inr ⟨hv, fun e => q ((same_list cs ds).mpr e)⟩
end StrChars.Road
namespace StrChars
open Jvm Sem ClassFile Op Lib Jvm.Stand Jvm.Free.XT Jvm.Free.ALB Jvm.Free.JM Jvm.Free
open Jvm.Lib.Cold (StaticIs)
namespace ChN
def yN : MethodName := ⟨"java/lang/String", "charAt", "(I)C"⟩
abbrev yB : ByteArray := jdk_42_method_56_code
theorem d0 : decode yB 0 = .ok (.aload_n 0, 1) := by decide +kernel
theorem d1 : decode yB 1 = .ok (.invokevirtual 492, 3) := by decide +kernel
theorem d4 : decode yB 4 = .ok (.ifCond (.eq) 12, 3) := by decide +kernel
theorem d7 : decode yB 7 = .ok (.aload_n 0, 1) := by decide +kernel
theorem d8 : decode yB 8 = .ok (.getfield 9, 3) := by decide +kernel
theorem d11 : decode yB 11 = .ok (.iload_n 1, 1) := by decide +kernel
theorem d12 : decode yB 12 = .ok (.invokestatic 495, 3) := by decide +kernel
theorem d15 : decode yB 15 = .ok (.ireturn, 1) := by decide +kernel
def site : List Cond := [.fieldLink "java/lang/String" 9 "java/lang/String" "value" "[B", IsL.tab, LChA.tab] ++ virtW "java/lang/String" 492 "java/lang/String" IsL.yN IsL.yN ++ staticW "java/lang/String" 495 LChA.yN
def tab : Cond := tabOf yN yB 2 (some .char) site
def P (x t : Addr) (V : Cell) (n : Nat) (f : Nat → Int32) (z : Int32) (fm : Value) (i : Nat) (args : Array Value) (s : State) : Prop := args = #[.ref x, .int (Int32.ofNat i)] ∧ Txt x t V 0 n f s ∧ i < n ∧ StaticIs s "java/lang/String" "COMPACT_STRINGS" "Z" (.int z) ∧ ¬ z = 0 ∧ StaticIs s "jdk/internal/util/Preconditions" "SIOOBE_FORMATTER" "Ljava/util/function/BiFunction;" fm ∧ fm.isRef = true
def E (f : Nat → Int32) (i : Nat) (r : Option Value) (s u : State) : Prop := XT.PureE (some (.int (f i))) r s u
/-- charAt(i) of a Latin-1 String of n chars, i < n: f i -/
theorem law (l : Launch) (x t : Addr) (V : Cell) (n : Nat) (f : Nat → Int32) (z : Int32) (fm : Value) (i : Nat) : Law l yN 2 1 3 40 yB 2 (some .char) site (P x t V n f z fm i) (E f i) [] 0 0 := by
  refine Law.of_walk (plainFor_of_name (by decide +kernel)) (by decide +kernel) (by decide +kernel) (by decide) (fun _ _ h => by rw [h.1]; rfl) (fun _ U U' hal hh h => ⟨h.1, h.2.1.mv hal hh, h.2.2.1, h.2.2.2.1.there hal hh, h.2.2.2.2.1, h.2.2.2.2.2.1.there hal hh, h.2.2.2.2.2.2⟩) (fun r U U' V V' h1 hal h2 h => XT.PureE.mv r U U' V V' h1 hal h2 h) ?_
  intro p e s m args below meth c s₁ X0 hexec hbytes hml hret hlk hnm hown hh0 W hP
  obtain ⟨rfl, hx, hi, s1, hz, s3, rf⟩ := hP
  have v31 := hx.2.2.2.1.2.2.2
  have hr := hx.2.2.2.2.2 i hi
  have hx0 := hx.mv X0.warmed.alike hh0
  have c1 : Steps p.tables e below (s₁.setTop (entryFrame m #[.ref x, .int (Int32.ofNat i)] 2)) (s₁.setTop (mkF m 1 #[.val (.ref x), .val (.int (Int32.ofNat i))] [.ref x])) := Steps.trans (entry rfl) (by
    show Steps p.tables e below (s₁.setTop (mkF m 0 #[.val (.ref x), .val (.int (Int32.ofNat i))] [])) _
    refine XS.aloadN X0.here hexec rfl (hb hbytes d0) rfl rfl ?_
    exact Steps.refl _)
  obtain ⟨v2, T2, X2, E2, g2⟩ := X0.callV hexec (IsL.law l x 0 z) hown (wks W (virtW "java/lang/String" 492 "java/lang/String" IsL.yN IsL.yN)) rfl (by decide) (wk W IsL.tab) (W := 0) (Nat.le_of_ble_eq_true rfl) (Nat.le_of_ble_eq_true rfl) (Nat.le_refl _) (Nat.le_refl _) (hx0.1.fc X0.warmed.alike) hx0.1.is (g := (mkF m 1 #[.val (.ref x), .val (.int (Int32.ofNat i))] [.ref x])) rfl (by rw [hml]; rfl) c1 (argsL := []) (rest := []) rfl rfl (by show 2 * 0 + 0 ≤ _; decide) (hb hbytes d1) (⟨rfl, hx0.2.2.1, hx.2.2.2.2.1.cd, s1.there X0.warmed.alike hh0, hz⟩)
  obtain ⟨rfl, q2⟩ := E2
  have hh2 := q2.trans hh0
  have hx2 := hx.mv X2.warmed.alike hh2
  obtain ⟨-, k1, k2⟩ | ⟨k0, -⟩ := hx.2.2.2.2.1
  · have c3 : Steps p.tables e below (s₁.setTop (entryFrame m #[.ref x, .int (Int32.ofNat i)] 2)) (T2.setTop (mkF m 8 #[.val (.ref x), .val (.int (Int32.ofNat i))] [.ref x])) := Steps.trans g2 (by
      refine XS.ifNo X2.here hexec rfl (hb hbytes d4) rfl (i0_eq_f (by decide)) ?_
      refine XS.aloadN X2.here hexec rfl (hb hbytes d7) rfl rfl ?_
      exact Steps.refl _)
    obtain ⟨T4, X4, q4, st4⟩ := X2.hget hexec hown (wk W (.fieldLink "java/lang/String" 9 "java/lang/String" "value" "[B")) hx2.2.1 (g := (mkF m 8 #[.val (.ref x), .val (.int (Int32.ofNat i))] [.ref x])) rfl (rest := []) rfl (hb hbytes d8)
    have hh4 := q4.trans hh2
    have c5 : Steps p.tables e below (s₁.setTop (entryFrame m #[.ref x, .int (Int32.ofNat i)] 2)) (T4.setTop (mkF m 12 #[.val (.ref x), .val (.int (Int32.ofNat i))] [.int (Int32.ofNat i), .ref t])) := (c3.trans (st4 _ (Steps.refl _))).trans (by
      refine XS.iloadN X4.here hexec rfl (hb hbytes d11) rfl ?_
      exact Steps.refl _)
    obtain ⟨v6, T6, X6, E6, g6⟩ := X4.callS hexec (LChA.law l t V i (lo8 (f i)) fm) hown (wks W (staticW "java/lang/String" 495 LChA.yN)) (wk W LChA.tab) (W := 0) (Nat.le_of_ble_eq_true rfl) (Nat.le_of_ble_eq_true rfl) (Nat.le_refl _) (Nat.le_refl _) (g := (mkF m 12 #[.val (.ref x), .val (.int (Int32.ofNat i))] [.int (Int32.ofNat i), .ref t])) rfl (by rw [hml]; rfl) c5 (argsL := [.ref t, .int (Int32.ofNat i)]) (rest := []) rfl rfl (by show 2 * 0 + 0 ≤ _; decide) (hb hbytes d12) (⟨rfl, hx.2.2.2.1.mv X4.warmed.alike hh4, (k2 i hi).1, s3.there X4.warmed.alike hh4, rf⟩)
    obtain ⟨rfl, q6⟩ := E6
    rw [chr8_lo8 hr.1 (k2 i hi).2] at g6
    exact ⟨T6, some (.int (f i)), _, _, _, X6, rfl, rfl, rfl, (fun h => by cases h), ⟨rfl, q6.trans hh4⟩, fun fs hl => Steps.trans g6 (X6.ireturnOut hexec hret (narrow_ch hr.1 hr.2) (Or.inr (Or.inr (Or.inr (Or.inl rfl)))) (hb hbytes d15) hl)⟩
  · exact absurd k0 (by decide)
theorem pays {l : Launch} {R : Room} {p : Program} {e : Env} {below : List Frame} {s : State} {sargs : Array Value} {len W : Nat} (x t : Addr) (V : Cell) (n : Nat) (f : Nat → Int32) (z : Int32) (fm : Value) (i : Nat) (htab : tab.before sargs s = true) (hfr : 4 ≤ R.frames) (hlo : W + 53 ≤ R.locals) :
    Back l R p e below s sargs yN len W (fun A₁ a₁ => A₁.cells + 0 ≤ R.cells ∧ A₁.slots + 0 ≤ R.slots ∧ P x t V n f z fm i a₁ A₁.U) (fun A₁ _ v₁ B₁ => E f i v₁ A₁.U B₁.U ∧ B₁.locs = A₁.locs ++ [] ∧ B₁.cells = A₁.cells + 0 ∧ B₁.slots = A₁.slots + 0) :=
  (law l x t V n f z fm i).pays htab hfr (by omega)
end ChN
end StrChars
namespace StrChars.Road
open Jvm Sem ClassFile Op Lib Jvm.Stand Jvm.Free Jvm.Free.XT
open Jvm.Lib.Cold (StaticIs)
/-- the words of String.charAt(int), the Latin-1 road alone -/
abbrev wordsChN : List Jvm.Cond := [.code ChN.yN ChN.yB 2 (some .char), .initialized ST, .fieldLink ST 9 ST "value" "[B", .fieldLink ST 38 ST "COMPACT_STRINGS" "Z", .fieldLink ST 15 ST "coder" "B", .code IsL.yN IsL.yB 1 (some .boolean), .methodLink ST 492 IsL.yN, .declares IsL.yN, .selects ST IsL.yN IsL.yN, .instanceMethod IsL.yN,
  .methodLink ST 495 LChA.yN, .static LChA.yN, .code LChA.yN LChA.yB 2 (some .char), .initialized "java/lang/StringLatin1", .methodLink "java/lang/StringLatin1" 9 JO.Str_checkIndex.yN, .static JO.Str_checkIndex.yN, .code JO.Str_checkIndex.yN JO.Str_checkIndex.yB 2 none,
  .fieldLink ST 1053 "jdk/internal/util/Preconditions" "SIOOBE_FORMATTER" "Ljava/util/function/BiFunction;", .methodLink ST 1059 JC.PreCheck.yN, .static JC.PreCheck.yN, .code JC.PreCheck.yN JC.PreCheck.yB 3 (some .int), .initialized "jdk/internal/util/Preconditions"]
theorem tabChN_of {a : Array Value} {s : State} (h : ∀ w ∈ wordsChN, w.before a s = true) : ChN.tab.before a s = true := by
  have hp : JC.PreCheck.tab.before a s = true := unparts (wk h (.code JC.PreCheck.yN JC.PreCheck.yB 3 (some .int))) (wks h (.initialized JC.PreCheck.yN.cls :: JC.PreCheck.site))
  have qk := consq hp h
  have hk : JO.Str_checkIndex.tab.before a s = true := unparts (wk qk (.code JO.Str_checkIndex.yN JO.Str_checkIndex.yB 2 none)) (wks qk (.initialized JO.Str_checkIndex.yN.cls :: JO.Str_checkIndex.site))
  have ql := consq hk h
  have hl : LChA.tab.before a s = true := unparts (wk ql (.code LChA.yN LChA.yB 2 (some .char))) (wks ql (.initialized LChA.yN.cls :: LChA.site))
  have hi : IsL.tab.before a s = true := unparts (wk h (.code IsL.yN IsL.yB 1 (some .boolean))) (wks h (.initialized IsL.yN.cls :: IsL.site))
  have q := consq hi (consq hl h)
  exact unparts (wk q (.code ChN.yN ChN.yB 2 (some .char))) (wks q (.initialized ChN.yN.cls :: ChN.site))
theorem movedChN {Z s : State} {a0 args : Array Value} (hZ : Z.Warmed39 s.vm) (hw : ∀ d ∈ wordsChN, d.before a0 Z = true) : ∀ d ∈ wordsChN, d.before args s = true := fun d hd => by
  have t : ∀ d ∈ wordsChN, (d.onTables && d.keepsFace) = true := by decide +kernel
  exact RoadKit.mv hZ (hw d hd) (t d hd)
/-- **charAt(i) OF A LATIN-1 STRING**, i < n: the char -/
theorem chN {p : Program} {l : Launch} {e : Env} {R : Room} {s : State} {args : Array Value} {below : List Frame} {len W : Nat} {Z : State} {a0 : Array Value} {h : Heap} (hZ : Z.Warmed39 s.vm) (hw : ∀ d ∈ wordsChN, d.before a0 Z = true) {kI : Nat} (wi : (Jvm.Cond.instantiable ST kI).before a0 Z = true)
    {x t : Addr} {kb : ClassId} {cs : List Int32} {N2 z : Int32} {vs : List Value} {fm : Value} {i : Nat} {j : Int32} (E : RoadKit.Exa Z h x ST) (V : RoadKit.Fld Z h x ST "value" "[B" (.ref t)) (C : RoadKit.Fld Z h x ST "coder" "B" (.int 0)) (K : RoadKit.Arv Z h t kb .byte N2 vs (.int 0)) (hc : CodA cs 0 N2 vs) (hb : ∀ c ∈ cs, ¬ c < 0 ∧ ¬ (65535 : Int32) < c)
    (S : RoadKit.Sta Z h ST "COMPACT_STRINGS" "Z" (.int z)) (hz : ¬ z = 0) (F : RoadKit.Sta Z h "jdk/internal/util/Preconditions" "SIOOBE_FORMATTER" "Ljava/util/function/BiFunction;" fm) (rf : fm.isRef = true) (l2 : cs.length ≤ 4000) (hi : i < cs.length) (hj : j = Int32.ofNat i) (hfr : 4 ≤ R.frames) (hlo : W + 53 ≤ R.locals) :
    Back l R p e below s args (⟨"java/lang/String", "charAt", "(I)C"⟩ : MethodName) len W (fun P a => a = #[.ref x, .int j] ∧ P.U.heap = h ∧ P.cells + 0 ≤ R.cells ∧ P.slots + 0 ≤ R.slots)
      (fun P _ v B => ∃ L, (v = some (.int (cs.getD i 0)) ∧ L = [] ∧ B.U.heap = h) ∧ B.locs = P.locs ++ L ∧ B.cells = P.cells + 0 ∧ B.slots = P.slots + 0) := by
  subst hj
  intro m meth c P g ig mk a X hg hsize hdg hW hn hp'
  obtain ⟨rfl, rfl, r1, r2⟩ := hp'
  have al : Z.vm.Alike P.U.vm := hZ.alike.trans X.warmed.alike
  obtain ⟨A, hx⟩ := txt_of wi al E V C K hc hb l2
  obtain ⟨v, B, X', ⟨⟨hv, hh⟩, hl, hk, hs⟩, st⟩ := ChN.pays x t A cs.length (fun j => cs.getD j 0) z fm i (tabChN_of (movedChN hZ hw)) hfr hlo m meth c P g ig mk _ X hg hsize hdg hW hn ⟨r1, r2, rfl, hx, hi, sta_is al S, hz, sta_is al F, rf⟩
  exact ⟨v, B, X', ⟨[], ⟨hv, rfl, hh⟩, hl, hk, hs⟩, st⟩
/-- what backV says of its String, as the contracts of this text ask it: cs's low bytes, coder 0 -/
theorem codOf {cs : List Int32} {n : Nat} (hn : cs.length = n) (hb : ∀ c ∈ cs, ¬ 255 < c) : CodA cs 0 (Int32.ofNat n) ((cs.map lo8).map Value.int) := Or.inl ⟨rfl, by rw [hn], by simp [List.map_map, Function.comp_def], hb⟩
end StrChars.Road
end Jvm.Pilot.@@N@@
namespace Jvm.Pilot.@@N@@
open Jvm Jvm.ClassFile Sem Op Lib Jvm.Free Jvm.Stand Jvm.LawKit Jvm.RoadKit Bundle Jvm.Pilot.@@N@@.Jvm.D
abbrev vi (x : Int32) : Slot := .val (.int x)
abbrev vj (x : Int64) : Slot := .val (.long x)
abbrev vr (a : Addr) : Slot := .val (.ref a)
abbrev vn : Slot := .val .null
abbrev uu : Slot := .unset
abbrev ss : Slot := .second
theorem own_lt {a b : Nat} (h : a < b) : a < b := h
theorem own_ne {a b : Nat} (h : a ≠ b) : a ≠ b := h
/-- the run from cur comes to an end of which G holds -/
def own_Fin (p : Program) (e : Env) (below : List Frame) (cur : State) (G : State → Outcome → Prop) : Prop :=
  ∃ t o, Steps p.tables e below cur t ∧ t.status = .running ∧ Ended t below o ∧ G t o
theorem own_go {p : Program} {e : Env} {below : List Frame} {cur cur' : State} {G : State → Outcome → Prop} (st : ∀ target, Steps p.tables e below cur' target → Steps p.tables e below cur target) (k : own_Fin p e below cur' G) : own_Fin p e below cur G := by
  obtain ⟨t, o, h, r⟩ := k
  exact ⟨t, o, st _ h, r⟩
theorem own_gs {p : Program} {e : Env} {below : List Frame} {cur cur' : State} {G : State → Outcome → Prop} (st : Steps p.tables e below cur cur') (k : own_Fin p e below cur' G) : own_Fin p e below cur G := by
  obtain ⟨t, o, h, r⟩ := k
  exact ⟨t, o, st.trans h, r⟩
theorem own_le {a b : Nat} (h : Nat.ble a b = true) : a ≤ b := Nat.le_of_ble_eq_true h
theorem own_tw {Z : State} {a0 : Array Value} (hw : ∀ d ∈ tables_1, d.before a0 Z = true) (i : Nat) {d : Cond} (h : tables_1[i]? = some d) : d.before a0 Z = true := hw d (List.mem_of_getElem? h)
theorem own_merge {p : Program} {e : Env} {below : List Frame} {cur : Int32 → State} {cur0 : State} {G : State → Outcome → Prop} {d0 : Int32} (k : own_Fin p e below (cur d0) G) (h : (∀ d, d = d0 → own_Fin p e below (cur d) G) → own_Fin p e below cur0 G) : own_Fin p e below cur0 G := h fun d q => by subst q; exact k
theorem own_lsw {tb : Tables} [Ours tb] {e : Env} {below : List Frame} {T target : State} {m : MethodId} {c : Code} {g : JFrame} (h : At T m c below) (hx : tb.exec = Jvm.exec) (hg : g.method = m) {dflt : Int} {ps : Array (Int × Int)} {len : Nat} {o : Int} {pc0 pc' : Nat} (hpc : g.pc = pc0) (hd : decode c.code g.pc = .ok (.lookupswitch dflt ps, len)) {i : Int32} {rest : List Value} (hs : g.stack = .int i :: rest)
    (hsort : (ps.toList.zip (ps.toList.drop 1)).all (fun (a, next) => a.1 < next.1) = true) (hoff : lookupswitch.offset ps.toList dflt i.toInt = o) (ho : 0 ≤ (pc0 : Int) + o) (hp : ((pc0 : Int) + o).toNat = pc')
    (hr : Steps tb e below (T.setTop { g with pc := pc', stack := rest }) target) : Steps tb e below (T.setTop g) target := by
  subst hg hpc hp
  jvm_step h [h.top, hx, hd, hs, lookupswitch.wp_chain, hsort, hoff, ho]
  exact ⟨by simpa using hsort, hr⟩
theorem own_exaB {Z : State} {h : Heap} {t : Addr} {kb : ClassId} {n : Int32} {vs : List Value} {d : Value} (V : Arv Z h t kb .byte n vs d) (hf : Z.vm.findClass "[B" = some kb) : Exa Z h t "[B" := by
  obtain ⟨c, ⟨h1, ⟨h2, k, h3, comp, h4⟩, h5⟩, rfl, r⟩ := V
  refine ⟨c, k, h1, hf, h3, ?_, fun q => by rw [h4] at q; cases q⟩
  cases hc : c.vm <;> simp [VmData.isStatics]
  exact absurd hc (h2 _)
/-! ## Strings: one fact, its carriage, and who pays a call -/
section OwnStr
variable {Z : State} {h h' : Heap} {x t : Addr} {cs : List Int32} {ws : List Addr}
/-- the String at x, its bytes at t, spells cs -/
def own_Str (Z : State) (h : Heap) (x t : Addr) (cs : List Int32) : Prop := ∃ (k : ClassId) (cd N : Int32) (vs : List Value), Exa Z h x "java/lang/String" ∧ Fld Z h x "java/lang/String" "value" "[B" (.ref t) ∧ Fld Z h x "java/lang/String" "coder" "B" (.int cd) ∧ Arv Z h t k .byte N vs (.int 0) ∧ StrChars.Road.CodA cs cd N vs ∧ (∀ c ∈ cs, ¬ c < 0 ∧ ¬ (65535 : Int32) < c) ∧ cs.length ≤ 4000
theorem own_Str.ext (F : own_Str Z h x t cs) (E : Ext h h') : own_Str Z h' x t cs := by
  obtain ⟨k, cd, N, vs, a, b, c, d, r⟩ := F
  exact ⟨k, cd, N, vs, a.ext E, b.ext E, c.ext E, d.ext E, r⟩
theorem own_Str.keep (F : own_Str Z h x t cs) (K : Keep h h' ws) (q1 : x ∉ ws) (q2 : t ∉ ws) : own_Str Z h' x t cs := by
  obtain ⟨k, cd, N, vs, a, b, c, d, r⟩ := F
  exact ⟨k, cd, N, vs, a.keep K, b.keep K q1, c.keep K q1, d.keep K q2, r⟩
theorem own_Str.exa (F : own_Str Z h x t cs) : Exa Z h x "java/lang/String" := by obtain ⟨k, cd, N, vs, a, r⟩ := F; exact a
theorem own_Str.lt {x t : Nat} (F : own_Str Z h x t cs) : x < h.size ∧ t < h.size := by obtain ⟨k, cd, N, vs, a, b, c, d, r⟩ := F; exact ⟨a.lt, d.lt⟩
end OwnStr
theorem own_nar {c : Int32} (h0 : ¬ c < 0) (h1 : ¬ (65535 : Int32) < c) : nar .char c = c := by
  have h3 := c_i2c c
  show c.toUInt32.toUInt16.toUInt32.toInt32 = c
  rw [Int32.lt_iff_toInt_lt] at h0 h1
  have e0 : (0 : Int32).toInt = 0 := rfl
  have e1 : (65535 : Int32).toInt = 65535 := rfl
  exact Int32.toInt_inj.mp (by omega)
theorem own_up {c : Int32} (h1 : ¬ (255 : Int32) < c) : ¬ (65535 : Int32) < c := by
  rw [Int32.lt_iff_toInt_lt] at h1 ⊢
  have e1 : (65535 : Int32).toInt = 65535 := rfl
  have e2 : (255 : Int32).toInt = 255 := rfl
  omega
theorem own_and255 (x : Int32) : ¬ nar .char ((x &&& (255 : Int32)).toUInt32.toUInt16.toUInt32.toInt32) < 0 ∧ ¬ (255 : Int32) < nar .char ((x &&& (255 : Int32)).toUInt32.toUInt16.toUInt32.toInt32) := by
  have h1 := c_mask x 255 8 (by decide) (by decide)
  have h2 := c_i2c (x &&& (255 : Int32))
  have h3 := c_i2c ((x &&& (255 : Int32)).toUInt32.toUInt16.toUInt32.toInt32)
  have e1 : (255 : Int32).toInt = 255 := rfl
  have e0 : (0 : Int32).toInt = 0 := rfl
  show ¬ ((x &&& (255 : Int32)).toUInt32.toUInt16.toUInt32.toInt32).toUInt32.toUInt16.toUInt32.toInt32 < 0 ∧ ¬ (255 : Int32) < ((x &&& (255 : Int32)).toUInt32.toUInt16.toUInt32.toInt32).toUInt32.toUInt16.toUInt32.toInt32
  rw [Int32.lt_iff_toInt_lt, Int32.lt_iff_toInt_lt, e0, e1]
  simp only [Nat.reducePow, Int.cast_ofNat_Int] at h1
  omega
theorem own_and3 (x : Int32) : (x &&& (3 : Int32)) = 0 ∨ (x &&& (3 : Int32)) = 1 ∨ (x &&& (3 : Int32)) = 2 ∨ (x &&& (3 : Int32)) = 3 := by
  have h1 := c_mask x 3 2 (by decide) (by decide)
  simp only [Nat.reducePow, Int.cast_ofNat_Int] at h1
  have e0 : (0 : Int32).toInt = 0 := rfl
  have e1 : (1 : Int32).toInt = 1 := rfl
  have e2 : (2 : Int32).toInt = 2 := rfl
  have e3 : (3 : Int32).toInt = 3 := rfl
  simp only [← Int32.toInt_inj, e0, e1, e2, e3]
  omega
theorem own_m255 (x : Int32) : ¬ ((x &&& (255 : Int32)).toUInt32.toUInt16.toUInt32.toInt32) < 0 ∧ ¬ (255 : Int32) < ((x &&& (255 : Int32)).toUInt32.toUInt16.toUInt32.toInt32) := by
  have h1 := c_mask x 255 8 (by decide) (by decide)
  have h2 := c_i2c (x &&& (255 : Int32))
  have e1 : (255 : Int32).toInt = 255 := rfl
  have e0 : (0 : Int32).toInt = 0 := rfl
  rw [Int32.lt_iff_toInt_lt, Int32.lt_iff_toInt_lt, e0, e1]
  simp only [Nat.reducePow, Int.cast_ofNat_Int] at h1
  omega
section OwnW
variable {p : Program} {l : Launch} {e : Env} {R : Room} {s : State} {m : MethodId} {args : Array Value} {below : List Frame} {Z : State} {a0 : Array Value} {EL : List (String × Nat)} {h : Heap} {vm0 : Vm}
/-- a callee that may load String constants, and that is handed the objects xs, none of them a constant's -/
theorem own_backS {y : MethodName} {bytes : ByteArray} {maxL : Nat} {ret : Option FieldType} {rm : Room} {len W : Nat} {as' : Array Value} {Q : Option Value → Heap → List Loc → Prop} {xs : List Addr}
    (hM : MetFree l y (head1 [Cond.code y bytes maxL ret] rm) (fun a U => a = as' ∧ Z.Warmed39 U.vm ∧ U.heap = h ∧ CHv Z EL U.vm h ∧ ∀ x ∈ xs, Safe Z EL U.vm h x) (fun _ _ _ _ _ => True) (fun _ U o U' => ∃ v L, o = .returned v ∧ Q v U'.heap L ∧ CHr Z EL U.vm U.heap U'.vm U'.heap ∧ ReturnedEndW U o U' L rm.cells rm.slots))
    (hZ : Z.Warmed39 vm0) (wc : (Cond.code y bytes maxL ret).before a0 Z = true) (wz : (Cond.initialized y.cls).before a0 Z = true) (hf : rm.frames + 1 ≤ R.frames) (hl : W + (maxL + 11) + rm.locals ≤ R.locals) (hEL : EW Z a0 EL) (H : CHv Z EL vm0 h) (hs : ∀ x ∈ xs, Safe Z EL vm0 h x ∧ x < h.size) :
    BackS l R p e below (s.setVm vm0) args y len W (fun A a => a = as' ∧ A.U.heap = h ∧ A.cells + rm.cells ≤ R.cells ∧ A.slots + rm.slots ≤ R.slots)
      (fun A _ v B => ∃ L, Q v B.U.heap L ∧ B.locs = A.locs ++ L ∧ B.cells = A.cells + rm.cells ∧ B.slots = A.slots + rm.slots ∧ CHr Z EL vm0 h B.U.vm B.U.heap) := by
  refine BackS.of_freeW (bytes := bytes) (maxL := maxL) (ret := ret) (E := fun _ first o t L k n => (k = rm.cells ∧ n = rm.slots) ∧ CHr Z EL first.vm first.heap t.vm t.heap ∧ ∃ v, o = .returned v ∧ Q v t.heap L) hM hf hl ?_ ?_ (fun _ _ _ _ _ _ _ _ _ => trivial) ?_ ?_
  · intro m meth c A a Y hp
    have hU : Z.Warmed39 A.U.vm := wtrans (s := s.setVm vm0) hZ Y.warmed
    have w1 : (Cond.code y bytes maxL ret).before a A.U = true := mv hU wc
    refine ⟨?_, w1, mv hU wz, hp.2.2.1, hp.2.2.2⟩
    show (Cond.and _ .tt).before a A.U = true
    rw [Cond.before_and, w1]
    rfl
  · intro m meth c A a g mk Y hp
    have q := CHv.at Y hZ hEL H
    exact ⟨hp.1, wtrans (s := s.setVm vm0) hZ Y.warmed, hp.2.1, q.1, fun x hx => q.safe (hs x hx).2 (hs x hx).1⟩
  · rintro a first o t ⟨v, L, h1, h2, h3, h4⟩
    exact ⟨L, _, _, h4, ⟨rfl, rfl⟩, h3, v, h1, h2⟩
  · rintro m meth c A a g mk v t L k n Y hp - - ⟨⟨rfl, rfl⟩, hC, v', e3, e4⟩
    cases e3
    refine ⟨L, e4, rfl, rfl, rfl, (CHv.at Y hZ hEL H).trans ?_⟩
    rw [← hp.2.1]
    exact hC
end OwnW
section OwnW
variable {p : Program} {l : Launch} {e : Env} {R : Room} {s : State} {m : MethodId} {args : Array Value} {below : List Frame} {Z : State} {a0 : Array Value} {EL : List (String × Nat)} {h : Heap} {vm0 : Vm}
/-- length() -/
theorem own_lenB {len W : Nat} (hZ : Z.Warmed39 s.vm) (hw : ∀ d ∈ tables_1, d.before a0 Z = true) {x t : Addr} {cs : List Int32} {z : Int32} (F : own_Str Z h x t cs) (S : Sta Z h "java/lang/String" "COMPACT_STRINGS" "Z" (.int z)) (hz : ¬ z = 0) (hfr : 2 ≤ R.frames) (hlo : W + 25 ≤ R.locals) :
    Back l R p e below s args (⟨"java/lang/String", "length", "()I"⟩ : MethodName) len W (fun P a => a = #[.ref x] ∧ P.U.heap = h ∧ P.cells + 0 ≤ R.cells ∧ P.slots + 0 ≤ R.slots)
      (fun P _ v B => ∃ L, (v = some (.int (Int32.ofNat cs.length)) ∧ L = [] ∧ B.U.heap = h) ∧ B.locs = P.locs ++ L ∧ B.cells = P.cells + 0 ∧ B.slots = P.slots + 0) := by
  obtain ⟨k, cd, N, vs, f1, f2, f3, f4, f5, f6, f7⟩ := F
  exact StrChars.Road.lenW hZ (fun d hd => hw d ((by decide +kernel : ∀ d ∈ StrChars.Road.wordsLen, d ∈ tables_1) d hd)) (kI := 4) (own_tw hw 6 rfl) f1 f2 f3 f4 f5 f6 S hz f7 hfr hlo
end OwnW
section OwnW
variable {p : Program} {l : Launch} {e : Env} {R : Room} {s : State} {m : MethodId} {args : Array Value} {below : List Frame} {Z : State} {a0 : Array Value} {EL : List (String × Nat)} {h : Heap} {vm0 : Vm}
/-- equals() of two Strings -/
theorem own_eqB {len W : Nat} (hZ : Z.Warmed39 s.vm) (hw : ∀ d ∈ tables_1, d.before a0 Z = true) {x t y t' : Addr} {cs ds : List Int32} {z : Int32} (F : own_Str Z h x t cs) (G : own_Str Z h y t' ds) (S : Sta Z h "java/lang/String" "COMPACT_STRINGS" "Z" (.int z)) (hz : ¬ z = 0) (hfr : 2 ≤ R.frames) (hlo : W + 28 ≤ R.locals) :
    Back l R p e below s args (⟨"java/lang/String", "equals", "(Ljava/lang/Object;)Z"⟩ : MethodName) len W (fun P a => a = #[.ref x, .ref y] ∧ P.U.heap = h ∧ P.cells + 0 ≤ R.cells ∧ P.slots + 0 ≤ R.slots)
      (fun P _ v B => ∃ L, (v = some (.int (if cs = ds then 1 else 0)) ∧ L = [] ∧ B.U.heap = h) ∧ B.locs = P.locs ++ L ∧ B.cells = P.cells + 0 ∧ B.slots = P.slots + 0) := by
  obtain ⟨k, cd, N, vs, f1, f2, f3, f4, f5, f6, f7⟩ := F
  obtain ⟨k', cd', N', vs', g1, g2, g3, g4, g5, g6, g7⟩ := G
  refine Back.mono (StrChars.Road.eqW hZ (fun d hd => hw d ((by decide +kernel : ∀ d ∈ StrChars.Road.wordsEq, d ∈ tables_1) d hd)) (kI := 4) (own_tw hw 6 rfl) f1 f2 f3 f4 f5 f6 f7 g1 g2 g3 g4 g5 g6 g7 S hz hfr hlo) (fun _ _ q => q) ?_
  rintro P a v B - ⟨L, ⟨q, r1, r2⟩, r3⟩
  refine ⟨L, ⟨?_, r1, r2⟩, r3⟩
  rcases q with ⟨q1, q2⟩ | ⟨q1, q2⟩
  · rw [if_pos q2]; exact q1
  · rw [if_neg q2]; exact q1
end OwnW
section OwnW
variable {p : Program} {l : Launch} {e : Env} {R : Room} {s : State} {m : MethodId} {args : Array Value} {below : List Frame} {Z : State} {a0 : Array Value} {EL : List (String × Nat)} {h : Heap} {vm0 : Vm}
/-- charAt(i) of a String whose chars are all below 256 -/
theorem own_chL {len W : Nat} (hZ : Z.Warmed39 s.vm) (hw : ∀ d ∈ tables_1, d.before a0 Z = true) {x t : Addr} {cs : List Int32} {z : Int32} {fm : Value} (F : own_Str Z h x t cs) (hlat : ∀ c ∈ cs, ¬ (255 : Int32) < c) (S : Sta Z h "java/lang/String" "COMPACT_STRINGS" "Z" (.int z)) (hz : ¬ z = 0) (S2 : Sta Z h "jdk/internal/util/Preconditions" "SIOOBE_FORMATTER" "Ljava/util/function/BiFunction;" fm) (rf : fm.isRef = true) {i : Nat} {j : Int32} (hi : i < cs.length) (hj : j = Int32.ofNat i) (hfr : 4 ≤ R.frames) (hlo : W + 53 ≤ R.locals) :
    Back l R p e below s args (⟨"java/lang/String", "charAt", "(I)C"⟩ : MethodName) len W (fun P a => a = #[.ref x, .int j] ∧ P.U.heap = h ∧ P.cells + 0 ≤ R.cells ∧ P.slots + 0 ≤ R.slots)
      (fun P _ v B => ∃ L, (v = some (.int (cs.getD i 0)) ∧ L = [] ∧ B.U.heap = h) ∧ B.locs = P.locs ++ L ∧ B.cells = P.cells + 0 ∧ B.slots = P.slots + 0) := by
  obtain ⟨k, cd, N, vs, f1, f2, f3, f4, f5, f6, f7⟩ := F
  have e : cd = 0 := by
    rcases f5 with ⟨q, -⟩ | ⟨-, -, -, c, hc, q⟩
    · exact q
    · exact absurd q (hlat c hc)
  subst e
  exact StrChars.Road.chN hZ (fun d hd => hw d ((by decide +kernel : ∀ d ∈ StrChars.Road.wordsChN, d ∈ tables_1) d hd)) (kI := 4) (own_tw hw 6 rfl) f1 f2 f3 f4 f5 f6 S hz S2 rf f7 hi hj hfr hlo
end OwnW
section OwnW
variable {p : Program} {l : Launch} {e : Env} {R : Room} {s : State} {m : MethodId} {args : Array Value} {below : List Frame} {Z : State} {a0 : Array Value} {EL : List (String × Nat)} {h : Heap} {vm0 : Vm}
/-- isEmpty() -/
theorem own_empB {len W : Nat} (hZ : Z.Warmed39 s.vm) (hw : ∀ d ∈ tables_1, d.before a0 Z = true) {x t : Addr} {cs : List Int32} (F : own_Str Z h x t cs) (hfr : 1 ≤ R.frames) (hlo : W + 12 ≤ R.locals) :
    Back l R p e below s args (⟨"java/lang/String", "isEmpty", "()Z"⟩ : MethodName) len W (fun P a => a = #[.ref x] ∧ P.U.heap = h ∧ P.cells + 0 ≤ R.cells ∧ P.slots + 0 ≤ R.slots)
      (fun P _ v B => ∃ L, (v = some (.int (if cs.length = 0 then 1 else 0)) ∧ L = [] ∧ B.U.heap = h) ∧ B.locs = P.locs ++ L ∧ B.cells = P.cells + 0 ∧ B.slots = P.slots + 0) := by
  obtain ⟨k, cd, N, vs, f1, f2, f3, f4, f5, f6, f7⟩ := F
  exact StrChars.Road.empW hZ (fun d hd => hw d ((by decide +kernel : ∀ d ∈ StrChars.Road.wordsEmp, d ∈ tables_1) d hd)) (kI := 4) (own_tw hw 6 rfl) f1 f2 f3 f4 f5 f6 f7 hfr hlo
end OwnW
def own_W (Z : State) (a0 : Array Value) : Prop := (∀ d ∈ tables_1, d.before a0 Z = true) ∧ (∃ g : Int32, Sta Z Z.heap "java/lang/String" "COMPACT_STRINGS" "Z" (.int g) ∧ ¬ g = 0) ∧ (∃ f : Value, Sta Z Z.heap "jdk/internal/util/Preconditions" "SIOOBE_FORMATTER" "Ljava/util/function/BiFunction;" f ∧ f.isRef = true)
/-- a char that a lock's name may hold -/
def own_ok (c : Int32) : Prop := (¬ c < 97 ∧ ¬ (122 : Int32) < c) ∨ (¬ c < 65 ∧ ¬ (90 : Int32) < c) ∨ (¬ c < 48 ∧ ¬ (57 : Int32) < c) ∨ c = 46 ∨ c = 95 ∨ c = 58 ∨ c = 45 ∨ c = 47 ∨ c = 64
theorem own_ok_lat {c : Int32} (h : own_ok c) : ¬ c < 0 ∧ ¬ (255 : Int32) < c := by
  have e0 : (0 : Int32).toInt = 0 := rfl
  have e1 : (255 : Int32).toInt = 255 := rfl
  have a1 : (97 : Int32).toInt = 97 := rfl
  have a2 : (122 : Int32).toInt = 122 := rfl
  have a3 : (65 : Int32).toInt = 65 := rfl
  have a4 : (90 : Int32).toInt = 90 := rfl
  have a5 : (48 : Int32).toInt = 48 := rfl
  have a6 : (57 : Int32).toInt = 57 := rfl
  rcases h with h | h | h | rfl | rfl | rfl | rfl | rfl | rfl
  · simp only [Int32.lt_iff_toInt_lt] at h ⊢; omega
  · simp only [Int32.lt_iff_toInt_lt] at h ⊢; omega
  · simp only [Int32.lt_iff_toInt_lt] at h ⊢; omega
  all_goals decide
theorem own_rem (x a m : Int32) (A M : Int) (ha : a.toInt = A) (hm : m.toInt = M) (h0 : 0 ≤ A) (h1 : A ≤ 100) (h2 : 0 < M) (h3 : M ≤ 26) : A ≤ (nar .char ((a + ((x.toUInt32 >>> ((2 : Int32) &&& 31).toUInt32).toInt32) % m).toUInt32.toUInt16.toUInt32.toInt32)).toInt ∧ (nar .char ((a + ((x.toUInt32 >>> ((2 : Int32) &&& 31).toUInt32).toInt32) % m).toUInt32.toUInt16.toUInt32.toInt32)).toInt < A + M := by
  have q1 := c_iushr x 2 2 (by decide) (by decide)
  simp only [Nat.reducePow, Int.cast_ofNat_Int] at q1
  generalize hv : (x.toUInt32 >>> ((2 : Int32) &&& 31).toUInt32).toInt32 = v at q1 ⊢
  have r0 := rng32 x
  have hv0 : 0 ≤ v.toInt := by omega
  have q2 := (c_irem v m M hm).1 hv0
  have q3 := c_iadd a (v % m)
  have q4 := c_i2c (a + v % m)
  have q5 := c_i2c ((a + v % m).toUInt32.toUInt16.toUInt32.toInt32)
  show A ≤ ((a + v % m).toUInt32.toUInt16.toUInt32.toInt32).toUInt32.toUInt16.toUInt32.toInt32.toInt ∧ ((a + v % m).toUInt32.toUInt16.toUInt32.toInt32).toUInt32.toUInt16.toUInt32.toInt32.toInt < A + M
  have r1 := rng32 (a + v % m)
  have q6 : 0 ≤ v.toInt % M ∧ v.toInt % M < M := ⟨Int.emod_nonneg _ (by omega), Int.emod_lt_of_pos _ h2⟩
  omega
theorem own_rem6 (x : Int32) : ∃ i : Nat, i < 6 ∧ ((x.toUInt32 >>> ((2 : Int32) &&& 31).toUInt32).toInt32) % (6 : Int32) = Int32.ofNat i := by
  have q1 := c_iushr x 2 2 (by decide) (by decide)
  simp only [Nat.reducePow, Int.cast_ofNat_Int] at q1
  generalize hv : (x.toUInt32 >>> ((2 : Int32) &&& 31).toUInt32).toInt32 = v at q1 ⊢
  have r0 := rng32 x
  have hv0 : 0 ≤ v.toInt := by omega
  have q2 := (c_irem v 6 6 rfl).1 hv0
  refine ⟨(v.toInt % 6).toNat, by omega, ?_⟩
  apply Int32.toInt_inj.mp
  rw [Int32.toInt_ofNat_of_lt (by omega), q2]
  omega
theorem own_len3 (x : Int32) : ((1 : Int32) + ((x.toUInt32 >>> ((1 : Int32) &&& 31).toUInt32).toInt32) % (3 : Int32)) = 1 ∨ ((1 : Int32) + ((x.toUInt32 >>> ((1 : Int32) &&& 31).toUInt32).toInt32) % (3 : Int32)) = 2 ∨ ((1 : Int32) + ((x.toUInt32 >>> ((1 : Int32) &&& 31).toUInt32).toInt32) % (3 : Int32)) = 3 := by
  have q1 := c_iushr x 1 1 (by decide) (by decide)
  simp only [Nat.reducePow, Int.cast_ofNat_Int] at q1
  generalize hv : (x.toUInt32 >>> ((1 : Int32) &&& 31).toUInt32).toInt32 = v at q1 ⊢
  have r0 := rng32 x
  have hv0 : 0 ≤ v.toInt := by omega
  have q2 := (c_irem v 3 3 rfl).1 hv0
  have q3 := c_iadd 1 (v % 3)
  have r1 := rng32 (1 + v % 3)
  have e1 : (1 : Int32).toInt = 1 := rfl
  have e2 : (2 : Int32).toInt = 2 := rfl
  have e3 : (3 : Int32).toInt = 3 := rfl
  simp only [← Int32.toInt_inj, e1, e2, e3]
  omega
def own_EL : List (String × Nat) := [("com/example/lease_lock/leaselock/LockName", 56), ("com/example/lease_lock/leaselock/LockNameOfPinLaw", 41)]
theorem own_mem_0 : (("com/example/lease_lock/leaselock/LockName", 56) : String × Nat) ∈ own_EL := List.mem_of_getElem? (i := 0) rfl
theorem own_lit_0 : (∀ c ∈ "._:-/@".toList, c.toNat < 256) ∧ "._:-/@".toList.map (fun c => Value.int (Jvm.Lit.byteI c.toNat.toUInt16)) = [.int (46 : Int32), .int (95 : Int32), .int (58 : Int32), .int (45 : Int32), .int (47 : Int32), .int (64 : Int32)] := ⟨by decide, rfl⟩
theorem own_mem_1 : (("com/example/lease_lock/leaselock/LockNameOfPinLaw", 41) : String × Nat) ∈ own_EL := List.mem_of_getElem? (i := 1) rfl
theorem own_lit_1 : (∀ c ∈ "._:-/@".toList, c.toNat < 256) ∧ "._:-/@".toList.map (fun c => Value.int (Jvm.Lit.byteI c.toNat.toUInt16)) = [.int (46 : Int32), .int (95 : Int32), .int (58 : Int32), .int (45 : Int32), .int (47 : Int32), .int (64 : Int32)] := ⟨by decide, rfl⟩
theorem own_EW {Z : State} {a0 : Array Value} (hw : ∀ d ∈ tables_1, d.before a0 Z = true) : EW Z a0 own_EL := (EW.cons (own_tw hw 119 rfl) own_lit_0.1 (EW.cons (own_tw hw 4 rfl) own_lit_1.1 EW.nil))
theorem own_SA {Z : State} {a0 : Array Value} (hw : ∀ d ∈ tables_1, d.before a0 Z = true) : ∀ a ∈ Bundle.stringAtoms, a.before a0 Z = true := fun d hd => hw d ((by decide +kernel : ∀ d ∈ Bundle.stringAtoms, d ∈ tables_1) d hd)
abbrev own_c0 : ByteArray := method_3_code
def own_pick_Q (Z : State) (p0 : Int32) (h0 : Heap) (n0 : Nat) (v : Option Value) (h : Heap) (L : List Loc) : Prop := ∃ c : Int32, v = some (.int c) ∧ own_ok c ∧ Fr n0 L ∧ Keep h0 h []
theorem pn_com_example_lease_lock_leaselock_LockNameOfPinLaw : plainName "com/example/lease_lock/leaselock/LockNameOfPinLaw" = true := by first | (simp [plainName, overriddenIn]; done) | decide +kernel
theorem ef_own_pick (m : MethodId) (x0 : Int32) : entryFrame m #[(.int x0)] 3 = mkF m 0 #[vi x0, .unset, .unset] [] := by first | (simp [entryFrame, mkF, argsToLocals, Value.category]; done) | rfl
abbrev own_n0 : MethodName := ⟨"com/example/lease_lock/leaselock/LockNameOfPinLaw", "pick", "(I)C"⟩
theorem d0_0 : decode own_c0 0 = .ok (.iload_n 0, 1) := by decide +kernel
theorem d0_1 : decode own_c0 1 = .ok (.iconst 3, 1) := by decide +kernel
theorem d0_2 : decode own_c0 2 = .ok (.iand, 1) := by decide +kernel
theorem d0_3 : decode own_c0 3 = .ok (.istore_n 1, 1) := by decide +kernel
theorem d0_4 : decode own_c0 4 = .ok (.iload_n 0, 1) := by decide +kernel
theorem d0_5 : decode own_c0 5 = .ok (.iconst 2, 1) := by decide +kernel
theorem d0_6 : decode own_c0 6 = .ok (.iushr, 1) := by decide +kernel
theorem d0_7 : decode own_c0 7 = .ok (.istore_n 2, 1) := by decide +kernel
theorem d0_8 : decode own_c0 8 = .ok (.iload_n 1, 1) := by decide +kernel
theorem d0_9 : decode own_c0 9 = .ok (.ifCond .ne 12, 3) := by decide +kernel
theorem d0_12 : decode own_c0 12 = .ok (.bipush 97, 2) := by decide +kernel
theorem d0_14 : decode own_c0 14 = .ok (.iload_n 2, 1) := by decide +kernel
theorem d0_15 : decode own_c0 15 = .ok (.bipush 26, 2) := by decide +kernel
theorem d0_17 : decode own_c0 17 = .ok (.irem, 1) := by decide +kernel
theorem d0_18 : decode own_c0 18 = .ok (.iadd, 1) := by decide +kernel
theorem d0_19 : decode own_c0 19 = .ok (.i2c, 1) := by decide +kernel
theorem d0_20 : decode own_c0 20 = .ok (.ireturn, 1) := by decide +kernel
theorem d0_21 : decode own_c0 21 = .ok (.iload_n 1, 1) := by decide +kernel
theorem d0_22 : decode own_c0 22 = .ok (.iconst 1, 1) := by decide +kernel
theorem d0_23 : decode own_c0 23 = .ok (.if_icmp .ne 12, 3) := by decide +kernel
theorem d0_26 : decode own_c0 26 = .ok (.bipush 65, 2) := by decide +kernel
theorem d0_28 : decode own_c0 28 = .ok (.iload_n 2, 1) := by decide +kernel
theorem d0_29 : decode own_c0 29 = .ok (.bipush 26, 2) := by decide +kernel
theorem d0_31 : decode own_c0 31 = .ok (.irem, 1) := by decide +kernel
theorem d0_32 : decode own_c0 32 = .ok (.iadd, 1) := by decide +kernel
theorem d0_33 : decode own_c0 33 = .ok (.i2c, 1) := by decide +kernel
theorem d0_34 : decode own_c0 34 = .ok (.ireturn, 1) := by decide +kernel
theorem d0_35 : decode own_c0 35 = .ok (.iload_n 1, 1) := by decide +kernel
theorem d0_36 : decode own_c0 36 = .ok (.iconst 2, 1) := by decide +kernel
theorem d0_37 : decode own_c0 37 = .ok (.if_icmp .ne 12, 3) := by decide +kernel
theorem d0_40 : decode own_c0 40 = .ok (.bipush 48, 2) := by decide +kernel
theorem d0_42 : decode own_c0 42 = .ok (.iload_n 2, 1) := by decide +kernel
theorem d0_43 : decode own_c0 43 = .ok (.bipush 10, 2) := by decide +kernel
theorem d0_45 : decode own_c0 45 = .ok (.irem, 1) := by decide +kernel
theorem d0_46 : decode own_c0 46 = .ok (.iadd, 1) := by decide +kernel
theorem d0_47 : decode own_c0 47 = .ok (.i2c, 1) := by decide +kernel
theorem d0_48 : decode own_c0 48 = .ok (.ireturn, 1) := by decide +kernel
theorem d0_49 : decode own_c0 49 = .ok (.ldc 41, 2) := by decide +kernel
theorem d0_51 : decode own_c0 51 = .ok (.iload_n 2, 1) := by decide +kernel
theorem d0_52 : decode own_c0 52 = .ok (.bipush 6, 2) := by decide +kernel
theorem d0_54 : decode own_c0 54 = .ok (.irem, 1) := by decide +kernel
theorem d0_55 : decode own_c0 55 = .ok (.invokevirtual 43, 3) := by decide +kernel
theorem pd_0 : parseMethodDescriptor "(I)C" = some ⟨[.int], some .char⟩ := by decide +kernel
abbrev own_n1 : MethodName := ⟨"java/lang/String", "charAt", "(I)C"⟩
theorem d0_58 : decode own_c0 58 = .ok (.ireturn, 1) := by decide +kernel
set_option maxRecDepth 65536 in
set_option maxHeartbeats 40000000 in
theorem own_pick (l : Launch) (Z : State) (a0 : Array Value) (hW : own_W Z a0) (p0 : Int32) (h0 : Heap) (n0 : Nat) (Z0 : n0 ≤ h0.size) (O0 : Old Z n0 h0)  :
    MetFree l own_n0 (head1 (Jvm.Cond.code own_n0 own_c0 3 (some .char) :: []) ({ frames := 4, cells := 2, slots := 28, locals := 66 } : Room)) (fun a U => a = #[(.int p0)] ∧ Z.Warmed39 U.vm ∧ U.heap = h0 ∧ CHv Z own_EL U.vm h0 ∧ ∀ x ∈ ([] : List Addr), Safe Z own_EL U.vm h0 x) (fun _ _ _ _ _ => True) (fun _ U o U' => ∃ v L, o = .returned v ∧ own_pick_Q Z p0 h0 n0 v U'.heap L ∧ CHr Z own_EL U.vm U.heap U'.vm U'.heap ∧ ReturnedEndW U o U' L ({ frames := 4, cells := 2, slots := 28, locals := 66 } : Room).cells ({ frames := 4, cells := 2, slots := 28, locals := 66 } : Room).slots) := by
  refine MetFree.of_bodySF (plainFor_of_name pn_com_example_lease_lock_leaselock_LockNameOfPinLaw) hisR ?_
  intro p e s m args below meth c s₁ Bd hml0 hP hK
  obtain ⟨rfl, hZ, hh, hCH, hSf⟩ := hP
  obtain ⟨hw, ⟨G1, O2, P5⟩, ⟨G3, O4, rG3⟩⟩ := id hW
  have hx := Bd.exec
  have hby := Bd.bytes
  have hml : c.maxLocals = 3 := hml0
  have hown : s.vm.findClass "com/example/lease_lock/leaselock/LockNameOfPinLaw" = some m.cls := findClass_of_methodNamed Bd.named
  have hnm := (name_of_methodNamed Bd.named Bd.method).1
  have X0 : Stand p l e ({ frames := 4, cells := 2, slots := 28, locals := 66 } : Room) (s.setVm s.vm) m #[(.int p0)] below meth c s₁ [] 0 0 := Stand.of_body Bd
  have e0 : s₁.heap = h0 := by rw [← hh, Bd.state]; rfl
  have N0 := Fr.nil n0
  have K0 := Keep.refl h0 []
  have hS0 : s.Since s.vm h0.size := (State.WarmedH.refl s).since _
  have CH0 : CHr Z own_EL s.vm h0 s.vm h0 := CHr.refl hCH
  have hEL := own_EW hw
  have hSA := own_SA hw
  show own_Fin p e below (s₁.setTop (entryFrame m #[(.int p0)] 3)) _
  refine own_gs (castTop (ef_own_pick m p0) (Steps.refl _)) ?_
  show own_Fin p e below (s₁.setTop (mkF m 0 #[vi p0, uu, uu] [])) _
  refine own_gs (cur' := s₁.setTop (mkF m 9 #[vi p0, vi (p0 &&& (3 : Int32)), vi ((p0.toUInt32 >>> ((2 : Int32) &&& 31).toUInt32).toInt32)] [(.int (p0 &&& (3 : Int32)))])) ?_ ?_
  · refine XS.iloadN X0.here hx rfl (hb hby d0_0) rfl ?_
    refine XS.iconst X0.here hx rfl (hb hby d0_1) ?_
    refine XS.iand X0.here hx rfl (hb hby d0_2) rfl ?_
    refine XS.istoreN X0.here hx rfl (hb hby d0_3) rfl (l' := #[vi p0, vi (p0 &&& (3 : Int32)), uu]) rfl ?_
    refine XS.iloadN X0.here hx rfl (hb hby d0_4) rfl ?_
    refine XS.iconst X0.here hx rfl (hb hby d0_5) ?_
    refine XS.iushr X0.here hx rfl (hb hby d0_6) rfl ?_
    refine XS.istoreN X0.here hx rfl (hb hby d0_7) rfl (l' := #[vi p0, vi (p0 &&& (3 : Int32)), vi ((p0.toUInt32 >>> ((2 : Int32) &&& 31).toUInt32).toInt32)]) rfl ?_
    show Steps p.tables e below (s₁.setTop (mkF m 8 #[vi p0, vi (p0 &&& (3 : Int32)), vi ((p0.toUInt32 >>> ((2 : Int32) &&& 31).toUInt32).toInt32)] [])) _
    refine XS.iloadN X0.here hx rfl (hb hby d0_8) rfl ?_
    exact Steps.refl _
  by_cases hc9_11 : (p0 &&& (3 : Int32)) = (0 : Int32)
  · have hr := own_rem p0 97 26 97 26 rfl rfl (by decide) (by decide) (by decide) (by decide)
    have eA : (97 : Int32).toInt = 97 := rfl
    have eB : (122 : Int32).toInt = 122 := rfl
    refine own_gs (cur' := s₁.setTop (mkF m 20 #[vi p0, vi (p0 &&& (3 : Int32)), vi ((p0.toUInt32 >>> ((2 : Int32) &&& 31).toUInt32).toInt32)] [(.int (((97 : Int32) + (((p0.toUInt32 >>> ((2 : Int32) &&& 31).toUInt32).toInt32) % (26 : Int32))).toUInt32.toUInt16.toUInt32.toInt32))])) ?_ ?_
    · refine XS.ifNo X0.here hx rfl (hb hby d0_9) rfl ((if0 _ _).trans (teq (hc9_11 : (p0 &&& (3 : Int32)) = (0 : Int32))).2) ?_
      refine XS.bipush X0.here hx rfl (hb hby d0_12) ?_
      refine XS.iloadN X0.here hx rfl (hb hby d0_14) rfl ?_
      refine XS.bipush X0.here hx rfl (hb hby d0_15) ?_
      refine iremM X0 hx rfl (hb hby d0_17) rfl (by decide) ?_
      refine XS.iadd X0.here hx rfl (hb hby d0_18) rfl ?_
      refine XS.i2c X0.here hx rfl (hb hby d0_19) rfl ?_
      exact Steps.refl _
    obtain ⟨fs, hr, hrun, hended, hRE⟩ := X0.leaveW hS0 (show h0.size ≤ s₁.heap.size by rw [e0]; omega) (v := (some (.int (nar .char (((97 : Int32) + (((p0.toUInt32 >>> ((2 : Int32) &&& 31).toUInt32).toInt32) % (26 : Int32))).toUInt32.toUInt16.toUInt32.toInt32))))) (fun h => by rw [Bd.returns] at h; cases h)
    refine ⟨_, _, retN X0 hx (t := .char) Bd.returns (by simp) (hb hby d0_20) hr, hrun, hended, _, _, rfl, ?_, ?_, hRE.1, hRE.2.1, hRE.2.2.1, hRE.2.2.2.mono (own_le rfl) (own_le rfl)⟩
    · show own_pick_Q Z p0 h0 n0 (some (.int (nar .char (((97 : Int32) + (((p0.toUInt32 >>> ((2 : Int32) &&& 31).toUInt32).toInt32) % (26 : Int32))).toUInt32.toUInt16.toUInt32.toInt32)))) s₁.heap _
      rw [e0]
      exact ⟨_, rfl, (Or.inl ⟨by rw [Int32.lt_iff_toInt_lt]; omega, by rw [Int32.lt_iff_toInt_lt]; omega⟩), N0, K0⟩
    · have hfin := CH0.trans (CHv.at X0 hZ hEL CH0.1)
      rw [hh]
      show CHr Z own_EL s.vm h0 s₁.vm s₁.heap
      rw [e0]
      exact hfin
  · refine own_gs (cur' := s₁.setTop (mkF m 23 #[vi p0, vi (p0 &&& (3 : Int32)), vi ((p0.toUInt32 >>> ((2 : Int32) &&& 31).toUInt32).toInt32)] [(.int (1 : Int32)), (.int (p0 &&& (3 : Int32)))])) ?_ ?_
    · refine XS.ifYes X0.here hx rfl (pc0 := 9) (pc' := 21) rfl (hb hby d0_9) rfl ((if0 _ _).trans (feq (hc9_11 : ¬ ((p0 &&& (3 : Int32)) = (0 : Int32)))).2) (by decide) (by decide) ?_
      refine XS.iloadN X0.here hx rfl (hb hby d0_21) rfl ?_
      refine XS.iconst X0.here hx rfl (hb hby d0_22) ?_
      exact Steps.refl _
    by_cases hc23_12 : (p0 &&& (3 : Int32)) = (1 : Int32)
    · have hr := own_rem p0 65 26 65 26 rfl rfl (by decide) (by decide) (by decide) (by decide)
      have eA : (65 : Int32).toInt = 65 := rfl
      have eB : (90 : Int32).toInt = 90 := rfl
      refine own_gs (cur' := s₁.setTop (mkF m 34 #[vi p0, vi (p0 &&& (3 : Int32)), vi ((p0.toUInt32 >>> ((2 : Int32) &&& 31).toUInt32).toInt32)] [(.int (((65 : Int32) + (((p0.toUInt32 >>> ((2 : Int32) &&& 31).toUInt32).toInt32) % (26 : Int32))).toUInt32.toUInt16.toUInt32.toInt32))])) ?_ ?_
      · refine XS.icmpNo X0.here hx rfl (hb hby d0_23) rfl (teq (hc23_12 : (p0 &&& (3 : Int32)) = (1 : Int32))).2 ?_
        refine XS.bipush X0.here hx rfl (hb hby d0_26) ?_
        refine XS.iloadN X0.here hx rfl (hb hby d0_28) rfl ?_
        refine XS.bipush X0.here hx rfl (hb hby d0_29) ?_
        refine iremM X0 hx rfl (hb hby d0_31) rfl (by decide) ?_
        refine XS.iadd X0.here hx rfl (hb hby d0_32) rfl ?_
        refine XS.i2c X0.here hx rfl (hb hby d0_33) rfl ?_
        exact Steps.refl _
      obtain ⟨fs, hr, hrun, hended, hRE⟩ := X0.leaveW hS0 (show h0.size ≤ s₁.heap.size by rw [e0]; omega) (v := (some (.int (nar .char (((65 : Int32) + (((p0.toUInt32 >>> ((2 : Int32) &&& 31).toUInt32).toInt32) % (26 : Int32))).toUInt32.toUInt16.toUInt32.toInt32))))) (fun h => by rw [Bd.returns] at h; cases h)
      refine ⟨_, _, retN X0 hx (t := .char) Bd.returns (by simp) (hb hby d0_34) hr, hrun, hended, _, _, rfl, ?_, ?_, hRE.1, hRE.2.1, hRE.2.2.1, hRE.2.2.2.mono (own_le rfl) (own_le rfl)⟩
      · show own_pick_Q Z p0 h0 n0 (some (.int (nar .char (((65 : Int32) + (((p0.toUInt32 >>> ((2 : Int32) &&& 31).toUInt32).toInt32) % (26 : Int32))).toUInt32.toUInt16.toUInt32.toInt32)))) s₁.heap _
        rw [e0]
        exact ⟨_, rfl, (Or.inr (Or.inl ⟨by rw [Int32.lt_iff_toInt_lt]; omega, by rw [Int32.lt_iff_toInt_lt]; omega⟩)), N0, K0⟩
      · have hfin := CH0.trans (CHv.at X0 hZ hEL CH0.1)
        rw [hh]
        show CHr Z own_EL s.vm h0 s₁.vm s₁.heap
        rw [e0]
        exact hfin
    · refine own_gs (cur' := s₁.setTop (mkF m 37 #[vi p0, vi (p0 &&& (3 : Int32)), vi ((p0.toUInt32 >>> ((2 : Int32) &&& 31).toUInt32).toInt32)] [(.int (2 : Int32)), (.int (p0 &&& (3 : Int32)))])) ?_ ?_
      · refine XS.icmpYes X0.here hx rfl (pc0 := 23) (pc' := 35) rfl (hb hby d0_23) rfl (feq (hc23_12 : ¬ ((p0 &&& (3 : Int32)) = (1 : Int32)))).2 (by decide) (by decide) ?_
        refine XS.iloadN X0.here hx rfl (hb hby d0_35) rfl ?_
        refine XS.iconst X0.here hx rfl (hb hby d0_36) ?_
        exact Steps.refl _
      by_cases hc37_13 : (p0 &&& (3 : Int32)) = (2 : Int32)
      · have hr := own_rem p0 48 10 48 10 rfl rfl (by decide) (by decide) (by decide) (by decide)
        have eA : (48 : Int32).toInt = 48 := rfl
        have eB : (57 : Int32).toInt = 57 := rfl
        refine own_gs (cur' := s₁.setTop (mkF m 48 #[vi p0, vi (p0 &&& (3 : Int32)), vi ((p0.toUInt32 >>> ((2 : Int32) &&& 31).toUInt32).toInt32)] [(.int (((48 : Int32) + (((p0.toUInt32 >>> ((2 : Int32) &&& 31).toUInt32).toInt32) % (10 : Int32))).toUInt32.toUInt16.toUInt32.toInt32))])) ?_ ?_
        · refine XS.icmpNo X0.here hx rfl (hb hby d0_37) rfl (teq (hc37_13 : (p0 &&& (3 : Int32)) = (2 : Int32))).2 ?_
          refine XS.bipush X0.here hx rfl (hb hby d0_40) ?_
          refine XS.iloadN X0.here hx rfl (hb hby d0_42) rfl ?_
          refine XS.bipush X0.here hx rfl (hb hby d0_43) ?_
          refine iremM X0 hx rfl (hb hby d0_45) rfl (by decide) ?_
          refine XS.iadd X0.here hx rfl (hb hby d0_46) rfl ?_
          refine XS.i2c X0.here hx rfl (hb hby d0_47) rfl ?_
          exact Steps.refl _
        obtain ⟨fs, hr, hrun, hended, hRE⟩ := X0.leaveW hS0 (show h0.size ≤ s₁.heap.size by rw [e0]; omega) (v := (some (.int (nar .char (((48 : Int32) + (((p0.toUInt32 >>> ((2 : Int32) &&& 31).toUInt32).toInt32) % (10 : Int32))).toUInt32.toUInt16.toUInt32.toInt32))))) (fun h => by rw [Bd.returns] at h; cases h)
        refine ⟨_, _, retN X0 hx (t := .char) Bd.returns (by simp) (hb hby d0_48) hr, hrun, hended, _, _, rfl, ?_, ?_, hRE.1, hRE.2.1, hRE.2.2.1, hRE.2.2.2.mono (own_le rfl) (own_le rfl)⟩
        · show own_pick_Q Z p0 h0 n0 (some (.int (nar .char (((48 : Int32) + (((p0.toUInt32 >>> ((2 : Int32) &&& 31).toUInt32).toInt32) % (10 : Int32))).toUInt32.toUInt16.toUInt32.toInt32)))) s₁.heap _
          rw [e0]
          exact ⟨_, rfl, (Or.inr (Or.inr (Or.inl ⟨by rw [Int32.lt_iff_toInt_lt]; omega, by rw [Int32.lt_iff_toInt_lt]; omega⟩))), N0, K0⟩
        · have hfin := CH0.trans (CHv.at X0 hZ hEL CH0.1)
          rw [hh]
          show CHr Z own_EL s.vm h0 s₁.vm s₁.heap
          rw [e0]
          exact hfin
      · refine own_gs (cur' := s₁.setTop (mkF m 49 #[vi p0, vi (p0 &&& (3 : Int32)), vi ((p0.toUInt32 >>> ((2 : Int32) &&& 31).toUInt32).toInt32)] [])) ?_ ?_
        · refine XS.icmpYes X0.here hx rfl (pc0 := 37) (pc' := 49) rfl (hb hby d0_37) rfl (feq (hc37_13 : ¬ ((p0 &&& (3 : Int32)) = (2 : Int32)))).2 (by decide) (by decide) ?_
          exact Steps.refl _
        obtain ⟨sa14, T14, h14, k14, sb14, c14, X14, e14, E14, hS14, hk14, hZ14, hown14, A14, Fc14, Fv14, V14, lta14, ltt14, hC14, Li14, ne14, st14⟩ := ldcCH X0 hx hZ hown (own_tw hw 4 rfl) hSA e0 hS0 (show h0.size ≤ h0.size by omega) hEL (own_mem_1) CH0.1 (vs := [.int (46 : Int32), .int (95 : Int32), .int (58 : Int32), .int (45 : Int32), .int (47 : Int32), .int (64 : Int32)]) (z := (6 : Int32)) own_lit_1 (by decide) rfl (g := (mkF m 49 #[vi p0, vi (p0 &&& (3 : Int32)), vi ((p0.toUInt32 >>> ((2 : Int32) &&& 31).toUInt32).toInt32)] [])) rfl (hb hby d0_49) (n := 24) (by decide) (by decide) (by decide) (by decide)
        replace lta14 := own_lt lta14
        replace ltt14 := own_lt ltt14
        refine own_go st14 ?_
        show own_Fin p e below (T14.setTop (mkF m 51 #[vi p0, vi (p0 &&& (3 : Int32)), vi ((p0.toUInt32 >>> ((2 : Int32) &&& 31).toUInt32).toInt32)] [(.ref sa14)])) _
        have z15 := E14.1
        have K15 := K0.ext E14
        have O15 := O0.ext E14
        have CH15 := CH0.trans hC14
        have Sl14 : own_Str Z h14 sa14 sb14 [46, 95, 58, 45, 47, 64] := ⟨_, _, _, _, A14, Fv14, Fc14, V14, Or.inl ⟨rfl, rfl, rfl, by decide⟩, by decide, by decide⟩
        refine own_gs (cur' := T14.setTop (mkF m 55 #[vi p0, vi (p0 &&& (3 : Int32)), vi ((p0.toUInt32 >>> ((2 : Int32) &&& 31).toUInt32).toInt32)] [(.int (((p0.toUInt32 >>> ((2 : Int32) &&& 31).toUInt32).toInt32) % (6 : Int32))), (.ref sa14)])) ?_ ?_
        · refine XS.iloadN X14.here hx rfl (hb hby d0_51) rfl ?_
          refine XS.bipush X14.here hx rfl (hb hby d0_52) ?_
          refine iremM X14 hx rfl (hb hby d0_54) rfl (by decide) ?_
          exact Steps.refl _
        obtain ⟨i, hi, hie⟩ := own_rem6 p0
        rw [hie]
        show own_Fin p e below (T14.setTop (mkF m 55 #[vi p0, vi (p0 &&& (3 : Int32)), vi ((p0.toUInt32 >>> ((2 : Int32) &&& 31).toUInt32).toInt32)] [(.int (Int32.ofNat i)), (.ref sa14)])) _
        obtain ⟨cq16, kq16, q16a, q16b, q16c⟩ := isOf hZ14 e14 A14
        obtain ⟨_, _, ⟨T16, L16, k16, n16⟩, -, X16, ⟨Lc16, hQ16, l16, y16, z16⟩, st16⟩ := X14.virtualBack hx (y := own_n1) (z := own_n1) hown14 (mvT hZ14 (own_tw hw 12 rfl)) (mvT hZ14 (own_tw hw 13 rfl)) (notFace_of_selects (args := #[]) (mvT hZ14 (own_tw hw 15 rfl))) (mvT hZ14 (own_tw hw 15 rfl)) (mvT hZ14 (own_tw hw 14 rfl)) (by decide) (own_chL (W := 0) hZ14 hw Sl14 (by decide) (O2.ext O15.2) P5 (O4.ext O15.2) rG3 (i := i) hi rfl (by decide) (by decide)) q16a q16c (g := (mkF m 55 #[vi p0, vi (p0 &&& (3 : Int32)), vi ((p0.toUInt32 >>> ((2 : Int32) &&& 31).toUInt32).toInt32)] [(.int (Int32.ofNat i)), (.ref sa14)])) rfl (by rw [hml]; rfl) (Steps.refl _) (argsL := [(.int (Int32.ofNat i))]) (rest := []) (lenOf pd_0 rfl) rfl (own_le rfl) (hb hby d0_55) (fun _ _ => ⟨rfl, e14, (by decide : 2 + 0 ≤ 2), (by decide : 28 + 0 ≤ 28)⟩)
        dsimp only [Pt.U, Pt.locs, Pt.cells, Pt.slots] at X16 l16 y16 z16 st16 hQ16
        subst l16 y16 z16
        obtain ⟨rfl, rfl, eh16⟩ := hQ16
        have N16 := Fr.app N0 (Fr.nil n0)
        refine own_gs st16 ?_
        show own_Fin p e below (T16.setTop (mkF m 58 #[vi p0, vi (p0 &&& (3 : Int32)), vi ((p0.toUInt32 >>> ((2 : Int32) &&& 31).toUInt32).toInt32)] [(.int ([(46 : Int32), (95 : Int32), (58 : Int32), (45 : Int32), (47 : Int32), (64 : Int32)].getD i 0))])) _
        have own_ok_i : own_ok (nar .char ([(46 : Int32), (95 : Int32), (58 : Int32), (45 : Int32), (47 : Int32), (64 : Int32)].getD i 0)) := by
          have hi6 : i = 0 ∨ i = 1 ∨ i = 2 ∨ i = 3 ∨ i = 4 ∨ i = 5 := by have := hi; omega
          rcases hi6 with rfl | rfl | rfl | rfl | rfl | rfl <;> (unfold own_ok; decide)
        obtain ⟨fs, hr, hrun, hended, hRE⟩ := X16.leaveW hS14 (show k14 ≤ T16.heap.size by rw [eh16]; omega) (v := (some (.int (nar .char ([(46 : Int32), (95 : Int32), (58 : Int32), (45 : Int32), (47 : Int32), (64 : Int32)].getD i 0))))) (fun h => by rw [Bd.returns] at h; cases h)
        refine ⟨_, _, retN X16 hx (t := .char) Bd.returns (by simp) (hb hby d0_58) hr, hrun, hended, _, _, rfl, ?_, ?_, hRE.1, hRE.2.1, hRE.2.2.1, hRE.2.2.2.mono (own_le rfl) (own_le rfl)⟩
        · show own_pick_Q Z p0 h0 n0 (some (.int (nar .char ([(46 : Int32), (95 : Int32), (58 : Int32), (45 : Int32), (47 : Int32), (64 : Int32)].getD i 0)))) T16.heap _
          rw [eh16]
          exact ⟨_, rfl, own_ok_i, N16, K15⟩
        · have hfin := CH15.trans (CHv.at X16 hZ14 hEL CH15.1)
          rw [hh]
          show CHr Z own_EL s.vm h0 T16.vm T16.heap
          rw [eh16]
          exact hfin
abbrev own_c1 : ByteArray := method_4_code
def own_make1_Q (Z : State) (c0 c1 c2 : Int32) (h0 : Heap) (n0 : Nat) (v : Option Value) (h : Heap) (L : List Loc) : Prop := ∃ a t : Nat, v = some (.ref a) ∧ Fr n0 L ∧ Keep h0 h [] ∧ own_Str Z h a t [c0] ∧ Fld Z h a "java/lang/String" "hash" "I" (.int (0 : Int32)) ∧ Fld Z h a "java/lang/String" "hashIsZero" "Z" (.int (0 : Int32)) ∧ Exa Z h t "[B" ∧ h0.size ≤ a ∧ h0.size ≤ t
theorem ef_own_make1 (m : MethodId) (x0 : Int32) (x1 : Int32) (x2 : Int32) (x3 : Int32) : entryFrame m #[(.int x0), (.int x1), (.int x2), (.int x3)] 4 = mkF m 0 #[vi x0, vi x1, vi x2, vi x3] [] := by first | (simp [entryFrame, mkF, argsToLocals, Value.category]; done) | rfl
abbrev own_n2 : MethodName := ⟨"com/example/lease_lock/leaselock/LockNameOfPinLaw", "make", "(CCCI)Ljava/lang/String;"⟩
theorem d1_0 : decode own_c1 0 = .ok (.iload_n 3, 1) := by decide +kernel
theorem d1_1 : decode own_c1 1 = .ok (.iconst 1, 1) := by decide +kernel
theorem d1_2 : decode own_c1 2 = .ok (.if_icmp .ne 18, 3) := by decide +kernel
theorem d1_5 : decode own_c1 5 = .ok (.new 24, 3) := by decide +kernel
theorem d1_8 : decode own_c1 8 = .ok (.dup, 1) := by decide +kernel
theorem d1_9 : decode own_c1 9 = .ok (.iconst 1, 1) := by decide +kernel
theorem d1_10 : decode own_c1 10 = .ok (.newarray .char, 2) := by decide +kernel
theorem d1_12 : decode own_c1 12 = .ok (.dup, 1) := by decide +kernel
theorem d1_13 : decode own_c1 13 = .ok (.iconst 0, 1) := by decide +kernel
theorem d1_14 : decode own_c1 14 = .ok (.iload_n 0, 1) := by decide +kernel
theorem d1_15 : decode own_c1 15 = .ok (.castore, 1) := by decide +kernel
theorem d1_16 : decode own_c1 16 = .ok (.invokespecial 46, 3) := by decide +kernel
theorem pd_1 : parseMethodDescriptor "([C)V" = some ⟨[(.array .char)], none⟩ := by decide +kernel
abbrev own_n3 : MethodName := ⟨"java/lang/String", "<init>", "([C)V"⟩
theorem d1_19 : decode own_c1 19 = .ok (.areturn, 1) := by decide +kernel
set_option maxRecDepth 65536 in
set_option maxHeartbeats 40000000 in
theorem own_make1 (l : Launch) (Z : State) (a0 : Array Value) (hW : own_W Z a0) (c0 c1 c2 : Int32) (h0 : Heap) (n0 : Nat) (Z0 : n0 ≤ h0.size) (O0 : Old Z n0 h0) (hc0 : own_ok c0) (hc1 : own_ok c1) (hc2 : own_ok c2) :
    MetFree l own_n2 (head1 (Jvm.Cond.code own_n2 own_c1 4 (some (.object "java/lang/String")) :: []) ({ frames := 4, cells := 3, slots := 6, locals := 66 } : Room)) (fun a U => a = #[(.int c0), (.int c1), (.int c2), (.int (1 : Int32))] ∧ Z.Warmed39 U.vm ∧ U.heap = h0) (fun _ _ _ _ _ => True) (fun _ U o U' => ∃ v L, o = .returned v ∧ own_make1_Q Z c0 c1 c2 h0 n0 v U'.heap L ∧ FrameEnd U o U' L ({ frames := 4, cells := 3, slots := 6, locals := 66 } : Room).cells ({ frames := 4, cells := 3, slots := 6, locals := 66 } : Room).slots) := by
  refine MetFree.of_bodySF (plainFor_of_name pn_com_example_lease_lock_leaselock_LockNameOfPinLaw) hisR ?_
  intro p e s m args below meth c s₁ Bd hml0 hP hK
  obtain ⟨rfl, hZ, hh⟩ := hP
  obtain ⟨hw, ⟨G1, O2, P5⟩, ⟨G3, O4, rG3⟩⟩ := id hW
  have hx := Bd.exec
  have hby := Bd.bytes
  have hml : c.maxLocals = 4 := hml0
  have hown : s.vm.findClass "com/example/lease_lock/leaselock/LockNameOfPinLaw" = some m.cls := findClass_of_methodNamed Bd.named
  have hnm := (name_of_methodNamed Bd.named Bd.method).1
  have X0 : Stand p l e ({ frames := 4, cells := 3, slots := 6, locals := 66 } : Room) s m #[(.int c0), (.int c1), (.int c2), (.int (1 : Int32))] below meth c s₁ [] 0 0 := Stand.of_body Bd
  have e0 : s₁.heap = h0 := by rw [← hh, Bd.state]; rfl
  have N0 := Fr.nil n0
  have K0 := Keep.refl h0 []
  show own_Fin p e below (s₁.setTop (entryFrame m #[(.int c0), (.int c1), (.int c2), (.int (1 : Int32))] 4)) _
  refine own_gs (castTop (ef_own_make1 m c0 c1 c2 (1 : Int32)) (Steps.refl _)) ?_
  show own_Fin p e below (s₁.setTop (mkF m 0 #[vi c0, vi c1, vi c2, vi (1 : Int32)] [])) _
  refine own_gs (cur' := s₁.setTop (mkF m 5 #[vi c0, vi c1, vi c2, vi (1 : Int32)] [])) ?_ ?_
  · refine XS.iloadN X0.here hx rfl (hb hby d1_0) rfl ?_
    refine XS.iconst X0.here hx rfl (hb hby d1_1) ?_
    refine XS.icmpNo X0.here hx rfl (hb hby d1_2) rfl (teq ((by decide) : (1 : Int32) = (1 : Int32))).2 ?_
    exact Steps.refl _
  obtain ⟨T11, h11, X11, e11, E11, A11, D11, -, st11⟩ := newO X0 hx hZ hown (own_tw hw 40 rfl) (own_tw hw 6 rfl) (own_tw hw 5 rfl) e0 (g := (mkF m 5 #[vi c0, vi c1, vi c2, vi (1 : Int32)] [])) rfl (hb hby d1_5) (by decide) (by decide)
  obtain ⟨b11, g11⟩ : ∃ z, z = h0.size := ⟨_, rfl⟩
  rw [← g11] at A11 D11 st11
  have lt11 := own_lt A11.lt
  refine own_go st11 ?_
  show own_Fin p e below (T11.setTop (mkF m 8 #[vi c0, vi c1, vi c2, vi (1 : Int32)] [(.ref b11)])) _
  have z12 := E11.1
  have K12 := K0.ext E11
  have O12 := O0.ext E11
  have F11_value : Fld Z h11 b11 "java/lang/String" "value" "[B" .null := D11 (Or.inr (own_tw hw 8 rfl)) (ty := (.array .byte)) (by decide)
  have F11_coder : Fld Z h11 b11 "java/lang/String" "coder" "B" (.int (0 : Int32)) := D11 (Or.inr (own_tw hw 9 rfl)) (ty := .byte) (by decide)
  have F11_hash : Fld Z h11 b11 "java/lang/String" "hash" "I" (.int (0 : Int32)) := D11 (Or.inl (own_tw hw 158 rfl)) (ty := .int) (by decide)
  have F11_hashIsZero : Fld Z h11 b11 "java/lang/String" "hashIsZero" "Z" (.int (0 : Int32)) := D11 (Or.inl (own_tw hw 160 rfl)) (ty := .boolean) (by decide)
  refine own_gs (cur' := T11.setTop (mkF m 10 #[vi c0, vi c1, vi c2, vi (1 : Int32)] [(.int (1 : Int32)), (.ref b11), (.ref b11)])) ?_ ?_
  · refine XS.dup X11.here hx rfl (hb hby d1_8) rfl rfl ?_
    refine XS.iconst X11.here hx rfl (hb hby d1_9) ?_
    exact Steps.refl _
  obtain ⟨T13, h13, k13, X13, e13, E13, A13, st13⟩ := newP X11 hx hZ (own_tw hw 41 rfl) e11 (g := (mkF m 10 #[vi c0, vi c1, vi c2, vi (1 : Int32)] [(.int (1 : Int32)), (.ref b11), (.ref b11)])) rfl (hb hby d1_10) rfl (by decide) (cap := 1) (by decide) (by decide) (by decide) (by decide)
  obtain ⟨b13, g13⟩ : ∃ z, z = h11.size := ⟨_, rfl⟩
  rw [← g13] at A13 st13
  have lt13 := own_lt A13.lt
  refine own_go st13 ?_
  show own_Fin p e below (T13.setTop (mkF m 12 #[vi c0, vi c1, vi c2, vi (1 : Int32)] [(.ref b13), (.ref b11), (.ref b11)])) _
  have z14 := E13.1
  have K14 := K12.ext E13
  have O14 := O12.ext E13
  have V13 : Arv Z h13 b13 k13 .char (1 : Int32) [(.int (0 : Int32))] (.int (0 : Int32)) := (Arv.new A13 (by decide)).pad (pad_rep [] (.int (0 : Int32)) 1)
  refine own_gs (cur' := T13.setTop (mkF m 15 #[vi c0, vi c1, vi c2, vi (1 : Int32)] [(.int c0), (.int (0 : Int32)), (.ref b13), (.ref b13), (.ref b11), (.ref b11)])) ?_ ?_
  · refine XS.dup X13.here hx rfl (hb hby d1_12) rfl rfl ?_
    refine XS.iconst X13.here hx rfl (hb hby d1_13) ?_
    refine XS.iloadN X13.here hx rfl (hb hby d1_14) rfl ?_
    exact Steps.refl _
  obtain ⟨cl15, Ar15, q15, S15, M15, Hs15, G15⟩ := id V13
  have hin15 : ¬ ((0 : Int32) < 0 ∨ cl15.slots.size ≤ ((0 : Int32)).toNatClampNeg) := inb_of S15 ⟨by decide, by decide⟩
  obtain ⟨T15, h15, X15, e15, W15, st15⟩ := stC X13 hx hZ e13 Ar15 (j := (0 : Int32)) hin15 (g := (mkF m 15 #[vi c0, vi c1, vi c2, vi (1 : Int32)] [(.int c0), (.int (0 : Int32)), (.ref b13), (.ref b13), (.ref b11), (.ref b11)])) rfl rfl (hb hby d1_15)
  have V15 := Arv.set Ar15 q15 S15 M15 Hs15 G15 (fits_nar_char _) W15 0 rfl (Nat.le_of_ble_eq_true rfl)
  refine own_go st15 ?_
  show own_Fin p e below (T15.setTop (mkF m 16 #[vi c0, vi c1, vi c2, vi (1 : Int32)] [(.ref b13), (.ref b11), (.ref b11)])) _
  have z16 := W15.size
  have K16 := K14.wr W15 (Or.inr (by omega))
  have O16 := O14.wr W15 (by omega)
  have N16 := Fr.snoc X15 N0 (by omega)
  have f17 := ((A11.ext E13).wr W15)
  have f18 := ((F11_value.ext E13).other W15 (Or.inl (own_ne (a := b11) (b := b13) (by omega))))
  have f19 := ((F11_coder.ext E13).other W15 (Or.inl (own_ne (a := b11) (b := b13) (by omega))))
  have f20 := ((F11_hash.ext E13).other W15 (Or.inl (own_ne (a := b11) (b := b13) (by omega))))
  have f21 := ((F11_hashIsZero.ext E13).other W15 (Or.inl (own_ne (a := b11) (b := b13) (by omega))))
  have hws : ∀ d ∈ StrChars.Road.words, d.before a0 Z = true := fun d hd => hw d ((by decide +kernel : ∀ d ∈ StrChars.Road.words, d ∈ tables_1) d hd)
  have hp : ∀ c ∈ ([(nar .char c0)] : List Int32), ¬ c < 0 ∧ ¬ (255 : Int32) < c := by
    intro c hc
    simp only [List.mem_cons, List.not_mem_nil, or_false] at hc
    rcases hc with rfl
    · rw [own_nar (own_ok_lat hc0).1 (own_up (own_ok_lat hc0).2)]; exact own_ok_lat hc0
  obtain ⟨_, _, ⟨T22, L22, k22, n22⟩, -, X22, ⟨Lc22, hQ22, l22, y22, z22⟩, st22⟩ := X15.specialBack hx (y := own_n3) rfl hown (mvT hZ (own_tw hw 42 rfl)) (mvT hZ (own_tw hw 43 rfl)) (mvT hZ (own_tw hw 44 rfl)) (by decide) (StrChars.Road.backArv (W := 1) hZ hws (kI := 4) (own_tw hw 6 rfl) (cs := ([(nar .char c0)] : List Int32)) f17 f18 f19 V15 (O2.ext O16.2) P5 rfl (Nat.le_of_ble_eq_true rfl) (Nat.le_of_ble_eq_true rfl) (fun c hc => (hp c hc).2) (by decide) (by decide)) (g := (mkF m 16 #[vi c0, vi c1, vi c2, vi (1 : Int32)] [(.ref b13), (.ref b11), (.ref b11)])) rfl (by rw [hml]; rfl) (Steps.refl _) (a := b11) (argsL := [(.ref b13)]) (rest := [(.ref b11)]) (lenOf pd_1 rfl) rfl (own_le rfl) (hb hby d1_16) (fun _ _ => ⟨rfl, e15, (by decide : 2 + 1 ≤ 3), (by decide : 5 + 1 ≤ 6)⟩)
  dsimp only [Pt.U, Pt.locs, Pt.cells, Pt.slots] at X22 l22 y22 z22 st22 hQ22
  subst l22 y22 z22
  obtain ⟨rfl, Lq22, Kq22, sz22, g22a, g22c, g22b, ⟨kb22, hfc22, g22d⟩, kp22⟩ := hQ22
  obtain ⟨t22, gt22⟩ : ∃ z, z = h15.size := ⟨_, rfl⟩
  rw [← gt22] at g22c g22d
  have N22 := Fr.app N16 (show Fr n0 Lc22 from fun y hy => by rw [Lq22 y hy]; omega)
  have z23 := Kq22.1
  have K23 := K16.trans Kq22 (allS (Or.inr (by omega)) all0)
  have O23 := O16.keep Kq22 (allS (by omega) all0)
  have Fk22_hash := kp22 _ _ _ _ f20 (slot_ne (Or.inl (own_tw hw 158 rfl)) (Or.inr (own_tw hw 8 rfl)) (by decide) (t := .int) (t' := (.array .byte)) (by decide) (by decide)) (slot_ne (Or.inl (own_tw hw 158 rfl)) (Or.inr (own_tw hw 9 rfl)) (by decide) (t := .int) (t' := .byte) (by decide) (by decide))
  have Fk22_hashIsZero := kp22 _ _ _ _ f21 (slot_ne (Or.inl (own_tw hw 160 rfl)) (Or.inr (own_tw hw 8 rfl)) (by decide) (t := .boolean) (t' := (.array .byte)) (by decide) (by decide)) (slot_ne (Or.inl (own_tw hw 160 rfl)) (Or.inr (own_tw hw 9 rfl)) (by decide) (t := .boolean) (t' := .byte) (by decide) (by decide))
  have F22 : own_Str Z T22.heap b11 t22 ([(nar .char c0)] : List Int32) := ⟨_, _, _, _, g22a, g22c, g22b, g22d, Or.inl ⟨rfl, rfl, rfl, fun c hc => (hp c hc).2⟩, fun c hc => ⟨(hp c hc).1, own_up (hp c hc).2⟩, Nat.le_of_ble_eq_true rfl⟩
  have lt22 := F22.lt
  have Eb22 := own_exaB g22d hfc22
  refine own_gs st22 ?_
  show own_Fin p e below (T22.setTop (mkF m 19 #[vi c0, vi c1, vi c2, vi (1 : Int32)] [(.ref b11)])) _
  have Ff := F22
  rw [own_nar (own_ok_lat hc0).1 (own_up (own_ok_lat hc0).2)] at Ff
  obtain ⟨fs, hr, hrun, hended, hW1, hsame⟩ := X22.leave (v := (some (.ref b11))) (fun h => by rw [Bd.returns] at h; cases h)
  refine ⟨_, _, X22.areturnOut hx rfl Bd.returns rfl (hb hby d1_19) hr, hrun, hended, _, _, rfl, ?_, ⟨_, rfl⟩, hW1, hsame.mono (own_le rfl) (own_le rfl)⟩
  show own_make1_Q Z c0 c1 c2 h0 n0 (some (.ref b11)) T22.heap _
  exact ⟨_, _, rfl, N22, K23, Ff, Fk22_hash, Fk22_hashIsZero, Eb22, (by omega), (by omega)⟩
def own_make2_Q (Z : State) (c0 c1 c2 : Int32) (h0 : Heap) (n0 : Nat) (v : Option Value) (h : Heap) (L : List Loc) : Prop := ∃ a t : Nat, v = some (.ref a) ∧ Fr n0 L ∧ Keep h0 h [] ∧ own_Str Z h a t [c0, c1] ∧ Fld Z h a "java/lang/String" "hash" "I" (.int (0 : Int32)) ∧ Fld Z h a "java/lang/String" "hashIsZero" "Z" (.int (0 : Int32)) ∧ Exa Z h t "[B" ∧ h0.size ≤ a ∧ h0.size ≤ t
theorem ef_own_make2 (m : MethodId) (x0 : Int32) (x1 : Int32) (x2 : Int32) (x3 : Int32) : entryFrame m #[(.int x0), (.int x1), (.int x2), (.int x3)] 4 = mkF m 0 #[vi x0, vi x1, vi x2, vi x3] [] := by first | (simp [entryFrame, mkF, argsToLocals, Value.category]; done) | rfl
theorem d1_20 : decode own_c1 20 = .ok (.iload_n 3, 1) := by decide +kernel
theorem d1_21 : decode own_c1 21 = .ok (.iconst 2, 1) := by decide +kernel
theorem d1_22 : decode own_c1 22 = .ok (.if_icmp .ne 22, 3) := by decide +kernel
theorem d1_25 : decode own_c1 25 = .ok (.new 24, 3) := by decide +kernel
theorem d1_28 : decode own_c1 28 = .ok (.dup, 1) := by decide +kernel
theorem d1_29 : decode own_c1 29 = .ok (.iconst 2, 1) := by decide +kernel
theorem d1_30 : decode own_c1 30 = .ok (.newarray .char, 2) := by decide +kernel
theorem d1_32 : decode own_c1 32 = .ok (.dup, 1) := by decide +kernel
theorem d1_33 : decode own_c1 33 = .ok (.iconst 0, 1) := by decide +kernel
theorem d1_34 : decode own_c1 34 = .ok (.iload_n 0, 1) := by decide +kernel
theorem d1_35 : decode own_c1 35 = .ok (.castore, 1) := by decide +kernel
theorem d1_36 : decode own_c1 36 = .ok (.dup, 1) := by decide +kernel
theorem d1_37 : decode own_c1 37 = .ok (.iconst 1, 1) := by decide +kernel
theorem d1_38 : decode own_c1 38 = .ok (.iload_n 1, 1) := by decide +kernel
theorem d1_39 : decode own_c1 39 = .ok (.castore, 1) := by decide +kernel
theorem d1_40 : decode own_c1 40 = .ok (.invokespecial 46, 3) := by decide +kernel
theorem d1_43 : decode own_c1 43 = .ok (.areturn, 1) := by decide +kernel
set_option maxRecDepth 65536 in
set_option maxHeartbeats 40000000 in
theorem own_make2 (l : Launch) (Z : State) (a0 : Array Value) (hW : own_W Z a0) (c0 c1 c2 : Int32) (h0 : Heap) (n0 : Nat) (Z0 : n0 ≤ h0.size) (O0 : Old Z n0 h0) (hc0 : own_ok c0) (hc1 : own_ok c1) (hc2 : own_ok c2) :
    MetFree l own_n2 (head1 (Jvm.Cond.code own_n2 own_c1 4 (some (.object "java/lang/String")) :: []) ({ frames := 4, cells := 3, slots := 8, locals := 66 } : Room)) (fun a U => a = #[(.int c0), (.int c1), (.int c2), (.int (2 : Int32))] ∧ Z.Warmed39 U.vm ∧ U.heap = h0) (fun _ _ _ _ _ => True) (fun _ U o U' => ∃ v L, o = .returned v ∧ own_make2_Q Z c0 c1 c2 h0 n0 v U'.heap L ∧ FrameEnd U o U' L ({ frames := 4, cells := 3, slots := 8, locals := 66 } : Room).cells ({ frames := 4, cells := 3, slots := 8, locals := 66 } : Room).slots) := by
  refine MetFree.of_bodySF (plainFor_of_name pn_com_example_lease_lock_leaselock_LockNameOfPinLaw) hisR ?_
  intro p e s m args below meth c s₁ Bd hml0 hP hK
  obtain ⟨rfl, hZ, hh⟩ := hP
  obtain ⟨hw, ⟨G1, O2, P5⟩, ⟨G3, O4, rG3⟩⟩ := id hW
  have hx := Bd.exec
  have hby := Bd.bytes
  have hml : c.maxLocals = 4 := hml0
  have hown : s.vm.findClass "com/example/lease_lock/leaselock/LockNameOfPinLaw" = some m.cls := findClass_of_methodNamed Bd.named
  have hnm := (name_of_methodNamed Bd.named Bd.method).1
  have X0 : Stand p l e ({ frames := 4, cells := 3, slots := 8, locals := 66 } : Room) s m #[(.int c0), (.int c1), (.int c2), (.int (2 : Int32))] below meth c s₁ [] 0 0 := Stand.of_body Bd
  have e0 : s₁.heap = h0 := by rw [← hh, Bd.state]; rfl
  have N0 := Fr.nil n0
  have K0 := Keep.refl h0 []
  show own_Fin p e below (s₁.setTop (entryFrame m #[(.int c0), (.int c1), (.int c2), (.int (2 : Int32))] 4)) _
  refine own_gs (castTop (ef_own_make2 m c0 c1 c2 (2 : Int32)) (Steps.refl _)) ?_
  show own_Fin p e below (s₁.setTop (mkF m 0 #[vi c0, vi c1, vi c2, vi (2 : Int32)] [])) _
  refine own_gs (cur' := s₁.setTop (mkF m 25 #[vi c0, vi c1, vi c2, vi (2 : Int32)] [])) ?_ ?_
  · refine XS.iloadN X0.here hx rfl (hb hby d1_0) rfl ?_
    refine XS.iconst X0.here hx rfl (hb hby d1_1) ?_
    refine XS.icmpYes X0.here hx rfl (pc0 := 2) (pc' := 20) rfl (hb hby d1_2) rfl (feq ((by decide) : ¬ ((2 : Int32) = (1 : Int32)))).2 (by decide) (by decide) ?_
    refine XS.iloadN X0.here hx rfl (hb hby d1_20) rfl ?_
    refine XS.iconst X0.here hx rfl (hb hby d1_21) ?_
    refine XS.icmpNo X0.here hx rfl (hb hby d1_22) rfl (teq ((by decide) : (2 : Int32) = (2 : Int32))).2 ?_
    exact Steps.refl _
  obtain ⟨T11, h11, X11, e11, E11, A11, D11, -, st11⟩ := newO X0 hx hZ hown (own_tw hw 40 rfl) (own_tw hw 6 rfl) (own_tw hw 5 rfl) e0 (g := (mkF m 25 #[vi c0, vi c1, vi c2, vi (2 : Int32)] [])) rfl (hb hby d1_25) (by decide) (by decide)
  obtain ⟨b11, g11⟩ : ∃ z, z = h0.size := ⟨_, rfl⟩
  rw [← g11] at A11 D11 st11
  have lt11 := own_lt A11.lt
  refine own_go st11 ?_
  show own_Fin p e below (T11.setTop (mkF m 28 #[vi c0, vi c1, vi c2, vi (2 : Int32)] [(.ref b11)])) _
  have z12 := E11.1
  have K12 := K0.ext E11
  have O12 := O0.ext E11
  have F11_value : Fld Z h11 b11 "java/lang/String" "value" "[B" .null := D11 (Or.inr (own_tw hw 8 rfl)) (ty := (.array .byte)) (by decide)
  have F11_coder : Fld Z h11 b11 "java/lang/String" "coder" "B" (.int (0 : Int32)) := D11 (Or.inr (own_tw hw 9 rfl)) (ty := .byte) (by decide)
  have F11_hash : Fld Z h11 b11 "java/lang/String" "hash" "I" (.int (0 : Int32)) := D11 (Or.inl (own_tw hw 158 rfl)) (ty := .int) (by decide)
  have F11_hashIsZero : Fld Z h11 b11 "java/lang/String" "hashIsZero" "Z" (.int (0 : Int32)) := D11 (Or.inl (own_tw hw 160 rfl)) (ty := .boolean) (by decide)
  refine own_gs (cur' := T11.setTop (mkF m 30 #[vi c0, vi c1, vi c2, vi (2 : Int32)] [(.int (2 : Int32)), (.ref b11), (.ref b11)])) ?_ ?_
  · refine XS.dup X11.here hx rfl (hb hby d1_28) rfl rfl ?_
    refine XS.iconst X11.here hx rfl (hb hby d1_29) ?_
    exact Steps.refl _
  obtain ⟨T13, h13, k13, X13, e13, E13, A13, st13⟩ := newP X11 hx hZ (own_tw hw 41 rfl) e11 (g := (mkF m 30 #[vi c0, vi c1, vi c2, vi (2 : Int32)] [(.int (2 : Int32)), (.ref b11), (.ref b11)])) rfl (hb hby d1_30) rfl (by decide) (cap := 2) (by decide) (by decide) (by decide) (by decide)
  obtain ⟨b13, g13⟩ : ∃ z, z = h11.size := ⟨_, rfl⟩
  rw [← g13] at A13 st13
  have lt13 := own_lt A13.lt
  refine own_go st13 ?_
  show own_Fin p e below (T13.setTop (mkF m 32 #[vi c0, vi c1, vi c2, vi (2 : Int32)] [(.ref b13), (.ref b11), (.ref b11)])) _
  have z14 := E13.1
  have K14 := K12.ext E13
  have O14 := O12.ext E13
  have V13 : Arv Z h13 b13 k13 .char (2 : Int32) [(.int (0 : Int32)), (.int (0 : Int32))] (.int (0 : Int32)) := (Arv.new A13 (by decide)).pad (pad_rep [] (.int (0 : Int32)) 2)
  refine own_gs (cur' := T13.setTop (mkF m 35 #[vi c0, vi c1, vi c2, vi (2 : Int32)] [(.int c0), (.int (0 : Int32)), (.ref b13), (.ref b13), (.ref b11), (.ref b11)])) ?_ ?_
  · refine XS.dup X13.here hx rfl (hb hby d1_32) rfl rfl ?_
    refine XS.iconst X13.here hx rfl (hb hby d1_33) ?_
    refine XS.iloadN X13.here hx rfl (hb hby d1_34) rfl ?_
    exact Steps.refl _
  obtain ⟨cl15, Ar15, q15, S15, M15, Hs15, G15⟩ := id V13
  have hin15 : ¬ ((0 : Int32) < 0 ∨ cl15.slots.size ≤ ((0 : Int32)).toNatClampNeg) := inb_of S15 ⟨by decide, by decide⟩
  obtain ⟨T15, h15, X15, e15, W15, st15⟩ := stC X13 hx hZ e13 Ar15 (j := (0 : Int32)) hin15 (g := (mkF m 35 #[vi c0, vi c1, vi c2, vi (2 : Int32)] [(.int c0), (.int (0 : Int32)), (.ref b13), (.ref b13), (.ref b11), (.ref b11)])) rfl rfl (hb hby d1_35)
  have V15 := Arv.set Ar15 q15 S15 M15 Hs15 G15 (fits_nar_char _) W15 0 rfl (Nat.le_of_ble_eq_true rfl)
  refine own_go st15 ?_
  show own_Fin p e below (T15.setTop (mkF m 36 #[vi c0, vi c1, vi c2, vi (2 : Int32)] [(.ref b13), (.ref b11), (.ref b11)])) _
  have z16 := W15.size
  have K16 := K14.wr W15 (Or.inr (by omega))
  have O16 := O14.wr W15 (by omega)
  have N16 := Fr.snoc X15 N0 (by omega)
  refine own_gs (cur' := T15.setTop (mkF m 39 #[vi c0, vi c1, vi c2, vi (2 : Int32)] [(.int c1), (.int (1 : Int32)), (.ref b13), (.ref b13), (.ref b11), (.ref b11)])) ?_ ?_
  · refine XS.dup X15.here hx rfl (hb hby d1_36) rfl rfl ?_
    refine XS.iconst X15.here hx rfl (hb hby d1_37) ?_
    refine XS.iloadN X15.here hx rfl (hb hby d1_38) rfl ?_
    exact Steps.refl _
  obtain ⟨cl17, Ar17, q17, S17, M17, Hs17, G17⟩ := id V15
  have hin17 : ¬ ((1 : Int32) < 0 ∨ cl17.slots.size ≤ ((1 : Int32)).toNatClampNeg) := inb_of S17 ⟨by decide, by decide⟩
  obtain ⟨T17, h17, X17, e17, W17, st17⟩ := stC X15 hx hZ e15 Ar17 (j := (1 : Int32)) hin17 (g := (mkF m 39 #[vi c0, vi c1, vi c2, vi (2 : Int32)] [(.int c1), (.int (1 : Int32)), (.ref b13), (.ref b13), (.ref b11), (.ref b11)])) rfl rfl (hb hby d1_39)
  have V17 := Arv.set Ar17 q17 S17 M17 Hs17 G17 (fits_nar_char _) W17 1 rfl (Nat.le_of_ble_eq_true rfl)
  refine own_go st17 ?_
  show own_Fin p e below (T17.setTop (mkF m 40 #[vi c0, vi c1, vi c2, vi (2 : Int32)] [(.ref b13), (.ref b11), (.ref b11)])) _
  have z18 := W17.size
  have K18 := K16.wr W17 (Or.inr (by omega))
  have O18 := O16.wr W17 (by omega)
  have N18 := Fr.snoc X17 N16 (by omega)
  have f19 := (((A11.ext E13).wr W15).wr W17)
  have f20 := (((F11_value.ext E13).other W15 (Or.inl (own_ne (a := b11) (b := b13) (by omega)))).other W17 (Or.inl (own_ne (a := b11) (b := b13) (by omega))))
  have f21 := (((F11_coder.ext E13).other W15 (Or.inl (own_ne (a := b11) (b := b13) (by omega)))).other W17 (Or.inl (own_ne (a := b11) (b := b13) (by omega))))
  have f22 := (((F11_hash.ext E13).other W15 (Or.inl (own_ne (a := b11) (b := b13) (by omega)))).other W17 (Or.inl (own_ne (a := b11) (b := b13) (by omega))))
  have f23 := (((F11_hashIsZero.ext E13).other W15 (Or.inl (own_ne (a := b11) (b := b13) (by omega)))).other W17 (Or.inl (own_ne (a := b11) (b := b13) (by omega))))
  have hws : ∀ d ∈ StrChars.Road.words, d.before a0 Z = true := fun d hd => hw d ((by decide +kernel : ∀ d ∈ StrChars.Road.words, d ∈ tables_1) d hd)
  have hp : ∀ c ∈ ([(nar .char c0), (nar .char c1)] : List Int32), ¬ c < 0 ∧ ¬ (255 : Int32) < c := by
    intro c hc
    simp only [List.mem_cons, List.not_mem_nil, or_false] at hc
    rcases hc with rfl | rfl
    · rw [own_nar (own_ok_lat hc0).1 (own_up (own_ok_lat hc0).2)]; exact own_ok_lat hc0
    · rw [own_nar (own_ok_lat hc1).1 (own_up (own_ok_lat hc1).2)]; exact own_ok_lat hc1
  obtain ⟨_, _, ⟨T24, L24, k24, n24⟩, -, X24, ⟨Lc24, hQ24, l24, y24, z24⟩, st24⟩ := X17.specialBack hx (y := own_n3) rfl hown (mvT hZ (own_tw hw 42 rfl)) (mvT hZ (own_tw hw 43 rfl)) (mvT hZ (own_tw hw 44 rfl)) (by decide) (StrChars.Road.backArv (W := 1) hZ hws (kI := 4) (own_tw hw 6 rfl) (cs := ([(nar .char c0), (nar .char c1)] : List Int32)) f19 f20 f21 V17 (O2.ext O18.2) P5 rfl (Nat.le_of_ble_eq_true rfl) (Nat.le_of_ble_eq_true rfl) (fun c hc => (hp c hc).2) (by decide) (by decide)) (g := (mkF m 40 #[vi c0, vi c1, vi c2, vi (2 : Int32)] [(.ref b13), (.ref b11), (.ref b11)])) rfl (by rw [hml]; rfl) (Steps.refl _) (a := b11) (argsL := [(.ref b13)]) (rest := [(.ref b11)]) (lenOf pd_1 rfl) rfl (own_le rfl) (hb hby d1_40) (fun _ _ => ⟨rfl, e17, (by decide : 2 + 1 ≤ 3), (by decide : 6 + 2 ≤ 8)⟩)
  dsimp only [Pt.U, Pt.locs, Pt.cells, Pt.slots] at X24 l24 y24 z24 st24 hQ24
  subst l24 y24 z24
  obtain ⟨rfl, Lq24, Kq24, sz24, g24a, g24c, g24b, ⟨kb24, hfc24, g24d⟩, kp24⟩ := hQ24
  obtain ⟨t24, gt24⟩ : ∃ z, z = h17.size := ⟨_, rfl⟩
  rw [← gt24] at g24c g24d
  have N24 := Fr.app N18 (show Fr n0 Lc24 from fun y hy => by rw [Lq24 y hy]; omega)
  have z25 := Kq24.1
  have K25 := K18.trans Kq24 (allS (Or.inr (by omega)) all0)
  have O25 := O18.keep Kq24 (allS (by omega) all0)
  have Fk24_hash := kp24 _ _ _ _ f22 (slot_ne (Or.inl (own_tw hw 158 rfl)) (Or.inr (own_tw hw 8 rfl)) (by decide) (t := .int) (t' := (.array .byte)) (by decide) (by decide)) (slot_ne (Or.inl (own_tw hw 158 rfl)) (Or.inr (own_tw hw 9 rfl)) (by decide) (t := .int) (t' := .byte) (by decide) (by decide))
  have Fk24_hashIsZero := kp24 _ _ _ _ f23 (slot_ne (Or.inl (own_tw hw 160 rfl)) (Or.inr (own_tw hw 8 rfl)) (by decide) (t := .boolean) (t' := (.array .byte)) (by decide) (by decide)) (slot_ne (Or.inl (own_tw hw 160 rfl)) (Or.inr (own_tw hw 9 rfl)) (by decide) (t := .boolean) (t' := .byte) (by decide) (by decide))
  have F24 : own_Str Z T24.heap b11 t24 ([(nar .char c0), (nar .char c1)] : List Int32) := ⟨_, _, _, _, g24a, g24c, g24b, g24d, Or.inl ⟨rfl, rfl, rfl, fun c hc => (hp c hc).2⟩, fun c hc => ⟨(hp c hc).1, own_up (hp c hc).2⟩, Nat.le_of_ble_eq_true rfl⟩
  have lt24 := F24.lt
  have Eb24 := own_exaB g24d hfc24
  refine own_gs st24 ?_
  show own_Fin p e below (T24.setTop (mkF m 43 #[vi c0, vi c1, vi c2, vi (2 : Int32)] [(.ref b11)])) _
  have Ff := F24
  rw [own_nar (own_ok_lat hc0).1 (own_up (own_ok_lat hc0).2), own_nar (own_ok_lat hc1).1 (own_up (own_ok_lat hc1).2)] at Ff
  obtain ⟨fs, hr, hrun, hended, hW1, hsame⟩ := X24.leave (v := (some (.ref b11))) (fun h => by rw [Bd.returns] at h; cases h)
  refine ⟨_, _, X24.areturnOut hx rfl Bd.returns rfl (hb hby d1_43) hr, hrun, hended, _, _, rfl, ?_, ⟨_, rfl⟩, hW1, hsame.mono (own_le rfl) (own_le rfl)⟩
  show own_make2_Q Z c0 c1 c2 h0 n0 (some (.ref b11)) T24.heap _
  exact ⟨_, _, rfl, N24, K25, Ff, Fk24_hash, Fk24_hashIsZero, Eb24, (by omega), (by omega)⟩
def own_make3_Q (Z : State) (c0 c1 c2 : Int32) (h0 : Heap) (n0 : Nat) (v : Option Value) (h : Heap) (L : List Loc) : Prop := ∃ a t : Nat, v = some (.ref a) ∧ Fr n0 L ∧ Keep h0 h [] ∧ own_Str Z h a t [c0, c1, c2] ∧ Fld Z h a "java/lang/String" "hash" "I" (.int (0 : Int32)) ∧ Fld Z h a "java/lang/String" "hashIsZero" "Z" (.int (0 : Int32)) ∧ Exa Z h t "[B" ∧ h0.size ≤ a ∧ h0.size ≤ t
theorem ef_own_make3 (m : MethodId) (x0 : Int32) (x1 : Int32) (x2 : Int32) (x3 : Int32) : entryFrame m #[(.int x0), (.int x1), (.int x2), (.int x3)] 4 = mkF m 0 #[vi x0, vi x1, vi x2, vi x3] [] := by first | (simp [entryFrame, mkF, argsToLocals, Value.category]; done) | rfl
theorem d1_44 : decode own_c1 44 = .ok (.new 24, 3) := by decide +kernel
theorem d1_47 : decode own_c1 47 = .ok (.dup, 1) := by decide +kernel
theorem d1_48 : decode own_c1 48 = .ok (.iconst 3, 1) := by decide +kernel
theorem d1_49 : decode own_c1 49 = .ok (.newarray .char, 2) := by decide +kernel
theorem d1_51 : decode own_c1 51 = .ok (.dup, 1) := by decide +kernel
theorem d1_52 : decode own_c1 52 = .ok (.iconst 0, 1) := by decide +kernel
theorem d1_53 : decode own_c1 53 = .ok (.iload_n 0, 1) := by decide +kernel
theorem d1_54 : decode own_c1 54 = .ok (.castore, 1) := by decide +kernel
theorem d1_55 : decode own_c1 55 = .ok (.dup, 1) := by decide +kernel
theorem d1_56 : decode own_c1 56 = .ok (.iconst 1, 1) := by decide +kernel
theorem d1_57 : decode own_c1 57 = .ok (.iload_n 1, 1) := by decide +kernel
theorem d1_58 : decode own_c1 58 = .ok (.castore, 1) := by decide +kernel
theorem d1_59 : decode own_c1 59 = .ok (.dup, 1) := by decide +kernel
theorem d1_60 : decode own_c1 60 = .ok (.iconst 2, 1) := by decide +kernel
theorem d1_61 : decode own_c1 61 = .ok (.iload_n 2, 1) := by decide +kernel
theorem d1_62 : decode own_c1 62 = .ok (.castore, 1) := by decide +kernel
theorem d1_63 : decode own_c1 63 = .ok (.invokespecial 46, 3) := by decide +kernel
theorem d1_66 : decode own_c1 66 = .ok (.areturn, 1) := by decide +kernel
set_option maxRecDepth 65536 in
set_option maxHeartbeats 40000000 in
theorem own_make3 (l : Launch) (Z : State) (a0 : Array Value) (hW : own_W Z a0) (c0 c1 c2 : Int32) (h0 : Heap) (n0 : Nat) (Z0 : n0 ≤ h0.size) (O0 : Old Z n0 h0) (hc0 : own_ok c0) (hc1 : own_ok c1) (hc2 : own_ok c2) :
    MetFree l own_n2 (head1 (Jvm.Cond.code own_n2 own_c1 4 (some (.object "java/lang/String")) :: []) ({ frames := 4, cells := 3, slots := 10, locals := 66 } : Room)) (fun a U => a = #[(.int c0), (.int c1), (.int c2), (.int (3 : Int32))] ∧ Z.Warmed39 U.vm ∧ U.heap = h0) (fun _ _ _ _ _ => True) (fun _ U o U' => ∃ v L, o = .returned v ∧ own_make3_Q Z c0 c1 c2 h0 n0 v U'.heap L ∧ FrameEnd U o U' L ({ frames := 4, cells := 3, slots := 10, locals := 66 } : Room).cells ({ frames := 4, cells := 3, slots := 10, locals := 66 } : Room).slots) := by
  refine MetFree.of_bodySF (plainFor_of_name pn_com_example_lease_lock_leaselock_LockNameOfPinLaw) hisR ?_
  intro p e s m args below meth c s₁ Bd hml0 hP hK
  obtain ⟨rfl, hZ, hh⟩ := hP
  obtain ⟨hw, ⟨G1, O2, P5⟩, ⟨G3, O4, rG3⟩⟩ := id hW
  have hx := Bd.exec
  have hby := Bd.bytes
  have hml : c.maxLocals = 4 := hml0
  have hown : s.vm.findClass "com/example/lease_lock/leaselock/LockNameOfPinLaw" = some m.cls := findClass_of_methodNamed Bd.named
  have hnm := (name_of_methodNamed Bd.named Bd.method).1
  have X0 : Stand p l e ({ frames := 4, cells := 3, slots := 10, locals := 66 } : Room) s m #[(.int c0), (.int c1), (.int c2), (.int (3 : Int32))] below meth c s₁ [] 0 0 := Stand.of_body Bd
  have e0 : s₁.heap = h0 := by rw [← hh, Bd.state]; rfl
  have N0 := Fr.nil n0
  have K0 := Keep.refl h0 []
  show own_Fin p e below (s₁.setTop (entryFrame m #[(.int c0), (.int c1), (.int c2), (.int (3 : Int32))] 4)) _
  refine own_gs (castTop (ef_own_make3 m c0 c1 c2 (3 : Int32)) (Steps.refl _)) ?_
  show own_Fin p e below (s₁.setTop (mkF m 0 #[vi c0, vi c1, vi c2, vi (3 : Int32)] [])) _
  refine own_gs (cur' := s₁.setTop (mkF m 44 #[vi c0, vi c1, vi c2, vi (3 : Int32)] [])) ?_ ?_
  · refine XS.iloadN X0.here hx rfl (hb hby d1_0) rfl ?_
    refine XS.iconst X0.here hx rfl (hb hby d1_1) ?_
    refine XS.icmpYes X0.here hx rfl (pc0 := 2) (pc' := 20) rfl (hb hby d1_2) rfl (feq ((by decide) : ¬ ((3 : Int32) = (1 : Int32)))).2 (by decide) (by decide) ?_
    refine XS.iloadN X0.here hx rfl (hb hby d1_20) rfl ?_
    refine XS.iconst X0.here hx rfl (hb hby d1_21) ?_
    refine XS.icmpYes X0.here hx rfl (pc0 := 22) (pc' := 44) rfl (hb hby d1_22) rfl (feq ((by decide) : ¬ ((3 : Int32) = (2 : Int32)))).2 (by decide) (by decide) ?_
    exact Steps.refl _
  obtain ⟨T11, h11, X11, e11, E11, A11, D11, -, st11⟩ := newO X0 hx hZ hown (own_tw hw 40 rfl) (own_tw hw 6 rfl) (own_tw hw 5 rfl) e0 (g := (mkF m 44 #[vi c0, vi c1, vi c2, vi (3 : Int32)] [])) rfl (hb hby d1_44) (by decide) (by decide)
  obtain ⟨b11, g11⟩ : ∃ z, z = h0.size := ⟨_, rfl⟩
  rw [← g11] at A11 D11 st11
  have lt11 := own_lt A11.lt
  refine own_go st11 ?_
  show own_Fin p e below (T11.setTop (mkF m 47 #[vi c0, vi c1, vi c2, vi (3 : Int32)] [(.ref b11)])) _
  have z12 := E11.1
  have K12 := K0.ext E11
  have O12 := O0.ext E11
  have F11_value : Fld Z h11 b11 "java/lang/String" "value" "[B" .null := D11 (Or.inr (own_tw hw 8 rfl)) (ty := (.array .byte)) (by decide)
  have F11_coder : Fld Z h11 b11 "java/lang/String" "coder" "B" (.int (0 : Int32)) := D11 (Or.inr (own_tw hw 9 rfl)) (ty := .byte) (by decide)
  have F11_hash : Fld Z h11 b11 "java/lang/String" "hash" "I" (.int (0 : Int32)) := D11 (Or.inl (own_tw hw 158 rfl)) (ty := .int) (by decide)
  have F11_hashIsZero : Fld Z h11 b11 "java/lang/String" "hashIsZero" "Z" (.int (0 : Int32)) := D11 (Or.inl (own_tw hw 160 rfl)) (ty := .boolean) (by decide)
  refine own_gs (cur' := T11.setTop (mkF m 49 #[vi c0, vi c1, vi c2, vi (3 : Int32)] [(.int (3 : Int32)), (.ref b11), (.ref b11)])) ?_ ?_
  · refine XS.dup X11.here hx rfl (hb hby d1_47) rfl rfl ?_
    refine XS.iconst X11.here hx rfl (hb hby d1_48) ?_
    exact Steps.refl _
  obtain ⟨T13, h13, k13, X13, e13, E13, A13, st13⟩ := newP X11 hx hZ (own_tw hw 41 rfl) e11 (g := (mkF m 49 #[vi c0, vi c1, vi c2, vi (3 : Int32)] [(.int (3 : Int32)), (.ref b11), (.ref b11)])) rfl (hb hby d1_49) rfl (by decide) (cap := 3) (by decide) (by decide) (by decide) (by decide)
  obtain ⟨b13, g13⟩ : ∃ z, z = h11.size := ⟨_, rfl⟩
  rw [← g13] at A13 st13
  have lt13 := own_lt A13.lt
  refine own_go st13 ?_
  show own_Fin p e below (T13.setTop (mkF m 51 #[vi c0, vi c1, vi c2, vi (3 : Int32)] [(.ref b13), (.ref b11), (.ref b11)])) _
  have z14 := E13.1
  have K14 := K12.ext E13
  have O14 := O12.ext E13
  have V13 : Arv Z h13 b13 k13 .char (3 : Int32) [(.int (0 : Int32)), (.int (0 : Int32)), (.int (0 : Int32))] (.int (0 : Int32)) := (Arv.new A13 (by decide)).pad (pad_rep [] (.int (0 : Int32)) 3)
  refine own_gs (cur' := T13.setTop (mkF m 54 #[vi c0, vi c1, vi c2, vi (3 : Int32)] [(.int c0), (.int (0 : Int32)), (.ref b13), (.ref b13), (.ref b11), (.ref b11)])) ?_ ?_
  · refine XS.dup X13.here hx rfl (hb hby d1_51) rfl rfl ?_
    refine XS.iconst X13.here hx rfl (hb hby d1_52) ?_
    refine XS.iloadN X13.here hx rfl (hb hby d1_53) rfl ?_
    exact Steps.refl _
  obtain ⟨cl15, Ar15, q15, S15, M15, Hs15, G15⟩ := id V13
  have hin15 : ¬ ((0 : Int32) < 0 ∨ cl15.slots.size ≤ ((0 : Int32)).toNatClampNeg) := inb_of S15 ⟨by decide, by decide⟩
  obtain ⟨T15, h15, X15, e15, W15, st15⟩ := stC X13 hx hZ e13 Ar15 (j := (0 : Int32)) hin15 (g := (mkF m 54 #[vi c0, vi c1, vi c2, vi (3 : Int32)] [(.int c0), (.int (0 : Int32)), (.ref b13), (.ref b13), (.ref b11), (.ref b11)])) rfl rfl (hb hby d1_54)
  have V15 := Arv.set Ar15 q15 S15 M15 Hs15 G15 (fits_nar_char _) W15 0 rfl (Nat.le_of_ble_eq_true rfl)
  refine own_go st15 ?_
  show own_Fin p e below (T15.setTop (mkF m 55 #[vi c0, vi c1, vi c2, vi (3 : Int32)] [(.ref b13), (.ref b11), (.ref b11)])) _
  have z16 := W15.size
  have K16 := K14.wr W15 (Or.inr (by omega))
  have O16 := O14.wr W15 (by omega)
  have N16 := Fr.snoc X15 N0 (by omega)
  refine own_gs (cur' := T15.setTop (mkF m 58 #[vi c0, vi c1, vi c2, vi (3 : Int32)] [(.int c1), (.int (1 : Int32)), (.ref b13), (.ref b13), (.ref b11), (.ref b11)])) ?_ ?_
  · refine XS.dup X15.here hx rfl (hb hby d1_55) rfl rfl ?_
    refine XS.iconst X15.here hx rfl (hb hby d1_56) ?_
    refine XS.iloadN X15.here hx rfl (hb hby d1_57) rfl ?_
    exact Steps.refl _
  obtain ⟨cl17, Ar17, q17, S17, M17, Hs17, G17⟩ := id V15
  have hin17 : ¬ ((1 : Int32) < 0 ∨ cl17.slots.size ≤ ((1 : Int32)).toNatClampNeg) := inb_of S17 ⟨by decide, by decide⟩
  obtain ⟨T17, h17, X17, e17, W17, st17⟩ := stC X15 hx hZ e15 Ar17 (j := (1 : Int32)) hin17 (g := (mkF m 58 #[vi c0, vi c1, vi c2, vi (3 : Int32)] [(.int c1), (.int (1 : Int32)), (.ref b13), (.ref b13), (.ref b11), (.ref b11)])) rfl rfl (hb hby d1_58)
  have V17 := Arv.set Ar17 q17 S17 M17 Hs17 G17 (fits_nar_char _) W17 1 rfl (Nat.le_of_ble_eq_true rfl)
  refine own_go st17 ?_
  show own_Fin p e below (T17.setTop (mkF m 59 #[vi c0, vi c1, vi c2, vi (3 : Int32)] [(.ref b13), (.ref b11), (.ref b11)])) _
  have z18 := W17.size
  have K18 := K16.wr W17 (Or.inr (by omega))
  have O18 := O16.wr W17 (by omega)
  have N18 := Fr.snoc X17 N16 (by omega)
  refine own_gs (cur' := T17.setTop (mkF m 62 #[vi c0, vi c1, vi c2, vi (3 : Int32)] [(.int c2), (.int (2 : Int32)), (.ref b13), (.ref b13), (.ref b11), (.ref b11)])) ?_ ?_
  · refine XS.dup X17.here hx rfl (hb hby d1_59) rfl rfl ?_
    refine XS.iconst X17.here hx rfl (hb hby d1_60) ?_
    refine XS.iloadN X17.here hx rfl (hb hby d1_61) rfl ?_
    exact Steps.refl _
  obtain ⟨cl19, Ar19, q19, S19, M19, Hs19, G19⟩ := id V17
  have hin19 : ¬ ((2 : Int32) < 0 ∨ cl19.slots.size ≤ ((2 : Int32)).toNatClampNeg) := inb_of S19 ⟨by decide, by decide⟩
  obtain ⟨T19, h19, X19, e19, W19, st19⟩ := stC X17 hx hZ e17 Ar19 (j := (2 : Int32)) hin19 (g := (mkF m 62 #[vi c0, vi c1, vi c2, vi (3 : Int32)] [(.int c2), (.int (2 : Int32)), (.ref b13), (.ref b13), (.ref b11), (.ref b11)])) rfl rfl (hb hby d1_62)
  have V19 := Arv.set Ar19 q19 S19 M19 Hs19 G19 (fits_nar_char _) W19 2 rfl (Nat.le_of_ble_eq_true rfl)
  refine own_go st19 ?_
  show own_Fin p e below (T19.setTop (mkF m 63 #[vi c0, vi c1, vi c2, vi (3 : Int32)] [(.ref b13), (.ref b11), (.ref b11)])) _
  have z20 := W19.size
  have K20 := K18.wr W19 (Or.inr (by omega))
  have O20 := O18.wr W19 (by omega)
  have N20 := Fr.snoc X19 N18 (by omega)
  have f21 := ((((A11.ext E13).wr W15).wr W17).wr W19)
  have f22 := ((((F11_value.ext E13).other W15 (Or.inl (own_ne (a := b11) (b := b13) (by omega)))).other W17 (Or.inl (own_ne (a := b11) (b := b13) (by omega)))).other W19 (Or.inl (own_ne (a := b11) (b := b13) (by omega))))
  have f23 := ((((F11_coder.ext E13).other W15 (Or.inl (own_ne (a := b11) (b := b13) (by omega)))).other W17 (Or.inl (own_ne (a := b11) (b := b13) (by omega)))).other W19 (Or.inl (own_ne (a := b11) (b := b13) (by omega))))
  have f24 := ((((F11_hash.ext E13).other W15 (Or.inl (own_ne (a := b11) (b := b13) (by omega)))).other W17 (Or.inl (own_ne (a := b11) (b := b13) (by omega)))).other W19 (Or.inl (own_ne (a := b11) (b := b13) (by omega))))
  have f25 := ((((F11_hashIsZero.ext E13).other W15 (Or.inl (own_ne (a := b11) (b := b13) (by omega)))).other W17 (Or.inl (own_ne (a := b11) (b := b13) (by omega)))).other W19 (Or.inl (own_ne (a := b11) (b := b13) (by omega))))
  have hws : ∀ d ∈ StrChars.Road.words, d.before a0 Z = true := fun d hd => hw d ((by decide +kernel : ∀ d ∈ StrChars.Road.words, d ∈ tables_1) d hd)
  have hp : ∀ c ∈ ([(nar .char c0), (nar .char c1), (nar .char c2)] : List Int32), ¬ c < 0 ∧ ¬ (255 : Int32) < c := by
    intro c hc
    simp only [List.mem_cons, List.not_mem_nil, or_false] at hc
    rcases hc with rfl | rfl | rfl
    · rw [own_nar (own_ok_lat hc0).1 (own_up (own_ok_lat hc0).2)]; exact own_ok_lat hc0
    · rw [own_nar (own_ok_lat hc1).1 (own_up (own_ok_lat hc1).2)]; exact own_ok_lat hc1
    · rw [own_nar (own_ok_lat hc2).1 (own_up (own_ok_lat hc2).2)]; exact own_ok_lat hc2
  obtain ⟨_, _, ⟨T26, L26, k26, n26⟩, -, X26, ⟨Lc26, hQ26, l26, y26, z26⟩, st26⟩ := X19.specialBack hx (y := own_n3) rfl hown (mvT hZ (own_tw hw 42 rfl)) (mvT hZ (own_tw hw 43 rfl)) (mvT hZ (own_tw hw 44 rfl)) (by decide) (StrChars.Road.backArv (W := 1) hZ hws (kI := 4) (own_tw hw 6 rfl) (cs := ([(nar .char c0), (nar .char c1), (nar .char c2)] : List Int32)) f21 f22 f23 V19 (O2.ext O20.2) P5 rfl (Nat.le_of_ble_eq_true rfl) (Nat.le_of_ble_eq_true rfl) (fun c hc => (hp c hc).2) (by decide) (by decide)) (g := (mkF m 63 #[vi c0, vi c1, vi c2, vi (3 : Int32)] [(.ref b13), (.ref b11), (.ref b11)])) rfl (by rw [hml]; rfl) (Steps.refl _) (a := b11) (argsL := [(.ref b13)]) (rest := [(.ref b11)]) (lenOf pd_1 rfl) rfl (own_le rfl) (hb hby d1_63) (fun _ _ => ⟨rfl, e19, (by decide : 2 + 1 ≤ 3), (by decide : 7 + 3 ≤ 10)⟩)
  dsimp only [Pt.U, Pt.locs, Pt.cells, Pt.slots] at X26 l26 y26 z26 st26 hQ26
  subst l26 y26 z26
  obtain ⟨rfl, Lq26, Kq26, sz26, g26a, g26c, g26b, ⟨kb26, hfc26, g26d⟩, kp26⟩ := hQ26
  obtain ⟨t26, gt26⟩ : ∃ z, z = h19.size := ⟨_, rfl⟩
  rw [← gt26] at g26c g26d
  have N26 := Fr.app N20 (show Fr n0 Lc26 from fun y hy => by rw [Lq26 y hy]; omega)
  have z27 := Kq26.1
  have K27 := K20.trans Kq26 (allS (Or.inr (by omega)) all0)
  have O27 := O20.keep Kq26 (allS (by omega) all0)
  have Fk26_hash := kp26 _ _ _ _ f24 (slot_ne (Or.inl (own_tw hw 158 rfl)) (Or.inr (own_tw hw 8 rfl)) (by decide) (t := .int) (t' := (.array .byte)) (by decide) (by decide)) (slot_ne (Or.inl (own_tw hw 158 rfl)) (Or.inr (own_tw hw 9 rfl)) (by decide) (t := .int) (t' := .byte) (by decide) (by decide))
  have Fk26_hashIsZero := kp26 _ _ _ _ f25 (slot_ne (Or.inl (own_tw hw 160 rfl)) (Or.inr (own_tw hw 8 rfl)) (by decide) (t := .boolean) (t' := (.array .byte)) (by decide) (by decide)) (slot_ne (Or.inl (own_tw hw 160 rfl)) (Or.inr (own_tw hw 9 rfl)) (by decide) (t := .boolean) (t' := .byte) (by decide) (by decide))
  have F26 : own_Str Z T26.heap b11 t26 ([(nar .char c0), (nar .char c1), (nar .char c2)] : List Int32) := ⟨_, _, _, _, g26a, g26c, g26b, g26d, Or.inl ⟨rfl, rfl, rfl, fun c hc => (hp c hc).2⟩, fun c hc => ⟨(hp c hc).1, own_up (hp c hc).2⟩, Nat.le_of_ble_eq_true rfl⟩
  have lt26 := F26.lt
  have Eb26 := own_exaB g26d hfc26
  refine own_gs st26 ?_
  show own_Fin p e below (T26.setTop (mkF m 66 #[vi c0, vi c1, vi c2, vi (3 : Int32)] [(.ref b11)])) _
  have Ff := F26
  rw [own_nar (own_ok_lat hc0).1 (own_up (own_ok_lat hc0).2), own_nar (own_ok_lat hc1).1 (own_up (own_ok_lat hc1).2), own_nar (own_ok_lat hc2).1 (own_up (own_ok_lat hc2).2)] at Ff
  obtain ⟨fs, hr, hrun, hended, hW1, hsame⟩ := X26.leave (v := (some (.ref b11))) (fun h => by rw [Bd.returns] at h; cases h)
  refine ⟨_, _, X26.areturnOut hx rfl Bd.returns rfl (hb hby d1_66) hr, hrun, hended, _, _, rfl, ?_, ⟨_, rfl⟩, hW1, hsame.mono (own_le rfl) (own_le rfl)⟩
  show own_make3_Q Z c0 c1 c2 h0 n0 (some (.ref b11)) T26.heap _
  exact ⟨_, _, rfl, N26, K27, Ff, Fk26_hash, Fk26_hashIsZero, Eb26, (by omega), (by omega)⟩
abbrev own_c2 : ByteArray := jdk_29_method_65_code
def own_mx_Q (Z : State)  (h0 : Heap) (n0 : Nat) (v : Option Value) (h : Heap) (L : List Loc) : Prop := v = (some (.int (0 : Int32))) ∧ Fr n0 L ∧ h = h0
theorem ef_own_mx (m : MethodId) (x0 : Int32) (x1 : Int32) : entryFrame m #[(.int x0), (.int x1)] 2 = mkF m 0 #[vi x0, vi x1] [] := by first | (simp [entryFrame, mkF, argsToLocals, Value.category]; done) | rfl
abbrev own_n4 : MethodName := ⟨"java/lang/Math", "max", "(II)I"⟩
theorem d2_0 : decode own_c2 0 = .ok (.iload_n 0, 1) := by decide +kernel
theorem d2_1 : decode own_c2 1 = .ok (.iload_n 1, 1) := by decide +kernel
theorem d2_2 : decode own_c2 2 = .ok (.if_icmp .lt 7, 3) := by decide +kernel
theorem d2_5 : decode own_c2 5 = .ok (.iload_n 0, 1) := by decide +kernel
theorem d2_6 : decode own_c2 6 = .ok (.goto 4, 3) := by decide +kernel
theorem d2_10 : decode own_c2 10 = .ok (.ireturn, 1) := by decide +kernel
set_option maxRecDepth 65536 in
set_option maxHeartbeats 40000000 in
theorem own_mx (l : Launch) (Z : State) (a0 : Array Value) (hW : own_W Z a0)  (h0 : Heap) (n0 : Nat) (Z0 : n0 ≤ h0.size) (O0 : Old Z n0 h0)  :
    MetFree l own_n4 (head1 (Jvm.Cond.code own_n4 own_c2 2 (some .int) :: []) ({ frames := 0, cells := 0, slots := 0, locals := 0 } : Room)) (fun a U => a = #[(.int (0 : Int32)), (.int (0 : Int32))] ∧ Z.Warmed39 U.vm ∧ U.heap = h0) (fun _ _ _ _ _ => True) (fun _ U o U' => ∃ v L, o = .returned v ∧ own_mx_Q Z  h0 n0 v U'.heap L ∧ FrameEnd U o U' L ({ frames := 0, cells := 0, slots := 0, locals := 0 } : Room).cells ({ frames := 0, cells := 0, slots := 0, locals := 0 } : Room).slots) := by
  refine MetFree.of_bodySF (Jvm.Free.JP.mathPlain rfl (by decide +kernel)) hisR ?_
  intro p e s m args below meth c s₁ Bd hml0 hP hK
  obtain ⟨rfl, hZ, hh⟩ := hP
  obtain ⟨hw, ⟨G1, O2, P5⟩, ⟨G3, O4, rG3⟩⟩ := id hW
  have hx := Bd.exec
  have hby := Bd.bytes
  have hml : c.maxLocals = 2 := hml0
  have hown : s.vm.findClass "java/lang/Math" = some m.cls := findClass_of_methodNamed Bd.named
  have hnm := (name_of_methodNamed Bd.named Bd.method).1
  have X0 : Stand p l e ({ frames := 0, cells := 0, slots := 0, locals := 0 } : Room) s m #[(.int (0 : Int32)), (.int (0 : Int32))] below meth c s₁ [] 0 0 := Stand.of_body Bd
  have e0 : s₁.heap = h0 := by rw [← hh, Bd.state]; rfl
  have N0 := Fr.nil n0
  have K0 := Keep.refl h0 []
  show own_Fin p e below (s₁.setTop (entryFrame m #[(.int (0 : Int32)), (.int (0 : Int32))] 2)) _
  refine own_gs (castTop (ef_own_mx m (0 : Int32) (0 : Int32)) (Steps.refl _)) ?_
  show own_Fin p e below (s₁.setTop (mkF m 0 #[vi (0 : Int32), vi (0 : Int32)] [])) _
  refine own_gs (cur' := s₁.setTop (mkF m 10 #[vi (0 : Int32), vi (0 : Int32)] [(.int (0 : Int32))])) ?_ ?_
  · refine XS.iloadN X0.here hx rfl (hb hby d2_0) rfl ?_
    refine XS.iloadN X0.here hx rfl (hb hby d2_1) rfl ?_
    refine XS.icmpNo X0.here hx rfl (hb hby d2_2) rfl (flt ((by decide) : ¬ ((0 : Int32) < (0 : Int32)))).1 ?_
    refine XS.iloadN X0.here hx rfl (hb hby d2_5) rfl ?_
    refine XS.goto X0.here hx rfl (pc0 := 6) (pc' := 10) rfl (hb hby d2_6) (by decide) (by decide) ?_
    exact Steps.refl _
  obtain ⟨fs, hr, hrun, hended, hW1, hsame⟩ := X0.leave (v := (some (.int (0 : Int32)))) (fun h => by rw [Bd.returns] at h; cases h)
  refine ⟨_, _, retI X0 hx Bd.returns (hb hby d2_10) hr, hrun, hended, _, _, rfl, ?_, ⟨_, rfl⟩, hW1, hsame.mono (own_le rfl) (own_le rfl)⟩
  show own_mx_Q Z  h0 n0 (some (.int (0 : Int32))) s₁.heap _
  rw [e0]
  exact ⟨rfl, N0, rfl⟩
abbrev own_c3 : ByteArray := jdk_29_method_69_code
def own_mn_Q (Z : State)  (h0 : Heap) (n0 : Nat) (v : Option Value) (h : Heap) (L : List Loc) : Prop := v = (some (.int (6 : Int32))) ∧ Fr n0 L ∧ h = h0
theorem ef_own_mn (m : MethodId) (x0 : Int32) (x1 : Int32) : entryFrame m #[(.int x0), (.int x1)] 2 = mkF m 0 #[vi x0, vi x1] [] := by first | (simp [entryFrame, mkF, argsToLocals, Value.category]; done) | rfl
abbrev own_n5 : MethodName := ⟨"java/lang/Math", "min", "(II)I"⟩
theorem d3_0 : decode own_c3 0 = .ok (.iload_n 0, 1) := by decide +kernel
theorem d3_1 : decode own_c3 1 = .ok (.iload_n 1, 1) := by decide +kernel
theorem d3_2 : decode own_c3 2 = .ok (.if_icmp .gt 7, 3) := by decide +kernel
theorem d3_5 : decode own_c3 5 = .ok (.iload_n 0, 1) := by decide +kernel
theorem d3_6 : decode own_c3 6 = .ok (.goto 4, 3) := by decide +kernel
theorem d3_10 : decode own_c3 10 = .ok (.ireturn, 1) := by decide +kernel
set_option maxRecDepth 65536 in
set_option maxHeartbeats 40000000 in
theorem own_mn (l : Launch) (Z : State) (a0 : Array Value) (hW : own_W Z a0)  (h0 : Heap) (n0 : Nat) (Z0 : n0 ≤ h0.size) (O0 : Old Z n0 h0)  :
    MetFree l own_n5 (head1 (Jvm.Cond.code own_n5 own_c3 2 (some .int) :: []) ({ frames := 0, cells := 0, slots := 0, locals := 0 } : Room)) (fun a U => a = #[(.int (6 : Int32)), (.int (6 : Int32))] ∧ Z.Warmed39 U.vm ∧ U.heap = h0) (fun _ _ _ _ _ => True) (fun _ U o U' => ∃ v L, o = .returned v ∧ own_mn_Q Z  h0 n0 v U'.heap L ∧ FrameEnd U o U' L ({ frames := 0, cells := 0, slots := 0, locals := 0 } : Room).cells ({ frames := 0, cells := 0, slots := 0, locals := 0 } : Room).slots) := by
  refine MetFree.of_bodySF (Jvm.Free.JP.mathPlain rfl (by decide +kernel)) hisR ?_
  intro p e s m args below meth c s₁ Bd hml0 hP hK
  obtain ⟨rfl, hZ, hh⟩ := hP
  obtain ⟨hw, ⟨G1, O2, P5⟩, ⟨G3, O4, rG3⟩⟩ := id hW
  have hx := Bd.exec
  have hby := Bd.bytes
  have hml : c.maxLocals = 2 := hml0
  have hown : s.vm.findClass "java/lang/Math" = some m.cls := findClass_of_methodNamed Bd.named
  have hnm := (name_of_methodNamed Bd.named Bd.method).1
  have X0 : Stand p l e ({ frames := 0, cells := 0, slots := 0, locals := 0 } : Room) s m #[(.int (6 : Int32)), (.int (6 : Int32))] below meth c s₁ [] 0 0 := Stand.of_body Bd
  have e0 : s₁.heap = h0 := by rw [← hh, Bd.state]; rfl
  have N0 := Fr.nil n0
  have K0 := Keep.refl h0 []
  show own_Fin p e below (s₁.setTop (entryFrame m #[(.int (6 : Int32)), (.int (6 : Int32))] 2)) _
  refine own_gs (castTop (ef_own_mn m (6 : Int32) (6 : Int32)) (Steps.refl _)) ?_
  show own_Fin p e below (s₁.setTop (mkF m 0 #[vi (6 : Int32), vi (6 : Int32)] [])) _
  refine own_gs (cur' := s₁.setTop (mkF m 10 #[vi (6 : Int32), vi (6 : Int32)] [(.int (6 : Int32))])) ?_ ?_
  · refine XS.iloadN X0.here hx rfl (hb hby d3_0) rfl ?_
    refine XS.iloadN X0.here hx rfl (hb hby d3_1) rfl ?_
    refine XS.icmpNo X0.here hx rfl (hb hby d3_2) rfl (flt ((by decide) : ¬ ((6 : Int32) < (6 : Int32)))).2.2.1 ?_
    refine XS.iloadN X0.here hx rfl (hb hby d3_5) rfl ?_
    refine XS.goto X0.here hx rfl (pc0 := 6) (pc' := 10) rfl (hb hby d3_6) (by decide) (by decide) ?_
    exact Steps.refl _
  obtain ⟨fs, hr, hrun, hended, hW1, hsame⟩ := X0.leave (v := (some (.int (6 : Int32)))) (fun h => by rw [Bd.returns] at h; cases h)
  refine ⟨_, _, retI X0 hx Bd.returns (hb hby d3_10) hr, hrun, hended, _, _, rfl, ?_, ⟨_, rfl⟩, hW1, hsame.mono (own_le rfl) (own_le rfl)⟩
  show own_mn_Q Z  h0 n0 (some (.int (6 : Int32))) s₁.heap _
  rw [e0]
  exact ⟨rfl, N0, rfl⟩
abbrev own_c4 : ByteArray := jdk_42_method_154_code
def own_isl_Q (Z : State) (x1 : Nat) (h0 : Heap) (n0 : Nat) (v : Option Value) (h : Heap) (L : List Loc) : Prop := v = (some (.int (1 : Int32))) ∧ Fr n0 L ∧ h = h0
theorem pn_java_lang_String : plainName "java/lang/String" = true := by first | (simp [plainName, overriddenIn]; done) | decide +kernel
theorem ef_own_isl (m : MethodId) (x0 : Nat) : entryFrame m #[(.ref x0)] 1 = mkF m 0 #[vr x0] [] := by first | (simp [entryFrame, mkF, argsToLocals, Value.category]; done) | rfl
abbrev own_n6 : MethodName := ⟨"java/lang/String", "isLatin1", "()Z"⟩
theorem d4_0 : decode own_c4 0 = .ok (.getstatic 38, 3) := by decide +kernel
theorem d4_3 : decode own_c4 3 = .ok (.ifCond .eq 14, 3) := by decide +kernel
theorem d4_6 : decode own_c4 6 = .ok (.aload_n 0, 1) := by decide +kernel
theorem d4_7 : decode own_c4 7 = .ok (.getfield 15, 3) := by decide +kernel
theorem d4_10 : decode own_c4 10 = .ok (.ifCond .ne 7, 3) := by decide +kernel
theorem d4_13 : decode own_c4 13 = .ok (.iconst 1, 1) := by decide +kernel
theorem d4_14 : decode own_c4 14 = .ok (.goto 4, 3) := by decide +kernel
theorem d4_18 : decode own_c4 18 = .ok (.ireturn, 1) := by decide +kernel
set_option maxRecDepth 65536 in
set_option maxHeartbeats 40000000 in
theorem own_isl (l : Launch) (Z : State) (a0 : Array Value) (hW : own_W Z a0) (x1 : Nat) (h0 : Heap) (n0 : Nat) (Z0 : n0 ≤ h0.size) (O0 : Old Z n0 h0) (Fc1 : Fld Z h0 x1 "java/lang/String" "coder" "B" (.int (0 : Int32))) :
    MetFree l own_n6 (head1 (Jvm.Cond.code own_n6 own_c4 1 (some .boolean) :: []) ({ frames := 0, cells := 0, slots := 0, locals := 0 } : Room)) (fun a U => a = #[(.ref x1)] ∧ Z.Warmed39 U.vm ∧ U.heap = h0) (fun _ _ _ _ _ => True) (fun _ U o U' => ∃ v L, o = .returned v ∧ own_isl_Q Z x1 h0 n0 v U'.heap L ∧ FrameEnd U o U' L ({ frames := 0, cells := 0, slots := 0, locals := 0 } : Room).cells ({ frames := 0, cells := 0, slots := 0, locals := 0 } : Room).slots) := by
  refine MetFree.of_bodySF (plainFor_of_name pn_java_lang_String) hisR ?_
  intro p e s m args below meth c s₁ Bd hml0 hP hK
  obtain ⟨rfl, hZ, hh⟩ := hP
  obtain ⟨hw, ⟨G1, O2, P5⟩, ⟨G3, O4, rG3⟩⟩ := id hW
  have hx := Bd.exec
  have hby := Bd.bytes
  have hml : c.maxLocals = 1 := hml0
  have hown : s.vm.findClass "java/lang/String" = some m.cls := findClass_of_methodNamed Bd.named
  have hnm := (name_of_methodNamed Bd.named Bd.method).1
  have X0 : Stand p l e ({ frames := 0, cells := 0, slots := 0, locals := 0 } : Room) s m #[(.ref x1)] below meth c s₁ [] 0 0 := Stand.of_body Bd
  have e0 : s₁.heap = h0 := by rw [← hh, Bd.state]; rfl
  have N0 := Fr.nil n0
  have K0 := Keep.refl h0 []
  show own_Fin p e below (s₁.setTop (entryFrame m #[(.ref x1)] 1)) _
  refine own_gs (castTop (ef_own_isl m x1) (Steps.refl _)) ?_
  show own_Fin p e below (s₁.setTop (mkF m 0 #[vr x1] [])) _
  obtain ⟨T11, X11, e11, st11⟩ := getS2 X0 hx hZ hown (host := "") (Or.inl (own_tw hw 22 rfl)) Via.refl e0 (O2.ext O0.2) (g := (mkF m 0 #[vr x1] [])) rfl (hb hby d4_0)
  refine own_go st11 ?_
  show own_Fin p e below (T11.setTop (mkF m 3 #[vr x1] [(.int G1)])) _
  refine own_gs (cur' := T11.setTop (mkF m 7 #[vr x1] [(.ref x1)])) ?_ ?_
  · refine XS.ifNo X11.here hx rfl (hb hby d4_3) rfl ((if0 _ _).trans (feq (P5 : ¬ (G1 = (0 : Int32)))).1) ?_
    refine XS.aloadN X11.here hx rfl (hb hby d4_6) rfl rfl ?_
    exact Steps.refl _
  obtain ⟨T12, X12, e12, st12⟩ := getF X11 hx hZ hown (host := "") (Or.inl (own_tw hw 23 rfl)) Via.refl e11 Fc1 (g := (mkF m 7 #[vr x1] [(.ref x1)])) rfl rfl (hb hby d4_7)
  refine own_go st12 ?_
  show own_Fin p e below (T12.setTop (mkF m 10 #[vr x1] [(.int (0 : Int32))])) _
  refine own_gs (cur' := T12.setTop (mkF m 18 #[vr x1] [(.int (1 : Int32))])) ?_ ?_
  · refine XS.ifNo X12.here hx rfl (hb hby d4_10) rfl ((if0 _ _).trans (teq ((by decide) : (0 : Int32) = (0 : Int32))).2) ?_
    refine XS.iconst X12.here hx rfl (hb hby d4_13) ?_
    refine XS.goto X12.here hx rfl (pc0 := 14) (pc' := 18) rfl (hb hby d4_14) (by decide) (by decide) ?_
    exact Steps.refl _
  obtain ⟨fs, hr, hrun, hended, hW1, hsame⟩ := X12.leave (v := (some (.int (1 : Int32)))) (fun h => by rw [Bd.returns] at h; cases h)
  refine ⟨_, _, retN X12 hx (t := .boolean) Bd.returns (by simp) (hb hby d4_18) hr, hrun, hended, _, _, rfl, ?_, ⟨_, rfl⟩, hW1, hsame.mono (own_le rfl) (own_le rfl)⟩
  show own_isl_Q Z x1 h0 n0 (some (.int (1 : Int32))) T12.heap _
  rw [e12]
  exact ⟨rfl, N0, rfl⟩
abbrev own_c5 : ByteArray := jdk_43_method_4_code
def own_ce_0_Q (Z : State)  (h0 : Heap) (n0 : Nat) (v : Option Value) (h : Heap) (L : List Loc) : Prop := v = (some (.int (1 : Int32))) ∧ Fr n0 L ∧ h = h0
theorem pn_java_lang_StringLatin1 : plainName "java/lang/StringLatin1" = true := by first | (simp [plainName, overriddenIn]; done) | decide +kernel
theorem ef_own_ce_0 (m : MethodId) (x0 : Int32) : entryFrame m #[(.int x0)] 1 = mkF m 0 #[vi x0] [] := by first | (simp [entryFrame, mkF, argsToLocals, Value.category]; done) | rfl
abbrev own_n7 : MethodName := ⟨"java/lang/StringLatin1", "canEncode", "(I)Z"⟩
theorem d5_0 : decode own_c5 0 = .ok (.iload_n 0, 1) := by decide +kernel
theorem d5_1 : decode own_c5 1 = .ok (.ifCond .lt 14, 3) := by decide +kernel
theorem d5_4 : decode own_c5 4 = .ok (.iload_n 0, 1) := by decide +kernel
theorem d5_5 : decode own_c5 5 = .ok (.sipush 255, 3) := by decide +kernel
theorem d5_8 : decode own_c5 8 = .ok (.if_icmp .gt 7, 3) := by decide +kernel
theorem d5_11 : decode own_c5 11 = .ok (.iconst 1, 1) := by decide +kernel
theorem d5_12 : decode own_c5 12 = .ok (.goto 4, 3) := by decide +kernel
theorem d5_16 : decode own_c5 16 = .ok (.ireturn, 1) := by decide +kernel
set_option maxRecDepth 65536 in
set_option maxHeartbeats 40000000 in
theorem own_ce_0 (l : Launch) (Z : State) (a0 : Array Value) (hW : own_W Z a0)  (h0 : Heap) (n0 : Nat) (Z0 : n0 ≤ h0.size) (O0 : Old Z n0 h0)  :
    MetFree l own_n7 (head1 (Jvm.Cond.code own_n7 own_c5 1 (some .boolean) :: []) ({ frames := 0, cells := 0, slots := 0, locals := 0 } : Room)) (fun a U => a = #[(.int (46 : Int32))] ∧ Z.Warmed39 U.vm ∧ U.heap = h0) (fun _ _ _ _ _ => True) (fun _ U o U' => ∃ v L, o = .returned v ∧ own_ce_0_Q Z  h0 n0 v U'.heap L ∧ FrameEnd U o U' L ({ frames := 0, cells := 0, slots := 0, locals := 0 } : Room).cells ({ frames := 0, cells := 0, slots := 0, locals := 0 } : Room).slots) := by
  refine MetFree.of_bodySF (plainFor_of_name pn_java_lang_StringLatin1) hisR ?_
  intro p e s m args below meth c s₁ Bd hml0 hP hK
  obtain ⟨rfl, hZ, hh⟩ := hP
  obtain ⟨hw, ⟨G1, O2, P5⟩, ⟨G3, O4, rG3⟩⟩ := id hW
  have hx := Bd.exec
  have hby := Bd.bytes
  have hml : c.maxLocals = 1 := hml0
  have hown : s.vm.findClass "java/lang/StringLatin1" = some m.cls := findClass_of_methodNamed Bd.named
  have hnm := (name_of_methodNamed Bd.named Bd.method).1
  have X0 : Stand p l e ({ frames := 0, cells := 0, slots := 0, locals := 0 } : Room) s m #[(.int (46 : Int32))] below meth c s₁ [] 0 0 := Stand.of_body Bd
  have e0 : s₁.heap = h0 := by rw [← hh, Bd.state]; rfl
  have N0 := Fr.nil n0
  have K0 := Keep.refl h0 []
  show own_Fin p e below (s₁.setTop (entryFrame m #[(.int (46 : Int32))] 1)) _
  refine own_gs (castTop (ef_own_ce_0 m (46 : Int32)) (Steps.refl _)) ?_
  show own_Fin p e below (s₁.setTop (mkF m 0 #[vi (46 : Int32)] [])) _
  refine own_gs (cur' := s₁.setTop (mkF m 16 #[vi (46 : Int32)] [(.int (1 : Int32))])) ?_ ?_
  · refine XS.iloadN X0.here hx rfl (hb hby d5_0) rfl ?_
    refine XS.ifNo X0.here hx rfl (hb hby d5_1) rfl ((if0 _ _).trans (flt ((by decide) : ¬ ((46 : Int32) < (0 : Int32)))).1) ?_
    refine XS.iloadN X0.here hx rfl (hb hby d5_4) rfl ?_
    refine XS.sipush X0.here hx rfl (hb hby d5_5) ?_
    refine XS.icmpNo X0.here hx rfl (hb hby d5_8) rfl (flt ((by decide) : ¬ ((255 : Int32) < (46 : Int32)))).2.2.1 ?_
    refine XS.iconst X0.here hx rfl (hb hby d5_11) ?_
    refine XS.goto X0.here hx rfl (pc0 := 12) (pc' := 16) rfl (hb hby d5_12) (by decide) (by decide) ?_
    exact Steps.refl _
  obtain ⟨fs, hr, hrun, hended, hW1, hsame⟩ := X0.leave (v := (some (.int (1 : Int32)))) (fun h => by rw [Bd.returns] at h; cases h)
  refine ⟨_, _, retN X0 hx (t := .boolean) Bd.returns (by simp) (hb hby d5_16) hr, hrun, hended, _, _, rfl, ?_, ⟨_, rfl⟩, hW1, hsame.mono (own_le rfl) (own_le rfl)⟩
  show own_ce_0_Q Z  h0 n0 (some (.int (1 : Int32))) s₁.heap _
  rw [e0]
  exact ⟨rfl, N0, rfl⟩
abbrev own_c6 : ByteArray := jdk_43_method_23_code
def own_lic_0_Q (Z : State) (t1 : Nat) (k1 : ClassId) (h0 : Heap) (n0 : Nat) (v : Option Value) (h : Heap) (L : List Loc) : Prop := v = (some (.int (0 : Int32))) ∧ Fr n0 L ∧ h = h0
theorem ef_own_lic_0 (m : MethodId) (x0 : Nat) (x1 : Int32) (x2 : Int32) (x3 : Int32) : entryFrame m #[(.ref x0), (.int x1), (.int x2), (.int x3)] 6 = mkF m 0 #[vr x0, vi x1, vi x2, vi x3, .unset, .unset] [] := by first | (simp [entryFrame, mkF, argsToLocals, Value.category]; done) | rfl
abbrev own_n8 : MethodName := ⟨"java/lang/StringLatin1", "indexOfChar", "([BIII)I"⟩
theorem d6_0 : decode own_c6 0 = .ok (.iload_n 1, 1) := by decide +kernel
theorem d6_1 : decode own_c6 1 = .ok (.i2b, 1) := by decide +kernel
theorem d6_2 : decode own_c6 2 = .ok (.istore 4, 2) := by decide +kernel
theorem d6_4 : decode own_c6 4 = .ok (.iload_n 2, 1) := by decide +kernel
theorem d6_5 : decode own_c6 5 = .ok (.istore 5, 2) := by decide +kernel
theorem d6_7 : decode own_c6 7 = .ok (.iload 5, 2) := by decide +kernel
theorem d6_9 : decode own_c6 9 = .ok (.iload_n 3, 1) := by decide +kernel
theorem d6_10 : decode own_c6 10 = .ok (.if_icmp .ge 21, 3) := by decide +kernel
theorem d6_13 : decode own_c6 13 = .ok (.aload_n 0, 1) := by decide +kernel
theorem d6_14 : decode own_c6 14 = .ok (.iload 5, 2) := by decide +kernel
theorem d6_16 : decode own_c6 16 = .ok (.baload, 1) := by decide +kernel
theorem d6_17 : decode own_c6 17 = .ok (.iload 4, 2) := by decide +kernel
theorem d6_19 : decode own_c6 19 = .ok (.if_icmp .ne 6, 3) := by decide +kernel
theorem d6_22 : decode own_c6 22 = .ok (.iload 5, 2) := by decide +kernel
theorem d6_24 : decode own_c6 24 = .ok (.ireturn, 1) := by decide +kernel
set_option maxRecDepth 65536 in
set_option maxHeartbeats 40000000 in
theorem own_lic_0 (l : Launch) (Z : State) (a0 : Array Value) (hW : own_W Z a0) (t1 : Nat) (k1 : ClassId) (h0 : Heap) (n0 : Nat) (Z0 : n0 ≤ h0.size) (O0 : Old Z n0 h0) (V1 : Arv Z h0 t1 k1 .byte (6 : Int32) [(.int (46 : Int32)), (.int (95 : Int32)), (.int (58 : Int32)), (.int (45 : Int32)), (.int (47 : Int32)), (.int (64 : Int32))] (.int (0 : Int32))) :
    MetFree l own_n8 (head1 (Jvm.Cond.code own_n8 own_c6 6 (some .int) :: []) ({ frames := 0, cells := 0, slots := 0, locals := 0 } : Room)) (fun a U => a = #[(.ref t1), (.int (46 : Int32)), (.int (0 : Int32)), (.int (6 : Int32))] ∧ Z.Warmed39 U.vm ∧ U.heap = h0) (fun _ _ _ _ _ => True) (fun _ U o U' => ∃ v L, o = .returned v ∧ own_lic_0_Q Z t1 k1 h0 n0 v U'.heap L ∧ FrameEnd U o U' L ({ frames := 0, cells := 0, slots := 0, locals := 0 } : Room).cells ({ frames := 0, cells := 0, slots := 0, locals := 0 } : Room).slots) := by
  refine MetFree.of_bodySF (plainFor_of_name pn_java_lang_StringLatin1) hisR ?_
  intro p e s m args below meth c s₁ Bd hml0 hP hK
  obtain ⟨rfl, hZ, hh⟩ := hP
  obtain ⟨hw, ⟨G1, O2, P5⟩, ⟨G3, O4, rG3⟩⟩ := id hW
  have hx := Bd.exec
  have hby := Bd.bytes
  have hml : c.maxLocals = 6 := hml0
  have hown : s.vm.findClass "java/lang/StringLatin1" = some m.cls := findClass_of_methodNamed Bd.named
  have hnm := (name_of_methodNamed Bd.named Bd.method).1
  have X0 : Stand p l e ({ frames := 0, cells := 0, slots := 0, locals := 0 } : Room) s m #[(.ref t1), (.int (46 : Int32)), (.int (0 : Int32)), (.int (6 : Int32))] below meth c s₁ [] 0 0 := Stand.of_body Bd
  have e0 : s₁.heap = h0 := by rw [← hh, Bd.state]; rfl
  have N0 := Fr.nil n0
  have K0 := Keep.refl h0 []
  show own_Fin p e below (s₁.setTop (entryFrame m #[(.ref t1), (.int (46 : Int32)), (.int (0 : Int32)), (.int (6 : Int32))] 6)) _
  refine own_gs (castTop (ef_own_lic_0 m t1 (46 : Int32) (0 : Int32) (6 : Int32)) (Steps.refl _)) ?_
  show own_Fin p e below (s₁.setTop (mkF m 0 #[vr t1, vi (46 : Int32), vi (0 : Int32), vi (6 : Int32), uu, uu] [])) _
  refine own_gs (cur' := s₁.setTop (mkF m 16 #[vr t1, vi (46 : Int32), vi (0 : Int32), vi (6 : Int32), vi (46 : Int32), vi (0 : Int32)] [(.int (0 : Int32)), (.ref t1)])) ?_ ?_
  · refine XS.iloadN X0.here hx rfl (hb hby d6_0) rfl ?_
    refine XS.i2b X0.here hx rfl (hb hby d6_1) rfl ?_
    refine XS.istore X0.here hx rfl (hb hby d6_2) rfl (l' := #[vr t1, vi (46 : Int32), vi (0 : Int32), vi (6 : Int32), vi (46 : Int32), uu]) rfl ?_
    refine XS.iloadN X0.here hx rfl (hb hby d6_4) rfl ?_
    refine XS.istore X0.here hx rfl (hb hby d6_5) rfl (l' := #[vr t1, vi (46 : Int32), vi (0 : Int32), vi (6 : Int32), vi (46 : Int32), vi (0 : Int32)]) rfl ?_
    refine XS.iload X0.here hx rfl (hb hby d6_7) rfl ?_
    refine XS.iloadN X0.here hx rfl (hb hby d6_9) rfl ?_
    refine XS.icmpNo X0.here hx rfl (hb hby d6_10) rfl (tlt ((by decide) : (0 : Int32) < (6 : Int32))).2.1 ?_
    show Steps p.tables e below (s₁.setTop (mkF m 13 #[vr t1, vi (46 : Int32), vi (0 : Int32), vi (6 : Int32), vi (46 : Int32), vi (0 : Int32)] [])) _
    refine XS.aloadN X0.here hx rfl (hb hby d6_13) rfl rfl ?_
    refine XS.iload X0.here hx rfl (hb hby d6_14) rfl ?_
    exact Steps.refl _
  obtain ⟨cl11, Ar11, q11, S11, M11, Hs11, G11⟩ := id V1
  have hin11 : ¬ ((0 : Int32) < 0 ∨ cl11.slots.size ≤ ((0 : Int32)).toNatClampNeg) := inb_of S11 ⟨by decide, by decide⟩
  have hat11 : cl11.slots[((0 : Int32)).toNatClampNeg]? = some (.int (46 : Int32)) := Has.at Hs11 hin11 rfl
  refine own_go (X0.baloadBytes hx (j := (0 : Int32)) (v := (.int (46 : Int32))) (by rw [e0]; exact Ar11.1) (State.isArrayOf_alike hZ.alike Ar11.2.1) Ar11.2.2 hin11 hat11 (g := (mkF m 16 #[vr t1, vi (46 : Int32), vi (0 : Int32), vi (6 : Int32), vi (46 : Int32), vi (0 : Int32)] [(.int (0 : Int32)), (.ref t1)])) rfl rfl (hb hby d6_16)) ?_
  show own_Fin p e below (s₁.setTop (mkF m 17 #[vr t1, vi (46 : Int32), vi (0 : Int32), vi (6 : Int32), vi (46 : Int32), vi (0 : Int32)] [(.int (46 : Int32))])) _
  refine own_gs (cur' := s₁.setTop (mkF m 24 #[vr t1, vi (46 : Int32), vi (0 : Int32), vi (6 : Int32), vi (46 : Int32), vi (0 : Int32)] [(.int (0 : Int32))])) ?_ ?_
  · refine XS.iload X0.here hx rfl (hb hby d6_17) rfl ?_
    refine XS.icmpNo X0.here hx rfl (hb hby d6_19) rfl (teq ((by decide) : (46 : Int32) = (46 : Int32))).2 ?_
    refine XS.iload X0.here hx rfl (hb hby d6_22) rfl ?_
    exact Steps.refl _
  obtain ⟨fs, hr, hrun, hended, hW1, hsame⟩ := X0.leave (v := (some (.int (0 : Int32)))) (fun h => by rw [Bd.returns] at h; cases h)
  refine ⟨_, _, retI X0 hx Bd.returns (hb hby d6_24) hr, hrun, hended, _, _, rfl, ?_, ⟨_, rfl⟩, hW1, hsame.mono (own_le rfl) (own_le rfl)⟩
  show own_lic_0_Q Z t1 k1 h0 n0 (some (.int (0 : Int32))) s₁.heap _
  rw [e0]
  exact ⟨rfl, N0, rfl⟩
abbrev own_c7 : ByteArray := jdk_43_method_22_code
def own_lix_0_Q (Z : State) (t1 : Nat) (k1 : ClassId) (h0 : Heap) (n0 : Nat) (v : Option Value) (h : Heap) (L : List Loc) : Prop := v = (some (.int (0 : Int32))) ∧ Fr n0 L ∧ h = h0
theorem ef_own_lix_0 (m : MethodId) (x0 : Nat) (x1 : Int32) (x2 : Int32) (x3 : Int32) : entryFrame m #[(.ref x0), (.int x1), (.int x2), (.int x3)] 4 = mkF m 0 #[vr x0, vi x1, vi x2, vi x3] [] := by first | (simp [entryFrame, mkF, argsToLocals, Value.category]; done) | rfl
abbrev own_n9 : MethodName := ⟨"java/lang/StringLatin1", "indexOf", "([BIII)I"⟩
theorem d7_0 : decode own_c7 0 = .ok (.iload_n 1, 1) := by decide +kernel
theorem d7_1 : decode own_c7 1 = .ok (.invokestatic 88, 3) := by decide +kernel
theorem pd_2 : parseMethodDescriptor "(I)Z" = some ⟨[.int], some .boolean⟩ := by decide +kernel
theorem d7_4 : decode own_c7 4 = .ok (.ifCond .ne 5, 3) := by decide +kernel
theorem d7_9 : decode own_c7 9 = .ok (.iload_n 2, 1) := by decide +kernel
theorem d7_10 : decode own_c7 10 = .ok (.iconst 0, 1) := by decide +kernel
theorem d7_11 : decode own_c7 11 = .ok (.invokestatic 92, 3) := by decide +kernel
theorem pd_3 : parseMethodDescriptor "(II)I" = some ⟨[.int, .int], some .int⟩ := by decide +kernel
theorem d7_14 : decode own_c7 14 = .ok (.istore_n 2, 1) := by decide +kernel
theorem d7_15 : decode own_c7 15 = .ok (.iload_n 3, 1) := by decide +kernel
theorem d7_16 : decode own_c7 16 = .ok (.aload_n 0, 1) := by decide +kernel
theorem d7_17 : decode own_c7 17 = .ok (.arraylength, 1) := by decide +kernel
theorem d7_18 : decode own_c7 18 = .ok (.invokestatic 38, 3) := by decide +kernel
theorem d7_21 : decode own_c7 21 = .ok (.istore_n 3, 1) := by decide +kernel
theorem d7_22 : decode own_c7 22 = .ok (.iload_n 2, 1) := by decide +kernel
theorem d7_23 : decode own_c7 23 = .ok (.iload_n 3, 1) := by decide +kernel
theorem d7_24 : decode own_c7 24 = .ok (.if_icmp .lt 5, 3) := by decide +kernel
theorem d7_29 : decode own_c7 29 = .ok (.aload_n 0, 1) := by decide +kernel
theorem d7_30 : decode own_c7 30 = .ok (.iload_n 1, 1) := by decide +kernel
theorem d7_31 : decode own_c7 31 = .ok (.iload_n 2, 1) := by decide +kernel
theorem d7_32 : decode own_c7 32 = .ok (.iload_n 3, 1) := by decide +kernel
theorem d7_33 : decode own_c7 33 = .ok (.invokestatic 95, 3) := by decide +kernel
theorem pd_4 : parseMethodDescriptor "([BIII)I" = some ⟨[(.array .byte), .int, .int, .int], some .int⟩ := by decide +kernel
theorem d7_36 : decode own_c7 36 = .ok (.ireturn, 1) := by decide +kernel
set_option maxRecDepth 65536 in
set_option maxHeartbeats 40000000 in
theorem own_lix_0 (l : Launch) (Z : State) (a0 : Array Value) (hW : own_W Z a0) (t1 : Nat) (k1 : ClassId) (h0 : Heap) (n0 : Nat) (Z0 : n0 ≤ h0.size) (O0 : Old Z n0 h0) (V1 : Arv Z h0 t1 k1 .byte (6 : Int32) [(.int (46 : Int32)), (.int (95 : Int32)), (.int (58 : Int32)), (.int (45 : Int32)), (.int (47 : Int32)), (.int (64 : Int32))] (.int (0 : Int32))) :
    MetFree l own_n9 (head1 (Jvm.Cond.code own_n9 own_c7 4 (some .int) :: []) ({ frames := 1, cells := 0, slots := 0, locals := 20 } : Room)) (fun a U => a = #[(.ref t1), (.int (46 : Int32)), (.int (0 : Int32)), (.int (6 : Int32))] ∧ Z.Warmed39 U.vm ∧ U.heap = h0) (fun _ _ _ _ _ => True) (fun _ U o U' => ∃ v L, o = .returned v ∧ own_lix_0_Q Z t1 k1 h0 n0 v U'.heap L ∧ FrameEnd U o U' L ({ frames := 1, cells := 0, slots := 0, locals := 20 } : Room).cells ({ frames := 1, cells := 0, slots := 0, locals := 20 } : Room).slots) := by
  refine MetFree.of_bodySF (plainFor_of_name pn_java_lang_StringLatin1) hisR ?_
  intro p e s m args below meth c s₁ Bd hml0 hP hK
  obtain ⟨rfl, hZ, hh⟩ := hP
  obtain ⟨hw, ⟨G1, O2, P5⟩, ⟨G3, O4, rG3⟩⟩ := id hW
  have hx := Bd.exec
  have hby := Bd.bytes
  have hml : c.maxLocals = 4 := hml0
  have hown : s.vm.findClass "java/lang/StringLatin1" = some m.cls := findClass_of_methodNamed Bd.named
  have hnm := (name_of_methodNamed Bd.named Bd.method).1
  have X0 : Stand p l e ({ frames := 1, cells := 0, slots := 0, locals := 20 } : Room) s m #[(.ref t1), (.int (46 : Int32)), (.int (0 : Int32)), (.int (6 : Int32))] below meth c s₁ [] 0 0 := Stand.of_body Bd
  have e0 : s₁.heap = h0 := by rw [← hh, Bd.state]; rfl
  have N0 := Fr.nil n0
  have K0 := Keep.refl h0 []
  show own_Fin p e below (s₁.setTop (entryFrame m #[(.ref t1), (.int (46 : Int32)), (.int (0 : Int32)), (.int (6 : Int32))] 4)) _
  refine own_gs (castTop (ef_own_lix_0 m t1 (46 : Int32) (0 : Int32) (6 : Int32)) (Steps.refl _)) ?_
  show own_Fin p e below (s₁.setTop (mkF m 0 #[vr t1, vi (46 : Int32), vi (0 : Int32), vi (6 : Int32)] [])) _
  refine own_gs (cur' := s₁.setTop (mkF m 1 #[vr t1, vi (46 : Int32), vi (0 : Int32), vi (6 : Int32)] [(.int (46 : Int32))])) ?_ ?_
  · refine XS.iloadN X0.here hx rfl (hb hby d7_0) rfl ?_
    exact Steps.refl _
  obtain ⟨_, _, ⟨T11, L11, k11, n11⟩, -, X11, ⟨Lc11, hQ11, l11, y11, z11⟩, st11⟩ := Jvm.LawKit.callS X0 hx (y := own_n7) hown (mvT hZ (own_tw hw 134 rfl)) (mvT hZ (own_tw hw 135 rfl)) (mvT hZ (own_tw hw 27 rfl)) (mvT hZ (own_tw hw 136 rfl)) (by decide) (backOf (W := 0) (own_ce_0 l Z a0 hW h0 n0 (by omega) O0) hZ (own_tw hw 136 rfl) (own_tw hw 27 rfl) (by decide) (by decide)) (g := (mkF m 1 #[vr t1, vi (46 : Int32), vi (0 : Int32), vi (6 : Int32)] [(.int (46 : Int32))])) rfl (by rw [hml]; rfl) (argsL := [(.int (46 : Int32))]) (rest := []) (lenOf pd_2 rfl) rfl (own_le rfl) (hb hby d7_1) (fun _ _ => ⟨rfl, e0, (by decide : 0 + 0 ≤ 0), (by decide : 0 + 0 ≤ 0)⟩)
  dsimp only [Pt.U, Pt.locs, Pt.cells, Pt.slots] at X11 l11 y11 z11 st11 hQ11
  subst l11 y11 z11
  obtain ⟨rfl, Nq11, eh11⟩ := hQ11
  have N11 := Fr.app N0 Nq11
  refine own_go st11 ?_
  show own_Fin p e below (T11.setTop (mkF m 4 #[vr t1, vi (46 : Int32), vi (0 : Int32), vi (6 : Int32)] [(.int (1 : Int32))])) _
  refine own_gs (cur' := T11.setTop (mkF m 11 #[vr t1, vi (46 : Int32), vi (0 : Int32), vi (6 : Int32)] [(.int (0 : Int32)), (.int (0 : Int32))])) ?_ ?_
  · refine XS.ifYes X11.here hx rfl (pc0 := 4) (pc' := 9) rfl (hb hby d7_4) rfl ((if0 _ _).trans (feq ((by decide) : ¬ ((1 : Int32) = (0 : Int32)))).2) (by decide) (by decide) ?_
    refine XS.iloadN X11.here hx rfl (hb hby d7_9) rfl ?_
    refine XS.iconst X11.here hx rfl (hb hby d7_10) ?_
    exact Steps.refl _
  obtain ⟨_, _, ⟨T12, L12, k12, n12⟩, -, X12, ⟨Lc12, hQ12, l12, y12, z12⟩, st12⟩ := Jvm.LawKit.callS X11 hx (y := own_n4) hown (mvT hZ (own_tw hw 137 rfl)) (mvT hZ (own_tw hw 138 rfl)) (mvT hZ (own_tw hw 139 rfl)) (mvT hZ (own_tw hw 140 rfl)) (by decide) (backOf (W := 0) (own_mx l Z a0 hW h0 n0 (by omega) O0) hZ (own_tw hw 140 rfl) (own_tw hw 139 rfl) (by decide) (by decide)) (g := (mkF m 11 #[vr t1, vi (46 : Int32), vi (0 : Int32), vi (6 : Int32)] [(.int (0 : Int32)), (.int (0 : Int32))])) rfl (by rw [hml]; rfl) (argsL := [(.int (0 : Int32)), (.int (0 : Int32))]) (rest := []) (lenOf pd_3 rfl) rfl (own_le rfl) (hb hby d7_11) (fun _ _ => ⟨rfl, eh11, (by decide : 0 + 0 ≤ 0), (by decide : 0 + 0 ≤ 0)⟩)
  dsimp only [Pt.U, Pt.locs, Pt.cells, Pt.slots] at X12 l12 y12 z12 st12 hQ12
  subst l12 y12 z12
  obtain ⟨rfl, Nq12, eh12⟩ := hQ12
  have N12 := Fr.app N11 Nq12
  refine own_go st12 ?_
  show own_Fin p e below (T12.setTop (mkF m 14 #[vr t1, vi (46 : Int32), vi (0 : Int32), vi (6 : Int32)] [(.int (0 : Int32))])) _
  refine own_gs (cur' := T12.setTop (mkF m 17 #[vr t1, vi (46 : Int32), vi (0 : Int32), vi (6 : Int32)] [(.ref t1), (.int (6 : Int32))])) ?_ ?_
  · refine XS.istoreN X12.here hx rfl (hb hby d7_14) rfl (l' := #[vr t1, vi (46 : Int32), vi (0 : Int32), vi (6 : Int32)]) rfl ?_
    refine XS.iloadN X12.here hx rfl (hb hby d7_15) rfl ?_
    refine XS.aloadN X12.here hx rfl (hb hby d7_16) rfl rfl ?_
    exact Steps.refl _
  obtain ⟨cl13, Ar13, q13, S13, M13, Hs13, G13⟩ := id V1
  refine own_go (X12.arraylength hx (by rw [eh12]; exact Ar13.1) (State.isArrayOf_alike hZ.alike Ar13.2.1) (g := (mkF m 17 #[vr t1, vi (46 : Int32), vi (0 : Int32), vi (6 : Int32)] [(.ref t1), (.int (6 : Int32))])) rfl rfl (hb hby d7_17)) ?_
  rw [len_of S13 M13]
  show own_Fin p e below (T12.setTop (mkF m 18 #[vr t1, vi (46 : Int32), vi (0 : Int32), vi (6 : Int32)] [(.int (6 : Int32)), (.int (6 : Int32))])) _
  obtain ⟨_, _, ⟨T14, L14, k14, n14⟩, -, X14, ⟨Lc14, hQ14, l14, y14, z14⟩, st14⟩ := Jvm.LawKit.callS X12 hx (y := own_n5) hown (mvT hZ (own_tw hw 141 rfl)) (mvT hZ (own_tw hw 142 rfl)) (mvT hZ (own_tw hw 139 rfl)) (mvT hZ (own_tw hw 143 rfl)) (by decide) (backOf (W := 0) (own_mn l Z a0 hW h0 n0 (by omega) O0) hZ (own_tw hw 143 rfl) (own_tw hw 139 rfl) (by decide) (by decide)) (g := (mkF m 18 #[vr t1, vi (46 : Int32), vi (0 : Int32), vi (6 : Int32)] [(.int (6 : Int32)), (.int (6 : Int32))])) rfl (by rw [hml]; rfl) (argsL := [(.int (6 : Int32)), (.int (6 : Int32))]) (rest := []) (lenOf pd_3 rfl) rfl (own_le rfl) (hb hby d7_18) (fun _ _ => ⟨rfl, eh12, (by decide : 0 + 0 ≤ 0), (by decide : 0 + 0 ≤ 0)⟩)
  dsimp only [Pt.U, Pt.locs, Pt.cells, Pt.slots] at X14 l14 y14 z14 st14 hQ14
  subst l14 y14 z14
  obtain ⟨rfl, Nq14, eh14⟩ := hQ14
  have N14 := Fr.app N12 Nq14
  refine own_go st14 ?_
  show own_Fin p e below (T14.setTop (mkF m 21 #[vr t1, vi (46 : Int32), vi (0 : Int32), vi (6 : Int32)] [(.int (6 : Int32))])) _
  refine own_gs (cur' := T14.setTop (mkF m 33 #[vr t1, vi (46 : Int32), vi (0 : Int32), vi (6 : Int32)] [(.int (6 : Int32)), (.int (0 : Int32)), (.int (46 : Int32)), (.ref t1)])) ?_ ?_
  · refine XS.istoreN X14.here hx rfl (hb hby d7_21) rfl (l' := #[vr t1, vi (46 : Int32), vi (0 : Int32), vi (6 : Int32)]) rfl ?_
    refine XS.iloadN X14.here hx rfl (hb hby d7_22) rfl ?_
    refine XS.iloadN X14.here hx rfl (hb hby d7_23) rfl ?_
    refine XS.icmpYes X14.here hx rfl (pc0 := 24) (pc' := 29) rfl (hb hby d7_24) rfl (tlt ((by decide) : (0 : Int32) < (6 : Int32))).1 (by decide) (by decide) ?_
    refine XS.aloadN X14.here hx rfl (hb hby d7_29) rfl rfl ?_
    refine XS.iloadN X14.here hx rfl (hb hby d7_30) rfl ?_
    refine XS.iloadN X14.here hx rfl (hb hby d7_31) rfl ?_
    refine XS.iloadN X14.here hx rfl (hb hby d7_32) rfl ?_
    exact Steps.refl _
  obtain ⟨_, _, ⟨T15, L15, k15, n15⟩, -, X15, ⟨Lc15, hQ15, l15, y15, z15⟩, st15⟩ := Jvm.LawKit.callS X14 hx (y := own_n8) hown (mvT hZ (own_tw hw 144 rfl)) (mvT hZ (own_tw hw 145 rfl)) (mvT hZ (own_tw hw 27 rfl)) (mvT hZ (own_tw hw 146 rfl)) (by decide) (backOf (W := 0) (own_lic_0 l Z a0 hW t1 k1 h0 n0 (by omega) O0 V1) hZ (own_tw hw 146 rfl) (own_tw hw 27 rfl) (by decide) (by decide)) (g := (mkF m 33 #[vr t1, vi (46 : Int32), vi (0 : Int32), vi (6 : Int32)] [(.int (6 : Int32)), (.int (0 : Int32)), (.int (46 : Int32)), (.ref t1)])) rfl (by rw [hml]; rfl) (argsL := [(.ref t1), (.int (46 : Int32)), (.int (0 : Int32)), (.int (6 : Int32))]) (rest := []) (lenOf pd_4 rfl) rfl (own_le rfl) (hb hby d7_33) (fun _ _ => ⟨rfl, eh14, (by decide : 0 + 0 ≤ 0), (by decide : 0 + 0 ≤ 0)⟩)
  dsimp only [Pt.U, Pt.locs, Pt.cells, Pt.slots] at X15 l15 y15 z15 st15 hQ15
  subst l15 y15 z15
  obtain ⟨rfl, Nq15, eh15⟩ := hQ15
  have N15 := Fr.app N14 Nq15
  refine own_go st15 ?_
  show own_Fin p e below (T15.setTop (mkF m 36 #[vr t1, vi (46 : Int32), vi (0 : Int32), vi (6 : Int32)] [(.int (0 : Int32))])) _
  obtain ⟨fs, hr, hrun, hended, hW1, hsame⟩ := X15.leave (v := (some (.int (0 : Int32)))) (fun h => by rw [Bd.returns] at h; cases h)
  refine ⟨_, _, retI X15 hx Bd.returns (hb hby d7_36) hr, hrun, hended, _, _, rfl, ?_, ⟨_, rfl⟩, hW1, hsame.mono (own_le rfl) (own_le rfl)⟩
  show own_lix_0_Q Z t1 k1 h0 n0 (some (.int (0 : Int32))) T15.heap _
  rw [eh15]
  exact ⟨rfl, N15, rfl⟩
abbrev own_c8 : ByteArray := jdk_42_method_80_code
def own_ix2_0_Q (Z : State) (x1 t1 : Nat) (k1 : ClassId) (h0 : Heap) (n0 : Nat) (v : Option Value) (h : Heap) (L : List Loc) : Prop := v = (some (.int (0 : Int32))) ∧ Fr n0 L ∧ h = h0
theorem ef_own_ix2_0 (m : MethodId) (x0 : Nat) (x1 : Int32) (x2 : Int32) : entryFrame m #[(.ref x0), (.int x1), (.int x2)] 3 = mkF m 0 #[vr x0, vi x1, vi x2] [] := by first | (simp [entryFrame, mkF, argsToLocals, Value.category]; done) | rfl
abbrev own_n10 : MethodName := ⟨"java/lang/String", "indexOf", "(II)I"⟩
theorem d8_0 : decode own_c8 0 = .ok (.aload_n 0, 1) := by decide +kernel
theorem d8_1 : decode own_c8 1 = .ok (.invokevirtual 492, 3) := by decide +kernel
theorem pd_5 : parseMethodDescriptor "()Z" = some ⟨[], some .boolean⟩ := by decide +kernel
theorem d8_4 : decode own_c8 4 = .ok (.ifCond .eq 19, 3) := by decide +kernel
theorem d8_7 : decode own_c8 7 = .ok (.aload_n 0, 1) := by decide +kernel
theorem d8_8 : decode own_c8 8 = .ok (.getfield 9, 3) := by decide +kernel
theorem d8_11 : decode own_c8 11 = .ok (.iload_n 1, 1) := by decide +kernel
theorem d8_12 : decode own_c8 12 = .ok (.iload_n 2, 1) := by decide +kernel
theorem d8_13 : decode own_c8 13 = .ok (.aload_n 0, 1) := by decide +kernel
theorem d8_14 : decode own_c8 14 = .ok (.invokevirtual 505, 3) := by decide +kernel
theorem pd_6 : parseMethodDescriptor "()I" = some ⟨[], some .int⟩ := by decide +kernel
abbrev own_n11 : MethodName := ⟨"java/lang/String", "length", "()I"⟩
theorem d8_17 : decode own_c8 17 = .ok (.invokestatic 637, 3) := by decide +kernel
theorem d8_20 : decode own_c8 20 = .ok (.goto 16, 3) := by decide +kernel
theorem d8_36 : decode own_c8 36 = .ok (.ireturn, 1) := by decide +kernel
set_option maxRecDepth 65536 in
set_option maxHeartbeats 40000000 in
theorem own_ix2_0 (l : Launch) (Z : State) (a0 : Array Value) (hW : own_W Z a0) (x1 t1 : Nat) (k1 : ClassId) (h0 : Heap) (n0 : Nat) (Z0 : n0 ≤ h0.size) (O0 : Old Z n0 h0) (E1 : Exa Z h0 x1 "java/lang/String") (Fv1 : Fld Z h0 x1 "java/lang/String" "value" "[B" (.ref t1)) (Fc1 : Fld Z h0 x1 "java/lang/String" "coder" "B" (.int (0 : Int32))) (V1 : Arv Z h0 t1 k1 .byte (6 : Int32) [(.int (46 : Int32)), (.int (95 : Int32)), (.int (58 : Int32)), (.int (45 : Int32)), (.int (47 : Int32)), (.int (64 : Int32))] (.int (0 : Int32))) :
    MetFree l own_n10 (head1 (Jvm.Cond.code own_n10 own_c8 3 (some .int) :: []) ({ frames := 2, cells := 0, slots := 0, locals := 36 } : Room)) (fun a U => a = #[(.ref x1), (.int (46 : Int32)), (.int (0 : Int32))] ∧ Z.Warmed39 U.vm ∧ U.heap = h0) (fun _ _ _ _ _ => True) (fun _ U o U' => ∃ v L, o = .returned v ∧ own_ix2_0_Q Z x1 t1 k1 h0 n0 v U'.heap L ∧ FrameEnd U o U' L ({ frames := 2, cells := 0, slots := 0, locals := 36 } : Room).cells ({ frames := 2, cells := 0, slots := 0, locals := 36 } : Room).slots) := by
  refine MetFree.of_bodySF (plainFor_of_name pn_java_lang_String) hisR ?_
  intro p e s m args below meth c s₁ Bd hml0 hP hK
  obtain ⟨rfl, hZ, hh⟩ := hP
  obtain ⟨hw, ⟨G1, O2, P5⟩, ⟨G3, O4, rG3⟩⟩ := id hW
  have hx := Bd.exec
  have hby := Bd.bytes
  have hml : c.maxLocals = 3 := hml0
  have hown : s.vm.findClass "java/lang/String" = some m.cls := findClass_of_methodNamed Bd.named
  have hnm := (name_of_methodNamed Bd.named Bd.method).1
  have X0 : Stand p l e ({ frames := 2, cells := 0, slots := 0, locals := 36 } : Room) s m #[(.ref x1), (.int (46 : Int32)), (.int (0 : Int32))] below meth c s₁ [] 0 0 := Stand.of_body Bd
  have e0 : s₁.heap = h0 := by rw [← hh, Bd.state]; rfl
  have N0 := Fr.nil n0
  have K0 := Keep.refl h0 []
  have F1 : own_Str Z h0 x1 t1 [46, 95, 58, 45, 47, 64] := ⟨_, _, _, _, E1, Fv1, Fc1, V1, Or.inl ⟨rfl, rfl, rfl, by decide⟩, by decide, by decide⟩
  show own_Fin p e below (s₁.setTop (entryFrame m #[(.ref x1), (.int (46 : Int32)), (.int (0 : Int32))] 3)) _
  refine own_gs (castTop (ef_own_ix2_0 m x1 (46 : Int32) (0 : Int32)) (Steps.refl _)) ?_
  show own_Fin p e below (s₁.setTop (mkF m 0 #[vr x1, vi (46 : Int32), vi (0 : Int32)] [])) _
  refine own_gs (cur' := s₁.setTop (mkF m 1 #[vr x1, vi (46 : Int32), vi (0 : Int32)] [(.ref x1)])) ?_ ?_
  · refine XS.aloadN X0.here hx rfl (hb hby d8_0) rfl rfl ?_
    exact Steps.refl _
  obtain ⟨cq11, kq11, q11a, q11b, q11c⟩ := isOf hZ e0 E1
  obtain ⟨_, _, ⟨T11, L11, k11, n11⟩, -, X11, ⟨Lc11, hQ11, l11, y11, z11⟩, st11⟩ := X0.virtualBack hx (y := own_n6) (z := own_n6) hown (mvT hZ (own_tw hw 17 rfl)) (mvT hZ (own_tw hw 18 rfl)) (notFace_of_selects (args := #[]) (mvT hZ (own_tw hw 20 rfl))) (mvT hZ (own_tw hw 20 rfl)) (mvT hZ (own_tw hw 19 rfl)) (by decide) (backOf (W := 0) (own_isl l Z a0 hW x1 h0 n0 (by omega) O0 Fc1) hZ (own_tw hw 21 rfl) (own_tw hw 5 rfl) (by decide) (by decide)) q11a q11c (g := (mkF m 1 #[vr x1, vi (46 : Int32), vi (0 : Int32)] [(.ref x1)])) rfl (by rw [hml]; rfl) (Steps.refl _) (argsL := []) (rest := []) (lenOf pd_5 rfl) rfl (own_le rfl) (hb hby d8_1) (fun _ _ => ⟨rfl, e0, (by decide : 0 + 0 ≤ 0), (by decide : 0 + 0 ≤ 0)⟩)
  dsimp only [Pt.U, Pt.locs, Pt.cells, Pt.slots] at X11 l11 y11 z11 st11 hQ11
  subst l11 y11 z11
  obtain ⟨rfl, Nq11, eh11⟩ := hQ11
  have N11 := Fr.app N0 Nq11
  refine own_gs st11 ?_
  show own_Fin p e below (T11.setTop (mkF m 4 #[vr x1, vi (46 : Int32), vi (0 : Int32)] [(.int (1 : Int32))])) _
  refine own_gs (cur' := T11.setTop (mkF m 8 #[vr x1, vi (46 : Int32), vi (0 : Int32)] [(.ref x1)])) ?_ ?_
  · refine XS.ifNo X11.here hx rfl (hb hby d8_4) rfl ((if0 _ _).trans (feq ((by decide) : ¬ ((1 : Int32) = (0 : Int32)))).1) ?_
    refine XS.aloadN X11.here hx rfl (hb hby d8_7) rfl rfl ?_
    exact Steps.refl _
  obtain ⟨T12, X12, e12, st12⟩ := getF X11 hx hZ hown (host := "") (Or.inl (own_tw hw 24 rfl)) Via.refl eh11 Fv1 (g := (mkF m 8 #[vr x1, vi (46 : Int32), vi (0 : Int32)] [(.ref x1)])) rfl rfl (hb hby d8_8)
  refine own_go st12 ?_
  show own_Fin p e below (T12.setTop (mkF m 11 #[vr x1, vi (46 : Int32), vi (0 : Int32)] [(.ref t1)])) _
  refine own_gs (cur' := T12.setTop (mkF m 14 #[vr x1, vi (46 : Int32), vi (0 : Int32)] [(.ref x1), (.int (0 : Int32)), (.int (46 : Int32)), (.ref t1)])) ?_ ?_
  · refine XS.iloadN X12.here hx rfl (hb hby d8_11) rfl ?_
    refine XS.iloadN X12.here hx rfl (hb hby d8_12) rfl ?_
    refine XS.aloadN X12.here hx rfl (hb hby d8_13) rfl rfl ?_
    exact Steps.refl _
  obtain ⟨cq13, kq13, q13a, q13b, q13c⟩ := isOf hZ e12 E1
  obtain ⟨_, _, ⟨T13, L13, k13, n13⟩, -, X13, ⟨Lc13, hQ13, l13, y13, z13⟩, st13⟩ := X12.virtualBack hx (y := own_n11) (z := own_n11) hown (mvT hZ (own_tw hw 130 rfl)) (mvT hZ (own_tw hw 72 rfl)) (notFace_of_selects (args := #[]) (mvT hZ (own_tw hw 74 rfl))) (mvT hZ (own_tw hw 74 rfl)) (mvT hZ (own_tw hw 73 rfl)) (by decide) (own_lenB (W := 3) hZ hw F1 (O2.ext O0.2) P5 (by decide) (by decide)) q13a q13c (g := (mkF m 14 #[vr x1, vi (46 : Int32), vi (0 : Int32)] [(.ref x1), (.int (0 : Int32)), (.int (46 : Int32)), (.ref t1)])) rfl (by rw [hml]; rfl) (Steps.refl _) (argsL := []) (rest := [(.int (0 : Int32)), (.int (46 : Int32)), (.ref t1)]) (lenOf pd_6 rfl) rfl (own_le rfl) (hb hby d8_14) (fun _ _ => ⟨rfl, e12, (by decide : 0 + 0 ≤ 0), (by decide : 0 + 0 ≤ 0)⟩)
  dsimp only [Pt.U, Pt.locs, Pt.cells, Pt.slots] at X13 l13 y13 z13 st13 hQ13
  subst l13 y13 z13
  obtain ⟨rfl, rfl, eh13⟩ := hQ13
  have N13 := Fr.app N11 (Fr.nil n0)
  refine own_gs st13 ?_
  show own_Fin p e below (T13.setTop (mkF m 17 #[vr x1, vi (46 : Int32), vi (0 : Int32)] [(.int (6 : Int32)), (.int (0 : Int32)), (.int (46 : Int32)), (.ref t1)])) _
  obtain ⟨_, _, ⟨T14, L14, k14, n14⟩, -, X14, ⟨Lc14, hQ14, l14, y14, z14⟩, st14⟩ := Jvm.LawKit.callS X13 hx (y := own_n9) hown (mvT hZ (own_tw hw 131 rfl)) (mvT hZ (own_tw hw 132 rfl)) (mvT hZ (own_tw hw 27 rfl)) (mvT hZ (own_tw hw 133 rfl)) (by decide) (backOf (W := 0) (own_lix_0 l Z a0 hW t1 k1 h0 n0 (by omega) O0 V1) hZ (own_tw hw 133 rfl) (own_tw hw 27 rfl) (by decide) (by decide)) (g := (mkF m 17 #[vr x1, vi (46 : Int32), vi (0 : Int32)] [(.int (6 : Int32)), (.int (0 : Int32)), (.int (46 : Int32)), (.ref t1)])) rfl (by rw [hml]; rfl) (argsL := [(.ref t1), (.int (46 : Int32)), (.int (0 : Int32)), (.int (6 : Int32))]) (rest := []) (lenOf pd_4 rfl) rfl (own_le rfl) (hb hby d8_17) (fun _ _ => ⟨rfl, eh13, (by decide : 0 + 0 ≤ 0), (by decide : 0 + 0 ≤ 0)⟩)
  dsimp only [Pt.U, Pt.locs, Pt.cells, Pt.slots] at X14 l14 y14 z14 st14 hQ14
  subst l14 y14 z14
  obtain ⟨rfl, Nq14, eh14⟩ := hQ14
  have N14 := Fr.app N13 Nq14
  refine own_go st14 ?_
  show own_Fin p e below (T14.setTop (mkF m 20 #[vr x1, vi (46 : Int32), vi (0 : Int32)] [(.int (0 : Int32))])) _
  refine own_gs (cur' := T14.setTop (mkF m 36 #[vr x1, vi (46 : Int32), vi (0 : Int32)] [(.int (0 : Int32))])) ?_ ?_
  · refine XS.goto X14.here hx rfl (pc0 := 20) (pc' := 36) rfl (hb hby d8_20) (by decide) (by decide) ?_
    exact Steps.refl _
  obtain ⟨fs, hr, hrun, hended, hW1, hsame⟩ := X14.leave (v := (some (.int (0 : Int32)))) (fun h => by rw [Bd.returns] at h; cases h)
  refine ⟨_, _, retI X14 hx Bd.returns (hb hby d8_36) hr, hrun, hended, _, _, rfl, ?_, ⟨_, rfl⟩, hW1, hsame.mono (own_le rfl) (own_le rfl)⟩
  show own_ix2_0_Q Z x1 t1 k1 h0 n0 (some (.int (0 : Int32))) T14.heap _
  rw [eh14]
  exact ⟨rfl, N14, rfl⟩
abbrev own_c9 : ByteArray := jdk_42_method_79_code
def own_ix1_0_Q (Z : State) (x1 t1 : Nat) (k1 : ClassId) (h0 : Heap) (n0 : Nat) (v : Option Value) (h : Heap) (L : List Loc) : Prop := v = (some (.int (0 : Int32))) ∧ Fr n0 L ∧ h = h0
theorem ef_own_ix1_0 (m : MethodId) (x0 : Nat) (x1 : Int32) : entryFrame m #[(.ref x0), (.int x1)] 2 = mkF m 0 #[vr x0, vi x1] [] := by first | (simp [entryFrame, mkF, argsToLocals, Value.category]; done) | rfl
abbrev own_n12 : MethodName := ⟨"java/lang/String", "indexOf", "(I)I"⟩
theorem d9_0 : decode own_c9 0 = .ok (.aload_n 0, 1) := by decide +kernel
theorem d9_1 : decode own_c9 1 = .ok (.iload_n 1, 1) := by decide +kernel
theorem d9_2 : decode own_c9 2 = .ok (.iconst 0, 1) := by decide +kernel
theorem d9_3 : decode own_c9 3 = .ok (.invokevirtual 633, 3) := by decide +kernel
theorem d9_6 : decode own_c9 6 = .ok (.ireturn, 1) := by decide +kernel
set_option maxRecDepth 65536 in
set_option maxHeartbeats 40000000 in
theorem own_ix1_0 (l : Launch) (Z : State) (a0 : Array Value) (hW : own_W Z a0) (x1 t1 : Nat) (k1 : ClassId) (h0 : Heap) (n0 : Nat) (Z0 : n0 ≤ h0.size) (O0 : Old Z n0 h0) (E1 : Exa Z h0 x1 "java/lang/String") (Fv1 : Fld Z h0 x1 "java/lang/String" "value" "[B" (.ref t1)) (Fc1 : Fld Z h0 x1 "java/lang/String" "coder" "B" (.int (0 : Int32))) (V1 : Arv Z h0 t1 k1 .byte (6 : Int32) [(.int (46 : Int32)), (.int (95 : Int32)), (.int (58 : Int32)), (.int (45 : Int32)), (.int (47 : Int32)), (.int (64 : Int32))] (.int (0 : Int32))) :
    MetFree l own_n12 (head1 (Jvm.Cond.code own_n12 own_c9 2 (some .int) :: []) ({ frames := 3, cells := 0, slots := 0, locals := 50 } : Room)) (fun a U => a = #[(.ref x1), (.int (46 : Int32))] ∧ Z.Warmed39 U.vm ∧ U.heap = h0) (fun _ _ _ _ _ => True) (fun _ U o U' => ∃ v L, o = .returned v ∧ own_ix1_0_Q Z x1 t1 k1 h0 n0 v U'.heap L ∧ FrameEnd U o U' L ({ frames := 3, cells := 0, slots := 0, locals := 50 } : Room).cells ({ frames := 3, cells := 0, slots := 0, locals := 50 } : Room).slots) := by
  refine MetFree.of_bodySF (plainFor_of_name pn_java_lang_String) hisR ?_
  intro p e s m args below meth c s₁ Bd hml0 hP hK
  obtain ⟨rfl, hZ, hh⟩ := hP
  obtain ⟨hw, ⟨G1, O2, P5⟩, ⟨G3, O4, rG3⟩⟩ := id hW
  have hx := Bd.exec
  have hby := Bd.bytes
  have hml : c.maxLocals = 2 := hml0
  have hown : s.vm.findClass "java/lang/String" = some m.cls := findClass_of_methodNamed Bd.named
  have hnm := (name_of_methodNamed Bd.named Bd.method).1
  have X0 : Stand p l e ({ frames := 3, cells := 0, slots := 0, locals := 50 } : Room) s m #[(.ref x1), (.int (46 : Int32))] below meth c s₁ [] 0 0 := Stand.of_body Bd
  have e0 : s₁.heap = h0 := by rw [← hh, Bd.state]; rfl
  have N0 := Fr.nil n0
  have K0 := Keep.refl h0 []
  have F1 : own_Str Z h0 x1 t1 [46, 95, 58, 45, 47, 64] := ⟨_, _, _, _, E1, Fv1, Fc1, V1, Or.inl ⟨rfl, rfl, rfl, by decide⟩, by decide, by decide⟩
  show own_Fin p e below (s₁.setTop (entryFrame m #[(.ref x1), (.int (46 : Int32))] 2)) _
  refine own_gs (castTop (ef_own_ix1_0 m x1 (46 : Int32)) (Steps.refl _)) ?_
  show own_Fin p e below (s₁.setTop (mkF m 0 #[vr x1, vi (46 : Int32)] [])) _
  refine own_gs (cur' := s₁.setTop (mkF m 3 #[vr x1, vi (46 : Int32)] [(.int (0 : Int32)), (.int (46 : Int32)), (.ref x1)])) ?_ ?_
  · refine XS.aloadN X0.here hx rfl (hb hby d9_0) rfl rfl ?_
    refine XS.iloadN X0.here hx rfl (hb hby d9_1) rfl ?_
    refine XS.iconst X0.here hx rfl (hb hby d9_2) ?_
    exact Steps.refl _
  obtain ⟨cq11, kq11, q11a, q11b, q11c⟩ := isOf hZ e0 E1
  obtain ⟨_, _, ⟨T11, L11, k11, n11⟩, -, X11, ⟨Lc11, hQ11, l11, y11, z11⟩, st11⟩ := X0.virtualBack hx (y := own_n10) (z := own_n10) hown (mvT hZ (own_tw hw 125 rfl)) (mvT hZ (own_tw hw 126 rfl)) (notFace_of_selects (args := #[]) (mvT hZ (own_tw hw 128 rfl))) (mvT hZ (own_tw hw 128 rfl)) (mvT hZ (own_tw hw 127 rfl)) (by decide) (backOf (W := 0) (own_ix2_0 l Z a0 hW x1 t1 k1 h0 n0 (by omega) O0 E1 Fv1 Fc1 V1) hZ (own_tw hw 129 rfl) (own_tw hw 5 rfl) (by decide) (by decide)) q11a q11c (g := (mkF m 3 #[vr x1, vi (46 : Int32)] [(.int (0 : Int32)), (.int (46 : Int32)), (.ref x1)])) rfl (by rw [hml]; rfl) (Steps.refl _) (argsL := [(.int (46 : Int32)), (.int (0 : Int32))]) (rest := []) (lenOf pd_3 rfl) rfl (own_le rfl) (hb hby d9_3) (fun _ _ => ⟨rfl, e0, (by decide : 0 + 0 ≤ 0), (by decide : 0 + 0 ≤ 0)⟩)
  dsimp only [Pt.U, Pt.locs, Pt.cells, Pt.slots] at X11 l11 y11 z11 st11 hQ11
  subst l11 y11 z11
  obtain ⟨rfl, Nq11, eh11⟩ := hQ11
  have N11 := Fr.app N0 Nq11
  refine own_gs st11 ?_
  show own_Fin p e below (T11.setTop (mkF m 6 #[vr x1, vi (46 : Int32)] [(.int (0 : Int32))])) _
  obtain ⟨fs, hr, hrun, hended, hW1, hsame⟩ := X11.leave (v := (some (.int (0 : Int32)))) (fun h => by rw [Bd.returns] at h; cases h)
  refine ⟨_, _, retI X11 hx Bd.returns (hb hby d9_6) hr, hrun, hended, _, _, rfl, ?_, ⟨_, rfl⟩, hW1, hsame.mono (own_le rfl) (own_le rfl)⟩
  show own_ix1_0_Q Z x1 t1 k1 h0 n0 (some (.int (0 : Int32))) T11.heap _
  rw [eh11]
  exact ⟨rfl, N11, rfl⟩
def own_ce_1_Q (Z : State)  (h0 : Heap) (n0 : Nat) (v : Option Value) (h : Heap) (L : List Loc) : Prop := v = (some (.int (1 : Int32))) ∧ Fr n0 L ∧ h = h0
theorem ef_own_ce_1 (m : MethodId) (x0 : Int32) : entryFrame m #[(.int x0)] 1 = mkF m 0 #[vi x0] [] := by first | (simp [entryFrame, mkF, argsToLocals, Value.category]; done) | rfl
set_option maxRecDepth 65536 in
set_option maxHeartbeats 40000000 in
theorem own_ce_1 (l : Launch) (Z : State) (a0 : Array Value) (hW : own_W Z a0)  (h0 : Heap) (n0 : Nat) (Z0 : n0 ≤ h0.size) (O0 : Old Z n0 h0)  :
    MetFree l own_n7 (head1 (Jvm.Cond.code own_n7 own_c5 1 (some .boolean) :: []) ({ frames := 0, cells := 0, slots := 0, locals := 0 } : Room)) (fun a U => a = #[(.int (95 : Int32))] ∧ Z.Warmed39 U.vm ∧ U.heap = h0) (fun _ _ _ _ _ => True) (fun _ U o U' => ∃ v L, o = .returned v ∧ own_ce_1_Q Z  h0 n0 v U'.heap L ∧ FrameEnd U o U' L ({ frames := 0, cells := 0, slots := 0, locals := 0 } : Room).cells ({ frames := 0, cells := 0, slots := 0, locals := 0 } : Room).slots) := by
  refine MetFree.of_bodySF (plainFor_of_name pn_java_lang_StringLatin1) hisR ?_
  intro p e s m args below meth c s₁ Bd hml0 hP hK
  obtain ⟨rfl, hZ, hh⟩ := hP
  obtain ⟨hw, ⟨G1, O2, P5⟩, ⟨G3, O4, rG3⟩⟩ := id hW
  have hx := Bd.exec
  have hby := Bd.bytes
  have hml : c.maxLocals = 1 := hml0
  have hown : s.vm.findClass "java/lang/StringLatin1" = some m.cls := findClass_of_methodNamed Bd.named
  have hnm := (name_of_methodNamed Bd.named Bd.method).1
  have X0 : Stand p l e ({ frames := 0, cells := 0, slots := 0, locals := 0 } : Room) s m #[(.int (95 : Int32))] below meth c s₁ [] 0 0 := Stand.of_body Bd
  have e0 : s₁.heap = h0 := by rw [← hh, Bd.state]; rfl
  have N0 := Fr.nil n0
  have K0 := Keep.refl h0 []
  show own_Fin p e below (s₁.setTop (entryFrame m #[(.int (95 : Int32))] 1)) _
  refine own_gs (castTop (ef_own_ce_1 m (95 : Int32)) (Steps.refl _)) ?_
  show own_Fin p e below (s₁.setTop (mkF m 0 #[vi (95 : Int32)] [])) _
  refine own_gs (cur' := s₁.setTop (mkF m 16 #[vi (95 : Int32)] [(.int (1 : Int32))])) ?_ ?_
  · refine XS.iloadN X0.here hx rfl (hb hby d5_0) rfl ?_
    refine XS.ifNo X0.here hx rfl (hb hby d5_1) rfl ((if0 _ _).trans (flt ((by decide) : ¬ ((95 : Int32) < (0 : Int32)))).1) ?_
    refine XS.iloadN X0.here hx rfl (hb hby d5_4) rfl ?_
    refine XS.sipush X0.here hx rfl (hb hby d5_5) ?_
    refine XS.icmpNo X0.here hx rfl (hb hby d5_8) rfl (flt ((by decide) : ¬ ((255 : Int32) < (95 : Int32)))).2.2.1 ?_
    refine XS.iconst X0.here hx rfl (hb hby d5_11) ?_
    refine XS.goto X0.here hx rfl (pc0 := 12) (pc' := 16) rfl (hb hby d5_12) (by decide) (by decide) ?_
    exact Steps.refl _
  obtain ⟨fs, hr, hrun, hended, hW1, hsame⟩ := X0.leave (v := (some (.int (1 : Int32)))) (fun h => by rw [Bd.returns] at h; cases h)
  refine ⟨_, _, retN X0 hx (t := .boolean) Bd.returns (by simp) (hb hby d5_16) hr, hrun, hended, _, _, rfl, ?_, ⟨_, rfl⟩, hW1, hsame.mono (own_le rfl) (own_le rfl)⟩
  show own_ce_1_Q Z  h0 n0 (some (.int (1 : Int32))) s₁.heap _
  rw [e0]
  exact ⟨rfl, N0, rfl⟩
def own_lic_1_Q (Z : State) (t1 : Nat) (k1 : ClassId) (h0 : Heap) (n0 : Nat) (v : Option Value) (h : Heap) (L : List Loc) : Prop := v = (some (.int (1 : Int32))) ∧ Fr n0 L ∧ h = h0
theorem ef_own_lic_1 (m : MethodId) (x0 : Nat) (x1 : Int32) (x2 : Int32) (x3 : Int32) : entryFrame m #[(.ref x0), (.int x1), (.int x2), (.int x3)] 6 = mkF m 0 #[vr x0, vi x1, vi x2, vi x3, .unset, .unset] [] := by first | (simp [entryFrame, mkF, argsToLocals, Value.category]; done) | rfl
theorem d6_25 : decode own_c6 25 = .ok (.iinc 5 1, 3) := by decide +kernel
theorem d6_28 : decode own_c6 28 = .ok (.goto (-21), 3) := by decide +kernel
set_option maxRecDepth 65536 in
set_option maxHeartbeats 40000000 in
theorem own_lic_1 (l : Launch) (Z : State) (a0 : Array Value) (hW : own_W Z a0) (t1 : Nat) (k1 : ClassId) (h0 : Heap) (n0 : Nat) (Z0 : n0 ≤ h0.size) (O0 : Old Z n0 h0) (V1 : Arv Z h0 t1 k1 .byte (6 : Int32) [(.int (46 : Int32)), (.int (95 : Int32)), (.int (58 : Int32)), (.int (45 : Int32)), (.int (47 : Int32)), (.int (64 : Int32))] (.int (0 : Int32))) :
    MetFree l own_n8 (head1 (Jvm.Cond.code own_n8 own_c6 6 (some .int) :: []) ({ frames := 0, cells := 0, slots := 0, locals := 0 } : Room)) (fun a U => a = #[(.ref t1), (.int (95 : Int32)), (.int (0 : Int32)), (.int (6 : Int32))] ∧ Z.Warmed39 U.vm ∧ U.heap = h0) (fun _ _ _ _ _ => True) (fun _ U o U' => ∃ v L, o = .returned v ∧ own_lic_1_Q Z t1 k1 h0 n0 v U'.heap L ∧ FrameEnd U o U' L ({ frames := 0, cells := 0, slots := 0, locals := 0 } : Room).cells ({ frames := 0, cells := 0, slots := 0, locals := 0 } : Room).slots) := by
  refine MetFree.of_bodySF (plainFor_of_name pn_java_lang_StringLatin1) hisR ?_
  intro p e s m args below meth c s₁ Bd hml0 hP hK
  obtain ⟨rfl, hZ, hh⟩ := hP
  obtain ⟨hw, ⟨G1, O2, P5⟩, ⟨G3, O4, rG3⟩⟩ := id hW
  have hx := Bd.exec
  have hby := Bd.bytes
  have hml : c.maxLocals = 6 := hml0
  have hown : s.vm.findClass "java/lang/StringLatin1" = some m.cls := findClass_of_methodNamed Bd.named
  have hnm := (name_of_methodNamed Bd.named Bd.method).1
  have X0 : Stand p l e ({ frames := 0, cells := 0, slots := 0, locals := 0 } : Room) s m #[(.ref t1), (.int (95 : Int32)), (.int (0 : Int32)), (.int (6 : Int32))] below meth c s₁ [] 0 0 := Stand.of_body Bd
  have e0 : s₁.heap = h0 := by rw [← hh, Bd.state]; rfl
  have N0 := Fr.nil n0
  have K0 := Keep.refl h0 []
  show own_Fin p e below (s₁.setTop (entryFrame m #[(.ref t1), (.int (95 : Int32)), (.int (0 : Int32)), (.int (6 : Int32))] 6)) _
  refine own_gs (castTop (ef_own_lic_1 m t1 (95 : Int32) (0 : Int32) (6 : Int32)) (Steps.refl _)) ?_
  show own_Fin p e below (s₁.setTop (mkF m 0 #[vr t1, vi (95 : Int32), vi (0 : Int32), vi (6 : Int32), uu, uu] [])) _
  refine own_gs (cur' := s₁.setTop (mkF m 16 #[vr t1, vi (95 : Int32), vi (0 : Int32), vi (6 : Int32), vi (95 : Int32), vi (0 : Int32)] [(.int (0 : Int32)), (.ref t1)])) ?_ ?_
  · refine XS.iloadN X0.here hx rfl (hb hby d6_0) rfl ?_
    refine XS.i2b X0.here hx rfl (hb hby d6_1) rfl ?_
    refine XS.istore X0.here hx rfl (hb hby d6_2) rfl (l' := #[vr t1, vi (95 : Int32), vi (0 : Int32), vi (6 : Int32), vi (95 : Int32), uu]) rfl ?_
    refine XS.iloadN X0.here hx rfl (hb hby d6_4) rfl ?_
    refine XS.istore X0.here hx rfl (hb hby d6_5) rfl (l' := #[vr t1, vi (95 : Int32), vi (0 : Int32), vi (6 : Int32), vi (95 : Int32), vi (0 : Int32)]) rfl ?_
    refine XS.iload X0.here hx rfl (hb hby d6_7) rfl ?_
    refine XS.iloadN X0.here hx rfl (hb hby d6_9) rfl ?_
    refine XS.icmpNo X0.here hx rfl (hb hby d6_10) rfl (tlt ((by decide) : (0 : Int32) < (6 : Int32))).2.1 ?_
    show Steps p.tables e below (s₁.setTop (mkF m 13 #[vr t1, vi (95 : Int32), vi (0 : Int32), vi (6 : Int32), vi (95 : Int32), vi (0 : Int32)] [])) _
    refine XS.aloadN X0.here hx rfl (hb hby d6_13) rfl rfl ?_
    refine XS.iload X0.here hx rfl (hb hby d6_14) rfl ?_
    exact Steps.refl _
  obtain ⟨cl11, Ar11, q11, S11, M11, Hs11, G11⟩ := id V1
  have hin11 : ¬ ((0 : Int32) < 0 ∨ cl11.slots.size ≤ ((0 : Int32)).toNatClampNeg) := inb_of S11 ⟨by decide, by decide⟩
  have hat11 : cl11.slots[((0 : Int32)).toNatClampNeg]? = some (.int (46 : Int32)) := Has.at Hs11 hin11 rfl
  refine own_go (X0.baloadBytes hx (j := (0 : Int32)) (v := (.int (46 : Int32))) (by rw [e0]; exact Ar11.1) (State.isArrayOf_alike hZ.alike Ar11.2.1) Ar11.2.2 hin11 hat11 (g := (mkF m 16 #[vr t1, vi (95 : Int32), vi (0 : Int32), vi (6 : Int32), vi (95 : Int32), vi (0 : Int32)] [(.int (0 : Int32)), (.ref t1)])) rfl rfl (hb hby d6_16)) ?_
  show own_Fin p e below (s₁.setTop (mkF m 17 #[vr t1, vi (95 : Int32), vi (0 : Int32), vi (6 : Int32), vi (95 : Int32), vi (0 : Int32)] [(.int (46 : Int32))])) _
  refine own_gs (cur' := s₁.setTop (mkF m 16 #[vr t1, vi (95 : Int32), vi (0 : Int32), vi (6 : Int32), vi (95 : Int32), vi (1 : Int32)] [(.int (1 : Int32)), (.ref t1)])) ?_ ?_
  · refine XS.iload X0.here hx rfl (hb hby d6_17) rfl ?_
    refine XS.icmpYes X0.here hx rfl (pc0 := 19) (pc' := 25) rfl (hb hby d6_19) rfl (feq ((by decide) : ¬ ((46 : Int32) = (95 : Int32)))).2 (by decide) (by decide) ?_
    refine XS.iinc X0.here hx rfl (hb hby d6_25) rfl (l' := #[vr t1, vi (95 : Int32), vi (0 : Int32), vi (6 : Int32), vi (95 : Int32), vi (1 : Int32)]) rfl ?_
    refine XS.goto X0.here hx rfl (pc0 := 28) (pc' := 7) rfl (hb hby d6_28) (by decide) (by decide) ?_
    refine XS.iload X0.here hx rfl (hb hby d6_7) rfl ?_
    refine XS.iloadN X0.here hx rfl (hb hby d6_9) rfl ?_
    refine XS.icmpNo X0.here hx rfl (hb hby d6_10) rfl (tlt ((by decide) : (1 : Int32) < (6 : Int32))).2.1 ?_
    refine XS.aloadN X0.here hx rfl (hb hby d6_13) rfl rfl ?_
    show Steps p.tables e below (s₁.setTop (mkF m 14 #[vr t1, vi (95 : Int32), vi (0 : Int32), vi (6 : Int32), vi (95 : Int32), vi (1 : Int32)] [(.ref t1)])) _
    refine XS.iload X0.here hx rfl (hb hby d6_14) rfl ?_
    exact Steps.refl _
  obtain ⟨cl12, Ar12, q12, S12, M12, Hs12, G12⟩ := id V1
  have hin12 : ¬ ((1 : Int32) < 0 ∨ cl12.slots.size ≤ ((1 : Int32)).toNatClampNeg) := inb_of S12 ⟨by decide, by decide⟩
  have hat12 : cl12.slots[((1 : Int32)).toNatClampNeg]? = some (.int (95 : Int32)) := Has.at Hs12 hin12 rfl
  refine own_go (X0.baloadBytes hx (j := (1 : Int32)) (v := (.int (95 : Int32))) (by rw [e0]; exact Ar12.1) (State.isArrayOf_alike hZ.alike Ar12.2.1) Ar12.2.2 hin12 hat12 (g := (mkF m 16 #[vr t1, vi (95 : Int32), vi (0 : Int32), vi (6 : Int32), vi (95 : Int32), vi (1 : Int32)] [(.int (1 : Int32)), (.ref t1)])) rfl rfl (hb hby d6_16)) ?_
  show own_Fin p e below (s₁.setTop (mkF m 17 #[vr t1, vi (95 : Int32), vi (0 : Int32), vi (6 : Int32), vi (95 : Int32), vi (1 : Int32)] [(.int (95 : Int32))])) _
  refine own_gs (cur' := s₁.setTop (mkF m 24 #[vr t1, vi (95 : Int32), vi (0 : Int32), vi (6 : Int32), vi (95 : Int32), vi (1 : Int32)] [(.int (1 : Int32))])) ?_ ?_
  · refine XS.iload X0.here hx rfl (hb hby d6_17) rfl ?_
    refine XS.icmpNo X0.here hx rfl (hb hby d6_19) rfl (teq ((by decide) : (95 : Int32) = (95 : Int32))).2 ?_
    refine XS.iload X0.here hx rfl (hb hby d6_22) rfl ?_
    exact Steps.refl _
  obtain ⟨fs, hr, hrun, hended, hW1, hsame⟩ := X0.leave (v := (some (.int (1 : Int32)))) (fun h => by rw [Bd.returns] at h; cases h)
  refine ⟨_, _, retI X0 hx Bd.returns (hb hby d6_24) hr, hrun, hended, _, _, rfl, ?_, ⟨_, rfl⟩, hW1, hsame.mono (own_le rfl) (own_le rfl)⟩
  show own_lic_1_Q Z t1 k1 h0 n0 (some (.int (1 : Int32))) s₁.heap _
  rw [e0]
  exact ⟨rfl, N0, rfl⟩
def own_lix_1_Q (Z : State) (t1 : Nat) (k1 : ClassId) (h0 : Heap) (n0 : Nat) (v : Option Value) (h : Heap) (L : List Loc) : Prop := v = (some (.int (1 : Int32))) ∧ Fr n0 L ∧ h = h0
theorem ef_own_lix_1 (m : MethodId) (x0 : Nat) (x1 : Int32) (x2 : Int32) (x3 : Int32) : entryFrame m #[(.ref x0), (.int x1), (.int x2), (.int x3)] 4 = mkF m 0 #[vr x0, vi x1, vi x2, vi x3] [] := by first | (simp [entryFrame, mkF, argsToLocals, Value.category]; done) | rfl
set_option maxRecDepth 65536 in
set_option maxHeartbeats 40000000 in
theorem own_lix_1 (l : Launch) (Z : State) (a0 : Array Value) (hW : own_W Z a0) (t1 : Nat) (k1 : ClassId) (h0 : Heap) (n0 : Nat) (Z0 : n0 ≤ h0.size) (O0 : Old Z n0 h0) (V1 : Arv Z h0 t1 k1 .byte (6 : Int32) [(.int (46 : Int32)), (.int (95 : Int32)), (.int (58 : Int32)), (.int (45 : Int32)), (.int (47 : Int32)), (.int (64 : Int32))] (.int (0 : Int32))) :
    MetFree l own_n9 (head1 (Jvm.Cond.code own_n9 own_c7 4 (some .int) :: []) ({ frames := 1, cells := 0, slots := 0, locals := 20 } : Room)) (fun a U => a = #[(.ref t1), (.int (95 : Int32)), (.int (0 : Int32)), (.int (6 : Int32))] ∧ Z.Warmed39 U.vm ∧ U.heap = h0) (fun _ _ _ _ _ => True) (fun _ U o U' => ∃ v L, o = .returned v ∧ own_lix_1_Q Z t1 k1 h0 n0 v U'.heap L ∧ FrameEnd U o U' L ({ frames := 1, cells := 0, slots := 0, locals := 20 } : Room).cells ({ frames := 1, cells := 0, slots := 0, locals := 20 } : Room).slots) := by
  refine MetFree.of_bodySF (plainFor_of_name pn_java_lang_StringLatin1) hisR ?_
  intro p e s m args below meth c s₁ Bd hml0 hP hK
  obtain ⟨rfl, hZ, hh⟩ := hP
  obtain ⟨hw, ⟨G1, O2, P5⟩, ⟨G3, O4, rG3⟩⟩ := id hW
  have hx := Bd.exec
  have hby := Bd.bytes
  have hml : c.maxLocals = 4 := hml0
  have hown : s.vm.findClass "java/lang/StringLatin1" = some m.cls := findClass_of_methodNamed Bd.named
  have hnm := (name_of_methodNamed Bd.named Bd.method).1
  have X0 : Stand p l e ({ frames := 1, cells := 0, slots := 0, locals := 20 } : Room) s m #[(.ref t1), (.int (95 : Int32)), (.int (0 : Int32)), (.int (6 : Int32))] below meth c s₁ [] 0 0 := Stand.of_body Bd
  have e0 : s₁.heap = h0 := by rw [← hh, Bd.state]; rfl
  have N0 := Fr.nil n0
  have K0 := Keep.refl h0 []
  show own_Fin p e below (s₁.setTop (entryFrame m #[(.ref t1), (.int (95 : Int32)), (.int (0 : Int32)), (.int (6 : Int32))] 4)) _
  refine own_gs (castTop (ef_own_lix_1 m t1 (95 : Int32) (0 : Int32) (6 : Int32)) (Steps.refl _)) ?_
  show own_Fin p e below (s₁.setTop (mkF m 0 #[vr t1, vi (95 : Int32), vi (0 : Int32), vi (6 : Int32)] [])) _
  refine own_gs (cur' := s₁.setTop (mkF m 1 #[vr t1, vi (95 : Int32), vi (0 : Int32), vi (6 : Int32)] [(.int (95 : Int32))])) ?_ ?_
  · refine XS.iloadN X0.here hx rfl (hb hby d7_0) rfl ?_
    exact Steps.refl _
  obtain ⟨_, _, ⟨T11, L11, k11, n11⟩, -, X11, ⟨Lc11, hQ11, l11, y11, z11⟩, st11⟩ := Jvm.LawKit.callS X0 hx (y := own_n7) hown (mvT hZ (own_tw hw 134 rfl)) (mvT hZ (own_tw hw 135 rfl)) (mvT hZ (own_tw hw 27 rfl)) (mvT hZ (own_tw hw 136 rfl)) (by decide) (backOf (W := 0) (own_ce_1 l Z a0 hW h0 n0 (by omega) O0) hZ (own_tw hw 136 rfl) (own_tw hw 27 rfl) (by decide) (by decide)) (g := (mkF m 1 #[vr t1, vi (95 : Int32), vi (0 : Int32), vi (6 : Int32)] [(.int (95 : Int32))])) rfl (by rw [hml]; rfl) (argsL := [(.int (95 : Int32))]) (rest := []) (lenOf pd_2 rfl) rfl (own_le rfl) (hb hby d7_1) (fun _ _ => ⟨rfl, e0, (by decide : 0 + 0 ≤ 0), (by decide : 0 + 0 ≤ 0)⟩)
  dsimp only [Pt.U, Pt.locs, Pt.cells, Pt.slots] at X11 l11 y11 z11 st11 hQ11
  subst l11 y11 z11
  obtain ⟨rfl, Nq11, eh11⟩ := hQ11
  have N11 := Fr.app N0 Nq11
  refine own_go st11 ?_
  show own_Fin p e below (T11.setTop (mkF m 4 #[vr t1, vi (95 : Int32), vi (0 : Int32), vi (6 : Int32)] [(.int (1 : Int32))])) _
  refine own_gs (cur' := T11.setTop (mkF m 11 #[vr t1, vi (95 : Int32), vi (0 : Int32), vi (6 : Int32)] [(.int (0 : Int32)), (.int (0 : Int32))])) ?_ ?_
  · refine XS.ifYes X11.here hx rfl (pc0 := 4) (pc' := 9) rfl (hb hby d7_4) rfl ((if0 _ _).trans (feq ((by decide) : ¬ ((1 : Int32) = (0 : Int32)))).2) (by decide) (by decide) ?_
    refine XS.iloadN X11.here hx rfl (hb hby d7_9) rfl ?_
    refine XS.iconst X11.here hx rfl (hb hby d7_10) ?_
    exact Steps.refl _
  obtain ⟨_, _, ⟨T12, L12, k12, n12⟩, -, X12, ⟨Lc12, hQ12, l12, y12, z12⟩, st12⟩ := Jvm.LawKit.callS X11 hx (y := own_n4) hown (mvT hZ (own_tw hw 137 rfl)) (mvT hZ (own_tw hw 138 rfl)) (mvT hZ (own_tw hw 139 rfl)) (mvT hZ (own_tw hw 140 rfl)) (by decide) (backOf (W := 0) (own_mx l Z a0 hW h0 n0 (by omega) O0) hZ (own_tw hw 140 rfl) (own_tw hw 139 rfl) (by decide) (by decide)) (g := (mkF m 11 #[vr t1, vi (95 : Int32), vi (0 : Int32), vi (6 : Int32)] [(.int (0 : Int32)), (.int (0 : Int32))])) rfl (by rw [hml]; rfl) (argsL := [(.int (0 : Int32)), (.int (0 : Int32))]) (rest := []) (lenOf pd_3 rfl) rfl (own_le rfl) (hb hby d7_11) (fun _ _ => ⟨rfl, eh11, (by decide : 0 + 0 ≤ 0), (by decide : 0 + 0 ≤ 0)⟩)
  dsimp only [Pt.U, Pt.locs, Pt.cells, Pt.slots] at X12 l12 y12 z12 st12 hQ12
  subst l12 y12 z12
  obtain ⟨rfl, Nq12, eh12⟩ := hQ12
  have N12 := Fr.app N11 Nq12
  refine own_go st12 ?_
  show own_Fin p e below (T12.setTop (mkF m 14 #[vr t1, vi (95 : Int32), vi (0 : Int32), vi (6 : Int32)] [(.int (0 : Int32))])) _
  refine own_gs (cur' := T12.setTop (mkF m 17 #[vr t1, vi (95 : Int32), vi (0 : Int32), vi (6 : Int32)] [(.ref t1), (.int (6 : Int32))])) ?_ ?_
  · refine XS.istoreN X12.here hx rfl (hb hby d7_14) rfl (l' := #[vr t1, vi (95 : Int32), vi (0 : Int32), vi (6 : Int32)]) rfl ?_
    refine XS.iloadN X12.here hx rfl (hb hby d7_15) rfl ?_
    refine XS.aloadN X12.here hx rfl (hb hby d7_16) rfl rfl ?_
    exact Steps.refl _
  obtain ⟨cl13, Ar13, q13, S13, M13, Hs13, G13⟩ := id V1
  refine own_go (X12.arraylength hx (by rw [eh12]; exact Ar13.1) (State.isArrayOf_alike hZ.alike Ar13.2.1) (g := (mkF m 17 #[vr t1, vi (95 : Int32), vi (0 : Int32), vi (6 : Int32)] [(.ref t1), (.int (6 : Int32))])) rfl rfl (hb hby d7_17)) ?_
  rw [len_of S13 M13]
  show own_Fin p e below (T12.setTop (mkF m 18 #[vr t1, vi (95 : Int32), vi (0 : Int32), vi (6 : Int32)] [(.int (6 : Int32)), (.int (6 : Int32))])) _
  obtain ⟨_, _, ⟨T14, L14, k14, n14⟩, -, X14, ⟨Lc14, hQ14, l14, y14, z14⟩, st14⟩ := Jvm.LawKit.callS X12 hx (y := own_n5) hown (mvT hZ (own_tw hw 141 rfl)) (mvT hZ (own_tw hw 142 rfl)) (mvT hZ (own_tw hw 139 rfl)) (mvT hZ (own_tw hw 143 rfl)) (by decide) (backOf (W := 0) (own_mn l Z a0 hW h0 n0 (by omega) O0) hZ (own_tw hw 143 rfl) (own_tw hw 139 rfl) (by decide) (by decide)) (g := (mkF m 18 #[vr t1, vi (95 : Int32), vi (0 : Int32), vi (6 : Int32)] [(.int (6 : Int32)), (.int (6 : Int32))])) rfl (by rw [hml]; rfl) (argsL := [(.int (6 : Int32)), (.int (6 : Int32))]) (rest := []) (lenOf pd_3 rfl) rfl (own_le rfl) (hb hby d7_18) (fun _ _ => ⟨rfl, eh12, (by decide : 0 + 0 ≤ 0), (by decide : 0 + 0 ≤ 0)⟩)
  dsimp only [Pt.U, Pt.locs, Pt.cells, Pt.slots] at X14 l14 y14 z14 st14 hQ14
  subst l14 y14 z14
  obtain ⟨rfl, Nq14, eh14⟩ := hQ14
  have N14 := Fr.app N12 Nq14
  refine own_go st14 ?_
  show own_Fin p e below (T14.setTop (mkF m 21 #[vr t1, vi (95 : Int32), vi (0 : Int32), vi (6 : Int32)] [(.int (6 : Int32))])) _
  refine own_gs (cur' := T14.setTop (mkF m 33 #[vr t1, vi (95 : Int32), vi (0 : Int32), vi (6 : Int32)] [(.int (6 : Int32)), (.int (0 : Int32)), (.int (95 : Int32)), (.ref t1)])) ?_ ?_
  · refine XS.istoreN X14.here hx rfl (hb hby d7_21) rfl (l' := #[vr t1, vi (95 : Int32), vi (0 : Int32), vi (6 : Int32)]) rfl ?_
    refine XS.iloadN X14.here hx rfl (hb hby d7_22) rfl ?_
    refine XS.iloadN X14.here hx rfl (hb hby d7_23) rfl ?_
    refine XS.icmpYes X14.here hx rfl (pc0 := 24) (pc' := 29) rfl (hb hby d7_24) rfl (tlt ((by decide) : (0 : Int32) < (6 : Int32))).1 (by decide) (by decide) ?_
    refine XS.aloadN X14.here hx rfl (hb hby d7_29) rfl rfl ?_
    refine XS.iloadN X14.here hx rfl (hb hby d7_30) rfl ?_
    refine XS.iloadN X14.here hx rfl (hb hby d7_31) rfl ?_
    refine XS.iloadN X14.here hx rfl (hb hby d7_32) rfl ?_
    exact Steps.refl _
  obtain ⟨_, _, ⟨T15, L15, k15, n15⟩, -, X15, ⟨Lc15, hQ15, l15, y15, z15⟩, st15⟩ := Jvm.LawKit.callS X14 hx (y := own_n8) hown (mvT hZ (own_tw hw 144 rfl)) (mvT hZ (own_tw hw 145 rfl)) (mvT hZ (own_tw hw 27 rfl)) (mvT hZ (own_tw hw 146 rfl)) (by decide) (backOf (W := 0) (own_lic_1 l Z a0 hW t1 k1 h0 n0 (by omega) O0 V1) hZ (own_tw hw 146 rfl) (own_tw hw 27 rfl) (by decide) (by decide)) (g := (mkF m 33 #[vr t1, vi (95 : Int32), vi (0 : Int32), vi (6 : Int32)] [(.int (6 : Int32)), (.int (0 : Int32)), (.int (95 : Int32)), (.ref t1)])) rfl (by rw [hml]; rfl) (argsL := [(.ref t1), (.int (95 : Int32)), (.int (0 : Int32)), (.int (6 : Int32))]) (rest := []) (lenOf pd_4 rfl) rfl (own_le rfl) (hb hby d7_33) (fun _ _ => ⟨rfl, eh14, (by decide : 0 + 0 ≤ 0), (by decide : 0 + 0 ≤ 0)⟩)
  dsimp only [Pt.U, Pt.locs, Pt.cells, Pt.slots] at X15 l15 y15 z15 st15 hQ15
  subst l15 y15 z15
  obtain ⟨rfl, Nq15, eh15⟩ := hQ15
  have N15 := Fr.app N14 Nq15
  refine own_go st15 ?_
  show own_Fin p e below (T15.setTop (mkF m 36 #[vr t1, vi (95 : Int32), vi (0 : Int32), vi (6 : Int32)] [(.int (1 : Int32))])) _
  obtain ⟨fs, hr, hrun, hended, hW1, hsame⟩ := X15.leave (v := (some (.int (1 : Int32)))) (fun h => by rw [Bd.returns] at h; cases h)
  refine ⟨_, _, retI X15 hx Bd.returns (hb hby d7_36) hr, hrun, hended, _, _, rfl, ?_, ⟨_, rfl⟩, hW1, hsame.mono (own_le rfl) (own_le rfl)⟩
  show own_lix_1_Q Z t1 k1 h0 n0 (some (.int (1 : Int32))) T15.heap _
  rw [eh15]
  exact ⟨rfl, N15, rfl⟩
def own_ix2_1_Q (Z : State) (x1 t1 : Nat) (k1 : ClassId) (h0 : Heap) (n0 : Nat) (v : Option Value) (h : Heap) (L : List Loc) : Prop := v = (some (.int (1 : Int32))) ∧ Fr n0 L ∧ h = h0
theorem ef_own_ix2_1 (m : MethodId) (x0 : Nat) (x1 : Int32) (x2 : Int32) : entryFrame m #[(.ref x0), (.int x1), (.int x2)] 3 = mkF m 0 #[vr x0, vi x1, vi x2] [] := by first | (simp [entryFrame, mkF, argsToLocals, Value.category]; done) | rfl
set_option maxRecDepth 65536 in
set_option maxHeartbeats 40000000 in
theorem own_ix2_1 (l : Launch) (Z : State) (a0 : Array Value) (hW : own_W Z a0) (x1 t1 : Nat) (k1 : ClassId) (h0 : Heap) (n0 : Nat) (Z0 : n0 ≤ h0.size) (O0 : Old Z n0 h0) (E1 : Exa Z h0 x1 "java/lang/String") (Fv1 : Fld Z h0 x1 "java/lang/String" "value" "[B" (.ref t1)) (Fc1 : Fld Z h0 x1 "java/lang/String" "coder" "B" (.int (0 : Int32))) (V1 : Arv Z h0 t1 k1 .byte (6 : Int32) [(.int (46 : Int32)), (.int (95 : Int32)), (.int (58 : Int32)), (.int (45 : Int32)), (.int (47 : Int32)), (.int (64 : Int32))] (.int (0 : Int32))) :
    MetFree l own_n10 (head1 (Jvm.Cond.code own_n10 own_c8 3 (some .int) :: []) ({ frames := 2, cells := 0, slots := 0, locals := 36 } : Room)) (fun a U => a = #[(.ref x1), (.int (95 : Int32)), (.int (0 : Int32))] ∧ Z.Warmed39 U.vm ∧ U.heap = h0) (fun _ _ _ _ _ => True) (fun _ U o U' => ∃ v L, o = .returned v ∧ own_ix2_1_Q Z x1 t1 k1 h0 n0 v U'.heap L ∧ FrameEnd U o U' L ({ frames := 2, cells := 0, slots := 0, locals := 36 } : Room).cells ({ frames := 2, cells := 0, slots := 0, locals := 36 } : Room).slots) := by
  refine MetFree.of_bodySF (plainFor_of_name pn_java_lang_String) hisR ?_
  intro p e s m args below meth c s₁ Bd hml0 hP hK
  obtain ⟨rfl, hZ, hh⟩ := hP
  obtain ⟨hw, ⟨G1, O2, P5⟩, ⟨G3, O4, rG3⟩⟩ := id hW
  have hx := Bd.exec
  have hby := Bd.bytes
  have hml : c.maxLocals = 3 := hml0
  have hown : s.vm.findClass "java/lang/String" = some m.cls := findClass_of_methodNamed Bd.named
  have hnm := (name_of_methodNamed Bd.named Bd.method).1
  have X0 : Stand p l e ({ frames := 2, cells := 0, slots := 0, locals := 36 } : Room) s m #[(.ref x1), (.int (95 : Int32)), (.int (0 : Int32))] below meth c s₁ [] 0 0 := Stand.of_body Bd
  have e0 : s₁.heap = h0 := by rw [← hh, Bd.state]; rfl
  have N0 := Fr.nil n0
  have K0 := Keep.refl h0 []
  have F1 : own_Str Z h0 x1 t1 [46, 95, 58, 45, 47, 64] := ⟨_, _, _, _, E1, Fv1, Fc1, V1, Or.inl ⟨rfl, rfl, rfl, by decide⟩, by decide, by decide⟩
  show own_Fin p e below (s₁.setTop (entryFrame m #[(.ref x1), (.int (95 : Int32)), (.int (0 : Int32))] 3)) _
  refine own_gs (castTop (ef_own_ix2_1 m x1 (95 : Int32) (0 : Int32)) (Steps.refl _)) ?_
  show own_Fin p e below (s₁.setTop (mkF m 0 #[vr x1, vi (95 : Int32), vi (0 : Int32)] [])) _
  refine own_gs (cur' := s₁.setTop (mkF m 1 #[vr x1, vi (95 : Int32), vi (0 : Int32)] [(.ref x1)])) ?_ ?_
  · refine XS.aloadN X0.here hx rfl (hb hby d8_0) rfl rfl ?_
    exact Steps.refl _
  obtain ⟨cq11, kq11, q11a, q11b, q11c⟩ := isOf hZ e0 E1
  obtain ⟨_, _, ⟨T11, L11, k11, n11⟩, -, X11, ⟨Lc11, hQ11, l11, y11, z11⟩, st11⟩ := X0.virtualBack hx (y := own_n6) (z := own_n6) hown (mvT hZ (own_tw hw 17 rfl)) (mvT hZ (own_tw hw 18 rfl)) (notFace_of_selects (args := #[]) (mvT hZ (own_tw hw 20 rfl))) (mvT hZ (own_tw hw 20 rfl)) (mvT hZ (own_tw hw 19 rfl)) (by decide) (backOf (W := 0) (own_isl l Z a0 hW x1 h0 n0 (by omega) O0 Fc1) hZ (own_tw hw 21 rfl) (own_tw hw 5 rfl) (by decide) (by decide)) q11a q11c (g := (mkF m 1 #[vr x1, vi (95 : Int32), vi (0 : Int32)] [(.ref x1)])) rfl (by rw [hml]; rfl) (Steps.refl _) (argsL := []) (rest := []) (lenOf pd_5 rfl) rfl (own_le rfl) (hb hby d8_1) (fun _ _ => ⟨rfl, e0, (by decide : 0 + 0 ≤ 0), (by decide : 0 + 0 ≤ 0)⟩)
  dsimp only [Pt.U, Pt.locs, Pt.cells, Pt.slots] at X11 l11 y11 z11 st11 hQ11
  subst l11 y11 z11
  obtain ⟨rfl, Nq11, eh11⟩ := hQ11
  have N11 := Fr.app N0 Nq11
  refine own_gs st11 ?_
  show own_Fin p e below (T11.setTop (mkF m 4 #[vr x1, vi (95 : Int32), vi (0 : Int32)] [(.int (1 : Int32))])) _
  refine own_gs (cur' := T11.setTop (mkF m 8 #[vr x1, vi (95 : Int32), vi (0 : Int32)] [(.ref x1)])) ?_ ?_
  · refine XS.ifNo X11.here hx rfl (hb hby d8_4) rfl ((if0 _ _).trans (feq ((by decide) : ¬ ((1 : Int32) = (0 : Int32)))).1) ?_
    refine XS.aloadN X11.here hx rfl (hb hby d8_7) rfl rfl ?_
    exact Steps.refl _
  obtain ⟨T12, X12, e12, st12⟩ := getF X11 hx hZ hown (host := "") (Or.inl (own_tw hw 24 rfl)) Via.refl eh11 Fv1 (g := (mkF m 8 #[vr x1, vi (95 : Int32), vi (0 : Int32)] [(.ref x1)])) rfl rfl (hb hby d8_8)
  refine own_go st12 ?_
  show own_Fin p e below (T12.setTop (mkF m 11 #[vr x1, vi (95 : Int32), vi (0 : Int32)] [(.ref t1)])) _
  refine own_gs (cur' := T12.setTop (mkF m 14 #[vr x1, vi (95 : Int32), vi (0 : Int32)] [(.ref x1), (.int (0 : Int32)), (.int (95 : Int32)), (.ref t1)])) ?_ ?_
  · refine XS.iloadN X12.here hx rfl (hb hby d8_11) rfl ?_
    refine XS.iloadN X12.here hx rfl (hb hby d8_12) rfl ?_
    refine XS.aloadN X12.here hx rfl (hb hby d8_13) rfl rfl ?_
    exact Steps.refl _
  obtain ⟨cq13, kq13, q13a, q13b, q13c⟩ := isOf hZ e12 E1
  obtain ⟨_, _, ⟨T13, L13, k13, n13⟩, -, X13, ⟨Lc13, hQ13, l13, y13, z13⟩, st13⟩ := X12.virtualBack hx (y := own_n11) (z := own_n11) hown (mvT hZ (own_tw hw 130 rfl)) (mvT hZ (own_tw hw 72 rfl)) (notFace_of_selects (args := #[]) (mvT hZ (own_tw hw 74 rfl))) (mvT hZ (own_tw hw 74 rfl)) (mvT hZ (own_tw hw 73 rfl)) (by decide) (own_lenB (W := 3) hZ hw F1 (O2.ext O0.2) P5 (by decide) (by decide)) q13a q13c (g := (mkF m 14 #[vr x1, vi (95 : Int32), vi (0 : Int32)] [(.ref x1), (.int (0 : Int32)), (.int (95 : Int32)), (.ref t1)])) rfl (by rw [hml]; rfl) (Steps.refl _) (argsL := []) (rest := [(.int (0 : Int32)), (.int (95 : Int32)), (.ref t1)]) (lenOf pd_6 rfl) rfl (own_le rfl) (hb hby d8_14) (fun _ _ => ⟨rfl, e12, (by decide : 0 + 0 ≤ 0), (by decide : 0 + 0 ≤ 0)⟩)
  dsimp only [Pt.U, Pt.locs, Pt.cells, Pt.slots] at X13 l13 y13 z13 st13 hQ13
  subst l13 y13 z13
  obtain ⟨rfl, rfl, eh13⟩ := hQ13
  have N13 := Fr.app N11 (Fr.nil n0)
  refine own_gs st13 ?_
  show own_Fin p e below (T13.setTop (mkF m 17 #[vr x1, vi (95 : Int32), vi (0 : Int32)] [(.int (6 : Int32)), (.int (0 : Int32)), (.int (95 : Int32)), (.ref t1)])) _
  obtain ⟨_, _, ⟨T14, L14, k14, n14⟩, -, X14, ⟨Lc14, hQ14, l14, y14, z14⟩, st14⟩ := Jvm.LawKit.callS X13 hx (y := own_n9) hown (mvT hZ (own_tw hw 131 rfl)) (mvT hZ (own_tw hw 132 rfl)) (mvT hZ (own_tw hw 27 rfl)) (mvT hZ (own_tw hw 133 rfl)) (by decide) (backOf (W := 0) (own_lix_1 l Z a0 hW t1 k1 h0 n0 (by omega) O0 V1) hZ (own_tw hw 133 rfl) (own_tw hw 27 rfl) (by decide) (by decide)) (g := (mkF m 17 #[vr x1, vi (95 : Int32), vi (0 : Int32)] [(.int (6 : Int32)), (.int (0 : Int32)), (.int (95 : Int32)), (.ref t1)])) rfl (by rw [hml]; rfl) (argsL := [(.ref t1), (.int (95 : Int32)), (.int (0 : Int32)), (.int (6 : Int32))]) (rest := []) (lenOf pd_4 rfl) rfl (own_le rfl) (hb hby d8_17) (fun _ _ => ⟨rfl, eh13, (by decide : 0 + 0 ≤ 0), (by decide : 0 + 0 ≤ 0)⟩)
  dsimp only [Pt.U, Pt.locs, Pt.cells, Pt.slots] at X14 l14 y14 z14 st14 hQ14
  subst l14 y14 z14
  obtain ⟨rfl, Nq14, eh14⟩ := hQ14
  have N14 := Fr.app N13 Nq14
  refine own_go st14 ?_
  show own_Fin p e below (T14.setTop (mkF m 20 #[vr x1, vi (95 : Int32), vi (0 : Int32)] [(.int (1 : Int32))])) _
  refine own_gs (cur' := T14.setTop (mkF m 36 #[vr x1, vi (95 : Int32), vi (0 : Int32)] [(.int (1 : Int32))])) ?_ ?_
  · refine XS.goto X14.here hx rfl (pc0 := 20) (pc' := 36) rfl (hb hby d8_20) (by decide) (by decide) ?_
    exact Steps.refl _
  obtain ⟨fs, hr, hrun, hended, hW1, hsame⟩ := X14.leave (v := (some (.int (1 : Int32)))) (fun h => by rw [Bd.returns] at h; cases h)
  refine ⟨_, _, retI X14 hx Bd.returns (hb hby d8_36) hr, hrun, hended, _, _, rfl, ?_, ⟨_, rfl⟩, hW1, hsame.mono (own_le rfl) (own_le rfl)⟩
  show own_ix2_1_Q Z x1 t1 k1 h0 n0 (some (.int (1 : Int32))) T14.heap _
  rw [eh14]
  exact ⟨rfl, N14, rfl⟩
def own_ix1_1_Q (Z : State) (x1 t1 : Nat) (k1 : ClassId) (h0 : Heap) (n0 : Nat) (v : Option Value) (h : Heap) (L : List Loc) : Prop := v = (some (.int (1 : Int32))) ∧ Fr n0 L ∧ h = h0
theorem ef_own_ix1_1 (m : MethodId) (x0 : Nat) (x1 : Int32) : entryFrame m #[(.ref x0), (.int x1)] 2 = mkF m 0 #[vr x0, vi x1] [] := by first | (simp [entryFrame, mkF, argsToLocals, Value.category]; done) | rfl
set_option maxRecDepth 65536 in
set_option maxHeartbeats 40000000 in
theorem own_ix1_1 (l : Launch) (Z : State) (a0 : Array Value) (hW : own_W Z a0) (x1 t1 : Nat) (k1 : ClassId) (h0 : Heap) (n0 : Nat) (Z0 : n0 ≤ h0.size) (O0 : Old Z n0 h0) (E1 : Exa Z h0 x1 "java/lang/String") (Fv1 : Fld Z h0 x1 "java/lang/String" "value" "[B" (.ref t1)) (Fc1 : Fld Z h0 x1 "java/lang/String" "coder" "B" (.int (0 : Int32))) (V1 : Arv Z h0 t1 k1 .byte (6 : Int32) [(.int (46 : Int32)), (.int (95 : Int32)), (.int (58 : Int32)), (.int (45 : Int32)), (.int (47 : Int32)), (.int (64 : Int32))] (.int (0 : Int32))) :
    MetFree l own_n12 (head1 (Jvm.Cond.code own_n12 own_c9 2 (some .int) :: []) ({ frames := 3, cells := 0, slots := 0, locals := 50 } : Room)) (fun a U => a = #[(.ref x1), (.int (95 : Int32))] ∧ Z.Warmed39 U.vm ∧ U.heap = h0) (fun _ _ _ _ _ => True) (fun _ U o U' => ∃ v L, o = .returned v ∧ own_ix1_1_Q Z x1 t1 k1 h0 n0 v U'.heap L ∧ FrameEnd U o U' L ({ frames := 3, cells := 0, slots := 0, locals := 50 } : Room).cells ({ frames := 3, cells := 0, slots := 0, locals := 50 } : Room).slots) := by
  refine MetFree.of_bodySF (plainFor_of_name pn_java_lang_String) hisR ?_
  intro p e s m args below meth c s₁ Bd hml0 hP hK
  obtain ⟨rfl, hZ, hh⟩ := hP
  obtain ⟨hw, ⟨G1, O2, P5⟩, ⟨G3, O4, rG3⟩⟩ := id hW
  have hx := Bd.exec
  have hby := Bd.bytes
  have hml : c.maxLocals = 2 := hml0
  have hown : s.vm.findClass "java/lang/String" = some m.cls := findClass_of_methodNamed Bd.named
  have hnm := (name_of_methodNamed Bd.named Bd.method).1
  have X0 : Stand p l e ({ frames := 3, cells := 0, slots := 0, locals := 50 } : Room) s m #[(.ref x1), (.int (95 : Int32))] below meth c s₁ [] 0 0 := Stand.of_body Bd
  have e0 : s₁.heap = h0 := by rw [← hh, Bd.state]; rfl
  have N0 := Fr.nil n0
  have K0 := Keep.refl h0 []
  have F1 : own_Str Z h0 x1 t1 [46, 95, 58, 45, 47, 64] := ⟨_, _, _, _, E1, Fv1, Fc1, V1, Or.inl ⟨rfl, rfl, rfl, by decide⟩, by decide, by decide⟩
  show own_Fin p e below (s₁.setTop (entryFrame m #[(.ref x1), (.int (95 : Int32))] 2)) _
  refine own_gs (castTop (ef_own_ix1_1 m x1 (95 : Int32)) (Steps.refl _)) ?_
  show own_Fin p e below (s₁.setTop (mkF m 0 #[vr x1, vi (95 : Int32)] [])) _
  refine own_gs (cur' := s₁.setTop (mkF m 3 #[vr x1, vi (95 : Int32)] [(.int (0 : Int32)), (.int (95 : Int32)), (.ref x1)])) ?_ ?_
  · refine XS.aloadN X0.here hx rfl (hb hby d9_0) rfl rfl ?_
    refine XS.iloadN X0.here hx rfl (hb hby d9_1) rfl ?_
    refine XS.iconst X0.here hx rfl (hb hby d9_2) ?_
    exact Steps.refl _
  obtain ⟨cq11, kq11, q11a, q11b, q11c⟩ := isOf hZ e0 E1
  obtain ⟨_, _, ⟨T11, L11, k11, n11⟩, -, X11, ⟨Lc11, hQ11, l11, y11, z11⟩, st11⟩ := X0.virtualBack hx (y := own_n10) (z := own_n10) hown (mvT hZ (own_tw hw 125 rfl)) (mvT hZ (own_tw hw 126 rfl)) (notFace_of_selects (args := #[]) (mvT hZ (own_tw hw 128 rfl))) (mvT hZ (own_tw hw 128 rfl)) (mvT hZ (own_tw hw 127 rfl)) (by decide) (backOf (W := 0) (own_ix2_1 l Z a0 hW x1 t1 k1 h0 n0 (by omega) O0 E1 Fv1 Fc1 V1) hZ (own_tw hw 129 rfl) (own_tw hw 5 rfl) (by decide) (by decide)) q11a q11c (g := (mkF m 3 #[vr x1, vi (95 : Int32)] [(.int (0 : Int32)), (.int (95 : Int32)), (.ref x1)])) rfl (by rw [hml]; rfl) (Steps.refl _) (argsL := [(.int (95 : Int32)), (.int (0 : Int32))]) (rest := []) (lenOf pd_3 rfl) rfl (own_le rfl) (hb hby d9_3) (fun _ _ => ⟨rfl, e0, (by decide : 0 + 0 ≤ 0), (by decide : 0 + 0 ≤ 0)⟩)
  dsimp only [Pt.U, Pt.locs, Pt.cells, Pt.slots] at X11 l11 y11 z11 st11 hQ11
  subst l11 y11 z11
  obtain ⟨rfl, Nq11, eh11⟩ := hQ11
  have N11 := Fr.app N0 Nq11
  refine own_gs st11 ?_
  show own_Fin p e below (T11.setTop (mkF m 6 #[vr x1, vi (95 : Int32)] [(.int (1 : Int32))])) _
  obtain ⟨fs, hr, hrun, hended, hW1, hsame⟩ := X11.leave (v := (some (.int (1 : Int32)))) (fun h => by rw [Bd.returns] at h; cases h)
  refine ⟨_, _, retI X11 hx Bd.returns (hb hby d9_6) hr, hrun, hended, _, _, rfl, ?_, ⟨_, rfl⟩, hW1, hsame.mono (own_le rfl) (own_le rfl)⟩
  show own_ix1_1_Q Z x1 t1 k1 h0 n0 (some (.int (1 : Int32))) T11.heap _
  rw [eh11]
  exact ⟨rfl, N11, rfl⟩
def own_ce_2_Q (Z : State)  (h0 : Heap) (n0 : Nat) (v : Option Value) (h : Heap) (L : List Loc) : Prop := v = (some (.int (1 : Int32))) ∧ Fr n0 L ∧ h = h0
theorem ef_own_ce_2 (m : MethodId) (x0 : Int32) : entryFrame m #[(.int x0)] 1 = mkF m 0 #[vi x0] [] := by first | (simp [entryFrame, mkF, argsToLocals, Value.category]; done) | rfl
set_option maxRecDepth 65536 in
set_option maxHeartbeats 40000000 in
theorem own_ce_2 (l : Launch) (Z : State) (a0 : Array Value) (hW : own_W Z a0)  (h0 : Heap) (n0 : Nat) (Z0 : n0 ≤ h0.size) (O0 : Old Z n0 h0)  :
    MetFree l own_n7 (head1 (Jvm.Cond.code own_n7 own_c5 1 (some .boolean) :: []) ({ frames := 0, cells := 0, slots := 0, locals := 0 } : Room)) (fun a U => a = #[(.int (58 : Int32))] ∧ Z.Warmed39 U.vm ∧ U.heap = h0) (fun _ _ _ _ _ => True) (fun _ U o U' => ∃ v L, o = .returned v ∧ own_ce_2_Q Z  h0 n0 v U'.heap L ∧ FrameEnd U o U' L ({ frames := 0, cells := 0, slots := 0, locals := 0 } : Room).cells ({ frames := 0, cells := 0, slots := 0, locals := 0 } : Room).slots) := by
  refine MetFree.of_bodySF (plainFor_of_name pn_java_lang_StringLatin1) hisR ?_
  intro p e s m args below meth c s₁ Bd hml0 hP hK
  obtain ⟨rfl, hZ, hh⟩ := hP
  obtain ⟨hw, ⟨G1, O2, P5⟩, ⟨G3, O4, rG3⟩⟩ := id hW
  have hx := Bd.exec
  have hby := Bd.bytes
  have hml : c.maxLocals = 1 := hml0
  have hown : s.vm.findClass "java/lang/StringLatin1" = some m.cls := findClass_of_methodNamed Bd.named
  have hnm := (name_of_methodNamed Bd.named Bd.method).1
  have X0 : Stand p l e ({ frames := 0, cells := 0, slots := 0, locals := 0 } : Room) s m #[(.int (58 : Int32))] below meth c s₁ [] 0 0 := Stand.of_body Bd
  have e0 : s₁.heap = h0 := by rw [← hh, Bd.state]; rfl
  have N0 := Fr.nil n0
  have K0 := Keep.refl h0 []
  show own_Fin p e below (s₁.setTop (entryFrame m #[(.int (58 : Int32))] 1)) _
  refine own_gs (castTop (ef_own_ce_2 m (58 : Int32)) (Steps.refl _)) ?_
  show own_Fin p e below (s₁.setTop (mkF m 0 #[vi (58 : Int32)] [])) _
  refine own_gs (cur' := s₁.setTop (mkF m 16 #[vi (58 : Int32)] [(.int (1 : Int32))])) ?_ ?_
  · refine XS.iloadN X0.here hx rfl (hb hby d5_0) rfl ?_
    refine XS.ifNo X0.here hx rfl (hb hby d5_1) rfl ((if0 _ _).trans (flt ((by decide) : ¬ ((58 : Int32) < (0 : Int32)))).1) ?_
    refine XS.iloadN X0.here hx rfl (hb hby d5_4) rfl ?_
    refine XS.sipush X0.here hx rfl (hb hby d5_5) ?_
    refine XS.icmpNo X0.here hx rfl (hb hby d5_8) rfl (flt ((by decide) : ¬ ((255 : Int32) < (58 : Int32)))).2.2.1 ?_
    refine XS.iconst X0.here hx rfl (hb hby d5_11) ?_
    refine XS.goto X0.here hx rfl (pc0 := 12) (pc' := 16) rfl (hb hby d5_12) (by decide) (by decide) ?_
    exact Steps.refl _
  obtain ⟨fs, hr, hrun, hended, hW1, hsame⟩ := X0.leave (v := (some (.int (1 : Int32)))) (fun h => by rw [Bd.returns] at h; cases h)
  refine ⟨_, _, retN X0 hx (t := .boolean) Bd.returns (by simp) (hb hby d5_16) hr, hrun, hended, _, _, rfl, ?_, ⟨_, rfl⟩, hW1, hsame.mono (own_le rfl) (own_le rfl)⟩
  show own_ce_2_Q Z  h0 n0 (some (.int (1 : Int32))) s₁.heap _
  rw [e0]
  exact ⟨rfl, N0, rfl⟩
def own_lic_2_Q (Z : State) (t1 : Nat) (k1 : ClassId) (h0 : Heap) (n0 : Nat) (v : Option Value) (h : Heap) (L : List Loc) : Prop := v = (some (.int (2 : Int32))) ∧ Fr n0 L ∧ h = h0
theorem ef_own_lic_2 (m : MethodId) (x0 : Nat) (x1 : Int32) (x2 : Int32) (x3 : Int32) : entryFrame m #[(.ref x0), (.int x1), (.int x2), (.int x3)] 6 = mkF m 0 #[vr x0, vi x1, vi x2, vi x3, .unset, .unset] [] := by first | (simp [entryFrame, mkF, argsToLocals, Value.category]; done) | rfl
set_option maxRecDepth 65536 in
set_option maxHeartbeats 40000000 in
theorem own_lic_2 (l : Launch) (Z : State) (a0 : Array Value) (hW : own_W Z a0) (t1 : Nat) (k1 : ClassId) (h0 : Heap) (n0 : Nat) (Z0 : n0 ≤ h0.size) (O0 : Old Z n0 h0) (V1 : Arv Z h0 t1 k1 .byte (6 : Int32) [(.int (46 : Int32)), (.int (95 : Int32)), (.int (58 : Int32)), (.int (45 : Int32)), (.int (47 : Int32)), (.int (64 : Int32))] (.int (0 : Int32))) :
    MetFree l own_n8 (head1 (Jvm.Cond.code own_n8 own_c6 6 (some .int) :: []) ({ frames := 0, cells := 0, slots := 0, locals := 0 } : Room)) (fun a U => a = #[(.ref t1), (.int (58 : Int32)), (.int (0 : Int32)), (.int (6 : Int32))] ∧ Z.Warmed39 U.vm ∧ U.heap = h0) (fun _ _ _ _ _ => True) (fun _ U o U' => ∃ v L, o = .returned v ∧ own_lic_2_Q Z t1 k1 h0 n0 v U'.heap L ∧ FrameEnd U o U' L ({ frames := 0, cells := 0, slots := 0, locals := 0 } : Room).cells ({ frames := 0, cells := 0, slots := 0, locals := 0 } : Room).slots) := by
  refine MetFree.of_bodySF (plainFor_of_name pn_java_lang_StringLatin1) hisR ?_
  intro p e s m args below meth c s₁ Bd hml0 hP hK
  obtain ⟨rfl, hZ, hh⟩ := hP
  obtain ⟨hw, ⟨G1, O2, P5⟩, ⟨G3, O4, rG3⟩⟩ := id hW
  have hx := Bd.exec
  have hby := Bd.bytes
  have hml : c.maxLocals = 6 := hml0
  have hown : s.vm.findClass "java/lang/StringLatin1" = some m.cls := findClass_of_methodNamed Bd.named
  have hnm := (name_of_methodNamed Bd.named Bd.method).1
  have X0 : Stand p l e ({ frames := 0, cells := 0, slots := 0, locals := 0 } : Room) s m #[(.ref t1), (.int (58 : Int32)), (.int (0 : Int32)), (.int (6 : Int32))] below meth c s₁ [] 0 0 := Stand.of_body Bd
  have e0 : s₁.heap = h0 := by rw [← hh, Bd.state]; rfl
  have N0 := Fr.nil n0
  have K0 := Keep.refl h0 []
  show own_Fin p e below (s₁.setTop (entryFrame m #[(.ref t1), (.int (58 : Int32)), (.int (0 : Int32)), (.int (6 : Int32))] 6)) _
  refine own_gs (castTop (ef_own_lic_2 m t1 (58 : Int32) (0 : Int32) (6 : Int32)) (Steps.refl _)) ?_
  show own_Fin p e below (s₁.setTop (mkF m 0 #[vr t1, vi (58 : Int32), vi (0 : Int32), vi (6 : Int32), uu, uu] [])) _
  refine own_gs (cur' := s₁.setTop (mkF m 16 #[vr t1, vi (58 : Int32), vi (0 : Int32), vi (6 : Int32), vi (58 : Int32), vi (0 : Int32)] [(.int (0 : Int32)), (.ref t1)])) ?_ ?_
  · refine XS.iloadN X0.here hx rfl (hb hby d6_0) rfl ?_
    refine XS.i2b X0.here hx rfl (hb hby d6_1) rfl ?_
    refine XS.istore X0.here hx rfl (hb hby d6_2) rfl (l' := #[vr t1, vi (58 : Int32), vi (0 : Int32), vi (6 : Int32), vi (58 : Int32), uu]) rfl ?_
    refine XS.iloadN X0.here hx rfl (hb hby d6_4) rfl ?_
    refine XS.istore X0.here hx rfl (hb hby d6_5) rfl (l' := #[vr t1, vi (58 : Int32), vi (0 : Int32), vi (6 : Int32), vi (58 : Int32), vi (0 : Int32)]) rfl ?_
    refine XS.iload X0.here hx rfl (hb hby d6_7) rfl ?_
    refine XS.iloadN X0.here hx rfl (hb hby d6_9) rfl ?_
    refine XS.icmpNo X0.here hx rfl (hb hby d6_10) rfl (tlt ((by decide) : (0 : Int32) < (6 : Int32))).2.1 ?_
    show Steps p.tables e below (s₁.setTop (mkF m 13 #[vr t1, vi (58 : Int32), vi (0 : Int32), vi (6 : Int32), vi (58 : Int32), vi (0 : Int32)] [])) _
    refine XS.aloadN X0.here hx rfl (hb hby d6_13) rfl rfl ?_
    refine XS.iload X0.here hx rfl (hb hby d6_14) rfl ?_
    exact Steps.refl _
  obtain ⟨cl11, Ar11, q11, S11, M11, Hs11, G11⟩ := id V1
  have hin11 : ¬ ((0 : Int32) < 0 ∨ cl11.slots.size ≤ ((0 : Int32)).toNatClampNeg) := inb_of S11 ⟨by decide, by decide⟩
  have hat11 : cl11.slots[((0 : Int32)).toNatClampNeg]? = some (.int (46 : Int32)) := Has.at Hs11 hin11 rfl
  refine own_go (X0.baloadBytes hx (j := (0 : Int32)) (v := (.int (46 : Int32))) (by rw [e0]; exact Ar11.1) (State.isArrayOf_alike hZ.alike Ar11.2.1) Ar11.2.2 hin11 hat11 (g := (mkF m 16 #[vr t1, vi (58 : Int32), vi (0 : Int32), vi (6 : Int32), vi (58 : Int32), vi (0 : Int32)] [(.int (0 : Int32)), (.ref t1)])) rfl rfl (hb hby d6_16)) ?_
  show own_Fin p e below (s₁.setTop (mkF m 17 #[vr t1, vi (58 : Int32), vi (0 : Int32), vi (6 : Int32), vi (58 : Int32), vi (0 : Int32)] [(.int (46 : Int32))])) _
  refine own_gs (cur' := s₁.setTop (mkF m 16 #[vr t1, vi (58 : Int32), vi (0 : Int32), vi (6 : Int32), vi (58 : Int32), vi (1 : Int32)] [(.int (1 : Int32)), (.ref t1)])) ?_ ?_
  · refine XS.iload X0.here hx rfl (hb hby d6_17) rfl ?_
    refine XS.icmpYes X0.here hx rfl (pc0 := 19) (pc' := 25) rfl (hb hby d6_19) rfl (feq ((by decide) : ¬ ((46 : Int32) = (58 : Int32)))).2 (by decide) (by decide) ?_
    refine XS.iinc X0.here hx rfl (hb hby d6_25) rfl (l' := #[vr t1, vi (58 : Int32), vi (0 : Int32), vi (6 : Int32), vi (58 : Int32), vi (1 : Int32)]) rfl ?_
    refine XS.goto X0.here hx rfl (pc0 := 28) (pc' := 7) rfl (hb hby d6_28) (by decide) (by decide) ?_
    refine XS.iload X0.here hx rfl (hb hby d6_7) rfl ?_
    refine XS.iloadN X0.here hx rfl (hb hby d6_9) rfl ?_
    refine XS.icmpNo X0.here hx rfl (hb hby d6_10) rfl (tlt ((by decide) : (1 : Int32) < (6 : Int32))).2.1 ?_
    refine XS.aloadN X0.here hx rfl (hb hby d6_13) rfl rfl ?_
    show Steps p.tables e below (s₁.setTop (mkF m 14 #[vr t1, vi (58 : Int32), vi (0 : Int32), vi (6 : Int32), vi (58 : Int32), vi (1 : Int32)] [(.ref t1)])) _
    refine XS.iload X0.here hx rfl (hb hby d6_14) rfl ?_
    exact Steps.refl _
  obtain ⟨cl12, Ar12, q12, S12, M12, Hs12, G12⟩ := id V1
  have hin12 : ¬ ((1 : Int32) < 0 ∨ cl12.slots.size ≤ ((1 : Int32)).toNatClampNeg) := inb_of S12 ⟨by decide, by decide⟩
  have hat12 : cl12.slots[((1 : Int32)).toNatClampNeg]? = some (.int (95 : Int32)) := Has.at Hs12 hin12 rfl
  refine own_go (X0.baloadBytes hx (j := (1 : Int32)) (v := (.int (95 : Int32))) (by rw [e0]; exact Ar12.1) (State.isArrayOf_alike hZ.alike Ar12.2.1) Ar12.2.2 hin12 hat12 (g := (mkF m 16 #[vr t1, vi (58 : Int32), vi (0 : Int32), vi (6 : Int32), vi (58 : Int32), vi (1 : Int32)] [(.int (1 : Int32)), (.ref t1)])) rfl rfl (hb hby d6_16)) ?_
  show own_Fin p e below (s₁.setTop (mkF m 17 #[vr t1, vi (58 : Int32), vi (0 : Int32), vi (6 : Int32), vi (58 : Int32), vi (1 : Int32)] [(.int (95 : Int32))])) _
  refine own_gs (cur' := s₁.setTop (mkF m 16 #[vr t1, vi (58 : Int32), vi (0 : Int32), vi (6 : Int32), vi (58 : Int32), vi (2 : Int32)] [(.int (2 : Int32)), (.ref t1)])) ?_ ?_
  · refine XS.iload X0.here hx rfl (hb hby d6_17) rfl ?_
    refine XS.icmpYes X0.here hx rfl (pc0 := 19) (pc' := 25) rfl (hb hby d6_19) rfl (feq ((by decide) : ¬ ((95 : Int32) = (58 : Int32)))).2 (by decide) (by decide) ?_
    refine XS.iinc X0.here hx rfl (hb hby d6_25) rfl (l' := #[vr t1, vi (58 : Int32), vi (0 : Int32), vi (6 : Int32), vi (58 : Int32), vi (2 : Int32)]) rfl ?_
    refine XS.goto X0.here hx rfl (pc0 := 28) (pc' := 7) rfl (hb hby d6_28) (by decide) (by decide) ?_
    refine XS.iload X0.here hx rfl (hb hby d6_7) rfl ?_
    refine XS.iloadN X0.here hx rfl (hb hby d6_9) rfl ?_
    refine XS.icmpNo X0.here hx rfl (hb hby d6_10) rfl (tlt ((by decide) : (2 : Int32) < (6 : Int32))).2.1 ?_
    refine XS.aloadN X0.here hx rfl (hb hby d6_13) rfl rfl ?_
    show Steps p.tables e below (s₁.setTop (mkF m 14 #[vr t1, vi (58 : Int32), vi (0 : Int32), vi (6 : Int32), vi (58 : Int32), vi (2 : Int32)] [(.ref t1)])) _
    refine XS.iload X0.here hx rfl (hb hby d6_14) rfl ?_
    exact Steps.refl _
  obtain ⟨cl13, Ar13, q13, S13, M13, Hs13, G13⟩ := id V1
  have hin13 : ¬ ((2 : Int32) < 0 ∨ cl13.slots.size ≤ ((2 : Int32)).toNatClampNeg) := inb_of S13 ⟨by decide, by decide⟩
  have hat13 : cl13.slots[((2 : Int32)).toNatClampNeg]? = some (.int (58 : Int32)) := Has.at Hs13 hin13 rfl
  refine own_go (X0.baloadBytes hx (j := (2 : Int32)) (v := (.int (58 : Int32))) (by rw [e0]; exact Ar13.1) (State.isArrayOf_alike hZ.alike Ar13.2.1) Ar13.2.2 hin13 hat13 (g := (mkF m 16 #[vr t1, vi (58 : Int32), vi (0 : Int32), vi (6 : Int32), vi (58 : Int32), vi (2 : Int32)] [(.int (2 : Int32)), (.ref t1)])) rfl rfl (hb hby d6_16)) ?_
  show own_Fin p e below (s₁.setTop (mkF m 17 #[vr t1, vi (58 : Int32), vi (0 : Int32), vi (6 : Int32), vi (58 : Int32), vi (2 : Int32)] [(.int (58 : Int32))])) _
  refine own_gs (cur' := s₁.setTop (mkF m 24 #[vr t1, vi (58 : Int32), vi (0 : Int32), vi (6 : Int32), vi (58 : Int32), vi (2 : Int32)] [(.int (2 : Int32))])) ?_ ?_
  · refine XS.iload X0.here hx rfl (hb hby d6_17) rfl ?_
    refine XS.icmpNo X0.here hx rfl (hb hby d6_19) rfl (teq ((by decide) : (58 : Int32) = (58 : Int32))).2 ?_
    refine XS.iload X0.here hx rfl (hb hby d6_22) rfl ?_
    exact Steps.refl _
  obtain ⟨fs, hr, hrun, hended, hW1, hsame⟩ := X0.leave (v := (some (.int (2 : Int32)))) (fun h => by rw [Bd.returns] at h; cases h)
  refine ⟨_, _, retI X0 hx Bd.returns (hb hby d6_24) hr, hrun, hended, _, _, rfl, ?_, ⟨_, rfl⟩, hW1, hsame.mono (own_le rfl) (own_le rfl)⟩
  show own_lic_2_Q Z t1 k1 h0 n0 (some (.int (2 : Int32))) s₁.heap _
  rw [e0]
  exact ⟨rfl, N0, rfl⟩
def own_lix_2_Q (Z : State) (t1 : Nat) (k1 : ClassId) (h0 : Heap) (n0 : Nat) (v : Option Value) (h : Heap) (L : List Loc) : Prop := v = (some (.int (2 : Int32))) ∧ Fr n0 L ∧ h = h0
theorem ef_own_lix_2 (m : MethodId) (x0 : Nat) (x1 : Int32) (x2 : Int32) (x3 : Int32) : entryFrame m #[(.ref x0), (.int x1), (.int x2), (.int x3)] 4 = mkF m 0 #[vr x0, vi x1, vi x2, vi x3] [] := by first | (simp [entryFrame, mkF, argsToLocals, Value.category]; done) | rfl
set_option maxRecDepth 65536 in
set_option maxHeartbeats 40000000 in
theorem own_lix_2 (l : Launch) (Z : State) (a0 : Array Value) (hW : own_W Z a0) (t1 : Nat) (k1 : ClassId) (h0 : Heap) (n0 : Nat) (Z0 : n0 ≤ h0.size) (O0 : Old Z n0 h0) (V1 : Arv Z h0 t1 k1 .byte (6 : Int32) [(.int (46 : Int32)), (.int (95 : Int32)), (.int (58 : Int32)), (.int (45 : Int32)), (.int (47 : Int32)), (.int (64 : Int32))] (.int (0 : Int32))) :
    MetFree l own_n9 (head1 (Jvm.Cond.code own_n9 own_c7 4 (some .int) :: []) ({ frames := 1, cells := 0, slots := 0, locals := 20 } : Room)) (fun a U => a = #[(.ref t1), (.int (58 : Int32)), (.int (0 : Int32)), (.int (6 : Int32))] ∧ Z.Warmed39 U.vm ∧ U.heap = h0) (fun _ _ _ _ _ => True) (fun _ U o U' => ∃ v L, o = .returned v ∧ own_lix_2_Q Z t1 k1 h0 n0 v U'.heap L ∧ FrameEnd U o U' L ({ frames := 1, cells := 0, slots := 0, locals := 20 } : Room).cells ({ frames := 1, cells := 0, slots := 0, locals := 20 } : Room).slots) := by
  refine MetFree.of_bodySF (plainFor_of_name pn_java_lang_StringLatin1) hisR ?_
  intro p e s m args below meth c s₁ Bd hml0 hP hK
  obtain ⟨rfl, hZ, hh⟩ := hP
  obtain ⟨hw, ⟨G1, O2, P5⟩, ⟨G3, O4, rG3⟩⟩ := id hW
  have hx := Bd.exec
  have hby := Bd.bytes
  have hml : c.maxLocals = 4 := hml0
  have hown : s.vm.findClass "java/lang/StringLatin1" = some m.cls := findClass_of_methodNamed Bd.named
  have hnm := (name_of_methodNamed Bd.named Bd.method).1
  have X0 : Stand p l e ({ frames := 1, cells := 0, slots := 0, locals := 20 } : Room) s m #[(.ref t1), (.int (58 : Int32)), (.int (0 : Int32)), (.int (6 : Int32))] below meth c s₁ [] 0 0 := Stand.of_body Bd
  have e0 : s₁.heap = h0 := by rw [← hh, Bd.state]; rfl
  have N0 := Fr.nil n0
  have K0 := Keep.refl h0 []
  show own_Fin p e below (s₁.setTop (entryFrame m #[(.ref t1), (.int (58 : Int32)), (.int (0 : Int32)), (.int (6 : Int32))] 4)) _
  refine own_gs (castTop (ef_own_lix_2 m t1 (58 : Int32) (0 : Int32) (6 : Int32)) (Steps.refl _)) ?_
  show own_Fin p e below (s₁.setTop (mkF m 0 #[vr t1, vi (58 : Int32), vi (0 : Int32), vi (6 : Int32)] [])) _
  refine own_gs (cur' := s₁.setTop (mkF m 1 #[vr t1, vi (58 : Int32), vi (0 : Int32), vi (6 : Int32)] [(.int (58 : Int32))])) ?_ ?_
  · refine XS.iloadN X0.here hx rfl (hb hby d7_0) rfl ?_
    exact Steps.refl _
  obtain ⟨_, _, ⟨T11, L11, k11, n11⟩, -, X11, ⟨Lc11, hQ11, l11, y11, z11⟩, st11⟩ := Jvm.LawKit.callS X0 hx (y := own_n7) hown (mvT hZ (own_tw hw 134 rfl)) (mvT hZ (own_tw hw 135 rfl)) (mvT hZ (own_tw hw 27 rfl)) (mvT hZ (own_tw hw 136 rfl)) (by decide) (backOf (W := 0) (own_ce_2 l Z a0 hW h0 n0 (by omega) O0) hZ (own_tw hw 136 rfl) (own_tw hw 27 rfl) (by decide) (by decide)) (g := (mkF m 1 #[vr t1, vi (58 : Int32), vi (0 : Int32), vi (6 : Int32)] [(.int (58 : Int32))])) rfl (by rw [hml]; rfl) (argsL := [(.int (58 : Int32))]) (rest := []) (lenOf pd_2 rfl) rfl (own_le rfl) (hb hby d7_1) (fun _ _ => ⟨rfl, e0, (by decide : 0 + 0 ≤ 0), (by decide : 0 + 0 ≤ 0)⟩)
  dsimp only [Pt.U, Pt.locs, Pt.cells, Pt.slots] at X11 l11 y11 z11 st11 hQ11
  subst l11 y11 z11
  obtain ⟨rfl, Nq11, eh11⟩ := hQ11
  have N11 := Fr.app N0 Nq11
  refine own_go st11 ?_
  show own_Fin p e below (T11.setTop (mkF m 4 #[vr t1, vi (58 : Int32), vi (0 : Int32), vi (6 : Int32)] [(.int (1 : Int32))])) _
  refine own_gs (cur' := T11.setTop (mkF m 11 #[vr t1, vi (58 : Int32), vi (0 : Int32), vi (6 : Int32)] [(.int (0 : Int32)), (.int (0 : Int32))])) ?_ ?_
  · refine XS.ifYes X11.here hx rfl (pc0 := 4) (pc' := 9) rfl (hb hby d7_4) rfl ((if0 _ _).trans (feq ((by decide) : ¬ ((1 : Int32) = (0 : Int32)))).2) (by decide) (by decide) ?_
    refine XS.iloadN X11.here hx rfl (hb hby d7_9) rfl ?_
    refine XS.iconst X11.here hx rfl (hb hby d7_10) ?_
    exact Steps.refl _
  obtain ⟨_, _, ⟨T12, L12, k12, n12⟩, -, X12, ⟨Lc12, hQ12, l12, y12, z12⟩, st12⟩ := Jvm.LawKit.callS X11 hx (y := own_n4) hown (mvT hZ (own_tw hw 137 rfl)) (mvT hZ (own_tw hw 138 rfl)) (mvT hZ (own_tw hw 139 rfl)) (mvT hZ (own_tw hw 140 rfl)) (by decide) (backOf (W := 0) (own_mx l Z a0 hW h0 n0 (by omega) O0) hZ (own_tw hw 140 rfl) (own_tw hw 139 rfl) (by decide) (by decide)) (g := (mkF m 11 #[vr t1, vi (58 : Int32), vi (0 : Int32), vi (6 : Int32)] [(.int (0 : Int32)), (.int (0 : Int32))])) rfl (by rw [hml]; rfl) (argsL := [(.int (0 : Int32)), (.int (0 : Int32))]) (rest := []) (lenOf pd_3 rfl) rfl (own_le rfl) (hb hby d7_11) (fun _ _ => ⟨rfl, eh11, (by decide : 0 + 0 ≤ 0), (by decide : 0 + 0 ≤ 0)⟩)
  dsimp only [Pt.U, Pt.locs, Pt.cells, Pt.slots] at X12 l12 y12 z12 st12 hQ12
  subst l12 y12 z12
  obtain ⟨rfl, Nq12, eh12⟩ := hQ12
  have N12 := Fr.app N11 Nq12
  refine own_go st12 ?_
  show own_Fin p e below (T12.setTop (mkF m 14 #[vr t1, vi (58 : Int32), vi (0 : Int32), vi (6 : Int32)] [(.int (0 : Int32))])) _
  refine own_gs (cur' := T12.setTop (mkF m 17 #[vr t1, vi (58 : Int32), vi (0 : Int32), vi (6 : Int32)] [(.ref t1), (.int (6 : Int32))])) ?_ ?_
  · refine XS.istoreN X12.here hx rfl (hb hby d7_14) rfl (l' := #[vr t1, vi (58 : Int32), vi (0 : Int32), vi (6 : Int32)]) rfl ?_
    refine XS.iloadN X12.here hx rfl (hb hby d7_15) rfl ?_
    refine XS.aloadN X12.here hx rfl (hb hby d7_16) rfl rfl ?_
    exact Steps.refl _
  obtain ⟨cl13, Ar13, q13, S13, M13, Hs13, G13⟩ := id V1
  refine own_go (X12.arraylength hx (by rw [eh12]; exact Ar13.1) (State.isArrayOf_alike hZ.alike Ar13.2.1) (g := (mkF m 17 #[vr t1, vi (58 : Int32), vi (0 : Int32), vi (6 : Int32)] [(.ref t1), (.int (6 : Int32))])) rfl rfl (hb hby d7_17)) ?_
  rw [len_of S13 M13]
  show own_Fin p e below (T12.setTop (mkF m 18 #[vr t1, vi (58 : Int32), vi (0 : Int32), vi (6 : Int32)] [(.int (6 : Int32)), (.int (6 : Int32))])) _
  obtain ⟨_, _, ⟨T14, L14, k14, n14⟩, -, X14, ⟨Lc14, hQ14, l14, y14, z14⟩, st14⟩ := Jvm.LawKit.callS X12 hx (y := own_n5) hown (mvT hZ (own_tw hw 141 rfl)) (mvT hZ (own_tw hw 142 rfl)) (mvT hZ (own_tw hw 139 rfl)) (mvT hZ (own_tw hw 143 rfl)) (by decide) (backOf (W := 0) (own_mn l Z a0 hW h0 n0 (by omega) O0) hZ (own_tw hw 143 rfl) (own_tw hw 139 rfl) (by decide) (by decide)) (g := (mkF m 18 #[vr t1, vi (58 : Int32), vi (0 : Int32), vi (6 : Int32)] [(.int (6 : Int32)), (.int (6 : Int32))])) rfl (by rw [hml]; rfl) (argsL := [(.int (6 : Int32)), (.int (6 : Int32))]) (rest := []) (lenOf pd_3 rfl) rfl (own_le rfl) (hb hby d7_18) (fun _ _ => ⟨rfl, eh12, (by decide : 0 + 0 ≤ 0), (by decide : 0 + 0 ≤ 0)⟩)
  dsimp only [Pt.U, Pt.locs, Pt.cells, Pt.slots] at X14 l14 y14 z14 st14 hQ14
  subst l14 y14 z14
  obtain ⟨rfl, Nq14, eh14⟩ := hQ14
  have N14 := Fr.app N12 Nq14
  refine own_go st14 ?_
  show own_Fin p e below (T14.setTop (mkF m 21 #[vr t1, vi (58 : Int32), vi (0 : Int32), vi (6 : Int32)] [(.int (6 : Int32))])) _
  refine own_gs (cur' := T14.setTop (mkF m 33 #[vr t1, vi (58 : Int32), vi (0 : Int32), vi (6 : Int32)] [(.int (6 : Int32)), (.int (0 : Int32)), (.int (58 : Int32)), (.ref t1)])) ?_ ?_
  · refine XS.istoreN X14.here hx rfl (hb hby d7_21) rfl (l' := #[vr t1, vi (58 : Int32), vi (0 : Int32), vi (6 : Int32)]) rfl ?_
    refine XS.iloadN X14.here hx rfl (hb hby d7_22) rfl ?_
    refine XS.iloadN X14.here hx rfl (hb hby d7_23) rfl ?_
    refine XS.icmpYes X14.here hx rfl (pc0 := 24) (pc' := 29) rfl (hb hby d7_24) rfl (tlt ((by decide) : (0 : Int32) < (6 : Int32))).1 (by decide) (by decide) ?_
    refine XS.aloadN X14.here hx rfl (hb hby d7_29) rfl rfl ?_
    refine XS.iloadN X14.here hx rfl (hb hby d7_30) rfl ?_
    refine XS.iloadN X14.here hx rfl (hb hby d7_31) rfl ?_
    refine XS.iloadN X14.here hx rfl (hb hby d7_32) rfl ?_
    exact Steps.refl _
  obtain ⟨_, _, ⟨T15, L15, k15, n15⟩, -, X15, ⟨Lc15, hQ15, l15, y15, z15⟩, st15⟩ := Jvm.LawKit.callS X14 hx (y := own_n8) hown (mvT hZ (own_tw hw 144 rfl)) (mvT hZ (own_tw hw 145 rfl)) (mvT hZ (own_tw hw 27 rfl)) (mvT hZ (own_tw hw 146 rfl)) (by decide) (backOf (W := 0) (own_lic_2 l Z a0 hW t1 k1 h0 n0 (by omega) O0 V1) hZ (own_tw hw 146 rfl) (own_tw hw 27 rfl) (by decide) (by decide)) (g := (mkF m 33 #[vr t1, vi (58 : Int32), vi (0 : Int32), vi (6 : Int32)] [(.int (6 : Int32)), (.int (0 : Int32)), (.int (58 : Int32)), (.ref t1)])) rfl (by rw [hml]; rfl) (argsL := [(.ref t1), (.int (58 : Int32)), (.int (0 : Int32)), (.int (6 : Int32))]) (rest := []) (lenOf pd_4 rfl) rfl (own_le rfl) (hb hby d7_33) (fun _ _ => ⟨rfl, eh14, (by decide : 0 + 0 ≤ 0), (by decide : 0 + 0 ≤ 0)⟩)
  dsimp only [Pt.U, Pt.locs, Pt.cells, Pt.slots] at X15 l15 y15 z15 st15 hQ15
  subst l15 y15 z15
  obtain ⟨rfl, Nq15, eh15⟩ := hQ15
  have N15 := Fr.app N14 Nq15
  refine own_go st15 ?_
  show own_Fin p e below (T15.setTop (mkF m 36 #[vr t1, vi (58 : Int32), vi (0 : Int32), vi (6 : Int32)] [(.int (2 : Int32))])) _
  obtain ⟨fs, hr, hrun, hended, hW1, hsame⟩ := X15.leave (v := (some (.int (2 : Int32)))) (fun h => by rw [Bd.returns] at h; cases h)
  refine ⟨_, _, retI X15 hx Bd.returns (hb hby d7_36) hr, hrun, hended, _, _, rfl, ?_, ⟨_, rfl⟩, hW1, hsame.mono (own_le rfl) (own_le rfl)⟩
  show own_lix_2_Q Z t1 k1 h0 n0 (some (.int (2 : Int32))) T15.heap _
  rw [eh15]
  exact ⟨rfl, N15, rfl⟩
def own_ix2_2_Q (Z : State) (x1 t1 : Nat) (k1 : ClassId) (h0 : Heap) (n0 : Nat) (v : Option Value) (h : Heap) (L : List Loc) : Prop := v = (some (.int (2 : Int32))) ∧ Fr n0 L ∧ h = h0
theorem ef_own_ix2_2 (m : MethodId) (x0 : Nat) (x1 : Int32) (x2 : Int32) : entryFrame m #[(.ref x0), (.int x1), (.int x2)] 3 = mkF m 0 #[vr x0, vi x1, vi x2] [] := by first | (simp [entryFrame, mkF, argsToLocals, Value.category]; done) | rfl
set_option maxRecDepth 65536 in
set_option maxHeartbeats 40000000 in
theorem own_ix2_2 (l : Launch) (Z : State) (a0 : Array Value) (hW : own_W Z a0) (x1 t1 : Nat) (k1 : ClassId) (h0 : Heap) (n0 : Nat) (Z0 : n0 ≤ h0.size) (O0 : Old Z n0 h0) (E1 : Exa Z h0 x1 "java/lang/String") (Fv1 : Fld Z h0 x1 "java/lang/String" "value" "[B" (.ref t1)) (Fc1 : Fld Z h0 x1 "java/lang/String" "coder" "B" (.int (0 : Int32))) (V1 : Arv Z h0 t1 k1 .byte (6 : Int32) [(.int (46 : Int32)), (.int (95 : Int32)), (.int (58 : Int32)), (.int (45 : Int32)), (.int (47 : Int32)), (.int (64 : Int32))] (.int (0 : Int32))) :
    MetFree l own_n10 (head1 (Jvm.Cond.code own_n10 own_c8 3 (some .int) :: []) ({ frames := 2, cells := 0, slots := 0, locals := 36 } : Room)) (fun a U => a = #[(.ref x1), (.int (58 : Int32)), (.int (0 : Int32))] ∧ Z.Warmed39 U.vm ∧ U.heap = h0) (fun _ _ _ _ _ => True) (fun _ U o U' => ∃ v L, o = .returned v ∧ own_ix2_2_Q Z x1 t1 k1 h0 n0 v U'.heap L ∧ FrameEnd U o U' L ({ frames := 2, cells := 0, slots := 0, locals := 36 } : Room).cells ({ frames := 2, cells := 0, slots := 0, locals := 36 } : Room).slots) := by
  refine MetFree.of_bodySF (plainFor_of_name pn_java_lang_String) hisR ?_
  intro p e s m args below meth c s₁ Bd hml0 hP hK
  obtain ⟨rfl, hZ, hh⟩ := hP
  obtain ⟨hw, ⟨G1, O2, P5⟩, ⟨G3, O4, rG3⟩⟩ := id hW
  have hx := Bd.exec
  have hby := Bd.bytes
  have hml : c.maxLocals = 3 := hml0
  have hown : s.vm.findClass "java/lang/String" = some m.cls := findClass_of_methodNamed Bd.named
  have hnm := (name_of_methodNamed Bd.named Bd.method).1
  have X0 : Stand p l e ({ frames := 2, cells := 0, slots := 0, locals := 36 } : Room) s m #[(.ref x1), (.int (58 : Int32)), (.int (0 : Int32))] below meth c s₁ [] 0 0 := Stand.of_body Bd
  have e0 : s₁.heap = h0 := by rw [← hh, Bd.state]; rfl
  have N0 := Fr.nil n0
  have K0 := Keep.refl h0 []
  have F1 : own_Str Z h0 x1 t1 [46, 95, 58, 45, 47, 64] := ⟨_, _, _, _, E1, Fv1, Fc1, V1, Or.inl ⟨rfl, rfl, rfl, by decide⟩, by decide, by decide⟩
  show own_Fin p e below (s₁.setTop (entryFrame m #[(.ref x1), (.int (58 : Int32)), (.int (0 : Int32))] 3)) _
  refine own_gs (castTop (ef_own_ix2_2 m x1 (58 : Int32) (0 : Int32)) (Steps.refl _)) ?_
  show own_Fin p e below (s₁.setTop (mkF m 0 #[vr x1, vi (58 : Int32), vi (0 : Int32)] [])) _
  refine own_gs (cur' := s₁.setTop (mkF m 1 #[vr x1, vi (58 : Int32), vi (0 : Int32)] [(.ref x1)])) ?_ ?_
  · refine XS.aloadN X0.here hx rfl (hb hby d8_0) rfl rfl ?_
    exact Steps.refl _
  obtain ⟨cq11, kq11, q11a, q11b, q11c⟩ := isOf hZ e0 E1
  obtain ⟨_, _, ⟨T11, L11, k11, n11⟩, -, X11, ⟨Lc11, hQ11, l11, y11, z11⟩, st11⟩ := X0.virtualBack hx (y := own_n6) (z := own_n6) hown (mvT hZ (own_tw hw 17 rfl)) (mvT hZ (own_tw hw 18 rfl)) (notFace_of_selects (args := #[]) (mvT hZ (own_tw hw 20 rfl))) (mvT hZ (own_tw hw 20 rfl)) (mvT hZ (own_tw hw 19 rfl)) (by decide) (backOf (W := 0) (own_isl l Z a0 hW x1 h0 n0 (by omega) O0 Fc1) hZ (own_tw hw 21 rfl) (own_tw hw 5 rfl) (by decide) (by decide)) q11a q11c (g := (mkF m 1 #[vr x1, vi (58 : Int32), vi (0 : Int32)] [(.ref x1)])) rfl (by rw [hml]; rfl) (Steps.refl _) (argsL := []) (rest := []) (lenOf pd_5 rfl) rfl (own_le rfl) (hb hby d8_1) (fun _ _ => ⟨rfl, e0, (by decide : 0 + 0 ≤ 0), (by decide : 0 + 0 ≤ 0)⟩)
  dsimp only [Pt.U, Pt.locs, Pt.cells, Pt.slots] at X11 l11 y11 z11 st11 hQ11
  subst l11 y11 z11
  obtain ⟨rfl, Nq11, eh11⟩ := hQ11
  have N11 := Fr.app N0 Nq11
  refine own_gs st11 ?_
  show own_Fin p e below (T11.setTop (mkF m 4 #[vr x1, vi (58 : Int32), vi (0 : Int32)] [(.int (1 : Int32))])) _
  refine own_gs (cur' := T11.setTop (mkF m 8 #[vr x1, vi (58 : Int32), vi (0 : Int32)] [(.ref x1)])) ?_ ?_
  · refine XS.ifNo X11.here hx rfl (hb hby d8_4) rfl ((if0 _ _).trans (feq ((by decide) : ¬ ((1 : Int32) = (0 : Int32)))).1) ?_
    refine XS.aloadN X11.here hx rfl (hb hby d8_7) rfl rfl ?_
    exact Steps.refl _
  obtain ⟨T12, X12, e12, st12⟩ := getF X11 hx hZ hown (host := "") (Or.inl (own_tw hw 24 rfl)) Via.refl eh11 Fv1 (g := (mkF m 8 #[vr x1, vi (58 : Int32), vi (0 : Int32)] [(.ref x1)])) rfl rfl (hb hby d8_8)
  refine own_go st12 ?_
  show own_Fin p e below (T12.setTop (mkF m 11 #[vr x1, vi (58 : Int32), vi (0 : Int32)] [(.ref t1)])) _
  refine own_gs (cur' := T12.setTop (mkF m 14 #[vr x1, vi (58 : Int32), vi (0 : Int32)] [(.ref x1), (.int (0 : Int32)), (.int (58 : Int32)), (.ref t1)])) ?_ ?_
  · refine XS.iloadN X12.here hx rfl (hb hby d8_11) rfl ?_
    refine XS.iloadN X12.here hx rfl (hb hby d8_12) rfl ?_
    refine XS.aloadN X12.here hx rfl (hb hby d8_13) rfl rfl ?_
    exact Steps.refl _
  obtain ⟨cq13, kq13, q13a, q13b, q13c⟩ := isOf hZ e12 E1
  obtain ⟨_, _, ⟨T13, L13, k13, n13⟩, -, X13, ⟨Lc13, hQ13, l13, y13, z13⟩, st13⟩ := X12.virtualBack hx (y := own_n11) (z := own_n11) hown (mvT hZ (own_tw hw 130 rfl)) (mvT hZ (own_tw hw 72 rfl)) (notFace_of_selects (args := #[]) (mvT hZ (own_tw hw 74 rfl))) (mvT hZ (own_tw hw 74 rfl)) (mvT hZ (own_tw hw 73 rfl)) (by decide) (own_lenB (W := 3) hZ hw F1 (O2.ext O0.2) P5 (by decide) (by decide)) q13a q13c (g := (mkF m 14 #[vr x1, vi (58 : Int32), vi (0 : Int32)] [(.ref x1), (.int (0 : Int32)), (.int (58 : Int32)), (.ref t1)])) rfl (by rw [hml]; rfl) (Steps.refl _) (argsL := []) (rest := [(.int (0 : Int32)), (.int (58 : Int32)), (.ref t1)]) (lenOf pd_6 rfl) rfl (own_le rfl) (hb hby d8_14) (fun _ _ => ⟨rfl, e12, (by decide : 0 + 0 ≤ 0), (by decide : 0 + 0 ≤ 0)⟩)
  dsimp only [Pt.U, Pt.locs, Pt.cells, Pt.slots] at X13 l13 y13 z13 st13 hQ13
  subst l13 y13 z13
  obtain ⟨rfl, rfl, eh13⟩ := hQ13
  have N13 := Fr.app N11 (Fr.nil n0)
  refine own_gs st13 ?_
  show own_Fin p e below (T13.setTop (mkF m 17 #[vr x1, vi (58 : Int32), vi (0 : Int32)] [(.int (6 : Int32)), (.int (0 : Int32)), (.int (58 : Int32)), (.ref t1)])) _
  obtain ⟨_, _, ⟨T14, L14, k14, n14⟩, -, X14, ⟨Lc14, hQ14, l14, y14, z14⟩, st14⟩ := Jvm.LawKit.callS X13 hx (y := own_n9) hown (mvT hZ (own_tw hw 131 rfl)) (mvT hZ (own_tw hw 132 rfl)) (mvT hZ (own_tw hw 27 rfl)) (mvT hZ (own_tw hw 133 rfl)) (by decide) (backOf (W := 0) (own_lix_2 l Z a0 hW t1 k1 h0 n0 (by omega) O0 V1) hZ (own_tw hw 133 rfl) (own_tw hw 27 rfl) (by decide) (by decide)) (g := (mkF m 17 #[vr x1, vi (58 : Int32), vi (0 : Int32)] [(.int (6 : Int32)), (.int (0 : Int32)), (.int (58 : Int32)), (.ref t1)])) rfl (by rw [hml]; rfl) (argsL := [(.ref t1), (.int (58 : Int32)), (.int (0 : Int32)), (.int (6 : Int32))]) (rest := []) (lenOf pd_4 rfl) rfl (own_le rfl) (hb hby d8_17) (fun _ _ => ⟨rfl, eh13, (by decide : 0 + 0 ≤ 0), (by decide : 0 + 0 ≤ 0)⟩)
  dsimp only [Pt.U, Pt.locs, Pt.cells, Pt.slots] at X14 l14 y14 z14 st14 hQ14
  subst l14 y14 z14
  obtain ⟨rfl, Nq14, eh14⟩ := hQ14
  have N14 := Fr.app N13 Nq14
  refine own_go st14 ?_
  show own_Fin p e below (T14.setTop (mkF m 20 #[vr x1, vi (58 : Int32), vi (0 : Int32)] [(.int (2 : Int32))])) _
  refine own_gs (cur' := T14.setTop (mkF m 36 #[vr x1, vi (58 : Int32), vi (0 : Int32)] [(.int (2 : Int32))])) ?_ ?_
  · refine XS.goto X14.here hx rfl (pc0 := 20) (pc' := 36) rfl (hb hby d8_20) (by decide) (by decide) ?_
    exact Steps.refl _
  obtain ⟨fs, hr, hrun, hended, hW1, hsame⟩ := X14.leave (v := (some (.int (2 : Int32)))) (fun h => by rw [Bd.returns] at h; cases h)
  refine ⟨_, _, retI X14 hx Bd.returns (hb hby d8_36) hr, hrun, hended, _, _, rfl, ?_, ⟨_, rfl⟩, hW1, hsame.mono (own_le rfl) (own_le rfl)⟩
  show own_ix2_2_Q Z x1 t1 k1 h0 n0 (some (.int (2 : Int32))) T14.heap _
  rw [eh14]
  exact ⟨rfl, N14, rfl⟩
def own_ix1_2_Q (Z : State) (x1 t1 : Nat) (k1 : ClassId) (h0 : Heap) (n0 : Nat) (v : Option Value) (h : Heap) (L : List Loc) : Prop := v = (some (.int (2 : Int32))) ∧ Fr n0 L ∧ h = h0
theorem ef_own_ix1_2 (m : MethodId) (x0 : Nat) (x1 : Int32) : entryFrame m #[(.ref x0), (.int x1)] 2 = mkF m 0 #[vr x0, vi x1] [] := by first | (simp [entryFrame, mkF, argsToLocals, Value.category]; done) | rfl
set_option maxRecDepth 65536 in
set_option maxHeartbeats 40000000 in
theorem own_ix1_2 (l : Launch) (Z : State) (a0 : Array Value) (hW : own_W Z a0) (x1 t1 : Nat) (k1 : ClassId) (h0 : Heap) (n0 : Nat) (Z0 : n0 ≤ h0.size) (O0 : Old Z n0 h0) (E1 : Exa Z h0 x1 "java/lang/String") (Fv1 : Fld Z h0 x1 "java/lang/String" "value" "[B" (.ref t1)) (Fc1 : Fld Z h0 x1 "java/lang/String" "coder" "B" (.int (0 : Int32))) (V1 : Arv Z h0 t1 k1 .byte (6 : Int32) [(.int (46 : Int32)), (.int (95 : Int32)), (.int (58 : Int32)), (.int (45 : Int32)), (.int (47 : Int32)), (.int (64 : Int32))] (.int (0 : Int32))) :
    MetFree l own_n12 (head1 (Jvm.Cond.code own_n12 own_c9 2 (some .int) :: []) ({ frames := 3, cells := 0, slots := 0, locals := 50 } : Room)) (fun a U => a = #[(.ref x1), (.int (58 : Int32))] ∧ Z.Warmed39 U.vm ∧ U.heap = h0) (fun _ _ _ _ _ => True) (fun _ U o U' => ∃ v L, o = .returned v ∧ own_ix1_2_Q Z x1 t1 k1 h0 n0 v U'.heap L ∧ FrameEnd U o U' L ({ frames := 3, cells := 0, slots := 0, locals := 50 } : Room).cells ({ frames := 3, cells := 0, slots := 0, locals := 50 } : Room).slots) := by
  refine MetFree.of_bodySF (plainFor_of_name pn_java_lang_String) hisR ?_
  intro p e s m args below meth c s₁ Bd hml0 hP hK
  obtain ⟨rfl, hZ, hh⟩ := hP
  obtain ⟨hw, ⟨G1, O2, P5⟩, ⟨G3, O4, rG3⟩⟩ := id hW
  have hx := Bd.exec
  have hby := Bd.bytes
  have hml : c.maxLocals = 2 := hml0
  have hown : s.vm.findClass "java/lang/String" = some m.cls := findClass_of_methodNamed Bd.named
  have hnm := (name_of_methodNamed Bd.named Bd.method).1
  have X0 : Stand p l e ({ frames := 3, cells := 0, slots := 0, locals := 50 } : Room) s m #[(.ref x1), (.int (58 : Int32))] below meth c s₁ [] 0 0 := Stand.of_body Bd
  have e0 : s₁.heap = h0 := by rw [← hh, Bd.state]; rfl
  have N0 := Fr.nil n0
  have K0 := Keep.refl h0 []
  have F1 : own_Str Z h0 x1 t1 [46, 95, 58, 45, 47, 64] := ⟨_, _, _, _, E1, Fv1, Fc1, V1, Or.inl ⟨rfl, rfl, rfl, by decide⟩, by decide, by decide⟩
  show own_Fin p e below (s₁.setTop (entryFrame m #[(.ref x1), (.int (58 : Int32))] 2)) _
  refine own_gs (castTop (ef_own_ix1_2 m x1 (58 : Int32)) (Steps.refl _)) ?_
  show own_Fin p e below (s₁.setTop (mkF m 0 #[vr x1, vi (58 : Int32)] [])) _
  refine own_gs (cur' := s₁.setTop (mkF m 3 #[vr x1, vi (58 : Int32)] [(.int (0 : Int32)), (.int (58 : Int32)), (.ref x1)])) ?_ ?_
  · refine XS.aloadN X0.here hx rfl (hb hby d9_0) rfl rfl ?_
    refine XS.iloadN X0.here hx rfl (hb hby d9_1) rfl ?_
    refine XS.iconst X0.here hx rfl (hb hby d9_2) ?_
    exact Steps.refl _
  obtain ⟨cq11, kq11, q11a, q11b, q11c⟩ := isOf hZ e0 E1
  obtain ⟨_, _, ⟨T11, L11, k11, n11⟩, -, X11, ⟨Lc11, hQ11, l11, y11, z11⟩, st11⟩ := X0.virtualBack hx (y := own_n10) (z := own_n10) hown (mvT hZ (own_tw hw 125 rfl)) (mvT hZ (own_tw hw 126 rfl)) (notFace_of_selects (args := #[]) (mvT hZ (own_tw hw 128 rfl))) (mvT hZ (own_tw hw 128 rfl)) (mvT hZ (own_tw hw 127 rfl)) (by decide) (backOf (W := 0) (own_ix2_2 l Z a0 hW x1 t1 k1 h0 n0 (by omega) O0 E1 Fv1 Fc1 V1) hZ (own_tw hw 129 rfl) (own_tw hw 5 rfl) (by decide) (by decide)) q11a q11c (g := (mkF m 3 #[vr x1, vi (58 : Int32)] [(.int (0 : Int32)), (.int (58 : Int32)), (.ref x1)])) rfl (by rw [hml]; rfl) (Steps.refl _) (argsL := [(.int (58 : Int32)), (.int (0 : Int32))]) (rest := []) (lenOf pd_3 rfl) rfl (own_le rfl) (hb hby d9_3) (fun _ _ => ⟨rfl, e0, (by decide : 0 + 0 ≤ 0), (by decide : 0 + 0 ≤ 0)⟩)
  dsimp only [Pt.U, Pt.locs, Pt.cells, Pt.slots] at X11 l11 y11 z11 st11 hQ11
  subst l11 y11 z11
  obtain ⟨rfl, Nq11, eh11⟩ := hQ11
  have N11 := Fr.app N0 Nq11
  refine own_gs st11 ?_
  show own_Fin p e below (T11.setTop (mkF m 6 #[vr x1, vi (58 : Int32)] [(.int (2 : Int32))])) _
  obtain ⟨fs, hr, hrun, hended, hW1, hsame⟩ := X11.leave (v := (some (.int (2 : Int32)))) (fun h => by rw [Bd.returns] at h; cases h)
  refine ⟨_, _, retI X11 hx Bd.returns (hb hby d9_6) hr, hrun, hended, _, _, rfl, ?_, ⟨_, rfl⟩, hW1, hsame.mono (own_le rfl) (own_le rfl)⟩
  show own_ix1_2_Q Z x1 t1 k1 h0 n0 (some (.int (2 : Int32))) T11.heap _
  rw [eh11]
  exact ⟨rfl, N11, rfl⟩
def own_ce_3_Q (Z : State)  (h0 : Heap) (n0 : Nat) (v : Option Value) (h : Heap) (L : List Loc) : Prop := v = (some (.int (1 : Int32))) ∧ Fr n0 L ∧ h = h0
theorem ef_own_ce_3 (m : MethodId) (x0 : Int32) : entryFrame m #[(.int x0)] 1 = mkF m 0 #[vi x0] [] := by first | (simp [entryFrame, mkF, argsToLocals, Value.category]; done) | rfl
set_option maxRecDepth 65536 in
set_option maxHeartbeats 40000000 in
theorem own_ce_3 (l : Launch) (Z : State) (a0 : Array Value) (hW : own_W Z a0)  (h0 : Heap) (n0 : Nat) (Z0 : n0 ≤ h0.size) (O0 : Old Z n0 h0)  :
    MetFree l own_n7 (head1 (Jvm.Cond.code own_n7 own_c5 1 (some .boolean) :: []) ({ frames := 0, cells := 0, slots := 0, locals := 0 } : Room)) (fun a U => a = #[(.int (45 : Int32))] ∧ Z.Warmed39 U.vm ∧ U.heap = h0) (fun _ _ _ _ _ => True) (fun _ U o U' => ∃ v L, o = .returned v ∧ own_ce_3_Q Z  h0 n0 v U'.heap L ∧ FrameEnd U o U' L ({ frames := 0, cells := 0, slots := 0, locals := 0 } : Room).cells ({ frames := 0, cells := 0, slots := 0, locals := 0 } : Room).slots) := by
  refine MetFree.of_bodySF (plainFor_of_name pn_java_lang_StringLatin1) hisR ?_
  intro p e s m args below meth c s₁ Bd hml0 hP hK
  obtain ⟨rfl, hZ, hh⟩ := hP
  obtain ⟨hw, ⟨G1, O2, P5⟩, ⟨G3, O4, rG3⟩⟩ := id hW
  have hx := Bd.exec
  have hby := Bd.bytes
  have hml : c.maxLocals = 1 := hml0
  have hown : s.vm.findClass "java/lang/StringLatin1" = some m.cls := findClass_of_methodNamed Bd.named
  have hnm := (name_of_methodNamed Bd.named Bd.method).1
  have X0 : Stand p l e ({ frames := 0, cells := 0, slots := 0, locals := 0 } : Room) s m #[(.int (45 : Int32))] below meth c s₁ [] 0 0 := Stand.of_body Bd
  have e0 : s₁.heap = h0 := by rw [← hh, Bd.state]; rfl
  have N0 := Fr.nil n0
  have K0 := Keep.refl h0 []
  show own_Fin p e below (s₁.setTop (entryFrame m #[(.int (45 : Int32))] 1)) _
  refine own_gs (castTop (ef_own_ce_3 m (45 : Int32)) (Steps.refl _)) ?_
  show own_Fin p e below (s₁.setTop (mkF m 0 #[vi (45 : Int32)] [])) _
  refine own_gs (cur' := s₁.setTop (mkF m 16 #[vi (45 : Int32)] [(.int (1 : Int32))])) ?_ ?_
  · refine XS.iloadN X0.here hx rfl (hb hby d5_0) rfl ?_
    refine XS.ifNo X0.here hx rfl (hb hby d5_1) rfl ((if0 _ _).trans (flt ((by decide) : ¬ ((45 : Int32) < (0 : Int32)))).1) ?_
    refine XS.iloadN X0.here hx rfl (hb hby d5_4) rfl ?_
    refine XS.sipush X0.here hx rfl (hb hby d5_5) ?_
    refine XS.icmpNo X0.here hx rfl (hb hby d5_8) rfl (flt ((by decide) : ¬ ((255 : Int32) < (45 : Int32)))).2.2.1 ?_
    refine XS.iconst X0.here hx rfl (hb hby d5_11) ?_
    refine XS.goto X0.here hx rfl (pc0 := 12) (pc' := 16) rfl (hb hby d5_12) (by decide) (by decide) ?_
    exact Steps.refl _
  obtain ⟨fs, hr, hrun, hended, hW1, hsame⟩ := X0.leave (v := (some (.int (1 : Int32)))) (fun h => by rw [Bd.returns] at h; cases h)
  refine ⟨_, _, retN X0 hx (t := .boolean) Bd.returns (by simp) (hb hby d5_16) hr, hrun, hended, _, _, rfl, ?_, ⟨_, rfl⟩, hW1, hsame.mono (own_le rfl) (own_le rfl)⟩
  show own_ce_3_Q Z  h0 n0 (some (.int (1 : Int32))) s₁.heap _
  rw [e0]
  exact ⟨rfl, N0, rfl⟩
def own_lic_3_Q (Z : State) (t1 : Nat) (k1 : ClassId) (h0 : Heap) (n0 : Nat) (v : Option Value) (h : Heap) (L : List Loc) : Prop := v = (some (.int (3 : Int32))) ∧ Fr n0 L ∧ h = h0
theorem ef_own_lic_3 (m : MethodId) (x0 : Nat) (x1 : Int32) (x2 : Int32) (x3 : Int32) : entryFrame m #[(.ref x0), (.int x1), (.int x2), (.int x3)] 6 = mkF m 0 #[vr x0, vi x1, vi x2, vi x3, .unset, .unset] [] := by first | (simp [entryFrame, mkF, argsToLocals, Value.category]; done) | rfl
set_option maxRecDepth 65536 in
set_option maxHeartbeats 40000000 in
theorem own_lic_3 (l : Launch) (Z : State) (a0 : Array Value) (hW : own_W Z a0) (t1 : Nat) (k1 : ClassId) (h0 : Heap) (n0 : Nat) (Z0 : n0 ≤ h0.size) (O0 : Old Z n0 h0) (V1 : Arv Z h0 t1 k1 .byte (6 : Int32) [(.int (46 : Int32)), (.int (95 : Int32)), (.int (58 : Int32)), (.int (45 : Int32)), (.int (47 : Int32)), (.int (64 : Int32))] (.int (0 : Int32))) :
    MetFree l own_n8 (head1 (Jvm.Cond.code own_n8 own_c6 6 (some .int) :: []) ({ frames := 0, cells := 0, slots := 0, locals := 0 } : Room)) (fun a U => a = #[(.ref t1), (.int (45 : Int32)), (.int (0 : Int32)), (.int (6 : Int32))] ∧ Z.Warmed39 U.vm ∧ U.heap = h0) (fun _ _ _ _ _ => True) (fun _ U o U' => ∃ v L, o = .returned v ∧ own_lic_3_Q Z t1 k1 h0 n0 v U'.heap L ∧ FrameEnd U o U' L ({ frames := 0, cells := 0, slots := 0, locals := 0 } : Room).cells ({ frames := 0, cells := 0, slots := 0, locals := 0 } : Room).slots) := by
  refine MetFree.of_bodySF (plainFor_of_name pn_java_lang_StringLatin1) hisR ?_
  intro p e s m args below meth c s₁ Bd hml0 hP hK
  obtain ⟨rfl, hZ, hh⟩ := hP
  obtain ⟨hw, ⟨G1, O2, P5⟩, ⟨G3, O4, rG3⟩⟩ := id hW
  have hx := Bd.exec
  have hby := Bd.bytes
  have hml : c.maxLocals = 6 := hml0
  have hown : s.vm.findClass "java/lang/StringLatin1" = some m.cls := findClass_of_methodNamed Bd.named
  have hnm := (name_of_methodNamed Bd.named Bd.method).1
  have X0 : Stand p l e ({ frames := 0, cells := 0, slots := 0, locals := 0 } : Room) s m #[(.ref t1), (.int (45 : Int32)), (.int (0 : Int32)), (.int (6 : Int32))] below meth c s₁ [] 0 0 := Stand.of_body Bd
  have e0 : s₁.heap = h0 := by rw [← hh, Bd.state]; rfl
  have N0 := Fr.nil n0
  have K0 := Keep.refl h0 []
  show own_Fin p e below (s₁.setTop (entryFrame m #[(.ref t1), (.int (45 : Int32)), (.int (0 : Int32)), (.int (6 : Int32))] 6)) _
  refine own_gs (castTop (ef_own_lic_3 m t1 (45 : Int32) (0 : Int32) (6 : Int32)) (Steps.refl _)) ?_
  show own_Fin p e below (s₁.setTop (mkF m 0 #[vr t1, vi (45 : Int32), vi (0 : Int32), vi (6 : Int32), uu, uu] [])) _
  refine own_gs (cur' := s₁.setTop (mkF m 16 #[vr t1, vi (45 : Int32), vi (0 : Int32), vi (6 : Int32), vi (45 : Int32), vi (0 : Int32)] [(.int (0 : Int32)), (.ref t1)])) ?_ ?_
  · refine XS.iloadN X0.here hx rfl (hb hby d6_0) rfl ?_
    refine XS.i2b X0.here hx rfl (hb hby d6_1) rfl ?_
    refine XS.istore X0.here hx rfl (hb hby d6_2) rfl (l' := #[vr t1, vi (45 : Int32), vi (0 : Int32), vi (6 : Int32), vi (45 : Int32), uu]) rfl ?_
    refine XS.iloadN X0.here hx rfl (hb hby d6_4) rfl ?_
    refine XS.istore X0.here hx rfl (hb hby d6_5) rfl (l' := #[vr t1, vi (45 : Int32), vi (0 : Int32), vi (6 : Int32), vi (45 : Int32), vi (0 : Int32)]) rfl ?_
    refine XS.iload X0.here hx rfl (hb hby d6_7) rfl ?_
    refine XS.iloadN X0.here hx rfl (hb hby d6_9) rfl ?_
    refine XS.icmpNo X0.here hx rfl (hb hby d6_10) rfl (tlt ((by decide) : (0 : Int32) < (6 : Int32))).2.1 ?_
    show Steps p.tables e below (s₁.setTop (mkF m 13 #[vr t1, vi (45 : Int32), vi (0 : Int32), vi (6 : Int32), vi (45 : Int32), vi (0 : Int32)] [])) _
    refine XS.aloadN X0.here hx rfl (hb hby d6_13) rfl rfl ?_
    refine XS.iload X0.here hx rfl (hb hby d6_14) rfl ?_
    exact Steps.refl _
  obtain ⟨cl11, Ar11, q11, S11, M11, Hs11, G11⟩ := id V1
  have hin11 : ¬ ((0 : Int32) < 0 ∨ cl11.slots.size ≤ ((0 : Int32)).toNatClampNeg) := inb_of S11 ⟨by decide, by decide⟩
  have hat11 : cl11.slots[((0 : Int32)).toNatClampNeg]? = some (.int (46 : Int32)) := Has.at Hs11 hin11 rfl
  refine own_go (X0.baloadBytes hx (j := (0 : Int32)) (v := (.int (46 : Int32))) (by rw [e0]; exact Ar11.1) (State.isArrayOf_alike hZ.alike Ar11.2.1) Ar11.2.2 hin11 hat11 (g := (mkF m 16 #[vr t1, vi (45 : Int32), vi (0 : Int32), vi (6 : Int32), vi (45 : Int32), vi (0 : Int32)] [(.int (0 : Int32)), (.ref t1)])) rfl rfl (hb hby d6_16)) ?_
  show own_Fin p e below (s₁.setTop (mkF m 17 #[vr t1, vi (45 : Int32), vi (0 : Int32), vi (6 : Int32), vi (45 : Int32), vi (0 : Int32)] [(.int (46 : Int32))])) _
  refine own_gs (cur' := s₁.setTop (mkF m 16 #[vr t1, vi (45 : Int32), vi (0 : Int32), vi (6 : Int32), vi (45 : Int32), vi (1 : Int32)] [(.int (1 : Int32)), (.ref t1)])) ?_ ?_
  · refine XS.iload X0.here hx rfl (hb hby d6_17) rfl ?_
    refine XS.icmpYes X0.here hx rfl (pc0 := 19) (pc' := 25) rfl (hb hby d6_19) rfl (feq ((by decide) : ¬ ((46 : Int32) = (45 : Int32)))).2 (by decide) (by decide) ?_
    refine XS.iinc X0.here hx rfl (hb hby d6_25) rfl (l' := #[vr t1, vi (45 : Int32), vi (0 : Int32), vi (6 : Int32), vi (45 : Int32), vi (1 : Int32)]) rfl ?_
    refine XS.goto X0.here hx rfl (pc0 := 28) (pc' := 7) rfl (hb hby d6_28) (by decide) (by decide) ?_
    refine XS.iload X0.here hx rfl (hb hby d6_7) rfl ?_
    refine XS.iloadN X0.here hx rfl (hb hby d6_9) rfl ?_
    refine XS.icmpNo X0.here hx rfl (hb hby d6_10) rfl (tlt ((by decide) : (1 : Int32) < (6 : Int32))).2.1 ?_
    refine XS.aloadN X0.here hx rfl (hb hby d6_13) rfl rfl ?_
    show Steps p.tables e below (s₁.setTop (mkF m 14 #[vr t1, vi (45 : Int32), vi (0 : Int32), vi (6 : Int32), vi (45 : Int32), vi (1 : Int32)] [(.ref t1)])) _
    refine XS.iload X0.here hx rfl (hb hby d6_14) rfl ?_
    exact Steps.refl _
  obtain ⟨cl12, Ar12, q12, S12, M12, Hs12, G12⟩ := id V1
  have hin12 : ¬ ((1 : Int32) < 0 ∨ cl12.slots.size ≤ ((1 : Int32)).toNatClampNeg) := inb_of S12 ⟨by decide, by decide⟩
  have hat12 : cl12.slots[((1 : Int32)).toNatClampNeg]? = some (.int (95 : Int32)) := Has.at Hs12 hin12 rfl
  refine own_go (X0.baloadBytes hx (j := (1 : Int32)) (v := (.int (95 : Int32))) (by rw [e0]; exact Ar12.1) (State.isArrayOf_alike hZ.alike Ar12.2.1) Ar12.2.2 hin12 hat12 (g := (mkF m 16 #[vr t1, vi (45 : Int32), vi (0 : Int32), vi (6 : Int32), vi (45 : Int32), vi (1 : Int32)] [(.int (1 : Int32)), (.ref t1)])) rfl rfl (hb hby d6_16)) ?_
  show own_Fin p e below (s₁.setTop (mkF m 17 #[vr t1, vi (45 : Int32), vi (0 : Int32), vi (6 : Int32), vi (45 : Int32), vi (1 : Int32)] [(.int (95 : Int32))])) _
  refine own_gs (cur' := s₁.setTop (mkF m 16 #[vr t1, vi (45 : Int32), vi (0 : Int32), vi (6 : Int32), vi (45 : Int32), vi (2 : Int32)] [(.int (2 : Int32)), (.ref t1)])) ?_ ?_
  · refine XS.iload X0.here hx rfl (hb hby d6_17) rfl ?_
    refine XS.icmpYes X0.here hx rfl (pc0 := 19) (pc' := 25) rfl (hb hby d6_19) rfl (feq ((by decide) : ¬ ((95 : Int32) = (45 : Int32)))).2 (by decide) (by decide) ?_
    refine XS.iinc X0.here hx rfl (hb hby d6_25) rfl (l' := #[vr t1, vi (45 : Int32), vi (0 : Int32), vi (6 : Int32), vi (45 : Int32), vi (2 : Int32)]) rfl ?_
    refine XS.goto X0.here hx rfl (pc0 := 28) (pc' := 7) rfl (hb hby d6_28) (by decide) (by decide) ?_
    refine XS.iload X0.here hx rfl (hb hby d6_7) rfl ?_
    refine XS.iloadN X0.here hx rfl (hb hby d6_9) rfl ?_
    refine XS.icmpNo X0.here hx rfl (hb hby d6_10) rfl (tlt ((by decide) : (2 : Int32) < (6 : Int32))).2.1 ?_
    refine XS.aloadN X0.here hx rfl (hb hby d6_13) rfl rfl ?_
    show Steps p.tables e below (s₁.setTop (mkF m 14 #[vr t1, vi (45 : Int32), vi (0 : Int32), vi (6 : Int32), vi (45 : Int32), vi (2 : Int32)] [(.ref t1)])) _
    refine XS.iload X0.here hx rfl (hb hby d6_14) rfl ?_
    exact Steps.refl _
  obtain ⟨cl13, Ar13, q13, S13, M13, Hs13, G13⟩ := id V1
  have hin13 : ¬ ((2 : Int32) < 0 ∨ cl13.slots.size ≤ ((2 : Int32)).toNatClampNeg) := inb_of S13 ⟨by decide, by decide⟩
  have hat13 : cl13.slots[((2 : Int32)).toNatClampNeg]? = some (.int (58 : Int32)) := Has.at Hs13 hin13 rfl
  refine own_go (X0.baloadBytes hx (j := (2 : Int32)) (v := (.int (58 : Int32))) (by rw [e0]; exact Ar13.1) (State.isArrayOf_alike hZ.alike Ar13.2.1) Ar13.2.2 hin13 hat13 (g := (mkF m 16 #[vr t1, vi (45 : Int32), vi (0 : Int32), vi (6 : Int32), vi (45 : Int32), vi (2 : Int32)] [(.int (2 : Int32)), (.ref t1)])) rfl rfl (hb hby d6_16)) ?_
  show own_Fin p e below (s₁.setTop (mkF m 17 #[vr t1, vi (45 : Int32), vi (0 : Int32), vi (6 : Int32), vi (45 : Int32), vi (2 : Int32)] [(.int (58 : Int32))])) _
  refine own_gs (cur' := s₁.setTop (mkF m 16 #[vr t1, vi (45 : Int32), vi (0 : Int32), vi (6 : Int32), vi (45 : Int32), vi (3 : Int32)] [(.int (3 : Int32)), (.ref t1)])) ?_ ?_
  · refine XS.iload X0.here hx rfl (hb hby d6_17) rfl ?_
    refine XS.icmpYes X0.here hx rfl (pc0 := 19) (pc' := 25) rfl (hb hby d6_19) rfl (feq ((by decide) : ¬ ((58 : Int32) = (45 : Int32)))).2 (by decide) (by decide) ?_
    refine XS.iinc X0.here hx rfl (hb hby d6_25) rfl (l' := #[vr t1, vi (45 : Int32), vi (0 : Int32), vi (6 : Int32), vi (45 : Int32), vi (3 : Int32)]) rfl ?_
    refine XS.goto X0.here hx rfl (pc0 := 28) (pc' := 7) rfl (hb hby d6_28) (by decide) (by decide) ?_
    refine XS.iload X0.here hx rfl (hb hby d6_7) rfl ?_
    refine XS.iloadN X0.here hx rfl (hb hby d6_9) rfl ?_
    refine XS.icmpNo X0.here hx rfl (hb hby d6_10) rfl (tlt ((by decide) : (3 : Int32) < (6 : Int32))).2.1 ?_
    refine XS.aloadN X0.here hx rfl (hb hby d6_13) rfl rfl ?_
    show Steps p.tables e below (s₁.setTop (mkF m 14 #[vr t1, vi (45 : Int32), vi (0 : Int32), vi (6 : Int32), vi (45 : Int32), vi (3 : Int32)] [(.ref t1)])) _
    refine XS.iload X0.here hx rfl (hb hby d6_14) rfl ?_
    exact Steps.refl _
  obtain ⟨cl14, Ar14, q14, S14, M14, Hs14, G14⟩ := id V1
  have hin14 : ¬ ((3 : Int32) < 0 ∨ cl14.slots.size ≤ ((3 : Int32)).toNatClampNeg) := inb_of S14 ⟨by decide, by decide⟩
  have hat14 : cl14.slots[((3 : Int32)).toNatClampNeg]? = some (.int (45 : Int32)) := Has.at Hs14 hin14 rfl
  refine own_go (X0.baloadBytes hx (j := (3 : Int32)) (v := (.int (45 : Int32))) (by rw [e0]; exact Ar14.1) (State.isArrayOf_alike hZ.alike Ar14.2.1) Ar14.2.2 hin14 hat14 (g := (mkF m 16 #[vr t1, vi (45 : Int32), vi (0 : Int32), vi (6 : Int32), vi (45 : Int32), vi (3 : Int32)] [(.int (3 : Int32)), (.ref t1)])) rfl rfl (hb hby d6_16)) ?_
  show own_Fin p e below (s₁.setTop (mkF m 17 #[vr t1, vi (45 : Int32), vi (0 : Int32), vi (6 : Int32), vi (45 : Int32), vi (3 : Int32)] [(.int (45 : Int32))])) _
  refine own_gs (cur' := s₁.setTop (mkF m 24 #[vr t1, vi (45 : Int32), vi (0 : Int32), vi (6 : Int32), vi (45 : Int32), vi (3 : Int32)] [(.int (3 : Int32))])) ?_ ?_
  · refine XS.iload X0.here hx rfl (hb hby d6_17) rfl ?_
    refine XS.icmpNo X0.here hx rfl (hb hby d6_19) rfl (teq ((by decide) : (45 : Int32) = (45 : Int32))).2 ?_
    refine XS.iload X0.here hx rfl (hb hby d6_22) rfl ?_
    exact Steps.refl _
  obtain ⟨fs, hr, hrun, hended, hW1, hsame⟩ := X0.leave (v := (some (.int (3 : Int32)))) (fun h => by rw [Bd.returns] at h; cases h)
  refine ⟨_, _, retI X0 hx Bd.returns (hb hby d6_24) hr, hrun, hended, _, _, rfl, ?_, ⟨_, rfl⟩, hW1, hsame.mono (own_le rfl) (own_le rfl)⟩
  show own_lic_3_Q Z t1 k1 h0 n0 (some (.int (3 : Int32))) s₁.heap _
  rw [e0]
  exact ⟨rfl, N0, rfl⟩
def own_lix_3_Q (Z : State) (t1 : Nat) (k1 : ClassId) (h0 : Heap) (n0 : Nat) (v : Option Value) (h : Heap) (L : List Loc) : Prop := v = (some (.int (3 : Int32))) ∧ Fr n0 L ∧ h = h0
theorem ef_own_lix_3 (m : MethodId) (x0 : Nat) (x1 : Int32) (x2 : Int32) (x3 : Int32) : entryFrame m #[(.ref x0), (.int x1), (.int x2), (.int x3)] 4 = mkF m 0 #[vr x0, vi x1, vi x2, vi x3] [] := by first | (simp [entryFrame, mkF, argsToLocals, Value.category]; done) | rfl
set_option maxRecDepth 65536 in
set_option maxHeartbeats 40000000 in
theorem own_lix_3 (l : Launch) (Z : State) (a0 : Array Value) (hW : own_W Z a0) (t1 : Nat) (k1 : ClassId) (h0 : Heap) (n0 : Nat) (Z0 : n0 ≤ h0.size) (O0 : Old Z n0 h0) (V1 : Arv Z h0 t1 k1 .byte (6 : Int32) [(.int (46 : Int32)), (.int (95 : Int32)), (.int (58 : Int32)), (.int (45 : Int32)), (.int (47 : Int32)), (.int (64 : Int32))] (.int (0 : Int32))) :
    MetFree l own_n9 (head1 (Jvm.Cond.code own_n9 own_c7 4 (some .int) :: []) ({ frames := 1, cells := 0, slots := 0, locals := 20 } : Room)) (fun a U => a = #[(.ref t1), (.int (45 : Int32)), (.int (0 : Int32)), (.int (6 : Int32))] ∧ Z.Warmed39 U.vm ∧ U.heap = h0) (fun _ _ _ _ _ => True) (fun _ U o U' => ∃ v L, o = .returned v ∧ own_lix_3_Q Z t1 k1 h0 n0 v U'.heap L ∧ FrameEnd U o U' L ({ frames := 1, cells := 0, slots := 0, locals := 20 } : Room).cells ({ frames := 1, cells := 0, slots := 0, locals := 20 } : Room).slots) := by
  refine MetFree.of_bodySF (plainFor_of_name pn_java_lang_StringLatin1) hisR ?_
  intro p e s m args below meth c s₁ Bd hml0 hP hK
  obtain ⟨rfl, hZ, hh⟩ := hP
  obtain ⟨hw, ⟨G1, O2, P5⟩, ⟨G3, O4, rG3⟩⟩ := id hW
  have hx := Bd.exec
  have hby := Bd.bytes
  have hml : c.maxLocals = 4 := hml0
  have hown : s.vm.findClass "java/lang/StringLatin1" = some m.cls := findClass_of_methodNamed Bd.named
  have hnm := (name_of_methodNamed Bd.named Bd.method).1
  have X0 : Stand p l e ({ frames := 1, cells := 0, slots := 0, locals := 20 } : Room) s m #[(.ref t1), (.int (45 : Int32)), (.int (0 : Int32)), (.int (6 : Int32))] below meth c s₁ [] 0 0 := Stand.of_body Bd
  have e0 : s₁.heap = h0 := by rw [← hh, Bd.state]; rfl
  have N0 := Fr.nil n0
  have K0 := Keep.refl h0 []
  show own_Fin p e below (s₁.setTop (entryFrame m #[(.ref t1), (.int (45 : Int32)), (.int (0 : Int32)), (.int (6 : Int32))] 4)) _
  refine own_gs (castTop (ef_own_lix_3 m t1 (45 : Int32) (0 : Int32) (6 : Int32)) (Steps.refl _)) ?_
  show own_Fin p e below (s₁.setTop (mkF m 0 #[vr t1, vi (45 : Int32), vi (0 : Int32), vi (6 : Int32)] [])) _
  refine own_gs (cur' := s₁.setTop (mkF m 1 #[vr t1, vi (45 : Int32), vi (0 : Int32), vi (6 : Int32)] [(.int (45 : Int32))])) ?_ ?_
  · refine XS.iloadN X0.here hx rfl (hb hby d7_0) rfl ?_
    exact Steps.refl _
  obtain ⟨_, _, ⟨T11, L11, k11, n11⟩, -, X11, ⟨Lc11, hQ11, l11, y11, z11⟩, st11⟩ := Jvm.LawKit.callS X0 hx (y := own_n7) hown (mvT hZ (own_tw hw 134 rfl)) (mvT hZ (own_tw hw 135 rfl)) (mvT hZ (own_tw hw 27 rfl)) (mvT hZ (own_tw hw 136 rfl)) (by decide) (backOf (W := 0) (own_ce_3 l Z a0 hW h0 n0 (by omega) O0) hZ (own_tw hw 136 rfl) (own_tw hw 27 rfl) (by decide) (by decide)) (g := (mkF m 1 #[vr t1, vi (45 : Int32), vi (0 : Int32), vi (6 : Int32)] [(.int (45 : Int32))])) rfl (by rw [hml]; rfl) (argsL := [(.int (45 : Int32))]) (rest := []) (lenOf pd_2 rfl) rfl (own_le rfl) (hb hby d7_1) (fun _ _ => ⟨rfl, e0, (by decide : 0 + 0 ≤ 0), (by decide : 0 + 0 ≤ 0)⟩)
  dsimp only [Pt.U, Pt.locs, Pt.cells, Pt.slots] at X11 l11 y11 z11 st11 hQ11
  subst l11 y11 z11
  obtain ⟨rfl, Nq11, eh11⟩ := hQ11
  have N11 := Fr.app N0 Nq11
  refine own_go st11 ?_
  show own_Fin p e below (T11.setTop (mkF m 4 #[vr t1, vi (45 : Int32), vi (0 : Int32), vi (6 : Int32)] [(.int (1 : Int32))])) _
  refine own_gs (cur' := T11.setTop (mkF m 11 #[vr t1, vi (45 : Int32), vi (0 : Int32), vi (6 : Int32)] [(.int (0 : Int32)), (.int (0 : Int32))])) ?_ ?_
  · refine XS.ifYes X11.here hx rfl (pc0 := 4) (pc' := 9) rfl (hb hby d7_4) rfl ((if0 _ _).trans (feq ((by decide) : ¬ ((1 : Int32) = (0 : Int32)))).2) (by decide) (by decide) ?_
    refine XS.iloadN X11.here hx rfl (hb hby d7_9) rfl ?_
    refine XS.iconst X11.here hx rfl (hb hby d7_10) ?_
    exact Steps.refl _
  obtain ⟨_, _, ⟨T12, L12, k12, n12⟩, -, X12, ⟨Lc12, hQ12, l12, y12, z12⟩, st12⟩ := Jvm.LawKit.callS X11 hx (y := own_n4) hown (mvT hZ (own_tw hw 137 rfl)) (mvT hZ (own_tw hw 138 rfl)) (mvT hZ (own_tw hw 139 rfl)) (mvT hZ (own_tw hw 140 rfl)) (by decide) (backOf (W := 0) (own_mx l Z a0 hW h0 n0 (by omega) O0) hZ (own_tw hw 140 rfl) (own_tw hw 139 rfl) (by decide) (by decide)) (g := (mkF m 11 #[vr t1, vi (45 : Int32), vi (0 : Int32), vi (6 : Int32)] [(.int (0 : Int32)), (.int (0 : Int32))])) rfl (by rw [hml]; rfl) (argsL := [(.int (0 : Int32)), (.int (0 : Int32))]) (rest := []) (lenOf pd_3 rfl) rfl (own_le rfl) (hb hby d7_11) (fun _ _ => ⟨rfl, eh11, (by decide : 0 + 0 ≤ 0), (by decide : 0 + 0 ≤ 0)⟩)
  dsimp only [Pt.U, Pt.locs, Pt.cells, Pt.slots] at X12 l12 y12 z12 st12 hQ12
  subst l12 y12 z12
  obtain ⟨rfl, Nq12, eh12⟩ := hQ12
  have N12 := Fr.app N11 Nq12
  refine own_go st12 ?_
  show own_Fin p e below (T12.setTop (mkF m 14 #[vr t1, vi (45 : Int32), vi (0 : Int32), vi (6 : Int32)] [(.int (0 : Int32))])) _
  refine own_gs (cur' := T12.setTop (mkF m 17 #[vr t1, vi (45 : Int32), vi (0 : Int32), vi (6 : Int32)] [(.ref t1), (.int (6 : Int32))])) ?_ ?_
  · refine XS.istoreN X12.here hx rfl (hb hby d7_14) rfl (l' := #[vr t1, vi (45 : Int32), vi (0 : Int32), vi (6 : Int32)]) rfl ?_
    refine XS.iloadN X12.here hx rfl (hb hby d7_15) rfl ?_
    refine XS.aloadN X12.here hx rfl (hb hby d7_16) rfl rfl ?_
    exact Steps.refl _
  obtain ⟨cl13, Ar13, q13, S13, M13, Hs13, G13⟩ := id V1
  refine own_go (X12.arraylength hx (by rw [eh12]; exact Ar13.1) (State.isArrayOf_alike hZ.alike Ar13.2.1) (g := (mkF m 17 #[vr t1, vi (45 : Int32), vi (0 : Int32), vi (6 : Int32)] [(.ref t1), (.int (6 : Int32))])) rfl rfl (hb hby d7_17)) ?_
  rw [len_of S13 M13]
  show own_Fin p e below (T12.setTop (mkF m 18 #[vr t1, vi (45 : Int32), vi (0 : Int32), vi (6 : Int32)] [(.int (6 : Int32)), (.int (6 : Int32))])) _
  obtain ⟨_, _, ⟨T14, L14, k14, n14⟩, -, X14, ⟨Lc14, hQ14, l14, y14, z14⟩, st14⟩ := Jvm.LawKit.callS X12 hx (y := own_n5) hown (mvT hZ (own_tw hw 141 rfl)) (mvT hZ (own_tw hw 142 rfl)) (mvT hZ (own_tw hw 139 rfl)) (mvT hZ (own_tw hw 143 rfl)) (by decide) (backOf (W := 0) (own_mn l Z a0 hW h0 n0 (by omega) O0) hZ (own_tw hw 143 rfl) (own_tw hw 139 rfl) (by decide) (by decide)) (g := (mkF m 18 #[vr t1, vi (45 : Int32), vi (0 : Int32), vi (6 : Int32)] [(.int (6 : Int32)), (.int (6 : Int32))])) rfl (by rw [hml]; rfl) (argsL := [(.int (6 : Int32)), (.int (6 : Int32))]) (rest := []) (lenOf pd_3 rfl) rfl (own_le rfl) (hb hby d7_18) (fun _ _ => ⟨rfl, eh12, (by decide : 0 + 0 ≤ 0), (by decide : 0 + 0 ≤ 0)⟩)
  dsimp only [Pt.U, Pt.locs, Pt.cells, Pt.slots] at X14 l14 y14 z14 st14 hQ14
  subst l14 y14 z14
  obtain ⟨rfl, Nq14, eh14⟩ := hQ14
  have N14 := Fr.app N12 Nq14
  refine own_go st14 ?_
  show own_Fin p e below (T14.setTop (mkF m 21 #[vr t1, vi (45 : Int32), vi (0 : Int32), vi (6 : Int32)] [(.int (6 : Int32))])) _
  refine own_gs (cur' := T14.setTop (mkF m 33 #[vr t1, vi (45 : Int32), vi (0 : Int32), vi (6 : Int32)] [(.int (6 : Int32)), (.int (0 : Int32)), (.int (45 : Int32)), (.ref t1)])) ?_ ?_
  · refine XS.istoreN X14.here hx rfl (hb hby d7_21) rfl (l' := #[vr t1, vi (45 : Int32), vi (0 : Int32), vi (6 : Int32)]) rfl ?_
    refine XS.iloadN X14.here hx rfl (hb hby d7_22) rfl ?_
    refine XS.iloadN X14.here hx rfl (hb hby d7_23) rfl ?_
    refine XS.icmpYes X14.here hx rfl (pc0 := 24) (pc' := 29) rfl (hb hby d7_24) rfl (tlt ((by decide) : (0 : Int32) < (6 : Int32))).1 (by decide) (by decide) ?_
    refine XS.aloadN X14.here hx rfl (hb hby d7_29) rfl rfl ?_
    refine XS.iloadN X14.here hx rfl (hb hby d7_30) rfl ?_
    refine XS.iloadN X14.here hx rfl (hb hby d7_31) rfl ?_
    refine XS.iloadN X14.here hx rfl (hb hby d7_32) rfl ?_
    exact Steps.refl _
  obtain ⟨_, _, ⟨T15, L15, k15, n15⟩, -, X15, ⟨Lc15, hQ15, l15, y15, z15⟩, st15⟩ := Jvm.LawKit.callS X14 hx (y := own_n8) hown (mvT hZ (own_tw hw 144 rfl)) (mvT hZ (own_tw hw 145 rfl)) (mvT hZ (own_tw hw 27 rfl)) (mvT hZ (own_tw hw 146 rfl)) (by decide) (backOf (W := 0) (own_lic_3 l Z a0 hW t1 k1 h0 n0 (by omega) O0 V1) hZ (own_tw hw 146 rfl) (own_tw hw 27 rfl) (by decide) (by decide)) (g := (mkF m 33 #[vr t1, vi (45 : Int32), vi (0 : Int32), vi (6 : Int32)] [(.int (6 : Int32)), (.int (0 : Int32)), (.int (45 : Int32)), (.ref t1)])) rfl (by rw [hml]; rfl) (argsL := [(.ref t1), (.int (45 : Int32)), (.int (0 : Int32)), (.int (6 : Int32))]) (rest := []) (lenOf pd_4 rfl) rfl (own_le rfl) (hb hby d7_33) (fun _ _ => ⟨rfl, eh14, (by decide : 0 + 0 ≤ 0), (by decide : 0 + 0 ≤ 0)⟩)
  dsimp only [Pt.U, Pt.locs, Pt.cells, Pt.slots] at X15 l15 y15 z15 st15 hQ15
  subst l15 y15 z15
  obtain ⟨rfl, Nq15, eh15⟩ := hQ15
  have N15 := Fr.app N14 Nq15
  refine own_go st15 ?_
  show own_Fin p e below (T15.setTop (mkF m 36 #[vr t1, vi (45 : Int32), vi (0 : Int32), vi (6 : Int32)] [(.int (3 : Int32))])) _
  obtain ⟨fs, hr, hrun, hended, hW1, hsame⟩ := X15.leave (v := (some (.int (3 : Int32)))) (fun h => by rw [Bd.returns] at h; cases h)
  refine ⟨_, _, retI X15 hx Bd.returns (hb hby d7_36) hr, hrun, hended, _, _, rfl, ?_, ⟨_, rfl⟩, hW1, hsame.mono (own_le rfl) (own_le rfl)⟩
  show own_lix_3_Q Z t1 k1 h0 n0 (some (.int (3 : Int32))) T15.heap _
  rw [eh15]
  exact ⟨rfl, N15, rfl⟩
def own_ix2_3_Q (Z : State) (x1 t1 : Nat) (k1 : ClassId) (h0 : Heap) (n0 : Nat) (v : Option Value) (h : Heap) (L : List Loc) : Prop := v = (some (.int (3 : Int32))) ∧ Fr n0 L ∧ h = h0
theorem ef_own_ix2_3 (m : MethodId) (x0 : Nat) (x1 : Int32) (x2 : Int32) : entryFrame m #[(.ref x0), (.int x1), (.int x2)] 3 = mkF m 0 #[vr x0, vi x1, vi x2] [] := by first | (simp [entryFrame, mkF, argsToLocals, Value.category]; done) | rfl
set_option maxRecDepth 65536 in
set_option maxHeartbeats 40000000 in
theorem own_ix2_3 (l : Launch) (Z : State) (a0 : Array Value) (hW : own_W Z a0) (x1 t1 : Nat) (k1 : ClassId) (h0 : Heap) (n0 : Nat) (Z0 : n0 ≤ h0.size) (O0 : Old Z n0 h0) (E1 : Exa Z h0 x1 "java/lang/String") (Fv1 : Fld Z h0 x1 "java/lang/String" "value" "[B" (.ref t1)) (Fc1 : Fld Z h0 x1 "java/lang/String" "coder" "B" (.int (0 : Int32))) (V1 : Arv Z h0 t1 k1 .byte (6 : Int32) [(.int (46 : Int32)), (.int (95 : Int32)), (.int (58 : Int32)), (.int (45 : Int32)), (.int (47 : Int32)), (.int (64 : Int32))] (.int (0 : Int32))) :
    MetFree l own_n10 (head1 (Jvm.Cond.code own_n10 own_c8 3 (some .int) :: []) ({ frames := 2, cells := 0, slots := 0, locals := 36 } : Room)) (fun a U => a = #[(.ref x1), (.int (45 : Int32)), (.int (0 : Int32))] ∧ Z.Warmed39 U.vm ∧ U.heap = h0) (fun _ _ _ _ _ => True) (fun _ U o U' => ∃ v L, o = .returned v ∧ own_ix2_3_Q Z x1 t1 k1 h0 n0 v U'.heap L ∧ FrameEnd U o U' L ({ frames := 2, cells := 0, slots := 0, locals := 36 } : Room).cells ({ frames := 2, cells := 0, slots := 0, locals := 36 } : Room).slots) := by
  refine MetFree.of_bodySF (plainFor_of_name pn_java_lang_String) hisR ?_
  intro p e s m args below meth c s₁ Bd hml0 hP hK
  obtain ⟨rfl, hZ, hh⟩ := hP
  obtain ⟨hw, ⟨G1, O2, P5⟩, ⟨G3, O4, rG3⟩⟩ := id hW
  have hx := Bd.exec
  have hby := Bd.bytes
  have hml : c.maxLocals = 3 := hml0
  have hown : s.vm.findClass "java/lang/String" = some m.cls := findClass_of_methodNamed Bd.named
  have hnm := (name_of_methodNamed Bd.named Bd.method).1
  have X0 : Stand p l e ({ frames := 2, cells := 0, slots := 0, locals := 36 } : Room) s m #[(.ref x1), (.int (45 : Int32)), (.int (0 : Int32))] below meth c s₁ [] 0 0 := Stand.of_body Bd
  have e0 : s₁.heap = h0 := by rw [← hh, Bd.state]; rfl
  have N0 := Fr.nil n0
  have K0 := Keep.refl h0 []
  have F1 : own_Str Z h0 x1 t1 [46, 95, 58, 45, 47, 64] := ⟨_, _, _, _, E1, Fv1, Fc1, V1, Or.inl ⟨rfl, rfl, rfl, by decide⟩, by decide, by decide⟩
  show own_Fin p e below (s₁.setTop (entryFrame m #[(.ref x1), (.int (45 : Int32)), (.int (0 : Int32))] 3)) _
  refine own_gs (castTop (ef_own_ix2_3 m x1 (45 : Int32) (0 : Int32)) (Steps.refl _)) ?_
  show own_Fin p e below (s₁.setTop (mkF m 0 #[vr x1, vi (45 : Int32), vi (0 : Int32)] [])) _
  refine own_gs (cur' := s₁.setTop (mkF m 1 #[vr x1, vi (45 : Int32), vi (0 : Int32)] [(.ref x1)])) ?_ ?_
  · refine XS.aloadN X0.here hx rfl (hb hby d8_0) rfl rfl ?_
    exact Steps.refl _
  obtain ⟨cq11, kq11, q11a, q11b, q11c⟩ := isOf hZ e0 E1
  obtain ⟨_, _, ⟨T11, L11, k11, n11⟩, -, X11, ⟨Lc11, hQ11, l11, y11, z11⟩, st11⟩ := X0.virtualBack hx (y := own_n6) (z := own_n6) hown (mvT hZ (own_tw hw 17 rfl)) (mvT hZ (own_tw hw 18 rfl)) (notFace_of_selects (args := #[]) (mvT hZ (own_tw hw 20 rfl))) (mvT hZ (own_tw hw 20 rfl)) (mvT hZ (own_tw hw 19 rfl)) (by decide) (backOf (W := 0) (own_isl l Z a0 hW x1 h0 n0 (by omega) O0 Fc1) hZ (own_tw hw 21 rfl) (own_tw hw 5 rfl) (by decide) (by decide)) q11a q11c (g := (mkF m 1 #[vr x1, vi (45 : Int32), vi (0 : Int32)] [(.ref x1)])) rfl (by rw [hml]; rfl) (Steps.refl _) (argsL := []) (rest := []) (lenOf pd_5 rfl) rfl (own_le rfl) (hb hby d8_1) (fun _ _ => ⟨rfl, e0, (by decide : 0 + 0 ≤ 0), (by decide : 0 + 0 ≤ 0)⟩)
  dsimp only [Pt.U, Pt.locs, Pt.cells, Pt.slots] at X11 l11 y11 z11 st11 hQ11
  subst l11 y11 z11
  obtain ⟨rfl, Nq11, eh11⟩ := hQ11
  have N11 := Fr.app N0 Nq11
  refine own_gs st11 ?_
  show own_Fin p e below (T11.setTop (mkF m 4 #[vr x1, vi (45 : Int32), vi (0 : Int32)] [(.int (1 : Int32))])) _
  refine own_gs (cur' := T11.setTop (mkF m 8 #[vr x1, vi (45 : Int32), vi (0 : Int32)] [(.ref x1)])) ?_ ?_
  · refine XS.ifNo X11.here hx rfl (hb hby d8_4) rfl ((if0 _ _).trans (feq ((by decide) : ¬ ((1 : Int32) = (0 : Int32)))).1) ?_
    refine XS.aloadN X11.here hx rfl (hb hby d8_7) rfl rfl ?_
    exact Steps.refl _
  obtain ⟨T12, X12, e12, st12⟩ := getF X11 hx hZ hown (host := "") (Or.inl (own_tw hw 24 rfl)) Via.refl eh11 Fv1 (g := (mkF m 8 #[vr x1, vi (45 : Int32), vi (0 : Int32)] [(.ref x1)])) rfl rfl (hb hby d8_8)
  refine own_go st12 ?_
  show own_Fin p e below (T12.setTop (mkF m 11 #[vr x1, vi (45 : Int32), vi (0 : Int32)] [(.ref t1)])) _
  refine own_gs (cur' := T12.setTop (mkF m 14 #[vr x1, vi (45 : Int32), vi (0 : Int32)] [(.ref x1), (.int (0 : Int32)), (.int (45 : Int32)), (.ref t1)])) ?_ ?_
  · refine XS.iloadN X12.here hx rfl (hb hby d8_11) rfl ?_
    refine XS.iloadN X12.here hx rfl (hb hby d8_12) rfl ?_
    refine XS.aloadN X12.here hx rfl (hb hby d8_13) rfl rfl ?_
    exact Steps.refl _
  obtain ⟨cq13, kq13, q13a, q13b, q13c⟩ := isOf hZ e12 E1
  obtain ⟨_, _, ⟨T13, L13, k13, n13⟩, -, X13, ⟨Lc13, hQ13, l13, y13, z13⟩, st13⟩ := X12.virtualBack hx (y := own_n11) (z := own_n11) hown (mvT hZ (own_tw hw 130 rfl)) (mvT hZ (own_tw hw 72 rfl)) (notFace_of_selects (args := #[]) (mvT hZ (own_tw hw 74 rfl))) (mvT hZ (own_tw hw 74 rfl)) (mvT hZ (own_tw hw 73 rfl)) (by decide) (own_lenB (W := 3) hZ hw F1 (O2.ext O0.2) P5 (by decide) (by decide)) q13a q13c (g := (mkF m 14 #[vr x1, vi (45 : Int32), vi (0 : Int32)] [(.ref x1), (.int (0 : Int32)), (.int (45 : Int32)), (.ref t1)])) rfl (by rw [hml]; rfl) (Steps.refl _) (argsL := []) (rest := [(.int (0 : Int32)), (.int (45 : Int32)), (.ref t1)]) (lenOf pd_6 rfl) rfl (own_le rfl) (hb hby d8_14) (fun _ _ => ⟨rfl, e12, (by decide : 0 + 0 ≤ 0), (by decide : 0 + 0 ≤ 0)⟩)
  dsimp only [Pt.U, Pt.locs, Pt.cells, Pt.slots] at X13 l13 y13 z13 st13 hQ13
  subst l13 y13 z13
  obtain ⟨rfl, rfl, eh13⟩ := hQ13
  have N13 := Fr.app N11 (Fr.nil n0)
  refine own_gs st13 ?_
  show own_Fin p e below (T13.setTop (mkF m 17 #[vr x1, vi (45 : Int32), vi (0 : Int32)] [(.int (6 : Int32)), (.int (0 : Int32)), (.int (45 : Int32)), (.ref t1)])) _
  obtain ⟨_, _, ⟨T14, L14, k14, n14⟩, -, X14, ⟨Lc14, hQ14, l14, y14, z14⟩, st14⟩ := Jvm.LawKit.callS X13 hx (y := own_n9) hown (mvT hZ (own_tw hw 131 rfl)) (mvT hZ (own_tw hw 132 rfl)) (mvT hZ (own_tw hw 27 rfl)) (mvT hZ (own_tw hw 133 rfl)) (by decide) (backOf (W := 0) (own_lix_3 l Z a0 hW t1 k1 h0 n0 (by omega) O0 V1) hZ (own_tw hw 133 rfl) (own_tw hw 27 rfl) (by decide) (by decide)) (g := (mkF m 17 #[vr x1, vi (45 : Int32), vi (0 : Int32)] [(.int (6 : Int32)), (.int (0 : Int32)), (.int (45 : Int32)), (.ref t1)])) rfl (by rw [hml]; rfl) (argsL := [(.ref t1), (.int (45 : Int32)), (.int (0 : Int32)), (.int (6 : Int32))]) (rest := []) (lenOf pd_4 rfl) rfl (own_le rfl) (hb hby d8_17) (fun _ _ => ⟨rfl, eh13, (by decide : 0 + 0 ≤ 0), (by decide : 0 + 0 ≤ 0)⟩)
  dsimp only [Pt.U, Pt.locs, Pt.cells, Pt.slots] at X14 l14 y14 z14 st14 hQ14
  subst l14 y14 z14
  obtain ⟨rfl, Nq14, eh14⟩ := hQ14
  have N14 := Fr.app N13 Nq14
  refine own_go st14 ?_
  show own_Fin p e below (T14.setTop (mkF m 20 #[vr x1, vi (45 : Int32), vi (0 : Int32)] [(.int (3 : Int32))])) _
  refine own_gs (cur' := T14.setTop (mkF m 36 #[vr x1, vi (45 : Int32), vi (0 : Int32)] [(.int (3 : Int32))])) ?_ ?_
  · refine XS.goto X14.here hx rfl (pc0 := 20) (pc' := 36) rfl (hb hby d8_20) (by decide) (by decide) ?_
    exact Steps.refl _
  obtain ⟨fs, hr, hrun, hended, hW1, hsame⟩ := X14.leave (v := (some (.int (3 : Int32)))) (fun h => by rw [Bd.returns] at h; cases h)
  refine ⟨_, _, retI X14 hx Bd.returns (hb hby d8_36) hr, hrun, hended, _, _, rfl, ?_, ⟨_, rfl⟩, hW1, hsame.mono (own_le rfl) (own_le rfl)⟩
  show own_ix2_3_Q Z x1 t1 k1 h0 n0 (some (.int (3 : Int32))) T14.heap _
  rw [eh14]
  exact ⟨rfl, N14, rfl⟩
def own_ix1_3_Q (Z : State) (x1 t1 : Nat) (k1 : ClassId) (h0 : Heap) (n0 : Nat) (v : Option Value) (h : Heap) (L : List Loc) : Prop := v = (some (.int (3 : Int32))) ∧ Fr n0 L ∧ h = h0
theorem ef_own_ix1_3 (m : MethodId) (x0 : Nat) (x1 : Int32) : entryFrame m #[(.ref x0), (.int x1)] 2 = mkF m 0 #[vr x0, vi x1] [] := by first | (simp [entryFrame, mkF, argsToLocals, Value.category]; done) | rfl
set_option maxRecDepth 65536 in
set_option maxHeartbeats 40000000 in
theorem own_ix1_3 (l : Launch) (Z : State) (a0 : Array Value) (hW : own_W Z a0) (x1 t1 : Nat) (k1 : ClassId) (h0 : Heap) (n0 : Nat) (Z0 : n0 ≤ h0.size) (O0 : Old Z n0 h0) (E1 : Exa Z h0 x1 "java/lang/String") (Fv1 : Fld Z h0 x1 "java/lang/String" "value" "[B" (.ref t1)) (Fc1 : Fld Z h0 x1 "java/lang/String" "coder" "B" (.int (0 : Int32))) (V1 : Arv Z h0 t1 k1 .byte (6 : Int32) [(.int (46 : Int32)), (.int (95 : Int32)), (.int (58 : Int32)), (.int (45 : Int32)), (.int (47 : Int32)), (.int (64 : Int32))] (.int (0 : Int32))) :
    MetFree l own_n12 (head1 (Jvm.Cond.code own_n12 own_c9 2 (some .int) :: []) ({ frames := 3, cells := 0, slots := 0, locals := 50 } : Room)) (fun a U => a = #[(.ref x1), (.int (45 : Int32))] ∧ Z.Warmed39 U.vm ∧ U.heap = h0) (fun _ _ _ _ _ => True) (fun _ U o U' => ∃ v L, o = .returned v ∧ own_ix1_3_Q Z x1 t1 k1 h0 n0 v U'.heap L ∧ FrameEnd U o U' L ({ frames := 3, cells := 0, slots := 0, locals := 50 } : Room).cells ({ frames := 3, cells := 0, slots := 0, locals := 50 } : Room).slots) := by
  refine MetFree.of_bodySF (plainFor_of_name pn_java_lang_String) hisR ?_
  intro p e s m args below meth c s₁ Bd hml0 hP hK
  obtain ⟨rfl, hZ, hh⟩ := hP
  obtain ⟨hw, ⟨G1, O2, P5⟩, ⟨G3, O4, rG3⟩⟩ := id hW
  have hx := Bd.exec
  have hby := Bd.bytes
  have hml : c.maxLocals = 2 := hml0
  have hown : s.vm.findClass "java/lang/String" = some m.cls := findClass_of_methodNamed Bd.named
  have hnm := (name_of_methodNamed Bd.named Bd.method).1
  have X0 : Stand p l e ({ frames := 3, cells := 0, slots := 0, locals := 50 } : Room) s m #[(.ref x1), (.int (45 : Int32))] below meth c s₁ [] 0 0 := Stand.of_body Bd
  have e0 : s₁.heap = h0 := by rw [← hh, Bd.state]; rfl
  have N0 := Fr.nil n0
  have K0 := Keep.refl h0 []
  have F1 : own_Str Z h0 x1 t1 [46, 95, 58, 45, 47, 64] := ⟨_, _, _, _, E1, Fv1, Fc1, V1, Or.inl ⟨rfl, rfl, rfl, by decide⟩, by decide, by decide⟩
  show own_Fin p e below (s₁.setTop (entryFrame m #[(.ref x1), (.int (45 : Int32))] 2)) _
  refine own_gs (castTop (ef_own_ix1_3 m x1 (45 : Int32)) (Steps.refl _)) ?_
  show own_Fin p e below (s₁.setTop (mkF m 0 #[vr x1, vi (45 : Int32)] [])) _
  refine own_gs (cur' := s₁.setTop (mkF m 3 #[vr x1, vi (45 : Int32)] [(.int (0 : Int32)), (.int (45 : Int32)), (.ref x1)])) ?_ ?_
  · refine XS.aloadN X0.here hx rfl (hb hby d9_0) rfl rfl ?_
    refine XS.iloadN X0.here hx rfl (hb hby d9_1) rfl ?_
    refine XS.iconst X0.here hx rfl (hb hby d9_2) ?_
    exact Steps.refl _
  obtain ⟨cq11, kq11, q11a, q11b, q11c⟩ := isOf hZ e0 E1
  obtain ⟨_, _, ⟨T11, L11, k11, n11⟩, -, X11, ⟨Lc11, hQ11, l11, y11, z11⟩, st11⟩ := X0.virtualBack hx (y := own_n10) (z := own_n10) hown (mvT hZ (own_tw hw 125 rfl)) (mvT hZ (own_tw hw 126 rfl)) (notFace_of_selects (args := #[]) (mvT hZ (own_tw hw 128 rfl))) (mvT hZ (own_tw hw 128 rfl)) (mvT hZ (own_tw hw 127 rfl)) (by decide) (backOf (W := 0) (own_ix2_3 l Z a0 hW x1 t1 k1 h0 n0 (by omega) O0 E1 Fv1 Fc1 V1) hZ (own_tw hw 129 rfl) (own_tw hw 5 rfl) (by decide) (by decide)) q11a q11c (g := (mkF m 3 #[vr x1, vi (45 : Int32)] [(.int (0 : Int32)), (.int (45 : Int32)), (.ref x1)])) rfl (by rw [hml]; rfl) (Steps.refl _) (argsL := [(.int (45 : Int32)), (.int (0 : Int32))]) (rest := []) (lenOf pd_3 rfl) rfl (own_le rfl) (hb hby d9_3) (fun _ _ => ⟨rfl, e0, (by decide : 0 + 0 ≤ 0), (by decide : 0 + 0 ≤ 0)⟩)
  dsimp only [Pt.U, Pt.locs, Pt.cells, Pt.slots] at X11 l11 y11 z11 st11 hQ11
  subst l11 y11 z11
  obtain ⟨rfl, Nq11, eh11⟩ := hQ11
  have N11 := Fr.app N0 Nq11
  refine own_gs st11 ?_
  show own_Fin p e below (T11.setTop (mkF m 6 #[vr x1, vi (45 : Int32)] [(.int (3 : Int32))])) _
  obtain ⟨fs, hr, hrun, hended, hW1, hsame⟩ := X11.leave (v := (some (.int (3 : Int32)))) (fun h => by rw [Bd.returns] at h; cases h)
  refine ⟨_, _, retI X11 hx Bd.returns (hb hby d9_6) hr, hrun, hended, _, _, rfl, ?_, ⟨_, rfl⟩, hW1, hsame.mono (own_le rfl) (own_le rfl)⟩
  show own_ix1_3_Q Z x1 t1 k1 h0 n0 (some (.int (3 : Int32))) T11.heap _
  rw [eh11]
  exact ⟨rfl, N11, rfl⟩
def own_ce_4_Q (Z : State)  (h0 : Heap) (n0 : Nat) (v : Option Value) (h : Heap) (L : List Loc) : Prop := v = (some (.int (1 : Int32))) ∧ Fr n0 L ∧ h = h0
theorem ef_own_ce_4 (m : MethodId) (x0 : Int32) : entryFrame m #[(.int x0)] 1 = mkF m 0 #[vi x0] [] := by first | (simp [entryFrame, mkF, argsToLocals, Value.category]; done) | rfl
set_option maxRecDepth 65536 in
set_option maxHeartbeats 40000000 in
theorem own_ce_4 (l : Launch) (Z : State) (a0 : Array Value) (hW : own_W Z a0)  (h0 : Heap) (n0 : Nat) (Z0 : n0 ≤ h0.size) (O0 : Old Z n0 h0)  :
    MetFree l own_n7 (head1 (Jvm.Cond.code own_n7 own_c5 1 (some .boolean) :: []) ({ frames := 0, cells := 0, slots := 0, locals := 0 } : Room)) (fun a U => a = #[(.int (47 : Int32))] ∧ Z.Warmed39 U.vm ∧ U.heap = h0) (fun _ _ _ _ _ => True) (fun _ U o U' => ∃ v L, o = .returned v ∧ own_ce_4_Q Z  h0 n0 v U'.heap L ∧ FrameEnd U o U' L ({ frames := 0, cells := 0, slots := 0, locals := 0 } : Room).cells ({ frames := 0, cells := 0, slots := 0, locals := 0 } : Room).slots) := by
  refine MetFree.of_bodySF (plainFor_of_name pn_java_lang_StringLatin1) hisR ?_
  intro p e s m args below meth c s₁ Bd hml0 hP hK
  obtain ⟨rfl, hZ, hh⟩ := hP
  obtain ⟨hw, ⟨G1, O2, P5⟩, ⟨G3, O4, rG3⟩⟩ := id hW
  have hx := Bd.exec
  have hby := Bd.bytes
  have hml : c.maxLocals = 1 := hml0
  have hown : s.vm.findClass "java/lang/StringLatin1" = some m.cls := findClass_of_methodNamed Bd.named
  have hnm := (name_of_methodNamed Bd.named Bd.method).1
  have X0 : Stand p l e ({ frames := 0, cells := 0, slots := 0, locals := 0 } : Room) s m #[(.int (47 : Int32))] below meth c s₁ [] 0 0 := Stand.of_body Bd
  have e0 : s₁.heap = h0 := by rw [← hh, Bd.state]; rfl
  have N0 := Fr.nil n0
  have K0 := Keep.refl h0 []
  show own_Fin p e below (s₁.setTop (entryFrame m #[(.int (47 : Int32))] 1)) _
  refine own_gs (castTop (ef_own_ce_4 m (47 : Int32)) (Steps.refl _)) ?_
  show own_Fin p e below (s₁.setTop (mkF m 0 #[vi (47 : Int32)] [])) _
  refine own_gs (cur' := s₁.setTop (mkF m 16 #[vi (47 : Int32)] [(.int (1 : Int32))])) ?_ ?_
  · refine XS.iloadN X0.here hx rfl (hb hby d5_0) rfl ?_
    refine XS.ifNo X0.here hx rfl (hb hby d5_1) rfl ((if0 _ _).trans (flt ((by decide) : ¬ ((47 : Int32) < (0 : Int32)))).1) ?_
    refine XS.iloadN X0.here hx rfl (hb hby d5_4) rfl ?_
    refine XS.sipush X0.here hx rfl (hb hby d5_5) ?_
    refine XS.icmpNo X0.here hx rfl (hb hby d5_8) rfl (flt ((by decide) : ¬ ((255 : Int32) < (47 : Int32)))).2.2.1 ?_
    refine XS.iconst X0.here hx rfl (hb hby d5_11) ?_
    refine XS.goto X0.here hx rfl (pc0 := 12) (pc' := 16) rfl (hb hby d5_12) (by decide) (by decide) ?_
    exact Steps.refl _
  obtain ⟨fs, hr, hrun, hended, hW1, hsame⟩ := X0.leave (v := (some (.int (1 : Int32)))) (fun h => by rw [Bd.returns] at h; cases h)
  refine ⟨_, _, retN X0 hx (t := .boolean) Bd.returns (by simp) (hb hby d5_16) hr, hrun, hended, _, _, rfl, ?_, ⟨_, rfl⟩, hW1, hsame.mono (own_le rfl) (own_le rfl)⟩
  show own_ce_4_Q Z  h0 n0 (some (.int (1 : Int32))) s₁.heap _
  rw [e0]
  exact ⟨rfl, N0, rfl⟩
def own_lic_4_Q (Z : State) (t1 : Nat) (k1 : ClassId) (h0 : Heap) (n0 : Nat) (v : Option Value) (h : Heap) (L : List Loc) : Prop := v = (some (.int (4 : Int32))) ∧ Fr n0 L ∧ h = h0
theorem ef_own_lic_4 (m : MethodId) (x0 : Nat) (x1 : Int32) (x2 : Int32) (x3 : Int32) : entryFrame m #[(.ref x0), (.int x1), (.int x2), (.int x3)] 6 = mkF m 0 #[vr x0, vi x1, vi x2, vi x3, .unset, .unset] [] := by first | (simp [entryFrame, mkF, argsToLocals, Value.category]; done) | rfl
set_option maxRecDepth 65536 in
set_option maxHeartbeats 40000000 in
theorem own_lic_4 (l : Launch) (Z : State) (a0 : Array Value) (hW : own_W Z a0) (t1 : Nat) (k1 : ClassId) (h0 : Heap) (n0 : Nat) (Z0 : n0 ≤ h0.size) (O0 : Old Z n0 h0) (V1 : Arv Z h0 t1 k1 .byte (6 : Int32) [(.int (46 : Int32)), (.int (95 : Int32)), (.int (58 : Int32)), (.int (45 : Int32)), (.int (47 : Int32)), (.int (64 : Int32))] (.int (0 : Int32))) :
    MetFree l own_n8 (head1 (Jvm.Cond.code own_n8 own_c6 6 (some .int) :: []) ({ frames := 0, cells := 0, slots := 0, locals := 0 } : Room)) (fun a U => a = #[(.ref t1), (.int (47 : Int32)), (.int (0 : Int32)), (.int (6 : Int32))] ∧ Z.Warmed39 U.vm ∧ U.heap = h0) (fun _ _ _ _ _ => True) (fun _ U o U' => ∃ v L, o = .returned v ∧ own_lic_4_Q Z t1 k1 h0 n0 v U'.heap L ∧ FrameEnd U o U' L ({ frames := 0, cells := 0, slots := 0, locals := 0 } : Room).cells ({ frames := 0, cells := 0, slots := 0, locals := 0 } : Room).slots) := by
  refine MetFree.of_bodySF (plainFor_of_name pn_java_lang_StringLatin1) hisR ?_
  intro p e s m args below meth c s₁ Bd hml0 hP hK
  obtain ⟨rfl, hZ, hh⟩ := hP
  obtain ⟨hw, ⟨G1, O2, P5⟩, ⟨G3, O4, rG3⟩⟩ := id hW
  have hx := Bd.exec
  have hby := Bd.bytes
  have hml : c.maxLocals = 6 := hml0
  have hown : s.vm.findClass "java/lang/StringLatin1" = some m.cls := findClass_of_methodNamed Bd.named
  have hnm := (name_of_methodNamed Bd.named Bd.method).1
  have X0 : Stand p l e ({ frames := 0, cells := 0, slots := 0, locals := 0 } : Room) s m #[(.ref t1), (.int (47 : Int32)), (.int (0 : Int32)), (.int (6 : Int32))] below meth c s₁ [] 0 0 := Stand.of_body Bd
  have e0 : s₁.heap = h0 := by rw [← hh, Bd.state]; rfl
  have N0 := Fr.nil n0
  have K0 := Keep.refl h0 []
  show own_Fin p e below (s₁.setTop (entryFrame m #[(.ref t1), (.int (47 : Int32)), (.int (0 : Int32)), (.int (6 : Int32))] 6)) _
  refine own_gs (castTop (ef_own_lic_4 m t1 (47 : Int32) (0 : Int32) (6 : Int32)) (Steps.refl _)) ?_
  show own_Fin p e below (s₁.setTop (mkF m 0 #[vr t1, vi (47 : Int32), vi (0 : Int32), vi (6 : Int32), uu, uu] [])) _
  refine own_gs (cur' := s₁.setTop (mkF m 16 #[vr t1, vi (47 : Int32), vi (0 : Int32), vi (6 : Int32), vi (47 : Int32), vi (0 : Int32)] [(.int (0 : Int32)), (.ref t1)])) ?_ ?_
  · refine XS.iloadN X0.here hx rfl (hb hby d6_0) rfl ?_
    refine XS.i2b X0.here hx rfl (hb hby d6_1) rfl ?_
    refine XS.istore X0.here hx rfl (hb hby d6_2) rfl (l' := #[vr t1, vi (47 : Int32), vi (0 : Int32), vi (6 : Int32), vi (47 : Int32), uu]) rfl ?_
    refine XS.iloadN X0.here hx rfl (hb hby d6_4) rfl ?_
    refine XS.istore X0.here hx rfl (hb hby d6_5) rfl (l' := #[vr t1, vi (47 : Int32), vi (0 : Int32), vi (6 : Int32), vi (47 : Int32), vi (0 : Int32)]) rfl ?_
    refine XS.iload X0.here hx rfl (hb hby d6_7) rfl ?_
    refine XS.iloadN X0.here hx rfl (hb hby d6_9) rfl ?_
    refine XS.icmpNo X0.here hx rfl (hb hby d6_10) rfl (tlt ((by decide) : (0 : Int32) < (6 : Int32))).2.1 ?_
    show Steps p.tables e below (s₁.setTop (mkF m 13 #[vr t1, vi (47 : Int32), vi (0 : Int32), vi (6 : Int32), vi (47 : Int32), vi (0 : Int32)] [])) _
    refine XS.aloadN X0.here hx rfl (hb hby d6_13) rfl rfl ?_
    refine XS.iload X0.here hx rfl (hb hby d6_14) rfl ?_
    exact Steps.refl _
  obtain ⟨cl11, Ar11, q11, S11, M11, Hs11, G11⟩ := id V1
  have hin11 : ¬ ((0 : Int32) < 0 ∨ cl11.slots.size ≤ ((0 : Int32)).toNatClampNeg) := inb_of S11 ⟨by decide, by decide⟩
  have hat11 : cl11.slots[((0 : Int32)).toNatClampNeg]? = some (.int (46 : Int32)) := Has.at Hs11 hin11 rfl
  refine own_go (X0.baloadBytes hx (j := (0 : Int32)) (v := (.int (46 : Int32))) (by rw [e0]; exact Ar11.1) (State.isArrayOf_alike hZ.alike Ar11.2.1) Ar11.2.2 hin11 hat11 (g := (mkF m 16 #[vr t1, vi (47 : Int32), vi (0 : Int32), vi (6 : Int32), vi (47 : Int32), vi (0 : Int32)] [(.int (0 : Int32)), (.ref t1)])) rfl rfl (hb hby d6_16)) ?_
  show own_Fin p e below (s₁.setTop (mkF m 17 #[vr t1, vi (47 : Int32), vi (0 : Int32), vi (6 : Int32), vi (47 : Int32), vi (0 : Int32)] [(.int (46 : Int32))])) _
  refine own_gs (cur' := s₁.setTop (mkF m 16 #[vr t1, vi (47 : Int32), vi (0 : Int32), vi (6 : Int32), vi (47 : Int32), vi (1 : Int32)] [(.int (1 : Int32)), (.ref t1)])) ?_ ?_
  · refine XS.iload X0.here hx rfl (hb hby d6_17) rfl ?_
    refine XS.icmpYes X0.here hx rfl (pc0 := 19) (pc' := 25) rfl (hb hby d6_19) rfl (feq ((by decide) : ¬ ((46 : Int32) = (47 : Int32)))).2 (by decide) (by decide) ?_
    refine XS.iinc X0.here hx rfl (hb hby d6_25) rfl (l' := #[vr t1, vi (47 : Int32), vi (0 : Int32), vi (6 : Int32), vi (47 : Int32), vi (1 : Int32)]) rfl ?_
    refine XS.goto X0.here hx rfl (pc0 := 28) (pc' := 7) rfl (hb hby d6_28) (by decide) (by decide) ?_
    refine XS.iload X0.here hx rfl (hb hby d6_7) rfl ?_
    refine XS.iloadN X0.here hx rfl (hb hby d6_9) rfl ?_
    refine XS.icmpNo X0.here hx rfl (hb hby d6_10) rfl (tlt ((by decide) : (1 : Int32) < (6 : Int32))).2.1 ?_
    refine XS.aloadN X0.here hx rfl (hb hby d6_13) rfl rfl ?_
    show Steps p.tables e below (s₁.setTop (mkF m 14 #[vr t1, vi (47 : Int32), vi (0 : Int32), vi (6 : Int32), vi (47 : Int32), vi (1 : Int32)] [(.ref t1)])) _
    refine XS.iload X0.here hx rfl (hb hby d6_14) rfl ?_
    exact Steps.refl _
  obtain ⟨cl12, Ar12, q12, S12, M12, Hs12, G12⟩ := id V1
  have hin12 : ¬ ((1 : Int32) < 0 ∨ cl12.slots.size ≤ ((1 : Int32)).toNatClampNeg) := inb_of S12 ⟨by decide, by decide⟩
  have hat12 : cl12.slots[((1 : Int32)).toNatClampNeg]? = some (.int (95 : Int32)) := Has.at Hs12 hin12 rfl
  refine own_go (X0.baloadBytes hx (j := (1 : Int32)) (v := (.int (95 : Int32))) (by rw [e0]; exact Ar12.1) (State.isArrayOf_alike hZ.alike Ar12.2.1) Ar12.2.2 hin12 hat12 (g := (mkF m 16 #[vr t1, vi (47 : Int32), vi (0 : Int32), vi (6 : Int32), vi (47 : Int32), vi (1 : Int32)] [(.int (1 : Int32)), (.ref t1)])) rfl rfl (hb hby d6_16)) ?_
  show own_Fin p e below (s₁.setTop (mkF m 17 #[vr t1, vi (47 : Int32), vi (0 : Int32), vi (6 : Int32), vi (47 : Int32), vi (1 : Int32)] [(.int (95 : Int32))])) _
  refine own_gs (cur' := s₁.setTop (mkF m 16 #[vr t1, vi (47 : Int32), vi (0 : Int32), vi (6 : Int32), vi (47 : Int32), vi (2 : Int32)] [(.int (2 : Int32)), (.ref t1)])) ?_ ?_
  · refine XS.iload X0.here hx rfl (hb hby d6_17) rfl ?_
    refine XS.icmpYes X0.here hx rfl (pc0 := 19) (pc' := 25) rfl (hb hby d6_19) rfl (feq ((by decide) : ¬ ((95 : Int32) = (47 : Int32)))).2 (by decide) (by decide) ?_
    refine XS.iinc X0.here hx rfl (hb hby d6_25) rfl (l' := #[vr t1, vi (47 : Int32), vi (0 : Int32), vi (6 : Int32), vi (47 : Int32), vi (2 : Int32)]) rfl ?_
    refine XS.goto X0.here hx rfl (pc0 := 28) (pc' := 7) rfl (hb hby d6_28) (by decide) (by decide) ?_
    refine XS.iload X0.here hx rfl (hb hby d6_7) rfl ?_
    refine XS.iloadN X0.here hx rfl (hb hby d6_9) rfl ?_
    refine XS.icmpNo X0.here hx rfl (hb hby d6_10) rfl (tlt ((by decide) : (2 : Int32) < (6 : Int32))).2.1 ?_
    refine XS.aloadN X0.here hx rfl (hb hby d6_13) rfl rfl ?_
    show Steps p.tables e below (s₁.setTop (mkF m 14 #[vr t1, vi (47 : Int32), vi (0 : Int32), vi (6 : Int32), vi (47 : Int32), vi (2 : Int32)] [(.ref t1)])) _
    refine XS.iload X0.here hx rfl (hb hby d6_14) rfl ?_
    exact Steps.refl _
  obtain ⟨cl13, Ar13, q13, S13, M13, Hs13, G13⟩ := id V1
  have hin13 : ¬ ((2 : Int32) < 0 ∨ cl13.slots.size ≤ ((2 : Int32)).toNatClampNeg) := inb_of S13 ⟨by decide, by decide⟩
  have hat13 : cl13.slots[((2 : Int32)).toNatClampNeg]? = some (.int (58 : Int32)) := Has.at Hs13 hin13 rfl
  refine own_go (X0.baloadBytes hx (j := (2 : Int32)) (v := (.int (58 : Int32))) (by rw [e0]; exact Ar13.1) (State.isArrayOf_alike hZ.alike Ar13.2.1) Ar13.2.2 hin13 hat13 (g := (mkF m 16 #[vr t1, vi (47 : Int32), vi (0 : Int32), vi (6 : Int32), vi (47 : Int32), vi (2 : Int32)] [(.int (2 : Int32)), (.ref t1)])) rfl rfl (hb hby d6_16)) ?_
  show own_Fin p e below (s₁.setTop (mkF m 17 #[vr t1, vi (47 : Int32), vi (0 : Int32), vi (6 : Int32), vi (47 : Int32), vi (2 : Int32)] [(.int (58 : Int32))])) _
  refine own_gs (cur' := s₁.setTop (mkF m 16 #[vr t1, vi (47 : Int32), vi (0 : Int32), vi (6 : Int32), vi (47 : Int32), vi (3 : Int32)] [(.int (3 : Int32)), (.ref t1)])) ?_ ?_
  · refine XS.iload X0.here hx rfl (hb hby d6_17) rfl ?_
    refine XS.icmpYes X0.here hx rfl (pc0 := 19) (pc' := 25) rfl (hb hby d6_19) rfl (feq ((by decide) : ¬ ((58 : Int32) = (47 : Int32)))).2 (by decide) (by decide) ?_
    refine XS.iinc X0.here hx rfl (hb hby d6_25) rfl (l' := #[vr t1, vi (47 : Int32), vi (0 : Int32), vi (6 : Int32), vi (47 : Int32), vi (3 : Int32)]) rfl ?_
    refine XS.goto X0.here hx rfl (pc0 := 28) (pc' := 7) rfl (hb hby d6_28) (by decide) (by decide) ?_
    refine XS.iload X0.here hx rfl (hb hby d6_7) rfl ?_
    refine XS.iloadN X0.here hx rfl (hb hby d6_9) rfl ?_
    refine XS.icmpNo X0.here hx rfl (hb hby d6_10) rfl (tlt ((by decide) : (3 : Int32) < (6 : Int32))).2.1 ?_
    refine XS.aloadN X0.here hx rfl (hb hby d6_13) rfl rfl ?_
    show Steps p.tables e below (s₁.setTop (mkF m 14 #[vr t1, vi (47 : Int32), vi (0 : Int32), vi (6 : Int32), vi (47 : Int32), vi (3 : Int32)] [(.ref t1)])) _
    refine XS.iload X0.here hx rfl (hb hby d6_14) rfl ?_
    exact Steps.refl _
  obtain ⟨cl14, Ar14, q14, S14, M14, Hs14, G14⟩ := id V1
  have hin14 : ¬ ((3 : Int32) < 0 ∨ cl14.slots.size ≤ ((3 : Int32)).toNatClampNeg) := inb_of S14 ⟨by decide, by decide⟩
  have hat14 : cl14.slots[((3 : Int32)).toNatClampNeg]? = some (.int (45 : Int32)) := Has.at Hs14 hin14 rfl
  refine own_go (X0.baloadBytes hx (j := (3 : Int32)) (v := (.int (45 : Int32))) (by rw [e0]; exact Ar14.1) (State.isArrayOf_alike hZ.alike Ar14.2.1) Ar14.2.2 hin14 hat14 (g := (mkF m 16 #[vr t1, vi (47 : Int32), vi (0 : Int32), vi (6 : Int32), vi (47 : Int32), vi (3 : Int32)] [(.int (3 : Int32)), (.ref t1)])) rfl rfl (hb hby d6_16)) ?_
  show own_Fin p e below (s₁.setTop (mkF m 17 #[vr t1, vi (47 : Int32), vi (0 : Int32), vi (6 : Int32), vi (47 : Int32), vi (3 : Int32)] [(.int (45 : Int32))])) _
  refine own_gs (cur' := s₁.setTop (mkF m 16 #[vr t1, vi (47 : Int32), vi (0 : Int32), vi (6 : Int32), vi (47 : Int32), vi (4 : Int32)] [(.int (4 : Int32)), (.ref t1)])) ?_ ?_
  · refine XS.iload X0.here hx rfl (hb hby d6_17) rfl ?_
    refine XS.icmpYes X0.here hx rfl (pc0 := 19) (pc' := 25) rfl (hb hby d6_19) rfl (feq ((by decide) : ¬ ((45 : Int32) = (47 : Int32)))).2 (by decide) (by decide) ?_
    refine XS.iinc X0.here hx rfl (hb hby d6_25) rfl (l' := #[vr t1, vi (47 : Int32), vi (0 : Int32), vi (6 : Int32), vi (47 : Int32), vi (4 : Int32)]) rfl ?_
    refine XS.goto X0.here hx rfl (pc0 := 28) (pc' := 7) rfl (hb hby d6_28) (by decide) (by decide) ?_
    refine XS.iload X0.here hx rfl (hb hby d6_7) rfl ?_
    refine XS.iloadN X0.here hx rfl (hb hby d6_9) rfl ?_
    refine XS.icmpNo X0.here hx rfl (hb hby d6_10) rfl (tlt ((by decide) : (4 : Int32) < (6 : Int32))).2.1 ?_
    refine XS.aloadN X0.here hx rfl (hb hby d6_13) rfl rfl ?_
    show Steps p.tables e below (s₁.setTop (mkF m 14 #[vr t1, vi (47 : Int32), vi (0 : Int32), vi (6 : Int32), vi (47 : Int32), vi (4 : Int32)] [(.ref t1)])) _
    refine XS.iload X0.here hx rfl (hb hby d6_14) rfl ?_
    exact Steps.refl _
  obtain ⟨cl15, Ar15, q15, S15, M15, Hs15, G15⟩ := id V1
  have hin15 : ¬ ((4 : Int32) < 0 ∨ cl15.slots.size ≤ ((4 : Int32)).toNatClampNeg) := inb_of S15 ⟨by decide, by decide⟩
  have hat15 : cl15.slots[((4 : Int32)).toNatClampNeg]? = some (.int (47 : Int32)) := Has.at Hs15 hin15 rfl
  refine own_go (X0.baloadBytes hx (j := (4 : Int32)) (v := (.int (47 : Int32))) (by rw [e0]; exact Ar15.1) (State.isArrayOf_alike hZ.alike Ar15.2.1) Ar15.2.2 hin15 hat15 (g := (mkF m 16 #[vr t1, vi (47 : Int32), vi (0 : Int32), vi (6 : Int32), vi (47 : Int32), vi (4 : Int32)] [(.int (4 : Int32)), (.ref t1)])) rfl rfl (hb hby d6_16)) ?_
  show own_Fin p e below (s₁.setTop (mkF m 17 #[vr t1, vi (47 : Int32), vi (0 : Int32), vi (6 : Int32), vi (47 : Int32), vi (4 : Int32)] [(.int (47 : Int32))])) _
  refine own_gs (cur' := s₁.setTop (mkF m 24 #[vr t1, vi (47 : Int32), vi (0 : Int32), vi (6 : Int32), vi (47 : Int32), vi (4 : Int32)] [(.int (4 : Int32))])) ?_ ?_
  · refine XS.iload X0.here hx rfl (hb hby d6_17) rfl ?_
    refine XS.icmpNo X0.here hx rfl (hb hby d6_19) rfl (teq ((by decide) : (47 : Int32) = (47 : Int32))).2 ?_
    refine XS.iload X0.here hx rfl (hb hby d6_22) rfl ?_
    exact Steps.refl _
  obtain ⟨fs, hr, hrun, hended, hW1, hsame⟩ := X0.leave (v := (some (.int (4 : Int32)))) (fun h => by rw [Bd.returns] at h; cases h)
  refine ⟨_, _, retI X0 hx Bd.returns (hb hby d6_24) hr, hrun, hended, _, _, rfl, ?_, ⟨_, rfl⟩, hW1, hsame.mono (own_le rfl) (own_le rfl)⟩
  show own_lic_4_Q Z t1 k1 h0 n0 (some (.int (4 : Int32))) s₁.heap _
  rw [e0]
  exact ⟨rfl, N0, rfl⟩
def own_lix_4_Q (Z : State) (t1 : Nat) (k1 : ClassId) (h0 : Heap) (n0 : Nat) (v : Option Value) (h : Heap) (L : List Loc) : Prop := v = (some (.int (4 : Int32))) ∧ Fr n0 L ∧ h = h0
theorem ef_own_lix_4 (m : MethodId) (x0 : Nat) (x1 : Int32) (x2 : Int32) (x3 : Int32) : entryFrame m #[(.ref x0), (.int x1), (.int x2), (.int x3)] 4 = mkF m 0 #[vr x0, vi x1, vi x2, vi x3] [] := by first | (simp [entryFrame, mkF, argsToLocals, Value.category]; done) | rfl
set_option maxRecDepth 65536 in
set_option maxHeartbeats 40000000 in
theorem own_lix_4 (l : Launch) (Z : State) (a0 : Array Value) (hW : own_W Z a0) (t1 : Nat) (k1 : ClassId) (h0 : Heap) (n0 : Nat) (Z0 : n0 ≤ h0.size) (O0 : Old Z n0 h0) (V1 : Arv Z h0 t1 k1 .byte (6 : Int32) [(.int (46 : Int32)), (.int (95 : Int32)), (.int (58 : Int32)), (.int (45 : Int32)), (.int (47 : Int32)), (.int (64 : Int32))] (.int (0 : Int32))) :
    MetFree l own_n9 (head1 (Jvm.Cond.code own_n9 own_c7 4 (some .int) :: []) ({ frames := 1, cells := 0, slots := 0, locals := 20 } : Room)) (fun a U => a = #[(.ref t1), (.int (47 : Int32)), (.int (0 : Int32)), (.int (6 : Int32))] ∧ Z.Warmed39 U.vm ∧ U.heap = h0) (fun _ _ _ _ _ => True) (fun _ U o U' => ∃ v L, o = .returned v ∧ own_lix_4_Q Z t1 k1 h0 n0 v U'.heap L ∧ FrameEnd U o U' L ({ frames := 1, cells := 0, slots := 0, locals := 20 } : Room).cells ({ frames := 1, cells := 0, slots := 0, locals := 20 } : Room).slots) := by
  refine MetFree.of_bodySF (plainFor_of_name pn_java_lang_StringLatin1) hisR ?_
  intro p e s m args below meth c s₁ Bd hml0 hP hK
  obtain ⟨rfl, hZ, hh⟩ := hP
  obtain ⟨hw, ⟨G1, O2, P5⟩, ⟨G3, O4, rG3⟩⟩ := id hW
  have hx := Bd.exec
  have hby := Bd.bytes
  have hml : c.maxLocals = 4 := hml0
  have hown : s.vm.findClass "java/lang/StringLatin1" = some m.cls := findClass_of_methodNamed Bd.named
  have hnm := (name_of_methodNamed Bd.named Bd.method).1
  have X0 : Stand p l e ({ frames := 1, cells := 0, slots := 0, locals := 20 } : Room) s m #[(.ref t1), (.int (47 : Int32)), (.int (0 : Int32)), (.int (6 : Int32))] below meth c s₁ [] 0 0 := Stand.of_body Bd
  have e0 : s₁.heap = h0 := by rw [← hh, Bd.state]; rfl
  have N0 := Fr.nil n0
  have K0 := Keep.refl h0 []
  show own_Fin p e below (s₁.setTop (entryFrame m #[(.ref t1), (.int (47 : Int32)), (.int (0 : Int32)), (.int (6 : Int32))] 4)) _
  refine own_gs (castTop (ef_own_lix_4 m t1 (47 : Int32) (0 : Int32) (6 : Int32)) (Steps.refl _)) ?_
  show own_Fin p e below (s₁.setTop (mkF m 0 #[vr t1, vi (47 : Int32), vi (0 : Int32), vi (6 : Int32)] [])) _
  refine own_gs (cur' := s₁.setTop (mkF m 1 #[vr t1, vi (47 : Int32), vi (0 : Int32), vi (6 : Int32)] [(.int (47 : Int32))])) ?_ ?_
  · refine XS.iloadN X0.here hx rfl (hb hby d7_0) rfl ?_
    exact Steps.refl _
  obtain ⟨_, _, ⟨T11, L11, k11, n11⟩, -, X11, ⟨Lc11, hQ11, l11, y11, z11⟩, st11⟩ := Jvm.LawKit.callS X0 hx (y := own_n7) hown (mvT hZ (own_tw hw 134 rfl)) (mvT hZ (own_tw hw 135 rfl)) (mvT hZ (own_tw hw 27 rfl)) (mvT hZ (own_tw hw 136 rfl)) (by decide) (backOf (W := 0) (own_ce_4 l Z a0 hW h0 n0 (by omega) O0) hZ (own_tw hw 136 rfl) (own_tw hw 27 rfl) (by decide) (by decide)) (g := (mkF m 1 #[vr t1, vi (47 : Int32), vi (0 : Int32), vi (6 : Int32)] [(.int (47 : Int32))])) rfl (by rw [hml]; rfl) (argsL := [(.int (47 : Int32))]) (rest := []) (lenOf pd_2 rfl) rfl (own_le rfl) (hb hby d7_1) (fun _ _ => ⟨rfl, e0, (by decide : 0 + 0 ≤ 0), (by decide : 0 + 0 ≤ 0)⟩)
  dsimp only [Pt.U, Pt.locs, Pt.cells, Pt.slots] at X11 l11 y11 z11 st11 hQ11
  subst l11 y11 z11
  obtain ⟨rfl, Nq11, eh11⟩ := hQ11
  have N11 := Fr.app N0 Nq11
  refine own_go st11 ?_
  show own_Fin p e below (T11.setTop (mkF m 4 #[vr t1, vi (47 : Int32), vi (0 : Int32), vi (6 : Int32)] [(.int (1 : Int32))])) _
  refine own_gs (cur' := T11.setTop (mkF m 11 #[vr t1, vi (47 : Int32), vi (0 : Int32), vi (6 : Int32)] [(.int (0 : Int32)), (.int (0 : Int32))])) ?_ ?_
  · refine XS.ifYes X11.here hx rfl (pc0 := 4) (pc' := 9) rfl (hb hby d7_4) rfl ((if0 _ _).trans (feq ((by decide) : ¬ ((1 : Int32) = (0 : Int32)))).2) (by decide) (by decide) ?_
    refine XS.iloadN X11.here hx rfl (hb hby d7_9) rfl ?_
    refine XS.iconst X11.here hx rfl (hb hby d7_10) ?_
    exact Steps.refl _
  obtain ⟨_, _, ⟨T12, L12, k12, n12⟩, -, X12, ⟨Lc12, hQ12, l12, y12, z12⟩, st12⟩ := Jvm.LawKit.callS X11 hx (y := own_n4) hown (mvT hZ (own_tw hw 137 rfl)) (mvT hZ (own_tw hw 138 rfl)) (mvT hZ (own_tw hw 139 rfl)) (mvT hZ (own_tw hw 140 rfl)) (by decide) (backOf (W := 0) (own_mx l Z a0 hW h0 n0 (by omega) O0) hZ (own_tw hw 140 rfl) (own_tw hw 139 rfl) (by decide) (by decide)) (g := (mkF m 11 #[vr t1, vi (47 : Int32), vi (0 : Int32), vi (6 : Int32)] [(.int (0 : Int32)), (.int (0 : Int32))])) rfl (by rw [hml]; rfl) (argsL := [(.int (0 : Int32)), (.int (0 : Int32))]) (rest := []) (lenOf pd_3 rfl) rfl (own_le rfl) (hb hby d7_11) (fun _ _ => ⟨rfl, eh11, (by decide : 0 + 0 ≤ 0), (by decide : 0 + 0 ≤ 0)⟩)
  dsimp only [Pt.U, Pt.locs, Pt.cells, Pt.slots] at X12 l12 y12 z12 st12 hQ12
  subst l12 y12 z12
  obtain ⟨rfl, Nq12, eh12⟩ := hQ12
  have N12 := Fr.app N11 Nq12
  refine own_go st12 ?_
  show own_Fin p e below (T12.setTop (mkF m 14 #[vr t1, vi (47 : Int32), vi (0 : Int32), vi (6 : Int32)] [(.int (0 : Int32))])) _
  refine own_gs (cur' := T12.setTop (mkF m 17 #[vr t1, vi (47 : Int32), vi (0 : Int32), vi (6 : Int32)] [(.ref t1), (.int (6 : Int32))])) ?_ ?_
  · refine XS.istoreN X12.here hx rfl (hb hby d7_14) rfl (l' := #[vr t1, vi (47 : Int32), vi (0 : Int32), vi (6 : Int32)]) rfl ?_
    refine XS.iloadN X12.here hx rfl (hb hby d7_15) rfl ?_
    refine XS.aloadN X12.here hx rfl (hb hby d7_16) rfl rfl ?_
    exact Steps.refl _
  obtain ⟨cl13, Ar13, q13, S13, M13, Hs13, G13⟩ := id V1
  refine own_go (X12.arraylength hx (by rw [eh12]; exact Ar13.1) (State.isArrayOf_alike hZ.alike Ar13.2.1) (g := (mkF m 17 #[vr t1, vi (47 : Int32), vi (0 : Int32), vi (6 : Int32)] [(.ref t1), (.int (6 : Int32))])) rfl rfl (hb hby d7_17)) ?_
  rw [len_of S13 M13]
  show own_Fin p e below (T12.setTop (mkF m 18 #[vr t1, vi (47 : Int32), vi (0 : Int32), vi (6 : Int32)] [(.int (6 : Int32)), (.int (6 : Int32))])) _
  obtain ⟨_, _, ⟨T14, L14, k14, n14⟩, -, X14, ⟨Lc14, hQ14, l14, y14, z14⟩, st14⟩ := Jvm.LawKit.callS X12 hx (y := own_n5) hown (mvT hZ (own_tw hw 141 rfl)) (mvT hZ (own_tw hw 142 rfl)) (mvT hZ (own_tw hw 139 rfl)) (mvT hZ (own_tw hw 143 rfl)) (by decide) (backOf (W := 0) (own_mn l Z a0 hW h0 n0 (by omega) O0) hZ (own_tw hw 143 rfl) (own_tw hw 139 rfl) (by decide) (by decide)) (g := (mkF m 18 #[vr t1, vi (47 : Int32), vi (0 : Int32), vi (6 : Int32)] [(.int (6 : Int32)), (.int (6 : Int32))])) rfl (by rw [hml]; rfl) (argsL := [(.int (6 : Int32)), (.int (6 : Int32))]) (rest := []) (lenOf pd_3 rfl) rfl (own_le rfl) (hb hby d7_18) (fun _ _ => ⟨rfl, eh12, (by decide : 0 + 0 ≤ 0), (by decide : 0 + 0 ≤ 0)⟩)
  dsimp only [Pt.U, Pt.locs, Pt.cells, Pt.slots] at X14 l14 y14 z14 st14 hQ14
  subst l14 y14 z14
  obtain ⟨rfl, Nq14, eh14⟩ := hQ14
  have N14 := Fr.app N12 Nq14
  refine own_go st14 ?_
  show own_Fin p e below (T14.setTop (mkF m 21 #[vr t1, vi (47 : Int32), vi (0 : Int32), vi (6 : Int32)] [(.int (6 : Int32))])) _
  refine own_gs (cur' := T14.setTop (mkF m 33 #[vr t1, vi (47 : Int32), vi (0 : Int32), vi (6 : Int32)] [(.int (6 : Int32)), (.int (0 : Int32)), (.int (47 : Int32)), (.ref t1)])) ?_ ?_
  · refine XS.istoreN X14.here hx rfl (hb hby d7_21) rfl (l' := #[vr t1, vi (47 : Int32), vi (0 : Int32), vi (6 : Int32)]) rfl ?_
    refine XS.iloadN X14.here hx rfl (hb hby d7_22) rfl ?_
    refine XS.iloadN X14.here hx rfl (hb hby d7_23) rfl ?_
    refine XS.icmpYes X14.here hx rfl (pc0 := 24) (pc' := 29) rfl (hb hby d7_24) rfl (tlt ((by decide) : (0 : Int32) < (6 : Int32))).1 (by decide) (by decide) ?_
    refine XS.aloadN X14.here hx rfl (hb hby d7_29) rfl rfl ?_
    refine XS.iloadN X14.here hx rfl (hb hby d7_30) rfl ?_
    refine XS.iloadN X14.here hx rfl (hb hby d7_31) rfl ?_
    refine XS.iloadN X14.here hx rfl (hb hby d7_32) rfl ?_
    exact Steps.refl _
  obtain ⟨_, _, ⟨T15, L15, k15, n15⟩, -, X15, ⟨Lc15, hQ15, l15, y15, z15⟩, st15⟩ := Jvm.LawKit.callS X14 hx (y := own_n8) hown (mvT hZ (own_tw hw 144 rfl)) (mvT hZ (own_tw hw 145 rfl)) (mvT hZ (own_tw hw 27 rfl)) (mvT hZ (own_tw hw 146 rfl)) (by decide) (backOf (W := 0) (own_lic_4 l Z a0 hW t1 k1 h0 n0 (by omega) O0 V1) hZ (own_tw hw 146 rfl) (own_tw hw 27 rfl) (by decide) (by decide)) (g := (mkF m 33 #[vr t1, vi (47 : Int32), vi (0 : Int32), vi (6 : Int32)] [(.int (6 : Int32)), (.int (0 : Int32)), (.int (47 : Int32)), (.ref t1)])) rfl (by rw [hml]; rfl) (argsL := [(.ref t1), (.int (47 : Int32)), (.int (0 : Int32)), (.int (6 : Int32))]) (rest := []) (lenOf pd_4 rfl) rfl (own_le rfl) (hb hby d7_33) (fun _ _ => ⟨rfl, eh14, (by decide : 0 + 0 ≤ 0), (by decide : 0 + 0 ≤ 0)⟩)
  dsimp only [Pt.U, Pt.locs, Pt.cells, Pt.slots] at X15 l15 y15 z15 st15 hQ15
  subst l15 y15 z15
  obtain ⟨rfl, Nq15, eh15⟩ := hQ15
  have N15 := Fr.app N14 Nq15
  refine own_go st15 ?_
  show own_Fin p e below (T15.setTop (mkF m 36 #[vr t1, vi (47 : Int32), vi (0 : Int32), vi (6 : Int32)] [(.int (4 : Int32))])) _
  obtain ⟨fs, hr, hrun, hended, hW1, hsame⟩ := X15.leave (v := (some (.int (4 : Int32)))) (fun h => by rw [Bd.returns] at h; cases h)
  refine ⟨_, _, retI X15 hx Bd.returns (hb hby d7_36) hr, hrun, hended, _, _, rfl, ?_, ⟨_, rfl⟩, hW1, hsame.mono (own_le rfl) (own_le rfl)⟩
  show own_lix_4_Q Z t1 k1 h0 n0 (some (.int (4 : Int32))) T15.heap _
  rw [eh15]
  exact ⟨rfl, N15, rfl⟩
def own_ix2_4_Q (Z : State) (x1 t1 : Nat) (k1 : ClassId) (h0 : Heap) (n0 : Nat) (v : Option Value) (h : Heap) (L : List Loc) : Prop := v = (some (.int (4 : Int32))) ∧ Fr n0 L ∧ h = h0
theorem ef_own_ix2_4 (m : MethodId) (x0 : Nat) (x1 : Int32) (x2 : Int32) : entryFrame m #[(.ref x0), (.int x1), (.int x2)] 3 = mkF m 0 #[vr x0, vi x1, vi x2] [] := by first | (simp [entryFrame, mkF, argsToLocals, Value.category]; done) | rfl
set_option maxRecDepth 65536 in
set_option maxHeartbeats 40000000 in
theorem own_ix2_4 (l : Launch) (Z : State) (a0 : Array Value) (hW : own_W Z a0) (x1 t1 : Nat) (k1 : ClassId) (h0 : Heap) (n0 : Nat) (Z0 : n0 ≤ h0.size) (O0 : Old Z n0 h0) (E1 : Exa Z h0 x1 "java/lang/String") (Fv1 : Fld Z h0 x1 "java/lang/String" "value" "[B" (.ref t1)) (Fc1 : Fld Z h0 x1 "java/lang/String" "coder" "B" (.int (0 : Int32))) (V1 : Arv Z h0 t1 k1 .byte (6 : Int32) [(.int (46 : Int32)), (.int (95 : Int32)), (.int (58 : Int32)), (.int (45 : Int32)), (.int (47 : Int32)), (.int (64 : Int32))] (.int (0 : Int32))) :
    MetFree l own_n10 (head1 (Jvm.Cond.code own_n10 own_c8 3 (some .int) :: []) ({ frames := 2, cells := 0, slots := 0, locals := 36 } : Room)) (fun a U => a = #[(.ref x1), (.int (47 : Int32)), (.int (0 : Int32))] ∧ Z.Warmed39 U.vm ∧ U.heap = h0) (fun _ _ _ _ _ => True) (fun _ U o U' => ∃ v L, o = .returned v ∧ own_ix2_4_Q Z x1 t1 k1 h0 n0 v U'.heap L ∧ FrameEnd U o U' L ({ frames := 2, cells := 0, slots := 0, locals := 36 } : Room).cells ({ frames := 2, cells := 0, slots := 0, locals := 36 } : Room).slots) := by
  refine MetFree.of_bodySF (plainFor_of_name pn_java_lang_String) hisR ?_
  intro p e s m args below meth c s₁ Bd hml0 hP hK
  obtain ⟨rfl, hZ, hh⟩ := hP
  obtain ⟨hw, ⟨G1, O2, P5⟩, ⟨G3, O4, rG3⟩⟩ := id hW
  have hx := Bd.exec
  have hby := Bd.bytes
  have hml : c.maxLocals = 3 := hml0
  have hown : s.vm.findClass "java/lang/String" = some m.cls := findClass_of_methodNamed Bd.named
  have hnm := (name_of_methodNamed Bd.named Bd.method).1
  have X0 : Stand p l e ({ frames := 2, cells := 0, slots := 0, locals := 36 } : Room) s m #[(.ref x1), (.int (47 : Int32)), (.int (0 : Int32))] below meth c s₁ [] 0 0 := Stand.of_body Bd
  have e0 : s₁.heap = h0 := by rw [← hh, Bd.state]; rfl
  have N0 := Fr.nil n0
  have K0 := Keep.refl h0 []
  have F1 : own_Str Z h0 x1 t1 [46, 95, 58, 45, 47, 64] := ⟨_, _, _, _, E1, Fv1, Fc1, V1, Or.inl ⟨rfl, rfl, rfl, by decide⟩, by decide, by decide⟩
  show own_Fin p e below (s₁.setTop (entryFrame m #[(.ref x1), (.int (47 : Int32)), (.int (0 : Int32))] 3)) _
  refine own_gs (castTop (ef_own_ix2_4 m x1 (47 : Int32) (0 : Int32)) (Steps.refl _)) ?_
  show own_Fin p e below (s₁.setTop (mkF m 0 #[vr x1, vi (47 : Int32), vi (0 : Int32)] [])) _
  refine own_gs (cur' := s₁.setTop (mkF m 1 #[vr x1, vi (47 : Int32), vi (0 : Int32)] [(.ref x1)])) ?_ ?_
  · refine XS.aloadN X0.here hx rfl (hb hby d8_0) rfl rfl ?_
    exact Steps.refl _
  obtain ⟨cq11, kq11, q11a, q11b, q11c⟩ := isOf hZ e0 E1
  obtain ⟨_, _, ⟨T11, L11, k11, n11⟩, -, X11, ⟨Lc11, hQ11, l11, y11, z11⟩, st11⟩ := X0.virtualBack hx (y := own_n6) (z := own_n6) hown (mvT hZ (own_tw hw 17 rfl)) (mvT hZ (own_tw hw 18 rfl)) (notFace_of_selects (args := #[]) (mvT hZ (own_tw hw 20 rfl))) (mvT hZ (own_tw hw 20 rfl)) (mvT hZ (own_tw hw 19 rfl)) (by decide) (backOf (W := 0) (own_isl l Z a0 hW x1 h0 n0 (by omega) O0 Fc1) hZ (own_tw hw 21 rfl) (own_tw hw 5 rfl) (by decide) (by decide)) q11a q11c (g := (mkF m 1 #[vr x1, vi (47 : Int32), vi (0 : Int32)] [(.ref x1)])) rfl (by rw [hml]; rfl) (Steps.refl _) (argsL := []) (rest := []) (lenOf pd_5 rfl) rfl (own_le rfl) (hb hby d8_1) (fun _ _ => ⟨rfl, e0, (by decide : 0 + 0 ≤ 0), (by decide : 0 + 0 ≤ 0)⟩)
  dsimp only [Pt.U, Pt.locs, Pt.cells, Pt.slots] at X11 l11 y11 z11 st11 hQ11
  subst l11 y11 z11
  obtain ⟨rfl, Nq11, eh11⟩ := hQ11
  have N11 := Fr.app N0 Nq11
  refine own_gs st11 ?_
  show own_Fin p e below (T11.setTop (mkF m 4 #[vr x1, vi (47 : Int32), vi (0 : Int32)] [(.int (1 : Int32))])) _
  refine own_gs (cur' := T11.setTop (mkF m 8 #[vr x1, vi (47 : Int32), vi (0 : Int32)] [(.ref x1)])) ?_ ?_
  · refine XS.ifNo X11.here hx rfl (hb hby d8_4) rfl ((if0 _ _).trans (feq ((by decide) : ¬ ((1 : Int32) = (0 : Int32)))).1) ?_
    refine XS.aloadN X11.here hx rfl (hb hby d8_7) rfl rfl ?_
    exact Steps.refl _
  obtain ⟨T12, X12, e12, st12⟩ := getF X11 hx hZ hown (host := "") (Or.inl (own_tw hw 24 rfl)) Via.refl eh11 Fv1 (g := (mkF m 8 #[vr x1, vi (47 : Int32), vi (0 : Int32)] [(.ref x1)])) rfl rfl (hb hby d8_8)
  refine own_go st12 ?_
  show own_Fin p e below (T12.setTop (mkF m 11 #[vr x1, vi (47 : Int32), vi (0 : Int32)] [(.ref t1)])) _
  refine own_gs (cur' := T12.setTop (mkF m 14 #[vr x1, vi (47 : Int32), vi (0 : Int32)] [(.ref x1), (.int (0 : Int32)), (.int (47 : Int32)), (.ref t1)])) ?_ ?_
  · refine XS.iloadN X12.here hx rfl (hb hby d8_11) rfl ?_
    refine XS.iloadN X12.here hx rfl (hb hby d8_12) rfl ?_
    refine XS.aloadN X12.here hx rfl (hb hby d8_13) rfl rfl ?_
    exact Steps.refl _
  obtain ⟨cq13, kq13, q13a, q13b, q13c⟩ := isOf hZ e12 E1
  obtain ⟨_, _, ⟨T13, L13, k13, n13⟩, -, X13, ⟨Lc13, hQ13, l13, y13, z13⟩, st13⟩ := X12.virtualBack hx (y := own_n11) (z := own_n11) hown (mvT hZ (own_tw hw 130 rfl)) (mvT hZ (own_tw hw 72 rfl)) (notFace_of_selects (args := #[]) (mvT hZ (own_tw hw 74 rfl))) (mvT hZ (own_tw hw 74 rfl)) (mvT hZ (own_tw hw 73 rfl)) (by decide) (own_lenB (W := 3) hZ hw F1 (O2.ext O0.2) P5 (by decide) (by decide)) q13a q13c (g := (mkF m 14 #[vr x1, vi (47 : Int32), vi (0 : Int32)] [(.ref x1), (.int (0 : Int32)), (.int (47 : Int32)), (.ref t1)])) rfl (by rw [hml]; rfl) (Steps.refl _) (argsL := []) (rest := [(.int (0 : Int32)), (.int (47 : Int32)), (.ref t1)]) (lenOf pd_6 rfl) rfl (own_le rfl) (hb hby d8_14) (fun _ _ => ⟨rfl, e12, (by decide : 0 + 0 ≤ 0), (by decide : 0 + 0 ≤ 0)⟩)
  dsimp only [Pt.U, Pt.locs, Pt.cells, Pt.slots] at X13 l13 y13 z13 st13 hQ13
  subst l13 y13 z13
  obtain ⟨rfl, rfl, eh13⟩ := hQ13
  have N13 := Fr.app N11 (Fr.nil n0)
  refine own_gs st13 ?_
  show own_Fin p e below (T13.setTop (mkF m 17 #[vr x1, vi (47 : Int32), vi (0 : Int32)] [(.int (6 : Int32)), (.int (0 : Int32)), (.int (47 : Int32)), (.ref t1)])) _
  obtain ⟨_, _, ⟨T14, L14, k14, n14⟩, -, X14, ⟨Lc14, hQ14, l14, y14, z14⟩, st14⟩ := Jvm.LawKit.callS X13 hx (y := own_n9) hown (mvT hZ (own_tw hw 131 rfl)) (mvT hZ (own_tw hw 132 rfl)) (mvT hZ (own_tw hw 27 rfl)) (mvT hZ (own_tw hw 133 rfl)) (by decide) (backOf (W := 0) (own_lix_4 l Z a0 hW t1 k1 h0 n0 (by omega) O0 V1) hZ (own_tw hw 133 rfl) (own_tw hw 27 rfl) (by decide) (by decide)) (g := (mkF m 17 #[vr x1, vi (47 : Int32), vi (0 : Int32)] [(.int (6 : Int32)), (.int (0 : Int32)), (.int (47 : Int32)), (.ref t1)])) rfl (by rw [hml]; rfl) (argsL := [(.ref t1), (.int (47 : Int32)), (.int (0 : Int32)), (.int (6 : Int32))]) (rest := []) (lenOf pd_4 rfl) rfl (own_le rfl) (hb hby d8_17) (fun _ _ => ⟨rfl, eh13, (by decide : 0 + 0 ≤ 0), (by decide : 0 + 0 ≤ 0)⟩)
  dsimp only [Pt.U, Pt.locs, Pt.cells, Pt.slots] at X14 l14 y14 z14 st14 hQ14
  subst l14 y14 z14
  obtain ⟨rfl, Nq14, eh14⟩ := hQ14
  have N14 := Fr.app N13 Nq14
  refine own_go st14 ?_
  show own_Fin p e below (T14.setTop (mkF m 20 #[vr x1, vi (47 : Int32), vi (0 : Int32)] [(.int (4 : Int32))])) _
  refine own_gs (cur' := T14.setTop (mkF m 36 #[vr x1, vi (47 : Int32), vi (0 : Int32)] [(.int (4 : Int32))])) ?_ ?_
  · refine XS.goto X14.here hx rfl (pc0 := 20) (pc' := 36) rfl (hb hby d8_20) (by decide) (by decide) ?_
    exact Steps.refl _
  obtain ⟨fs, hr, hrun, hended, hW1, hsame⟩ := X14.leave (v := (some (.int (4 : Int32)))) (fun h => by rw [Bd.returns] at h; cases h)
  refine ⟨_, _, retI X14 hx Bd.returns (hb hby d8_36) hr, hrun, hended, _, _, rfl, ?_, ⟨_, rfl⟩, hW1, hsame.mono (own_le rfl) (own_le rfl)⟩
  show own_ix2_4_Q Z x1 t1 k1 h0 n0 (some (.int (4 : Int32))) T14.heap _
  rw [eh14]
  exact ⟨rfl, N14, rfl⟩
def own_ix1_4_Q (Z : State) (x1 t1 : Nat) (k1 : ClassId) (h0 : Heap) (n0 : Nat) (v : Option Value) (h : Heap) (L : List Loc) : Prop := v = (some (.int (4 : Int32))) ∧ Fr n0 L ∧ h = h0
theorem ef_own_ix1_4 (m : MethodId) (x0 : Nat) (x1 : Int32) : entryFrame m #[(.ref x0), (.int x1)] 2 = mkF m 0 #[vr x0, vi x1] [] := by first | (simp [entryFrame, mkF, argsToLocals, Value.category]; done) | rfl
set_option maxRecDepth 65536 in
set_option maxHeartbeats 40000000 in
theorem own_ix1_4 (l : Launch) (Z : State) (a0 : Array Value) (hW : own_W Z a0) (x1 t1 : Nat) (k1 : ClassId) (h0 : Heap) (n0 : Nat) (Z0 : n0 ≤ h0.size) (O0 : Old Z n0 h0) (E1 : Exa Z h0 x1 "java/lang/String") (Fv1 : Fld Z h0 x1 "java/lang/String" "value" "[B" (.ref t1)) (Fc1 : Fld Z h0 x1 "java/lang/String" "coder" "B" (.int (0 : Int32))) (V1 : Arv Z h0 t1 k1 .byte (6 : Int32) [(.int (46 : Int32)), (.int (95 : Int32)), (.int (58 : Int32)), (.int (45 : Int32)), (.int (47 : Int32)), (.int (64 : Int32))] (.int (0 : Int32))) :
    MetFree l own_n12 (head1 (Jvm.Cond.code own_n12 own_c9 2 (some .int) :: []) ({ frames := 3, cells := 0, slots := 0, locals := 50 } : Room)) (fun a U => a = #[(.ref x1), (.int (47 : Int32))] ∧ Z.Warmed39 U.vm ∧ U.heap = h0) (fun _ _ _ _ _ => True) (fun _ U o U' => ∃ v L, o = .returned v ∧ own_ix1_4_Q Z x1 t1 k1 h0 n0 v U'.heap L ∧ FrameEnd U o U' L ({ frames := 3, cells := 0, slots := 0, locals := 50 } : Room).cells ({ frames := 3, cells := 0, slots := 0, locals := 50 } : Room).slots) := by
  refine MetFree.of_bodySF (plainFor_of_name pn_java_lang_String) hisR ?_
  intro p e s m args below meth c s₁ Bd hml0 hP hK
  obtain ⟨rfl, hZ, hh⟩ := hP
  obtain ⟨hw, ⟨G1, O2, P5⟩, ⟨G3, O4, rG3⟩⟩ := id hW
  have hx := Bd.exec
  have hby := Bd.bytes
  have hml : c.maxLocals = 2 := hml0
  have hown : s.vm.findClass "java/lang/String" = some m.cls := findClass_of_methodNamed Bd.named
  have hnm := (name_of_methodNamed Bd.named Bd.method).1
  have X0 : Stand p l e ({ frames := 3, cells := 0, slots := 0, locals := 50 } : Room) s m #[(.ref x1), (.int (47 : Int32))] below meth c s₁ [] 0 0 := Stand.of_body Bd
  have e0 : s₁.heap = h0 := by rw [← hh, Bd.state]; rfl
  have N0 := Fr.nil n0
  have K0 := Keep.refl h0 []
  have F1 : own_Str Z h0 x1 t1 [46, 95, 58, 45, 47, 64] := ⟨_, _, _, _, E1, Fv1, Fc1, V1, Or.inl ⟨rfl, rfl, rfl, by decide⟩, by decide, by decide⟩
  show own_Fin p e below (s₁.setTop (entryFrame m #[(.ref x1), (.int (47 : Int32))] 2)) _
  refine own_gs (castTop (ef_own_ix1_4 m x1 (47 : Int32)) (Steps.refl _)) ?_
  show own_Fin p e below (s₁.setTop (mkF m 0 #[vr x1, vi (47 : Int32)] [])) _
  refine own_gs (cur' := s₁.setTop (mkF m 3 #[vr x1, vi (47 : Int32)] [(.int (0 : Int32)), (.int (47 : Int32)), (.ref x1)])) ?_ ?_
  · refine XS.aloadN X0.here hx rfl (hb hby d9_0) rfl rfl ?_
    refine XS.iloadN X0.here hx rfl (hb hby d9_1) rfl ?_
    refine XS.iconst X0.here hx rfl (hb hby d9_2) ?_
    exact Steps.refl _
  obtain ⟨cq11, kq11, q11a, q11b, q11c⟩ := isOf hZ e0 E1
  obtain ⟨_, _, ⟨T11, L11, k11, n11⟩, -, X11, ⟨Lc11, hQ11, l11, y11, z11⟩, st11⟩ := X0.virtualBack hx (y := own_n10) (z := own_n10) hown (mvT hZ (own_tw hw 125 rfl)) (mvT hZ (own_tw hw 126 rfl)) (notFace_of_selects (args := #[]) (mvT hZ (own_tw hw 128 rfl))) (mvT hZ (own_tw hw 128 rfl)) (mvT hZ (own_tw hw 127 rfl)) (by decide) (backOf (W := 0) (own_ix2_4 l Z a0 hW x1 t1 k1 h0 n0 (by omega) O0 E1 Fv1 Fc1 V1) hZ (own_tw hw 129 rfl) (own_tw hw 5 rfl) (by decide) (by decide)) q11a q11c (g := (mkF m 3 #[vr x1, vi (47 : Int32)] [(.int (0 : Int32)), (.int (47 : Int32)), (.ref x1)])) rfl (by rw [hml]; rfl) (Steps.refl _) (argsL := [(.int (47 : Int32)), (.int (0 : Int32))]) (rest := []) (lenOf pd_3 rfl) rfl (own_le rfl) (hb hby d9_3) (fun _ _ => ⟨rfl, e0, (by decide : 0 + 0 ≤ 0), (by decide : 0 + 0 ≤ 0)⟩)
  dsimp only [Pt.U, Pt.locs, Pt.cells, Pt.slots] at X11 l11 y11 z11 st11 hQ11
  subst l11 y11 z11
  obtain ⟨rfl, Nq11, eh11⟩ := hQ11
  have N11 := Fr.app N0 Nq11
  refine own_gs st11 ?_
  show own_Fin p e below (T11.setTop (mkF m 6 #[vr x1, vi (47 : Int32)] [(.int (4 : Int32))])) _
  obtain ⟨fs, hr, hrun, hended, hW1, hsame⟩ := X11.leave (v := (some (.int (4 : Int32)))) (fun h => by rw [Bd.returns] at h; cases h)
  refine ⟨_, _, retI X11 hx Bd.returns (hb hby d9_6) hr, hrun, hended, _, _, rfl, ?_, ⟨_, rfl⟩, hW1, hsame.mono (own_le rfl) (own_le rfl)⟩
  show own_ix1_4_Q Z x1 t1 k1 h0 n0 (some (.int (4 : Int32))) T11.heap _
  rw [eh11]
  exact ⟨rfl, N11, rfl⟩
def own_ce_5_Q (Z : State)  (h0 : Heap) (n0 : Nat) (v : Option Value) (h : Heap) (L : List Loc) : Prop := v = (some (.int (1 : Int32))) ∧ Fr n0 L ∧ h = h0
theorem ef_own_ce_5 (m : MethodId) (x0 : Int32) : entryFrame m #[(.int x0)] 1 = mkF m 0 #[vi x0] [] := by first | (simp [entryFrame, mkF, argsToLocals, Value.category]; done) | rfl
set_option maxRecDepth 65536 in
set_option maxHeartbeats 40000000 in
theorem own_ce_5 (l : Launch) (Z : State) (a0 : Array Value) (hW : own_W Z a0)  (h0 : Heap) (n0 : Nat) (Z0 : n0 ≤ h0.size) (O0 : Old Z n0 h0)  :
    MetFree l own_n7 (head1 (Jvm.Cond.code own_n7 own_c5 1 (some .boolean) :: []) ({ frames := 0, cells := 0, slots := 0, locals := 0 } : Room)) (fun a U => a = #[(.int (64 : Int32))] ∧ Z.Warmed39 U.vm ∧ U.heap = h0) (fun _ _ _ _ _ => True) (fun _ U o U' => ∃ v L, o = .returned v ∧ own_ce_5_Q Z  h0 n0 v U'.heap L ∧ FrameEnd U o U' L ({ frames := 0, cells := 0, slots := 0, locals := 0 } : Room).cells ({ frames := 0, cells := 0, slots := 0, locals := 0 } : Room).slots) := by
  refine MetFree.of_bodySF (plainFor_of_name pn_java_lang_StringLatin1) hisR ?_
  intro p e s m args below meth c s₁ Bd hml0 hP hK
  obtain ⟨rfl, hZ, hh⟩ := hP
  obtain ⟨hw, ⟨G1, O2, P5⟩, ⟨G3, O4, rG3⟩⟩ := id hW
  have hx := Bd.exec
  have hby := Bd.bytes
  have hml : c.maxLocals = 1 := hml0
  have hown : s.vm.findClass "java/lang/StringLatin1" = some m.cls := findClass_of_methodNamed Bd.named
  have hnm := (name_of_methodNamed Bd.named Bd.method).1
  have X0 : Stand p l e ({ frames := 0, cells := 0, slots := 0, locals := 0 } : Room) s m #[(.int (64 : Int32))] below meth c s₁ [] 0 0 := Stand.of_body Bd
  have e0 : s₁.heap = h0 := by rw [← hh, Bd.state]; rfl
  have N0 := Fr.nil n0
  have K0 := Keep.refl h0 []
  show own_Fin p e below (s₁.setTop (entryFrame m #[(.int (64 : Int32))] 1)) _
  refine own_gs (castTop (ef_own_ce_5 m (64 : Int32)) (Steps.refl _)) ?_
  show own_Fin p e below (s₁.setTop (mkF m 0 #[vi (64 : Int32)] [])) _
  refine own_gs (cur' := s₁.setTop (mkF m 16 #[vi (64 : Int32)] [(.int (1 : Int32))])) ?_ ?_
  · refine XS.iloadN X0.here hx rfl (hb hby d5_0) rfl ?_
    refine XS.ifNo X0.here hx rfl (hb hby d5_1) rfl ((if0 _ _).trans (flt ((by decide) : ¬ ((64 : Int32) < (0 : Int32)))).1) ?_
    refine XS.iloadN X0.here hx rfl (hb hby d5_4) rfl ?_
    refine XS.sipush X0.here hx rfl (hb hby d5_5) ?_
    refine XS.icmpNo X0.here hx rfl (hb hby d5_8) rfl (flt ((by decide) : ¬ ((255 : Int32) < (64 : Int32)))).2.2.1 ?_
    refine XS.iconst X0.here hx rfl (hb hby d5_11) ?_
    refine XS.goto X0.here hx rfl (pc0 := 12) (pc' := 16) rfl (hb hby d5_12) (by decide) (by decide) ?_
    exact Steps.refl _
  obtain ⟨fs, hr, hrun, hended, hW1, hsame⟩ := X0.leave (v := (some (.int (1 : Int32)))) (fun h => by rw [Bd.returns] at h; cases h)
  refine ⟨_, _, retN X0 hx (t := .boolean) Bd.returns (by simp) (hb hby d5_16) hr, hrun, hended, _, _, rfl, ?_, ⟨_, rfl⟩, hW1, hsame.mono (own_le rfl) (own_le rfl)⟩
  show own_ce_5_Q Z  h0 n0 (some (.int (1 : Int32))) s₁.heap _
  rw [e0]
  exact ⟨rfl, N0, rfl⟩
def own_lic_5_Q (Z : State) (t1 : Nat) (k1 : ClassId) (h0 : Heap) (n0 : Nat) (v : Option Value) (h : Heap) (L : List Loc) : Prop := v = (some (.int (5 : Int32))) ∧ Fr n0 L ∧ h = h0
theorem ef_own_lic_5 (m : MethodId) (x0 : Nat) (x1 : Int32) (x2 : Int32) (x3 : Int32) : entryFrame m #[(.ref x0), (.int x1), (.int x2), (.int x3)] 6 = mkF m 0 #[vr x0, vi x1, vi x2, vi x3, .unset, .unset] [] := by first | (simp [entryFrame, mkF, argsToLocals, Value.category]; done) | rfl
set_option maxRecDepth 65536 in
set_option maxHeartbeats 40000000 in
theorem own_lic_5 (l : Launch) (Z : State) (a0 : Array Value) (hW : own_W Z a0) (t1 : Nat) (k1 : ClassId) (h0 : Heap) (n0 : Nat) (Z0 : n0 ≤ h0.size) (O0 : Old Z n0 h0) (V1 : Arv Z h0 t1 k1 .byte (6 : Int32) [(.int (46 : Int32)), (.int (95 : Int32)), (.int (58 : Int32)), (.int (45 : Int32)), (.int (47 : Int32)), (.int (64 : Int32))] (.int (0 : Int32))) :
    MetFree l own_n8 (head1 (Jvm.Cond.code own_n8 own_c6 6 (some .int) :: []) ({ frames := 0, cells := 0, slots := 0, locals := 0 } : Room)) (fun a U => a = #[(.ref t1), (.int (64 : Int32)), (.int (0 : Int32)), (.int (6 : Int32))] ∧ Z.Warmed39 U.vm ∧ U.heap = h0) (fun _ _ _ _ _ => True) (fun _ U o U' => ∃ v L, o = .returned v ∧ own_lic_5_Q Z t1 k1 h0 n0 v U'.heap L ∧ FrameEnd U o U' L ({ frames := 0, cells := 0, slots := 0, locals := 0 } : Room).cells ({ frames := 0, cells := 0, slots := 0, locals := 0 } : Room).slots) := by
  refine MetFree.of_bodySF (plainFor_of_name pn_java_lang_StringLatin1) hisR ?_
  intro p e s m args below meth c s₁ Bd hml0 hP hK
  obtain ⟨rfl, hZ, hh⟩ := hP
  obtain ⟨hw, ⟨G1, O2, P5⟩, ⟨G3, O4, rG3⟩⟩ := id hW
  have hx := Bd.exec
  have hby := Bd.bytes
  have hml : c.maxLocals = 6 := hml0
  have hown : s.vm.findClass "java/lang/StringLatin1" = some m.cls := findClass_of_methodNamed Bd.named
  have hnm := (name_of_methodNamed Bd.named Bd.method).1
  have X0 : Stand p l e ({ frames := 0, cells := 0, slots := 0, locals := 0 } : Room) s m #[(.ref t1), (.int (64 : Int32)), (.int (0 : Int32)), (.int (6 : Int32))] below meth c s₁ [] 0 0 := Stand.of_body Bd
  have e0 : s₁.heap = h0 := by rw [← hh, Bd.state]; rfl
  have N0 := Fr.nil n0
  have K0 := Keep.refl h0 []
  show own_Fin p e below (s₁.setTop (entryFrame m #[(.ref t1), (.int (64 : Int32)), (.int (0 : Int32)), (.int (6 : Int32))] 6)) _
  refine own_gs (castTop (ef_own_lic_5 m t1 (64 : Int32) (0 : Int32) (6 : Int32)) (Steps.refl _)) ?_
  show own_Fin p e below (s₁.setTop (mkF m 0 #[vr t1, vi (64 : Int32), vi (0 : Int32), vi (6 : Int32), uu, uu] [])) _
  refine own_gs (cur' := s₁.setTop (mkF m 16 #[vr t1, vi (64 : Int32), vi (0 : Int32), vi (6 : Int32), vi (64 : Int32), vi (0 : Int32)] [(.int (0 : Int32)), (.ref t1)])) ?_ ?_
  · refine XS.iloadN X0.here hx rfl (hb hby d6_0) rfl ?_
    refine XS.i2b X0.here hx rfl (hb hby d6_1) rfl ?_
    refine XS.istore X0.here hx rfl (hb hby d6_2) rfl (l' := #[vr t1, vi (64 : Int32), vi (0 : Int32), vi (6 : Int32), vi (64 : Int32), uu]) rfl ?_
    refine XS.iloadN X0.here hx rfl (hb hby d6_4) rfl ?_
    refine XS.istore X0.here hx rfl (hb hby d6_5) rfl (l' := #[vr t1, vi (64 : Int32), vi (0 : Int32), vi (6 : Int32), vi (64 : Int32), vi (0 : Int32)]) rfl ?_
    refine XS.iload X0.here hx rfl (hb hby d6_7) rfl ?_
    refine XS.iloadN X0.here hx rfl (hb hby d6_9) rfl ?_
    refine XS.icmpNo X0.here hx rfl (hb hby d6_10) rfl (tlt ((by decide) : (0 : Int32) < (6 : Int32))).2.1 ?_
    show Steps p.tables e below (s₁.setTop (mkF m 13 #[vr t1, vi (64 : Int32), vi (0 : Int32), vi (6 : Int32), vi (64 : Int32), vi (0 : Int32)] [])) _
    refine XS.aloadN X0.here hx rfl (hb hby d6_13) rfl rfl ?_
    refine XS.iload X0.here hx rfl (hb hby d6_14) rfl ?_
    exact Steps.refl _
  obtain ⟨cl11, Ar11, q11, S11, M11, Hs11, G11⟩ := id V1
  have hin11 : ¬ ((0 : Int32) < 0 ∨ cl11.slots.size ≤ ((0 : Int32)).toNatClampNeg) := inb_of S11 ⟨by decide, by decide⟩
  have hat11 : cl11.slots[((0 : Int32)).toNatClampNeg]? = some (.int (46 : Int32)) := Has.at Hs11 hin11 rfl
  refine own_go (X0.baloadBytes hx (j := (0 : Int32)) (v := (.int (46 : Int32))) (by rw [e0]; exact Ar11.1) (State.isArrayOf_alike hZ.alike Ar11.2.1) Ar11.2.2 hin11 hat11 (g := (mkF m 16 #[vr t1, vi (64 : Int32), vi (0 : Int32), vi (6 : Int32), vi (64 : Int32), vi (0 : Int32)] [(.int (0 : Int32)), (.ref t1)])) rfl rfl (hb hby d6_16)) ?_
  show own_Fin p e below (s₁.setTop (mkF m 17 #[vr t1, vi (64 : Int32), vi (0 : Int32), vi (6 : Int32), vi (64 : Int32), vi (0 : Int32)] [(.int (46 : Int32))])) _
  refine own_gs (cur' := s₁.setTop (mkF m 16 #[vr t1, vi (64 : Int32), vi (0 : Int32), vi (6 : Int32), vi (64 : Int32), vi (1 : Int32)] [(.int (1 : Int32)), (.ref t1)])) ?_ ?_
  · refine XS.iload X0.here hx rfl (hb hby d6_17) rfl ?_
    refine XS.icmpYes X0.here hx rfl (pc0 := 19) (pc' := 25) rfl (hb hby d6_19) rfl (feq ((by decide) : ¬ ((46 : Int32) = (64 : Int32)))).2 (by decide) (by decide) ?_
    refine XS.iinc X0.here hx rfl (hb hby d6_25) rfl (l' := #[vr t1, vi (64 : Int32), vi (0 : Int32), vi (6 : Int32), vi (64 : Int32), vi (1 : Int32)]) rfl ?_
    refine XS.goto X0.here hx rfl (pc0 := 28) (pc' := 7) rfl (hb hby d6_28) (by decide) (by decide) ?_
    refine XS.iload X0.here hx rfl (hb hby d6_7) rfl ?_
    refine XS.iloadN X0.here hx rfl (hb hby d6_9) rfl ?_
    refine XS.icmpNo X0.here hx rfl (hb hby d6_10) rfl (tlt ((by decide) : (1 : Int32) < (6 : Int32))).2.1 ?_
    refine XS.aloadN X0.here hx rfl (hb hby d6_13) rfl rfl ?_
    show Steps p.tables e below (s₁.setTop (mkF m 14 #[vr t1, vi (64 : Int32), vi (0 : Int32), vi (6 : Int32), vi (64 : Int32), vi (1 : Int32)] [(.ref t1)])) _
    refine XS.iload X0.here hx rfl (hb hby d6_14) rfl ?_
    exact Steps.refl _
  obtain ⟨cl12, Ar12, q12, S12, M12, Hs12, G12⟩ := id V1
  have hin12 : ¬ ((1 : Int32) < 0 ∨ cl12.slots.size ≤ ((1 : Int32)).toNatClampNeg) := inb_of S12 ⟨by decide, by decide⟩
  have hat12 : cl12.slots[((1 : Int32)).toNatClampNeg]? = some (.int (95 : Int32)) := Has.at Hs12 hin12 rfl
  refine own_go (X0.baloadBytes hx (j := (1 : Int32)) (v := (.int (95 : Int32))) (by rw [e0]; exact Ar12.1) (State.isArrayOf_alike hZ.alike Ar12.2.1) Ar12.2.2 hin12 hat12 (g := (mkF m 16 #[vr t1, vi (64 : Int32), vi (0 : Int32), vi (6 : Int32), vi (64 : Int32), vi (1 : Int32)] [(.int (1 : Int32)), (.ref t1)])) rfl rfl (hb hby d6_16)) ?_
  show own_Fin p e below (s₁.setTop (mkF m 17 #[vr t1, vi (64 : Int32), vi (0 : Int32), vi (6 : Int32), vi (64 : Int32), vi (1 : Int32)] [(.int (95 : Int32))])) _
  refine own_gs (cur' := s₁.setTop (mkF m 16 #[vr t1, vi (64 : Int32), vi (0 : Int32), vi (6 : Int32), vi (64 : Int32), vi (2 : Int32)] [(.int (2 : Int32)), (.ref t1)])) ?_ ?_
  · refine XS.iload X0.here hx rfl (hb hby d6_17) rfl ?_
    refine XS.icmpYes X0.here hx rfl (pc0 := 19) (pc' := 25) rfl (hb hby d6_19) rfl (feq ((by decide) : ¬ ((95 : Int32) = (64 : Int32)))).2 (by decide) (by decide) ?_
    refine XS.iinc X0.here hx rfl (hb hby d6_25) rfl (l' := #[vr t1, vi (64 : Int32), vi (0 : Int32), vi (6 : Int32), vi (64 : Int32), vi (2 : Int32)]) rfl ?_
    refine XS.goto X0.here hx rfl (pc0 := 28) (pc' := 7) rfl (hb hby d6_28) (by decide) (by decide) ?_
    refine XS.iload X0.here hx rfl (hb hby d6_7) rfl ?_
    refine XS.iloadN X0.here hx rfl (hb hby d6_9) rfl ?_
    refine XS.icmpNo X0.here hx rfl (hb hby d6_10) rfl (tlt ((by decide) : (2 : Int32) < (6 : Int32))).2.1 ?_
    refine XS.aloadN X0.here hx rfl (hb hby d6_13) rfl rfl ?_
    show Steps p.tables e below (s₁.setTop (mkF m 14 #[vr t1, vi (64 : Int32), vi (0 : Int32), vi (6 : Int32), vi (64 : Int32), vi (2 : Int32)] [(.ref t1)])) _
    refine XS.iload X0.here hx rfl (hb hby d6_14) rfl ?_
    exact Steps.refl _
  obtain ⟨cl13, Ar13, q13, S13, M13, Hs13, G13⟩ := id V1
  have hin13 : ¬ ((2 : Int32) < 0 ∨ cl13.slots.size ≤ ((2 : Int32)).toNatClampNeg) := inb_of S13 ⟨by decide, by decide⟩
  have hat13 : cl13.slots[((2 : Int32)).toNatClampNeg]? = some (.int (58 : Int32)) := Has.at Hs13 hin13 rfl
  refine own_go (X0.baloadBytes hx (j := (2 : Int32)) (v := (.int (58 : Int32))) (by rw [e0]; exact Ar13.1) (State.isArrayOf_alike hZ.alike Ar13.2.1) Ar13.2.2 hin13 hat13 (g := (mkF m 16 #[vr t1, vi (64 : Int32), vi (0 : Int32), vi (6 : Int32), vi (64 : Int32), vi (2 : Int32)] [(.int (2 : Int32)), (.ref t1)])) rfl rfl (hb hby d6_16)) ?_
  show own_Fin p e below (s₁.setTop (mkF m 17 #[vr t1, vi (64 : Int32), vi (0 : Int32), vi (6 : Int32), vi (64 : Int32), vi (2 : Int32)] [(.int (58 : Int32))])) _
  refine own_gs (cur' := s₁.setTop (mkF m 16 #[vr t1, vi (64 : Int32), vi (0 : Int32), vi (6 : Int32), vi (64 : Int32), vi (3 : Int32)] [(.int (3 : Int32)), (.ref t1)])) ?_ ?_
  · refine XS.iload X0.here hx rfl (hb hby d6_17) rfl ?_
    refine XS.icmpYes X0.here hx rfl (pc0 := 19) (pc' := 25) rfl (hb hby d6_19) rfl (feq ((by decide) : ¬ ((58 : Int32) = (64 : Int32)))).2 (by decide) (by decide) ?_
    refine XS.iinc X0.here hx rfl (hb hby d6_25) rfl (l' := #[vr t1, vi (64 : Int32), vi (0 : Int32), vi (6 : Int32), vi (64 : Int32), vi (3 : Int32)]) rfl ?_
    refine XS.goto X0.here hx rfl (pc0 := 28) (pc' := 7) rfl (hb hby d6_28) (by decide) (by decide) ?_
    refine XS.iload X0.here hx rfl (hb hby d6_7) rfl ?_
    refine XS.iloadN X0.here hx rfl (hb hby d6_9) rfl ?_
    refine XS.icmpNo X0.here hx rfl (hb hby d6_10) rfl (tlt ((by decide) : (3 : Int32) < (6 : Int32))).2.1 ?_
    refine XS.aloadN X0.here hx rfl (hb hby d6_13) rfl rfl ?_
    show Steps p.tables e below (s₁.setTop (mkF m 14 #[vr t1, vi (64 : Int32), vi (0 : Int32), vi (6 : Int32), vi (64 : Int32), vi (3 : Int32)] [(.ref t1)])) _
    refine XS.iload X0.here hx rfl (hb hby d6_14) rfl ?_
    exact Steps.refl _
  obtain ⟨cl14, Ar14, q14, S14, M14, Hs14, G14⟩ := id V1
  have hin14 : ¬ ((3 : Int32) < 0 ∨ cl14.slots.size ≤ ((3 : Int32)).toNatClampNeg) := inb_of S14 ⟨by decide, by decide⟩
  have hat14 : cl14.slots[((3 : Int32)).toNatClampNeg]? = some (.int (45 : Int32)) := Has.at Hs14 hin14 rfl
  refine own_go (X0.baloadBytes hx (j := (3 : Int32)) (v := (.int (45 : Int32))) (by rw [e0]; exact Ar14.1) (State.isArrayOf_alike hZ.alike Ar14.2.1) Ar14.2.2 hin14 hat14 (g := (mkF m 16 #[vr t1, vi (64 : Int32), vi (0 : Int32), vi (6 : Int32), vi (64 : Int32), vi (3 : Int32)] [(.int (3 : Int32)), (.ref t1)])) rfl rfl (hb hby d6_16)) ?_
  show own_Fin p e below (s₁.setTop (mkF m 17 #[vr t1, vi (64 : Int32), vi (0 : Int32), vi (6 : Int32), vi (64 : Int32), vi (3 : Int32)] [(.int (45 : Int32))])) _
  refine own_gs (cur' := s₁.setTop (mkF m 16 #[vr t1, vi (64 : Int32), vi (0 : Int32), vi (6 : Int32), vi (64 : Int32), vi (4 : Int32)] [(.int (4 : Int32)), (.ref t1)])) ?_ ?_
  · refine XS.iload X0.here hx rfl (hb hby d6_17) rfl ?_
    refine XS.icmpYes X0.here hx rfl (pc0 := 19) (pc' := 25) rfl (hb hby d6_19) rfl (feq ((by decide) : ¬ ((45 : Int32) = (64 : Int32)))).2 (by decide) (by decide) ?_
    refine XS.iinc X0.here hx rfl (hb hby d6_25) rfl (l' := #[vr t1, vi (64 : Int32), vi (0 : Int32), vi (6 : Int32), vi (64 : Int32), vi (4 : Int32)]) rfl ?_
    refine XS.goto X0.here hx rfl (pc0 := 28) (pc' := 7) rfl (hb hby d6_28) (by decide) (by decide) ?_
    refine XS.iload X0.here hx rfl (hb hby d6_7) rfl ?_
    refine XS.iloadN X0.here hx rfl (hb hby d6_9) rfl ?_
    refine XS.icmpNo X0.here hx rfl (hb hby d6_10) rfl (tlt ((by decide) : (4 : Int32) < (6 : Int32))).2.1 ?_
    refine XS.aloadN X0.here hx rfl (hb hby d6_13) rfl rfl ?_
    show Steps p.tables e below (s₁.setTop (mkF m 14 #[vr t1, vi (64 : Int32), vi (0 : Int32), vi (6 : Int32), vi (64 : Int32), vi (4 : Int32)] [(.ref t1)])) _
    refine XS.iload X0.here hx rfl (hb hby d6_14) rfl ?_
    exact Steps.refl _
  obtain ⟨cl15, Ar15, q15, S15, M15, Hs15, G15⟩ := id V1
  have hin15 : ¬ ((4 : Int32) < 0 ∨ cl15.slots.size ≤ ((4 : Int32)).toNatClampNeg) := inb_of S15 ⟨by decide, by decide⟩
  have hat15 : cl15.slots[((4 : Int32)).toNatClampNeg]? = some (.int (47 : Int32)) := Has.at Hs15 hin15 rfl
  refine own_go (X0.baloadBytes hx (j := (4 : Int32)) (v := (.int (47 : Int32))) (by rw [e0]; exact Ar15.1) (State.isArrayOf_alike hZ.alike Ar15.2.1) Ar15.2.2 hin15 hat15 (g := (mkF m 16 #[vr t1, vi (64 : Int32), vi (0 : Int32), vi (6 : Int32), vi (64 : Int32), vi (4 : Int32)] [(.int (4 : Int32)), (.ref t1)])) rfl rfl (hb hby d6_16)) ?_
  show own_Fin p e below (s₁.setTop (mkF m 17 #[vr t1, vi (64 : Int32), vi (0 : Int32), vi (6 : Int32), vi (64 : Int32), vi (4 : Int32)] [(.int (47 : Int32))])) _
  refine own_gs (cur' := s₁.setTop (mkF m 16 #[vr t1, vi (64 : Int32), vi (0 : Int32), vi (6 : Int32), vi (64 : Int32), vi (5 : Int32)] [(.int (5 : Int32)), (.ref t1)])) ?_ ?_
  · refine XS.iload X0.here hx rfl (hb hby d6_17) rfl ?_
    refine XS.icmpYes X0.here hx rfl (pc0 := 19) (pc' := 25) rfl (hb hby d6_19) rfl (feq ((by decide) : ¬ ((47 : Int32) = (64 : Int32)))).2 (by decide) (by decide) ?_
    refine XS.iinc X0.here hx rfl (hb hby d6_25) rfl (l' := #[vr t1, vi (64 : Int32), vi (0 : Int32), vi (6 : Int32), vi (64 : Int32), vi (5 : Int32)]) rfl ?_
    refine XS.goto X0.here hx rfl (pc0 := 28) (pc' := 7) rfl (hb hby d6_28) (by decide) (by decide) ?_
    refine XS.iload X0.here hx rfl (hb hby d6_7) rfl ?_
    refine XS.iloadN X0.here hx rfl (hb hby d6_9) rfl ?_
    refine XS.icmpNo X0.here hx rfl (hb hby d6_10) rfl (tlt ((by decide) : (5 : Int32) < (6 : Int32))).2.1 ?_
    refine XS.aloadN X0.here hx rfl (hb hby d6_13) rfl rfl ?_
    show Steps p.tables e below (s₁.setTop (mkF m 14 #[vr t1, vi (64 : Int32), vi (0 : Int32), vi (6 : Int32), vi (64 : Int32), vi (5 : Int32)] [(.ref t1)])) _
    refine XS.iload X0.here hx rfl (hb hby d6_14) rfl ?_
    exact Steps.refl _
  obtain ⟨cl16, Ar16, q16, S16, M16, Hs16, G16⟩ := id V1
  have hin16 : ¬ ((5 : Int32) < 0 ∨ cl16.slots.size ≤ ((5 : Int32)).toNatClampNeg) := inb_of S16 ⟨by decide, by decide⟩
  have hat16 : cl16.slots[((5 : Int32)).toNatClampNeg]? = some (.int (64 : Int32)) := Has.at Hs16 hin16 rfl
  refine own_go (X0.baloadBytes hx (j := (5 : Int32)) (v := (.int (64 : Int32))) (by rw [e0]; exact Ar16.1) (State.isArrayOf_alike hZ.alike Ar16.2.1) Ar16.2.2 hin16 hat16 (g := (mkF m 16 #[vr t1, vi (64 : Int32), vi (0 : Int32), vi (6 : Int32), vi (64 : Int32), vi (5 : Int32)] [(.int (5 : Int32)), (.ref t1)])) rfl rfl (hb hby d6_16)) ?_
  show own_Fin p e below (s₁.setTop (mkF m 17 #[vr t1, vi (64 : Int32), vi (0 : Int32), vi (6 : Int32), vi (64 : Int32), vi (5 : Int32)] [(.int (64 : Int32))])) _
  refine own_gs (cur' := s₁.setTop (mkF m 24 #[vr t1, vi (64 : Int32), vi (0 : Int32), vi (6 : Int32), vi (64 : Int32), vi (5 : Int32)] [(.int (5 : Int32))])) ?_ ?_
  · refine XS.iload X0.here hx rfl (hb hby d6_17) rfl ?_
    refine XS.icmpNo X0.here hx rfl (hb hby d6_19) rfl (teq ((by decide) : (64 : Int32) = (64 : Int32))).2 ?_
    refine XS.iload X0.here hx rfl (hb hby d6_22) rfl ?_
    exact Steps.refl _
  obtain ⟨fs, hr, hrun, hended, hW1, hsame⟩ := X0.leave (v := (some (.int (5 : Int32)))) (fun h => by rw [Bd.returns] at h; cases h)
  refine ⟨_, _, retI X0 hx Bd.returns (hb hby d6_24) hr, hrun, hended, _, _, rfl, ?_, ⟨_, rfl⟩, hW1, hsame.mono (own_le rfl) (own_le rfl)⟩
  show own_lic_5_Q Z t1 k1 h0 n0 (some (.int (5 : Int32))) s₁.heap _
  rw [e0]
  exact ⟨rfl, N0, rfl⟩
def own_lix_5_Q (Z : State) (t1 : Nat) (k1 : ClassId) (h0 : Heap) (n0 : Nat) (v : Option Value) (h : Heap) (L : List Loc) : Prop := v = (some (.int (5 : Int32))) ∧ Fr n0 L ∧ h = h0
theorem ef_own_lix_5 (m : MethodId) (x0 : Nat) (x1 : Int32) (x2 : Int32) (x3 : Int32) : entryFrame m #[(.ref x0), (.int x1), (.int x2), (.int x3)] 4 = mkF m 0 #[vr x0, vi x1, vi x2, vi x3] [] := by first | (simp [entryFrame, mkF, argsToLocals, Value.category]; done) | rfl
set_option maxRecDepth 65536 in
set_option maxHeartbeats 40000000 in
theorem own_lix_5 (l : Launch) (Z : State) (a0 : Array Value) (hW : own_W Z a0) (t1 : Nat) (k1 : ClassId) (h0 : Heap) (n0 : Nat) (Z0 : n0 ≤ h0.size) (O0 : Old Z n0 h0) (V1 : Arv Z h0 t1 k1 .byte (6 : Int32) [(.int (46 : Int32)), (.int (95 : Int32)), (.int (58 : Int32)), (.int (45 : Int32)), (.int (47 : Int32)), (.int (64 : Int32))] (.int (0 : Int32))) :
    MetFree l own_n9 (head1 (Jvm.Cond.code own_n9 own_c7 4 (some .int) :: []) ({ frames := 1, cells := 0, slots := 0, locals := 20 } : Room)) (fun a U => a = #[(.ref t1), (.int (64 : Int32)), (.int (0 : Int32)), (.int (6 : Int32))] ∧ Z.Warmed39 U.vm ∧ U.heap = h0) (fun _ _ _ _ _ => True) (fun _ U o U' => ∃ v L, o = .returned v ∧ own_lix_5_Q Z t1 k1 h0 n0 v U'.heap L ∧ FrameEnd U o U' L ({ frames := 1, cells := 0, slots := 0, locals := 20 } : Room).cells ({ frames := 1, cells := 0, slots := 0, locals := 20 } : Room).slots) := by
  refine MetFree.of_bodySF (plainFor_of_name pn_java_lang_StringLatin1) hisR ?_
  intro p e s m args below meth c s₁ Bd hml0 hP hK
  obtain ⟨rfl, hZ, hh⟩ := hP
  obtain ⟨hw, ⟨G1, O2, P5⟩, ⟨G3, O4, rG3⟩⟩ := id hW
  have hx := Bd.exec
  have hby := Bd.bytes
  have hml : c.maxLocals = 4 := hml0
  have hown : s.vm.findClass "java/lang/StringLatin1" = some m.cls := findClass_of_methodNamed Bd.named
  have hnm := (name_of_methodNamed Bd.named Bd.method).1
  have X0 : Stand p l e ({ frames := 1, cells := 0, slots := 0, locals := 20 } : Room) s m #[(.ref t1), (.int (64 : Int32)), (.int (0 : Int32)), (.int (6 : Int32))] below meth c s₁ [] 0 0 := Stand.of_body Bd
  have e0 : s₁.heap = h0 := by rw [← hh, Bd.state]; rfl
  have N0 := Fr.nil n0
  have K0 := Keep.refl h0 []
  show own_Fin p e below (s₁.setTop (entryFrame m #[(.ref t1), (.int (64 : Int32)), (.int (0 : Int32)), (.int (6 : Int32))] 4)) _
  refine own_gs (castTop (ef_own_lix_5 m t1 (64 : Int32) (0 : Int32) (6 : Int32)) (Steps.refl _)) ?_
  show own_Fin p e below (s₁.setTop (mkF m 0 #[vr t1, vi (64 : Int32), vi (0 : Int32), vi (6 : Int32)] [])) _
  refine own_gs (cur' := s₁.setTop (mkF m 1 #[vr t1, vi (64 : Int32), vi (0 : Int32), vi (6 : Int32)] [(.int (64 : Int32))])) ?_ ?_
  · refine XS.iloadN X0.here hx rfl (hb hby d7_0) rfl ?_
    exact Steps.refl _
  obtain ⟨_, _, ⟨T11, L11, k11, n11⟩, -, X11, ⟨Lc11, hQ11, l11, y11, z11⟩, st11⟩ := Jvm.LawKit.callS X0 hx (y := own_n7) hown (mvT hZ (own_tw hw 134 rfl)) (mvT hZ (own_tw hw 135 rfl)) (mvT hZ (own_tw hw 27 rfl)) (mvT hZ (own_tw hw 136 rfl)) (by decide) (backOf (W := 0) (own_ce_5 l Z a0 hW h0 n0 (by omega) O0) hZ (own_tw hw 136 rfl) (own_tw hw 27 rfl) (by decide) (by decide)) (g := (mkF m 1 #[vr t1, vi (64 : Int32), vi (0 : Int32), vi (6 : Int32)] [(.int (64 : Int32))])) rfl (by rw [hml]; rfl) (argsL := [(.int (64 : Int32))]) (rest := []) (lenOf pd_2 rfl) rfl (own_le rfl) (hb hby d7_1) (fun _ _ => ⟨rfl, e0, (by decide : 0 + 0 ≤ 0), (by decide : 0 + 0 ≤ 0)⟩)
  dsimp only [Pt.U, Pt.locs, Pt.cells, Pt.slots] at X11 l11 y11 z11 st11 hQ11
  subst l11 y11 z11
  obtain ⟨rfl, Nq11, eh11⟩ := hQ11
  have N11 := Fr.app N0 Nq11
  refine own_go st11 ?_
  show own_Fin p e below (T11.setTop (mkF m 4 #[vr t1, vi (64 : Int32), vi (0 : Int32), vi (6 : Int32)] [(.int (1 : Int32))])) _
  refine own_gs (cur' := T11.setTop (mkF m 11 #[vr t1, vi (64 : Int32), vi (0 : Int32), vi (6 : Int32)] [(.int (0 : Int32)), (.int (0 : Int32))])) ?_ ?_
  · refine XS.ifYes X11.here hx rfl (pc0 := 4) (pc' := 9) rfl (hb hby d7_4) rfl ((if0 _ _).trans (feq ((by decide) : ¬ ((1 : Int32) = (0 : Int32)))).2) (by decide) (by decide) ?_
    refine XS.iloadN X11.here hx rfl (hb hby d7_9) rfl ?_
    refine XS.iconst X11.here hx rfl (hb hby d7_10) ?_
    exact Steps.refl _
  obtain ⟨_, _, ⟨T12, L12, k12, n12⟩, -, X12, ⟨Lc12, hQ12, l12, y12, z12⟩, st12⟩ := Jvm.LawKit.callS X11 hx (y := own_n4) hown (mvT hZ (own_tw hw 137 rfl)) (mvT hZ (own_tw hw 138 rfl)) (mvT hZ (own_tw hw 139 rfl)) (mvT hZ (own_tw hw 140 rfl)) (by decide) (backOf (W := 0) (own_mx l Z a0 hW h0 n0 (by omega) O0) hZ (own_tw hw 140 rfl) (own_tw hw 139 rfl) (by decide) (by decide)) (g := (mkF m 11 #[vr t1, vi (64 : Int32), vi (0 : Int32), vi (6 : Int32)] [(.int (0 : Int32)), (.int (0 : Int32))])) rfl (by rw [hml]; rfl) (argsL := [(.int (0 : Int32)), (.int (0 : Int32))]) (rest := []) (lenOf pd_3 rfl) rfl (own_le rfl) (hb hby d7_11) (fun _ _ => ⟨rfl, eh11, (by decide : 0 + 0 ≤ 0), (by decide : 0 + 0 ≤ 0)⟩)
  dsimp only [Pt.U, Pt.locs, Pt.cells, Pt.slots] at X12 l12 y12 z12 st12 hQ12
  subst l12 y12 z12
  obtain ⟨rfl, Nq12, eh12⟩ := hQ12
  have N12 := Fr.app N11 Nq12
  refine own_go st12 ?_
  show own_Fin p e below (T12.setTop (mkF m 14 #[vr t1, vi (64 : Int32), vi (0 : Int32), vi (6 : Int32)] [(.int (0 : Int32))])) _
  refine own_gs (cur' := T12.setTop (mkF m 17 #[vr t1, vi (64 : Int32), vi (0 : Int32), vi (6 : Int32)] [(.ref t1), (.int (6 : Int32))])) ?_ ?_
  · refine XS.istoreN X12.here hx rfl (hb hby d7_14) rfl (l' := #[vr t1, vi (64 : Int32), vi (0 : Int32), vi (6 : Int32)]) rfl ?_
    refine XS.iloadN X12.here hx rfl (hb hby d7_15) rfl ?_
    refine XS.aloadN X12.here hx rfl (hb hby d7_16) rfl rfl ?_
    exact Steps.refl _
  obtain ⟨cl13, Ar13, q13, S13, M13, Hs13, G13⟩ := id V1
  refine own_go (X12.arraylength hx (by rw [eh12]; exact Ar13.1) (State.isArrayOf_alike hZ.alike Ar13.2.1) (g := (mkF m 17 #[vr t1, vi (64 : Int32), vi (0 : Int32), vi (6 : Int32)] [(.ref t1), (.int (6 : Int32))])) rfl rfl (hb hby d7_17)) ?_
  rw [len_of S13 M13]
  show own_Fin p e below (T12.setTop (mkF m 18 #[vr t1, vi (64 : Int32), vi (0 : Int32), vi (6 : Int32)] [(.int (6 : Int32)), (.int (6 : Int32))])) _
  obtain ⟨_, _, ⟨T14, L14, k14, n14⟩, -, X14, ⟨Lc14, hQ14, l14, y14, z14⟩, st14⟩ := Jvm.LawKit.callS X12 hx (y := own_n5) hown (mvT hZ (own_tw hw 141 rfl)) (mvT hZ (own_tw hw 142 rfl)) (mvT hZ (own_tw hw 139 rfl)) (mvT hZ (own_tw hw 143 rfl)) (by decide) (backOf (W := 0) (own_mn l Z a0 hW h0 n0 (by omega) O0) hZ (own_tw hw 143 rfl) (own_tw hw 139 rfl) (by decide) (by decide)) (g := (mkF m 18 #[vr t1, vi (64 : Int32), vi (0 : Int32), vi (6 : Int32)] [(.int (6 : Int32)), (.int (6 : Int32))])) rfl (by rw [hml]; rfl) (argsL := [(.int (6 : Int32)), (.int (6 : Int32))]) (rest := []) (lenOf pd_3 rfl) rfl (own_le rfl) (hb hby d7_18) (fun _ _ => ⟨rfl, eh12, (by decide : 0 + 0 ≤ 0), (by decide : 0 + 0 ≤ 0)⟩)
  dsimp only [Pt.U, Pt.locs, Pt.cells, Pt.slots] at X14 l14 y14 z14 st14 hQ14
  subst l14 y14 z14
  obtain ⟨rfl, Nq14, eh14⟩ := hQ14
  have N14 := Fr.app N12 Nq14
  refine own_go st14 ?_
  show own_Fin p e below (T14.setTop (mkF m 21 #[vr t1, vi (64 : Int32), vi (0 : Int32), vi (6 : Int32)] [(.int (6 : Int32))])) _
  refine own_gs (cur' := T14.setTop (mkF m 33 #[vr t1, vi (64 : Int32), vi (0 : Int32), vi (6 : Int32)] [(.int (6 : Int32)), (.int (0 : Int32)), (.int (64 : Int32)), (.ref t1)])) ?_ ?_
  · refine XS.istoreN X14.here hx rfl (hb hby d7_21) rfl (l' := #[vr t1, vi (64 : Int32), vi (0 : Int32), vi (6 : Int32)]) rfl ?_
    refine XS.iloadN X14.here hx rfl (hb hby d7_22) rfl ?_
    refine XS.iloadN X14.here hx rfl (hb hby d7_23) rfl ?_
    refine XS.icmpYes X14.here hx rfl (pc0 := 24) (pc' := 29) rfl (hb hby d7_24) rfl (tlt ((by decide) : (0 : Int32) < (6 : Int32))).1 (by decide) (by decide) ?_
    refine XS.aloadN X14.here hx rfl (hb hby d7_29) rfl rfl ?_
    refine XS.iloadN X14.here hx rfl (hb hby d7_30) rfl ?_
    refine XS.iloadN X14.here hx rfl (hb hby d7_31) rfl ?_
    refine XS.iloadN X14.here hx rfl (hb hby d7_32) rfl ?_
    exact Steps.refl _
  obtain ⟨_, _, ⟨T15, L15, k15, n15⟩, -, X15, ⟨Lc15, hQ15, l15, y15, z15⟩, st15⟩ := Jvm.LawKit.callS X14 hx (y := own_n8) hown (mvT hZ (own_tw hw 144 rfl)) (mvT hZ (own_tw hw 145 rfl)) (mvT hZ (own_tw hw 27 rfl)) (mvT hZ (own_tw hw 146 rfl)) (by decide) (backOf (W := 0) (own_lic_5 l Z a0 hW t1 k1 h0 n0 (by omega) O0 V1) hZ (own_tw hw 146 rfl) (own_tw hw 27 rfl) (by decide) (by decide)) (g := (mkF m 33 #[vr t1, vi (64 : Int32), vi (0 : Int32), vi (6 : Int32)] [(.int (6 : Int32)), (.int (0 : Int32)), (.int (64 : Int32)), (.ref t1)])) rfl (by rw [hml]; rfl) (argsL := [(.ref t1), (.int (64 : Int32)), (.int (0 : Int32)), (.int (6 : Int32))]) (rest := []) (lenOf pd_4 rfl) rfl (own_le rfl) (hb hby d7_33) (fun _ _ => ⟨rfl, eh14, (by decide : 0 + 0 ≤ 0), (by decide : 0 + 0 ≤ 0)⟩)
  dsimp only [Pt.U, Pt.locs, Pt.cells, Pt.slots] at X15 l15 y15 z15 st15 hQ15
  subst l15 y15 z15
  obtain ⟨rfl, Nq15, eh15⟩ := hQ15
  have N15 := Fr.app N14 Nq15
  refine own_go st15 ?_
  show own_Fin p e below (T15.setTop (mkF m 36 #[vr t1, vi (64 : Int32), vi (0 : Int32), vi (6 : Int32)] [(.int (5 : Int32))])) _
  obtain ⟨fs, hr, hrun, hended, hW1, hsame⟩ := X15.leave (v := (some (.int (5 : Int32)))) (fun h => by rw [Bd.returns] at h; cases h)
  refine ⟨_, _, retI X15 hx Bd.returns (hb hby d7_36) hr, hrun, hended, _, _, rfl, ?_, ⟨_, rfl⟩, hW1, hsame.mono (own_le rfl) (own_le rfl)⟩
  show own_lix_5_Q Z t1 k1 h0 n0 (some (.int (5 : Int32))) T15.heap _
  rw [eh15]
  exact ⟨rfl, N15, rfl⟩
def own_ix2_5_Q (Z : State) (x1 t1 : Nat) (k1 : ClassId) (h0 : Heap) (n0 : Nat) (v : Option Value) (h : Heap) (L : List Loc) : Prop := v = (some (.int (5 : Int32))) ∧ Fr n0 L ∧ h = h0
theorem ef_own_ix2_5 (m : MethodId) (x0 : Nat) (x1 : Int32) (x2 : Int32) : entryFrame m #[(.ref x0), (.int x1), (.int x2)] 3 = mkF m 0 #[vr x0, vi x1, vi x2] [] := by first | (simp [entryFrame, mkF, argsToLocals, Value.category]; done) | rfl
set_option maxRecDepth 65536 in
set_option maxHeartbeats 40000000 in
theorem own_ix2_5 (l : Launch) (Z : State) (a0 : Array Value) (hW : own_W Z a0) (x1 t1 : Nat) (k1 : ClassId) (h0 : Heap) (n0 : Nat) (Z0 : n0 ≤ h0.size) (O0 : Old Z n0 h0) (E1 : Exa Z h0 x1 "java/lang/String") (Fv1 : Fld Z h0 x1 "java/lang/String" "value" "[B" (.ref t1)) (Fc1 : Fld Z h0 x1 "java/lang/String" "coder" "B" (.int (0 : Int32))) (V1 : Arv Z h0 t1 k1 .byte (6 : Int32) [(.int (46 : Int32)), (.int (95 : Int32)), (.int (58 : Int32)), (.int (45 : Int32)), (.int (47 : Int32)), (.int (64 : Int32))] (.int (0 : Int32))) :
    MetFree l own_n10 (head1 (Jvm.Cond.code own_n10 own_c8 3 (some .int) :: []) ({ frames := 2, cells := 0, slots := 0, locals := 36 } : Room)) (fun a U => a = #[(.ref x1), (.int (64 : Int32)), (.int (0 : Int32))] ∧ Z.Warmed39 U.vm ∧ U.heap = h0) (fun _ _ _ _ _ => True) (fun _ U o U' => ∃ v L, o = .returned v ∧ own_ix2_5_Q Z x1 t1 k1 h0 n0 v U'.heap L ∧ FrameEnd U o U' L ({ frames := 2, cells := 0, slots := 0, locals := 36 } : Room).cells ({ frames := 2, cells := 0, slots := 0, locals := 36 } : Room).slots) := by
  refine MetFree.of_bodySF (plainFor_of_name pn_java_lang_String) hisR ?_
  intro p e s m args below meth c s₁ Bd hml0 hP hK
  obtain ⟨rfl, hZ, hh⟩ := hP
  obtain ⟨hw, ⟨G1, O2, P5⟩, ⟨G3, O4, rG3⟩⟩ := id hW
  have hx := Bd.exec
  have hby := Bd.bytes
  have hml : c.maxLocals = 3 := hml0
  have hown : s.vm.findClass "java/lang/String" = some m.cls := findClass_of_methodNamed Bd.named
  have hnm := (name_of_methodNamed Bd.named Bd.method).1
  have X0 : Stand p l e ({ frames := 2, cells := 0, slots := 0, locals := 36 } : Room) s m #[(.ref x1), (.int (64 : Int32)), (.int (0 : Int32))] below meth c s₁ [] 0 0 := Stand.of_body Bd
  have e0 : s₁.heap = h0 := by rw [← hh, Bd.state]; rfl
  have N0 := Fr.nil n0
  have K0 := Keep.refl h0 []
  have F1 : own_Str Z h0 x1 t1 [46, 95, 58, 45, 47, 64] := ⟨_, _, _, _, E1, Fv1, Fc1, V1, Or.inl ⟨rfl, rfl, rfl, by decide⟩, by decide, by decide⟩
  show own_Fin p e below (s₁.setTop (entryFrame m #[(.ref x1), (.int (64 : Int32)), (.int (0 : Int32))] 3)) _
  refine own_gs (castTop (ef_own_ix2_5 m x1 (64 : Int32) (0 : Int32)) (Steps.refl _)) ?_
  show own_Fin p e below (s₁.setTop (mkF m 0 #[vr x1, vi (64 : Int32), vi (0 : Int32)] [])) _
  refine own_gs (cur' := s₁.setTop (mkF m 1 #[vr x1, vi (64 : Int32), vi (0 : Int32)] [(.ref x1)])) ?_ ?_
  · refine XS.aloadN X0.here hx rfl (hb hby d8_0) rfl rfl ?_
    exact Steps.refl _
  obtain ⟨cq11, kq11, q11a, q11b, q11c⟩ := isOf hZ e0 E1
  obtain ⟨_, _, ⟨T11, L11, k11, n11⟩, -, X11, ⟨Lc11, hQ11, l11, y11, z11⟩, st11⟩ := X0.virtualBack hx (y := own_n6) (z := own_n6) hown (mvT hZ (own_tw hw 17 rfl)) (mvT hZ (own_tw hw 18 rfl)) (notFace_of_selects (args := #[]) (mvT hZ (own_tw hw 20 rfl))) (mvT hZ (own_tw hw 20 rfl)) (mvT hZ (own_tw hw 19 rfl)) (by decide) (backOf (W := 0) (own_isl l Z a0 hW x1 h0 n0 (by omega) O0 Fc1) hZ (own_tw hw 21 rfl) (own_tw hw 5 rfl) (by decide) (by decide)) q11a q11c (g := (mkF m 1 #[vr x1, vi (64 : Int32), vi (0 : Int32)] [(.ref x1)])) rfl (by rw [hml]; rfl) (Steps.refl _) (argsL := []) (rest := []) (lenOf pd_5 rfl) rfl (own_le rfl) (hb hby d8_1) (fun _ _ => ⟨rfl, e0, (by decide : 0 + 0 ≤ 0), (by decide : 0 + 0 ≤ 0)⟩)
  dsimp only [Pt.U, Pt.locs, Pt.cells, Pt.slots] at X11 l11 y11 z11 st11 hQ11
  subst l11 y11 z11
  obtain ⟨rfl, Nq11, eh11⟩ := hQ11
  have N11 := Fr.app N0 Nq11
  refine own_gs st11 ?_
  show own_Fin p e below (T11.setTop (mkF m 4 #[vr x1, vi (64 : Int32), vi (0 : Int32)] [(.int (1 : Int32))])) _
  refine own_gs (cur' := T11.setTop (mkF m 8 #[vr x1, vi (64 : Int32), vi (0 : Int32)] [(.ref x1)])) ?_ ?_
  · refine XS.ifNo X11.here hx rfl (hb hby d8_4) rfl ((if0 _ _).trans (feq ((by decide) : ¬ ((1 : Int32) = (0 : Int32)))).1) ?_
    refine XS.aloadN X11.here hx rfl (hb hby d8_7) rfl rfl ?_
    exact Steps.refl _
  obtain ⟨T12, X12, e12, st12⟩ := getF X11 hx hZ hown (host := "") (Or.inl (own_tw hw 24 rfl)) Via.refl eh11 Fv1 (g := (mkF m 8 #[vr x1, vi (64 : Int32), vi (0 : Int32)] [(.ref x1)])) rfl rfl (hb hby d8_8)
  refine own_go st12 ?_
  show own_Fin p e below (T12.setTop (mkF m 11 #[vr x1, vi (64 : Int32), vi (0 : Int32)] [(.ref t1)])) _
  refine own_gs (cur' := T12.setTop (mkF m 14 #[vr x1, vi (64 : Int32), vi (0 : Int32)] [(.ref x1), (.int (0 : Int32)), (.int (64 : Int32)), (.ref t1)])) ?_ ?_
  · refine XS.iloadN X12.here hx rfl (hb hby d8_11) rfl ?_
    refine XS.iloadN X12.here hx rfl (hb hby d8_12) rfl ?_
    refine XS.aloadN X12.here hx rfl (hb hby d8_13) rfl rfl ?_
    exact Steps.refl _
  obtain ⟨cq13, kq13, q13a, q13b, q13c⟩ := isOf hZ e12 E1
  obtain ⟨_, _, ⟨T13, L13, k13, n13⟩, -, X13, ⟨Lc13, hQ13, l13, y13, z13⟩, st13⟩ := X12.virtualBack hx (y := own_n11) (z := own_n11) hown (mvT hZ (own_tw hw 130 rfl)) (mvT hZ (own_tw hw 72 rfl)) (notFace_of_selects (args := #[]) (mvT hZ (own_tw hw 74 rfl))) (mvT hZ (own_tw hw 74 rfl)) (mvT hZ (own_tw hw 73 rfl)) (by decide) (own_lenB (W := 3) hZ hw F1 (O2.ext O0.2) P5 (by decide) (by decide)) q13a q13c (g := (mkF m 14 #[vr x1, vi (64 : Int32), vi (0 : Int32)] [(.ref x1), (.int (0 : Int32)), (.int (64 : Int32)), (.ref t1)])) rfl (by rw [hml]; rfl) (Steps.refl _) (argsL := []) (rest := [(.int (0 : Int32)), (.int (64 : Int32)), (.ref t1)]) (lenOf pd_6 rfl) rfl (own_le rfl) (hb hby d8_14) (fun _ _ => ⟨rfl, e12, (by decide : 0 + 0 ≤ 0), (by decide : 0 + 0 ≤ 0)⟩)
  dsimp only [Pt.U, Pt.locs, Pt.cells, Pt.slots] at X13 l13 y13 z13 st13 hQ13
  subst l13 y13 z13
  obtain ⟨rfl, rfl, eh13⟩ := hQ13
  have N13 := Fr.app N11 (Fr.nil n0)
  refine own_gs st13 ?_
  show own_Fin p e below (T13.setTop (mkF m 17 #[vr x1, vi (64 : Int32), vi (0 : Int32)] [(.int (6 : Int32)), (.int (0 : Int32)), (.int (64 : Int32)), (.ref t1)])) _
  obtain ⟨_, _, ⟨T14, L14, k14, n14⟩, -, X14, ⟨Lc14, hQ14, l14, y14, z14⟩, st14⟩ := Jvm.LawKit.callS X13 hx (y := own_n9) hown (mvT hZ (own_tw hw 131 rfl)) (mvT hZ (own_tw hw 132 rfl)) (mvT hZ (own_tw hw 27 rfl)) (mvT hZ (own_tw hw 133 rfl)) (by decide) (backOf (W := 0) (own_lix_5 l Z a0 hW t1 k1 h0 n0 (by omega) O0 V1) hZ (own_tw hw 133 rfl) (own_tw hw 27 rfl) (by decide) (by decide)) (g := (mkF m 17 #[vr x1, vi (64 : Int32), vi (0 : Int32)] [(.int (6 : Int32)), (.int (0 : Int32)), (.int (64 : Int32)), (.ref t1)])) rfl (by rw [hml]; rfl) (argsL := [(.ref t1), (.int (64 : Int32)), (.int (0 : Int32)), (.int (6 : Int32))]) (rest := []) (lenOf pd_4 rfl) rfl (own_le rfl) (hb hby d8_17) (fun _ _ => ⟨rfl, eh13, (by decide : 0 + 0 ≤ 0), (by decide : 0 + 0 ≤ 0)⟩)
  dsimp only [Pt.U, Pt.locs, Pt.cells, Pt.slots] at X14 l14 y14 z14 st14 hQ14
  subst l14 y14 z14
  obtain ⟨rfl, Nq14, eh14⟩ := hQ14
  have N14 := Fr.app N13 Nq14
  refine own_go st14 ?_
  show own_Fin p e below (T14.setTop (mkF m 20 #[vr x1, vi (64 : Int32), vi (0 : Int32)] [(.int (5 : Int32))])) _
  refine own_gs (cur' := T14.setTop (mkF m 36 #[vr x1, vi (64 : Int32), vi (0 : Int32)] [(.int (5 : Int32))])) ?_ ?_
  · refine XS.goto X14.here hx rfl (pc0 := 20) (pc' := 36) rfl (hb hby d8_20) (by decide) (by decide) ?_
    exact Steps.refl _
  obtain ⟨fs, hr, hrun, hended, hW1, hsame⟩ := X14.leave (v := (some (.int (5 : Int32)))) (fun h => by rw [Bd.returns] at h; cases h)
  refine ⟨_, _, retI X14 hx Bd.returns (hb hby d8_36) hr, hrun, hended, _, _, rfl, ?_, ⟨_, rfl⟩, hW1, hsame.mono (own_le rfl) (own_le rfl)⟩
  show own_ix2_5_Q Z x1 t1 k1 h0 n0 (some (.int (5 : Int32))) T14.heap _
  rw [eh14]
  exact ⟨rfl, N14, rfl⟩
def own_ix1_5_Q (Z : State) (x1 t1 : Nat) (k1 : ClassId) (h0 : Heap) (n0 : Nat) (v : Option Value) (h : Heap) (L : List Loc) : Prop := v = (some (.int (5 : Int32))) ∧ Fr n0 L ∧ h = h0
theorem ef_own_ix1_5 (m : MethodId) (x0 : Nat) (x1 : Int32) : entryFrame m #[(.ref x0), (.int x1)] 2 = mkF m 0 #[vr x0, vi x1] [] := by first | (simp [entryFrame, mkF, argsToLocals, Value.category]; done) | rfl
set_option maxRecDepth 65536 in
set_option maxHeartbeats 40000000 in
theorem own_ix1_5 (l : Launch) (Z : State) (a0 : Array Value) (hW : own_W Z a0) (x1 t1 : Nat) (k1 : ClassId) (h0 : Heap) (n0 : Nat) (Z0 : n0 ≤ h0.size) (O0 : Old Z n0 h0) (E1 : Exa Z h0 x1 "java/lang/String") (Fv1 : Fld Z h0 x1 "java/lang/String" "value" "[B" (.ref t1)) (Fc1 : Fld Z h0 x1 "java/lang/String" "coder" "B" (.int (0 : Int32))) (V1 : Arv Z h0 t1 k1 .byte (6 : Int32) [(.int (46 : Int32)), (.int (95 : Int32)), (.int (58 : Int32)), (.int (45 : Int32)), (.int (47 : Int32)), (.int (64 : Int32))] (.int (0 : Int32))) :
    MetFree l own_n12 (head1 (Jvm.Cond.code own_n12 own_c9 2 (some .int) :: []) ({ frames := 3, cells := 0, slots := 0, locals := 50 } : Room)) (fun a U => a = #[(.ref x1), (.int (64 : Int32))] ∧ Z.Warmed39 U.vm ∧ U.heap = h0) (fun _ _ _ _ _ => True) (fun _ U o U' => ∃ v L, o = .returned v ∧ own_ix1_5_Q Z x1 t1 k1 h0 n0 v U'.heap L ∧ FrameEnd U o U' L ({ frames := 3, cells := 0, slots := 0, locals := 50 } : Room).cells ({ frames := 3, cells := 0, slots := 0, locals := 50 } : Room).slots) := by
  refine MetFree.of_bodySF (plainFor_of_name pn_java_lang_String) hisR ?_
  intro p e s m args below meth c s₁ Bd hml0 hP hK
  obtain ⟨rfl, hZ, hh⟩ := hP
  obtain ⟨hw, ⟨G1, O2, P5⟩, ⟨G3, O4, rG3⟩⟩ := id hW
  have hx := Bd.exec
  have hby := Bd.bytes
  have hml : c.maxLocals = 2 := hml0
  have hown : s.vm.findClass "java/lang/String" = some m.cls := findClass_of_methodNamed Bd.named
  have hnm := (name_of_methodNamed Bd.named Bd.method).1
  have X0 : Stand p l e ({ frames := 3, cells := 0, slots := 0, locals := 50 } : Room) s m #[(.ref x1), (.int (64 : Int32))] below meth c s₁ [] 0 0 := Stand.of_body Bd
  have e0 : s₁.heap = h0 := by rw [← hh, Bd.state]; rfl
  have N0 := Fr.nil n0
  have K0 := Keep.refl h0 []
  have F1 : own_Str Z h0 x1 t1 [46, 95, 58, 45, 47, 64] := ⟨_, _, _, _, E1, Fv1, Fc1, V1, Or.inl ⟨rfl, rfl, rfl, by decide⟩, by decide, by decide⟩
  show own_Fin p e below (s₁.setTop (entryFrame m #[(.ref x1), (.int (64 : Int32))] 2)) _
  refine own_gs (castTop (ef_own_ix1_5 m x1 (64 : Int32)) (Steps.refl _)) ?_
  show own_Fin p e below (s₁.setTop (mkF m 0 #[vr x1, vi (64 : Int32)] [])) _
  refine own_gs (cur' := s₁.setTop (mkF m 3 #[vr x1, vi (64 : Int32)] [(.int (0 : Int32)), (.int (64 : Int32)), (.ref x1)])) ?_ ?_
  · refine XS.aloadN X0.here hx rfl (hb hby d9_0) rfl rfl ?_
    refine XS.iloadN X0.here hx rfl (hb hby d9_1) rfl ?_
    refine XS.iconst X0.here hx rfl (hb hby d9_2) ?_
    exact Steps.refl _
  obtain ⟨cq11, kq11, q11a, q11b, q11c⟩ := isOf hZ e0 E1
  obtain ⟨_, _, ⟨T11, L11, k11, n11⟩, -, X11, ⟨Lc11, hQ11, l11, y11, z11⟩, st11⟩ := X0.virtualBack hx (y := own_n10) (z := own_n10) hown (mvT hZ (own_tw hw 125 rfl)) (mvT hZ (own_tw hw 126 rfl)) (notFace_of_selects (args := #[]) (mvT hZ (own_tw hw 128 rfl))) (mvT hZ (own_tw hw 128 rfl)) (mvT hZ (own_tw hw 127 rfl)) (by decide) (backOf (W := 0) (own_ix2_5 l Z a0 hW x1 t1 k1 h0 n0 (by omega) O0 E1 Fv1 Fc1 V1) hZ (own_tw hw 129 rfl) (own_tw hw 5 rfl) (by decide) (by decide)) q11a q11c (g := (mkF m 3 #[vr x1, vi (64 : Int32)] [(.int (0 : Int32)), (.int (64 : Int32)), (.ref x1)])) rfl (by rw [hml]; rfl) (Steps.refl _) (argsL := [(.int (64 : Int32)), (.int (0 : Int32))]) (rest := []) (lenOf pd_3 rfl) rfl (own_le rfl) (hb hby d9_3) (fun _ _ => ⟨rfl, e0, (by decide : 0 + 0 ≤ 0), (by decide : 0 + 0 ≤ 0)⟩)
  dsimp only [Pt.U, Pt.locs, Pt.cells, Pt.slots] at X11 l11 y11 z11 st11 hQ11
  subst l11 y11 z11
  obtain ⟨rfl, Nq11, eh11⟩ := hQ11
  have N11 := Fr.app N0 Nq11
  refine own_gs st11 ?_
  show own_Fin p e below (T11.setTop (mkF m 6 #[vr x1, vi (64 : Int32)] [(.int (5 : Int32))])) _
  obtain ⟨fs, hr, hrun, hended, hW1, hsame⟩ := X11.leave (v := (some (.int (5 : Int32)))) (fun h => by rw [Bd.returns] at h; cases h)
  refine ⟨_, _, retI X11 hx Bd.returns (hb hby d9_6) hr, hrun, hended, _, _, rfl, ?_, ⟨_, rfl⟩, hW1, hsame.mono (own_le rfl) (own_le rfl)⟩
  show own_ix1_5_Q Z x1 t1 k1 h0 n0 (some (.int (5 : Int32))) T11.heap _
  rw [eh11]
  exact ⟨rfl, N11, rfl⟩
abbrev own_c10 : ByteArray := prog_2_method_7_code
def own_all_Q (Z : State) (c0 : Int32) (h0 : Heap) (n0 : Nat) (v : Option Value) (h : Heap) (L : List Loc) : Prop := v = some (.int (1 : Int32)) ∧ Fr n0 L ∧ Keep h0 h []
theorem pn_com_example_lease_lock_leaselock_LockName : plainName "com/example/lease_lock/leaselock/LockName" = true := by first | (simp [plainName, overriddenIn]; done) | decide +kernel
theorem ef_own_all (m : MethodId) (x0 : Int32) : entryFrame m #[(.int x0)] 1 = mkF m 0 #[vi x0] [] := by first | (simp [entryFrame, mkF, argsToLocals, Value.category]; done) | rfl
abbrev own_n13 : MethodName := ⟨"com/example/lease_lock/leaselock/LockName", "isAllowed", "(C)Z"⟩
theorem d10_0 : decode own_c10 0 = .ok (.iload_n 0, 1) := by decide +kernel
theorem d10_1 : decode own_c10 1 = .ok (.bipush 97, 2) := by decide +kernel
theorem d10_3 : decode own_c10 3 = .ok (.if_icmp .lt 9, 3) := by decide +kernel
theorem d10_6 : decode own_c10 6 = .ok (.iload_n 0, 1) := by decide +kernel
theorem d10_7 : decode own_c10 7 = .ok (.bipush 122, 2) := by decide +kernel
theorem d10_9 : decode own_c10 9 = .ok (.if_icmp .le 36, 3) := by decide +kernel
theorem d10_45 : decode own_c10 45 = .ok (.iconst 1, 1) := by decide +kernel
theorem d10_46 : decode own_c10 46 = .ok (.goto 4, 3) := by decide +kernel
theorem d10_50 : decode own_c10 50 = .ok (.ireturn, 1) := by decide +kernel
theorem d10_12 : decode own_c10 12 = .ok (.iload_n 0, 1) := by decide +kernel
theorem d10_13 : decode own_c10 13 = .ok (.bipush 65, 2) := by decide +kernel
theorem d10_15 : decode own_c10 15 = .ok (.if_icmp .lt 9, 3) := by decide +kernel
theorem d10_18 : decode own_c10 18 = .ok (.iload_n 0, 1) := by decide +kernel
theorem d10_19 : decode own_c10 19 = .ok (.bipush 90, 2) := by decide +kernel
theorem d10_21 : decode own_c10 21 = .ok (.if_icmp .le 24, 3) := by decide +kernel
theorem d10_24 : decode own_c10 24 = .ok (.iload_n 0, 1) := by decide +kernel
theorem d10_25 : decode own_c10 25 = .ok (.bipush 48, 2) := by decide +kernel
theorem d10_27 : decode own_c10 27 = .ok (.if_icmp .lt 9, 3) := by decide +kernel
theorem d10_30 : decode own_c10 30 = .ok (.iload_n 0, 1) := by decide +kernel
theorem d10_31 : decode own_c10 31 = .ok (.bipush 57, 2) := by decide +kernel
theorem d10_33 : decode own_c10 33 = .ok (.if_icmp .le 12, 3) := by decide +kernel
theorem d10_36 : decode own_c10 36 = .ok (.ldc 56, 2) := by decide +kernel
theorem d10_38 : decode own_c10 38 = .ok (.iload_n 0, 1) := by decide +kernel
theorem d10_39 : decode own_c10 39 = .ok (.invokevirtual 58, 3) := by decide +kernel
theorem pd_7 : parseMethodDescriptor "(I)I" = some ⟨[.int], some .int⟩ := by decide +kernel
theorem d10_42 : decode own_c10 42 = .ok (.ifCond .lt 7, 3) := by decide +kernel
set_option maxRecDepth 65536 in
set_option maxHeartbeats 40000000 in
theorem own_all (l : Launch) (Z : State) (a0 : Array Value) (hW : own_W Z a0) (c0 : Int32) (h0 : Heap) (n0 : Nat) (Z0 : n0 ≤ h0.size) (O0 : Old Z n0 h0) (hok : own_ok c0) :
    MetFree l own_n13 (head1 (Jvm.Cond.code own_n13 own_c10 1 (some .boolean) :: []) ({ frames := 4, cells := 2, slots := 28, locals := 64 } : Room)) (fun a U => a = #[(.int c0)] ∧ Z.Warmed39 U.vm ∧ U.heap = h0 ∧ CHv Z own_EL U.vm h0 ∧ ∀ x ∈ ([] : List Addr), Safe Z own_EL U.vm h0 x) (fun _ _ _ _ _ => True) (fun _ U o U' => ∃ v L, o = .returned v ∧ own_all_Q Z c0 h0 n0 v U'.heap L ∧ CHr Z own_EL U.vm U.heap U'.vm U'.heap ∧ ReturnedEndW U o U' L ({ frames := 4, cells := 2, slots := 28, locals := 64 } : Room).cells ({ frames := 4, cells := 2, slots := 28, locals := 64 } : Room).slots) := by
  refine MetFree.of_bodySF (plainFor_of_name pn_com_example_lease_lock_leaselock_LockName) hisR ?_
  intro p e s m args below meth c s₁ Bd hml0 hP hK
  obtain ⟨rfl, hZ, hh, hCH, hSf⟩ := hP
  obtain ⟨hw, ⟨G1, O2, P5⟩, ⟨G3, O4, rG3⟩⟩ := id hW
  have hx := Bd.exec
  have hby := Bd.bytes
  have hml : c.maxLocals = 1 := hml0
  have hown : s.vm.findClass "com/example/lease_lock/leaselock/LockName" = some m.cls := findClass_of_methodNamed Bd.named
  have hnm := (name_of_methodNamed Bd.named Bd.method).1
  have X0 : Stand p l e ({ frames := 4, cells := 2, slots := 28, locals := 64 } : Room) (s.setVm s.vm) m #[(.int c0)] below meth c s₁ [] 0 0 := Stand.of_body Bd
  have e0 : s₁.heap = h0 := by rw [← hh, Bd.state]; rfl
  have N0 := Fr.nil n0
  have K0 := Keep.refl h0 []
  have hS0 : s.Since s.vm h0.size := (State.WarmedH.refl s).since _
  have CH0 : CHr Z own_EL s.vm h0 s.vm h0 := CHr.refl hCH
  have hEL := own_EW hw
  have hSA := own_SA hw
  show own_Fin p e below (s₁.setTop (entryFrame m #[(.int c0)] 1)) _
  refine own_gs (castTop (ef_own_all m c0) (Steps.refl _)) ?_
  show own_Fin p e below (s₁.setTop (mkF m 0 #[vi c0] [])) _
  rcases hok with hok | hok | hok | rfl | rfl | rfl | rfl | rfl | rfl
  · show own_Fin p e below (s₁.setTop (mkF m 0 #[vi c0] [])) _
    refine own_gs (cur' := s₁.setTop (mkF m 50 #[vi c0] [(.int (1 : Int32))])) ?_ ?_
    · refine XS.iloadN X0.here hx rfl (hb hby d10_0) rfl ?_
      refine XS.bipush X0.here hx rfl (hb hby d10_1) ?_
      refine XS.icmpNo X0.here hx rfl (hb hby d10_3) rfl (flt (hok.1 : ¬ (c0 < (97 : Int32)))).1 ?_
      refine XS.iloadN X0.here hx rfl (hb hby d10_6) rfl ?_
      refine XS.bipush X0.here hx rfl (hb hby d10_7) ?_
      refine XS.icmpYes X0.here hx rfl (pc0 := 9) (pc' := 45) rfl (hb hby d10_9) rfl (flt (hok.2 : ¬ ((122 : Int32) < c0))).2.2.2 (by decide) (by decide) ?_
      refine XS.iconst X0.here hx rfl (hb hby d10_45) ?_
      refine XS.goto X0.here hx rfl (pc0 := 46) (pc' := 50) rfl (hb hby d10_46) (by decide) (by decide) ?_
      exact Steps.refl _
    obtain ⟨fs, hr, hrun, hended, hRE⟩ := X0.leaveW hS0 (show h0.size ≤ s₁.heap.size by rw [e0]; omega) (v := (some (.int (1 : Int32)))) (fun h => by rw [Bd.returns] at h; cases h)
    refine ⟨_, _, retN X0 hx (t := .boolean) Bd.returns (by simp) (hb hby d10_50) hr, hrun, hended, _, _, rfl, ?_, ?_, hRE.1, hRE.2.1, hRE.2.2.1, hRE.2.2.2.mono (own_le rfl) (own_le rfl)⟩
    · show own_all_Q Z c0 h0 n0 (some (.int (1 : Int32))) s₁.heap _
      rw [e0]
      exact ⟨rfl, N0, K0⟩
    · have hfin := CH0.trans (CHv.at X0 hZ hEL CH0.1)
      rw [hh]
      show CHr Z own_EL s.vm h0 s₁.vm s₁.heap
      rw [e0]
      exact hfin
  · show own_Fin p e below (s₁.setTop (mkF m 0 #[vi c0] [])) _
    refine own_gs (cur' := s₁.setTop (mkF m 50 #[vi c0] [(.int (1 : Int32))])) ?_ ?_
    · refine XS.iloadN X0.here hx rfl (hb hby d10_0) rfl ?_
      refine XS.bipush X0.here hx rfl (hb hby d10_1) ?_
      refine XS.icmpYes X0.here hx rfl (pc0 := 3) (pc' := 12) rfl (hb hby d10_3) rfl (tlt ((by have := hok.2; rw [Int32.lt_iff_toInt_lt] at this ⊢; have e1 : (97 : Int32).toInt = 97 := rfl; have e2 : (90 : Int32).toInt = 90 := rfl; omega) : c0 < (97 : Int32))).1 (by decide) (by decide) ?_
      refine XS.iloadN X0.here hx rfl (hb hby d10_12) rfl ?_
      refine XS.bipush X0.here hx rfl (hb hby d10_13) ?_
      refine XS.icmpNo X0.here hx rfl (hb hby d10_15) rfl (flt (hok.1 : ¬ (c0 < (65 : Int32)))).1 ?_
      refine XS.iloadN X0.here hx rfl (hb hby d10_18) rfl ?_
      refine XS.bipush X0.here hx rfl (hb hby d10_19) ?_
      show Steps p.tables e below (s₁.setTop (mkF m 21 #[vi c0] [(.int (90 : Int32)), (.int c0)])) _
      refine XS.icmpYes X0.here hx rfl (pc0 := 21) (pc' := 45) rfl (hb hby d10_21) rfl (flt (hok.2 : ¬ ((90 : Int32) < c0))).2.2.2 (by decide) (by decide) ?_
      refine XS.iconst X0.here hx rfl (hb hby d10_45) ?_
      refine XS.goto X0.here hx rfl (pc0 := 46) (pc' := 50) rfl (hb hby d10_46) (by decide) (by decide) ?_
      exact Steps.refl _
    obtain ⟨fs, hr, hrun, hended, hRE⟩ := X0.leaveW hS0 (show h0.size ≤ s₁.heap.size by rw [e0]; omega) (v := (some (.int (1 : Int32)))) (fun h => by rw [Bd.returns] at h; cases h)
    refine ⟨_, _, retN X0 hx (t := .boolean) Bd.returns (by simp) (hb hby d10_50) hr, hrun, hended, _, _, rfl, ?_, ?_, hRE.1, hRE.2.1, hRE.2.2.1, hRE.2.2.2.mono (own_le rfl) (own_le rfl)⟩
    · show own_all_Q Z c0 h0 n0 (some (.int (1 : Int32))) s₁.heap _
      rw [e0]
      exact ⟨rfl, N0, K0⟩
    · have hfin := CH0.trans (CHv.at X0 hZ hEL CH0.1)
      rw [hh]
      show CHr Z own_EL s.vm h0 s₁.vm s₁.heap
      rw [e0]
      exact hfin
  · show own_Fin p e below (s₁.setTop (mkF m 0 #[vi c0] [])) _
    refine own_gs (cur' := s₁.setTop (mkF m 50 #[vi c0] [(.int (1 : Int32))])) ?_ ?_
    · refine XS.iloadN X0.here hx rfl (hb hby d10_0) rfl ?_
      refine XS.bipush X0.here hx rfl (hb hby d10_1) ?_
      refine XS.icmpYes X0.here hx rfl (pc0 := 3) (pc' := 12) rfl (hb hby d10_3) rfl (tlt ((by have := hok.2; rw [Int32.lt_iff_toInt_lt] at this ⊢; have e1 : (97 : Int32).toInt = 97 := rfl; have e2 : (57 : Int32).toInt = 57 := rfl; omega) : c0 < (97 : Int32))).1 (by decide) (by decide) ?_
      refine XS.iloadN X0.here hx rfl (hb hby d10_12) rfl ?_
      refine XS.bipush X0.here hx rfl (hb hby d10_13) ?_
      refine XS.icmpYes X0.here hx rfl (pc0 := 15) (pc' := 24) rfl (hb hby d10_15) rfl (tlt ((by have := hok.2; rw [Int32.lt_iff_toInt_lt] at this ⊢; have e1 : (65 : Int32).toInt = 65 := rfl; have e2 : (57 : Int32).toInt = 57 := rfl; omega) : c0 < (65 : Int32))).1 (by decide) (by decide) ?_
      refine XS.iloadN X0.here hx rfl (hb hby d10_24) rfl ?_
      refine XS.bipush X0.here hx rfl (hb hby d10_25) ?_
      show Steps p.tables e below (s₁.setTop (mkF m 27 #[vi c0] [(.int (48 : Int32)), (.int c0)])) _
      refine XS.icmpNo X0.here hx rfl (hb hby d10_27) rfl (flt (hok.1 : ¬ (c0 < (48 : Int32)))).1 ?_
      refine XS.iloadN X0.here hx rfl (hb hby d10_30) rfl ?_
      refine XS.bipush X0.here hx rfl (hb hby d10_31) ?_
      refine XS.icmpYes X0.here hx rfl (pc0 := 33) (pc' := 45) rfl (hb hby d10_33) rfl (flt (hok.2 : ¬ ((57 : Int32) < c0))).2.2.2 (by decide) (by decide) ?_
      refine XS.iconst X0.here hx rfl (hb hby d10_45) ?_
      refine XS.goto X0.here hx rfl (pc0 := 46) (pc' := 50) rfl (hb hby d10_46) (by decide) (by decide) ?_
      exact Steps.refl _
    obtain ⟨fs, hr, hrun, hended, hRE⟩ := X0.leaveW hS0 (show h0.size ≤ s₁.heap.size by rw [e0]; omega) (v := (some (.int (1 : Int32)))) (fun h => by rw [Bd.returns] at h; cases h)
    refine ⟨_, _, retN X0 hx (t := .boolean) Bd.returns (by simp) (hb hby d10_50) hr, hrun, hended, _, _, rfl, ?_, ?_, hRE.1, hRE.2.1, hRE.2.2.1, hRE.2.2.2.mono (own_le rfl) (own_le rfl)⟩
    · show own_all_Q Z c0 h0 n0 (some (.int (1 : Int32))) s₁.heap _
      rw [e0]
      exact ⟨rfl, N0, K0⟩
    · have hfin := CH0.trans (CHv.at X0 hZ hEL CH0.1)
      rw [hh]
      show CHr Z own_EL s.vm h0 s₁.vm s₁.heap
      rw [e0]
      exact hfin
  · show own_Fin p e below (s₁.setTop (mkF m 0 #[vi (46 : Int32)] [])) _
    refine own_gs (cur' := s₁.setTop (mkF m 36 #[vi (46 : Int32)] [])) ?_ ?_
    · refine XS.iloadN X0.here hx rfl (hb hby d10_0) rfl ?_
      refine XS.bipush X0.here hx rfl (hb hby d10_1) ?_
      refine XS.icmpYes X0.here hx rfl (pc0 := 3) (pc' := 12) rfl (hb hby d10_3) rfl (tlt ((by decide) : (46 : Int32) < (97 : Int32))).1 (by decide) (by decide) ?_
      refine XS.iloadN X0.here hx rfl (hb hby d10_12) rfl ?_
      refine XS.bipush X0.here hx rfl (hb hby d10_13) ?_
      refine XS.icmpYes X0.here hx rfl (pc0 := 15) (pc' := 24) rfl (hb hby d10_15) rfl (tlt ((by decide) : (46 : Int32) < (65 : Int32))).1 (by decide) (by decide) ?_
      refine XS.iloadN X0.here hx rfl (hb hby d10_24) rfl ?_
      refine XS.bipush X0.here hx rfl (hb hby d10_25) ?_
      show Steps p.tables e below (s₁.setTop (mkF m 27 #[vi (46 : Int32)] [(.int (48 : Int32)), (.int (46 : Int32))])) _
      refine XS.icmpYes X0.here hx rfl (pc0 := 27) (pc' := 36) rfl (hb hby d10_27) rfl (tlt ((by decide) : (46 : Int32) < (48 : Int32))).1 (by decide) (by decide) ?_
      exact Steps.refl _
    obtain ⟨sa11, T11, h11, k11, sb11, c11, X11, e11, E11, hS11, hk11, hZ11, hown11, A11, Fc11, Fv11, V11, lta11, ltt11, hC11, Li11, ne11, st11⟩ := ldcCH X0 hx hZ hown (own_tw hw 119 rfl) hSA e0 hS0 (show h0.size ≤ h0.size by omega) hEL (own_mem_0) CH0.1 (vs := [.int (46 : Int32), .int (95 : Int32), .int (58 : Int32), .int (45 : Int32), .int (47 : Int32), .int (64 : Int32)]) (z := (6 : Int32)) own_lit_0 (by decide) rfl (g := (mkF m 36 #[vi (46 : Int32)] [])) rfl (hb hby d10_36) (n := 24) (by decide) (by decide) (by decide) (by decide)
    replace lta11 := own_lt lta11
    replace ltt11 := own_lt ltt11
    refine own_go st11 ?_
    show own_Fin p e below (T11.setTop (mkF m 38 #[vi (46 : Int32)] [(.ref sa11)])) _
    have z12 := E11.1
    have K12 := K0.ext E11
    have O12 := O0.ext E11
    have CH12 := CH0.trans hC11
    refine own_gs (cur' := T11.setTop (mkF m 39 #[vi (46 : Int32)] [(.int (46 : Int32)), (.ref sa11)])) ?_ ?_
    · refine XS.iloadN X11.here hx rfl (hb hby d10_38) rfl ?_
      exact Steps.refl _
    obtain ⟨cq13, kq13, q13a, q13b, q13c⟩ := isOf hZ11 e11 A11
    obtain ⟨_, _, ⟨T13, L13, k13, n13⟩, -, X13, ⟨Lc13, hQ13, l13, y13, z13⟩, st13⟩ := X11.virtualBack hx (y := own_n12) (z := own_n12) hown11 (mvT hZ11 (own_tw hw 120 rfl)) (mvT hZ11 (own_tw hw 121 rfl)) (notFace_of_selects (args := #[]) (mvT hZ11 (own_tw hw 123 rfl))) (mvT hZ11 (own_tw hw 123 rfl)) (mvT hZ11 (own_tw hw 122 rfl)) (by decide) (backOf (W := 0) (own_ix1_0 l Z a0 hW sa11 sb11 c11 h11 n0 (by omega) O12 A11 Fv11 Fc11 V11) hZ11 (own_tw hw 124 rfl) (own_tw hw 5 rfl) (by decide) (by decide)) q13a q13c (g := (mkF m 39 #[vi (46 : Int32)] [(.int (46 : Int32)), (.ref sa11)])) rfl (by rw [hml]; rfl) (Steps.refl _) (argsL := [(.int (46 : Int32))]) (rest := []) (lenOf pd_7 rfl) rfl (own_le rfl) (hb hby d10_39) (fun _ _ => ⟨rfl, e11, (by decide : 2 + 0 ≤ 2), (by decide : 28 + 0 ≤ 28)⟩)
    dsimp only [Pt.U, Pt.locs, Pt.cells, Pt.slots] at X13 l13 y13 z13 st13 hQ13
    subst l13 y13 z13
    obtain ⟨rfl, Nq13, eh13⟩ := hQ13
    have N13 := Fr.app N0 Nq13
    refine own_gs st13 ?_
    show own_Fin p e below (T13.setTop (mkF m 42 #[vi (46 : Int32)] [(.int (0 : Int32))])) _
    refine own_gs (cur' := T13.setTop (mkF m 50 #[vi (46 : Int32)] [(.int (1 : Int32))])) ?_ ?_
    · refine XS.ifNo X13.here hx rfl (hb hby d10_42) rfl ((if0 _ _).trans (flt ((by decide) : ¬ ((0 : Int32) < (0 : Int32)))).1) ?_
      refine XS.iconst X13.here hx rfl (hb hby d10_45) ?_
      refine XS.goto X13.here hx rfl (pc0 := 46) (pc' := 50) rfl (hb hby d10_46) (by decide) (by decide) ?_
      exact Steps.refl _
    obtain ⟨fs, hr, hrun, hended, hRE⟩ := X13.leaveW hS11 (show k11 ≤ T13.heap.size by rw [eh13]; omega) (v := (some (.int (1 : Int32)))) (fun h => by rw [Bd.returns] at h; cases h)
    refine ⟨_, _, retN X13 hx (t := .boolean) Bd.returns (by simp) (hb hby d10_50) hr, hrun, hended, _, _, rfl, ?_, ?_, hRE.1, hRE.2.1, hRE.2.2.1, hRE.2.2.2.mono (own_le rfl) (own_le rfl)⟩
    · show own_all_Q Z (46 : Int32) h0 n0 (some (.int (1 : Int32))) T13.heap _
      rw [eh13]
      exact ⟨rfl, N13, K12⟩
    · have hfin := CH12.trans (CHv.at X13 hZ11 hEL CH12.1)
      rw [hh]
      show CHr Z own_EL s.vm h0 T13.vm T13.heap
      rw [eh13]
      exact hfin
  · show own_Fin p e below (s₁.setTop (mkF m 0 #[vi (95 : Int32)] [])) _
    refine own_gs (cur' := s₁.setTop (mkF m 36 #[vi (95 : Int32)] [])) ?_ ?_
    · refine XS.iloadN X0.here hx rfl (hb hby d10_0) rfl ?_
      refine XS.bipush X0.here hx rfl (hb hby d10_1) ?_
      refine XS.icmpYes X0.here hx rfl (pc0 := 3) (pc' := 12) rfl (hb hby d10_3) rfl (tlt ((by decide) : (95 : Int32) < (97 : Int32))).1 (by decide) (by decide) ?_
      refine XS.iloadN X0.here hx rfl (hb hby d10_12) rfl ?_
      refine XS.bipush X0.here hx rfl (hb hby d10_13) ?_
      refine XS.icmpNo X0.here hx rfl (hb hby d10_15) rfl (flt ((by decide) : ¬ ((95 : Int32) < (65 : Int32)))).1 ?_
      refine XS.iloadN X0.here hx rfl (hb hby d10_18) rfl ?_
      refine XS.bipush X0.here hx rfl (hb hby d10_19) ?_
      show Steps p.tables e below (s₁.setTop (mkF m 21 #[vi (95 : Int32)] [(.int (90 : Int32)), (.int (95 : Int32))])) _
      refine XS.icmpNo X0.here hx rfl (hb hby d10_21) rfl (tlt ((by decide) : (90 : Int32) < (95 : Int32))).2.2.2 ?_
      refine XS.iloadN X0.here hx rfl (hb hby d10_24) rfl ?_
      refine XS.bipush X0.here hx rfl (hb hby d10_25) ?_
      refine XS.icmpNo X0.here hx rfl (hb hby d10_27) rfl (flt ((by decide) : ¬ ((95 : Int32) < (48 : Int32)))).1 ?_
      refine XS.iloadN X0.here hx rfl (hb hby d10_30) rfl ?_
      refine XS.bipush X0.here hx rfl (hb hby d10_31) ?_
      refine XS.icmpNo X0.here hx rfl (hb hby d10_33) rfl (tlt ((by decide) : (57 : Int32) < (95 : Int32))).2.2.2 ?_
      exact Steps.refl _
    obtain ⟨sa14, T14, h14, k14, sb14, c14, X14, e14, E14, hS14, hk14, hZ14, hown14, A14, Fc14, Fv14, V14, lta14, ltt14, hC14, Li14, ne14, st14⟩ := ldcCH X0 hx hZ hown (own_tw hw 119 rfl) hSA e0 hS0 (show h0.size ≤ h0.size by omega) hEL (own_mem_0) CH0.1 (vs := [.int (46 : Int32), .int (95 : Int32), .int (58 : Int32), .int (45 : Int32), .int (47 : Int32), .int (64 : Int32)]) (z := (6 : Int32)) own_lit_0 (by decide) rfl (g := (mkF m 36 #[vi (95 : Int32)] [])) rfl (hb hby d10_36) (n := 24) (by decide) (by decide) (by decide) (by decide)
    replace lta14 := own_lt lta14
    replace ltt14 := own_lt ltt14
    refine own_go st14 ?_
    show own_Fin p e below (T14.setTop (mkF m 38 #[vi (95 : Int32)] [(.ref sa14)])) _
    have z15 := E14.1
    have K15 := K0.ext E14
    have O15 := O0.ext E14
    have CH15 := CH0.trans hC14
    refine own_gs (cur' := T14.setTop (mkF m 39 #[vi (95 : Int32)] [(.int (95 : Int32)), (.ref sa14)])) ?_ ?_
    · refine XS.iloadN X14.here hx rfl (hb hby d10_38) rfl ?_
      exact Steps.refl _
    obtain ⟨cq16, kq16, q16a, q16b, q16c⟩ := isOf hZ14 e14 A14
    obtain ⟨_, _, ⟨T16, L16, k16, n16⟩, -, X16, ⟨Lc16, hQ16, l16, y16, z16⟩, st16⟩ := X14.virtualBack hx (y := own_n12) (z := own_n12) hown14 (mvT hZ14 (own_tw hw 120 rfl)) (mvT hZ14 (own_tw hw 121 rfl)) (notFace_of_selects (args := #[]) (mvT hZ14 (own_tw hw 123 rfl))) (mvT hZ14 (own_tw hw 123 rfl)) (mvT hZ14 (own_tw hw 122 rfl)) (by decide) (backOf (W := 0) (own_ix1_1 l Z a0 hW sa14 sb14 c14 h14 n0 (by omega) O15 A14 Fv14 Fc14 V14) hZ14 (own_tw hw 124 rfl) (own_tw hw 5 rfl) (by decide) (by decide)) q16a q16c (g := (mkF m 39 #[vi (95 : Int32)] [(.int (95 : Int32)), (.ref sa14)])) rfl (by rw [hml]; rfl) (Steps.refl _) (argsL := [(.int (95 : Int32))]) (rest := []) (lenOf pd_7 rfl) rfl (own_le rfl) (hb hby d10_39) (fun _ _ => ⟨rfl, e14, (by decide : 2 + 0 ≤ 2), (by decide : 28 + 0 ≤ 28)⟩)
    dsimp only [Pt.U, Pt.locs, Pt.cells, Pt.slots] at X16 l16 y16 z16 st16 hQ16
    subst l16 y16 z16
    obtain ⟨rfl, Nq16, eh16⟩ := hQ16
    have N16 := Fr.app N0 Nq16
    refine own_gs st16 ?_
    show own_Fin p e below (T16.setTop (mkF m 42 #[vi (95 : Int32)] [(.int (1 : Int32))])) _
    refine own_gs (cur' := T16.setTop (mkF m 50 #[vi (95 : Int32)] [(.int (1 : Int32))])) ?_ ?_
    · refine XS.ifNo X16.here hx rfl (hb hby d10_42) rfl ((if0 _ _).trans (flt ((by decide) : ¬ ((1 : Int32) < (0 : Int32)))).1) ?_
      refine XS.iconst X16.here hx rfl (hb hby d10_45) ?_
      refine XS.goto X16.here hx rfl (pc0 := 46) (pc' := 50) rfl (hb hby d10_46) (by decide) (by decide) ?_
      exact Steps.refl _
    obtain ⟨fs, hr, hrun, hended, hRE⟩ := X16.leaveW hS14 (show k14 ≤ T16.heap.size by rw [eh16]; omega) (v := (some (.int (1 : Int32)))) (fun h => by rw [Bd.returns] at h; cases h)
    refine ⟨_, _, retN X16 hx (t := .boolean) Bd.returns (by simp) (hb hby d10_50) hr, hrun, hended, _, _, rfl, ?_, ?_, hRE.1, hRE.2.1, hRE.2.2.1, hRE.2.2.2.mono (own_le rfl) (own_le rfl)⟩
    · show own_all_Q Z (95 : Int32) h0 n0 (some (.int (1 : Int32))) T16.heap _
      rw [eh16]
      exact ⟨rfl, N16, K15⟩
    · have hfin := CH15.trans (CHv.at X16 hZ14 hEL CH15.1)
      rw [hh]
      show CHr Z own_EL s.vm h0 T16.vm T16.heap
      rw [eh16]
      exact hfin
  · show own_Fin p e below (s₁.setTop (mkF m 0 #[vi (58 : Int32)] [])) _
    refine own_gs (cur' := s₁.setTop (mkF m 36 #[vi (58 : Int32)] [])) ?_ ?_
    · refine XS.iloadN X0.here hx rfl (hb hby d10_0) rfl ?_
      refine XS.bipush X0.here hx rfl (hb hby d10_1) ?_
      refine XS.icmpYes X0.here hx rfl (pc0 := 3) (pc' := 12) rfl (hb hby d10_3) rfl (tlt ((by decide) : (58 : Int32) < (97 : Int32))).1 (by decide) (by decide) ?_
      refine XS.iloadN X0.here hx rfl (hb hby d10_12) rfl ?_
      refine XS.bipush X0.here hx rfl (hb hby d10_13) ?_
      refine XS.icmpYes X0.here hx rfl (pc0 := 15) (pc' := 24) rfl (hb hby d10_15) rfl (tlt ((by decide) : (58 : Int32) < (65 : Int32))).1 (by decide) (by decide) ?_
      refine XS.iloadN X0.here hx rfl (hb hby d10_24) rfl ?_
      refine XS.bipush X0.here hx rfl (hb hby d10_25) ?_
      show Steps p.tables e below (s₁.setTop (mkF m 27 #[vi (58 : Int32)] [(.int (48 : Int32)), (.int (58 : Int32))])) _
      refine XS.icmpNo X0.here hx rfl (hb hby d10_27) rfl (flt ((by decide) : ¬ ((58 : Int32) < (48 : Int32)))).1 ?_
      refine XS.iloadN X0.here hx rfl (hb hby d10_30) rfl ?_
      refine XS.bipush X0.here hx rfl (hb hby d10_31) ?_
      refine XS.icmpNo X0.here hx rfl (hb hby d10_33) rfl (tlt ((by decide) : (57 : Int32) < (58 : Int32))).2.2.2 ?_
      exact Steps.refl _
    obtain ⟨sa17, T17, h17, k17, sb17, c17, X17, e17, E17, hS17, hk17, hZ17, hown17, A17, Fc17, Fv17, V17, lta17, ltt17, hC17, Li17, ne17, st17⟩ := ldcCH X0 hx hZ hown (own_tw hw 119 rfl) hSA e0 hS0 (show h0.size ≤ h0.size by omega) hEL (own_mem_0) CH0.1 (vs := [.int (46 : Int32), .int (95 : Int32), .int (58 : Int32), .int (45 : Int32), .int (47 : Int32), .int (64 : Int32)]) (z := (6 : Int32)) own_lit_0 (by decide) rfl (g := (mkF m 36 #[vi (58 : Int32)] [])) rfl (hb hby d10_36) (n := 24) (by decide) (by decide) (by decide) (by decide)
    replace lta17 := own_lt lta17
    replace ltt17 := own_lt ltt17
    refine own_go st17 ?_
    show own_Fin p e below (T17.setTop (mkF m 38 #[vi (58 : Int32)] [(.ref sa17)])) _
    have z18 := E17.1
    have K18 := K0.ext E17
    have O18 := O0.ext E17
    have CH18 := CH0.trans hC17
    refine own_gs (cur' := T17.setTop (mkF m 39 #[vi (58 : Int32)] [(.int (58 : Int32)), (.ref sa17)])) ?_ ?_
    · refine XS.iloadN X17.here hx rfl (hb hby d10_38) rfl ?_
      exact Steps.refl _
    obtain ⟨cq19, kq19, q19a, q19b, q19c⟩ := isOf hZ17 e17 A17
    obtain ⟨_, _, ⟨T19, L19, k19, n19⟩, -, X19, ⟨Lc19, hQ19, l19, y19, z19⟩, st19⟩ := X17.virtualBack hx (y := own_n12) (z := own_n12) hown17 (mvT hZ17 (own_tw hw 120 rfl)) (mvT hZ17 (own_tw hw 121 rfl)) (notFace_of_selects (args := #[]) (mvT hZ17 (own_tw hw 123 rfl))) (mvT hZ17 (own_tw hw 123 rfl)) (mvT hZ17 (own_tw hw 122 rfl)) (by decide) (backOf (W := 0) (own_ix1_2 l Z a0 hW sa17 sb17 c17 h17 n0 (by omega) O18 A17 Fv17 Fc17 V17) hZ17 (own_tw hw 124 rfl) (own_tw hw 5 rfl) (by decide) (by decide)) q19a q19c (g := (mkF m 39 #[vi (58 : Int32)] [(.int (58 : Int32)), (.ref sa17)])) rfl (by rw [hml]; rfl) (Steps.refl _) (argsL := [(.int (58 : Int32))]) (rest := []) (lenOf pd_7 rfl) rfl (own_le rfl) (hb hby d10_39) (fun _ _ => ⟨rfl, e17, (by decide : 2 + 0 ≤ 2), (by decide : 28 + 0 ≤ 28)⟩)
    dsimp only [Pt.U, Pt.locs, Pt.cells, Pt.slots] at X19 l19 y19 z19 st19 hQ19
    subst l19 y19 z19
    obtain ⟨rfl, Nq19, eh19⟩ := hQ19
    have N19 := Fr.app N0 Nq19
    refine own_gs st19 ?_
    show own_Fin p e below (T19.setTop (mkF m 42 #[vi (58 : Int32)] [(.int (2 : Int32))])) _
    refine own_gs (cur' := T19.setTop (mkF m 50 #[vi (58 : Int32)] [(.int (1 : Int32))])) ?_ ?_
    · refine XS.ifNo X19.here hx rfl (hb hby d10_42) rfl ((if0 _ _).trans (flt ((by decide) : ¬ ((2 : Int32) < (0 : Int32)))).1) ?_
      refine XS.iconst X19.here hx rfl (hb hby d10_45) ?_
      refine XS.goto X19.here hx rfl (pc0 := 46) (pc' := 50) rfl (hb hby d10_46) (by decide) (by decide) ?_
      exact Steps.refl _
    obtain ⟨fs, hr, hrun, hended, hRE⟩ := X19.leaveW hS17 (show k17 ≤ T19.heap.size by rw [eh19]; omega) (v := (some (.int (1 : Int32)))) (fun h => by rw [Bd.returns] at h; cases h)
    refine ⟨_, _, retN X19 hx (t := .boolean) Bd.returns (by simp) (hb hby d10_50) hr, hrun, hended, _, _, rfl, ?_, ?_, hRE.1, hRE.2.1, hRE.2.2.1, hRE.2.2.2.mono (own_le rfl) (own_le rfl)⟩
    · show own_all_Q Z (58 : Int32) h0 n0 (some (.int (1 : Int32))) T19.heap _
      rw [eh19]
      exact ⟨rfl, N19, K18⟩
    · have hfin := CH18.trans (CHv.at X19 hZ17 hEL CH18.1)
      rw [hh]
      show CHr Z own_EL s.vm h0 T19.vm T19.heap
      rw [eh19]
      exact hfin
  · show own_Fin p e below (s₁.setTop (mkF m 0 #[vi (45 : Int32)] [])) _
    refine own_gs (cur' := s₁.setTop (mkF m 36 #[vi (45 : Int32)] [])) ?_ ?_
    · refine XS.iloadN X0.here hx rfl (hb hby d10_0) rfl ?_
      refine XS.bipush X0.here hx rfl (hb hby d10_1) ?_
      refine XS.icmpYes X0.here hx rfl (pc0 := 3) (pc' := 12) rfl (hb hby d10_3) rfl (tlt ((by decide) : (45 : Int32) < (97 : Int32))).1 (by decide) (by decide) ?_
      refine XS.iloadN X0.here hx rfl (hb hby d10_12) rfl ?_
      refine XS.bipush X0.here hx rfl (hb hby d10_13) ?_
      refine XS.icmpYes X0.here hx rfl (pc0 := 15) (pc' := 24) rfl (hb hby d10_15) rfl (tlt ((by decide) : (45 : Int32) < (65 : Int32))).1 (by decide) (by decide) ?_
      refine XS.iloadN X0.here hx rfl (hb hby d10_24) rfl ?_
      refine XS.bipush X0.here hx rfl (hb hby d10_25) ?_
      show Steps p.tables e below (s₁.setTop (mkF m 27 #[vi (45 : Int32)] [(.int (48 : Int32)), (.int (45 : Int32))])) _
      refine XS.icmpYes X0.here hx rfl (pc0 := 27) (pc' := 36) rfl (hb hby d10_27) rfl (tlt ((by decide) : (45 : Int32) < (48 : Int32))).1 (by decide) (by decide) ?_
      exact Steps.refl _
    obtain ⟨sa20, T20, h20, k20, sb20, c20, X20, e20, E20, hS20, hk20, hZ20, hown20, A20, Fc20, Fv20, V20, lta20, ltt20, hC20, Li20, ne20, st20⟩ := ldcCH X0 hx hZ hown (own_tw hw 119 rfl) hSA e0 hS0 (show h0.size ≤ h0.size by omega) hEL (own_mem_0) CH0.1 (vs := [.int (46 : Int32), .int (95 : Int32), .int (58 : Int32), .int (45 : Int32), .int (47 : Int32), .int (64 : Int32)]) (z := (6 : Int32)) own_lit_0 (by decide) rfl (g := (mkF m 36 #[vi (45 : Int32)] [])) rfl (hb hby d10_36) (n := 24) (by decide) (by decide) (by decide) (by decide)
    replace lta20 := own_lt lta20
    replace ltt20 := own_lt ltt20
    refine own_go st20 ?_
    show own_Fin p e below (T20.setTop (mkF m 38 #[vi (45 : Int32)] [(.ref sa20)])) _
    have z21 := E20.1
    have K21 := K0.ext E20
    have O21 := O0.ext E20
    have CH21 := CH0.trans hC20
    refine own_gs (cur' := T20.setTop (mkF m 39 #[vi (45 : Int32)] [(.int (45 : Int32)), (.ref sa20)])) ?_ ?_
    · refine XS.iloadN X20.here hx rfl (hb hby d10_38) rfl ?_
      exact Steps.refl _
    obtain ⟨cq22, kq22, q22a, q22b, q22c⟩ := isOf hZ20 e20 A20
    obtain ⟨_, _, ⟨T22, L22, k22, n22⟩, -, X22, ⟨Lc22, hQ22, l22, y22, z22⟩, st22⟩ := X20.virtualBack hx (y := own_n12) (z := own_n12) hown20 (mvT hZ20 (own_tw hw 120 rfl)) (mvT hZ20 (own_tw hw 121 rfl)) (notFace_of_selects (args := #[]) (mvT hZ20 (own_tw hw 123 rfl))) (mvT hZ20 (own_tw hw 123 rfl)) (mvT hZ20 (own_tw hw 122 rfl)) (by decide) (backOf (W := 0) (own_ix1_3 l Z a0 hW sa20 sb20 c20 h20 n0 (by omega) O21 A20 Fv20 Fc20 V20) hZ20 (own_tw hw 124 rfl) (own_tw hw 5 rfl) (by decide) (by decide)) q22a q22c (g := (mkF m 39 #[vi (45 : Int32)] [(.int (45 : Int32)), (.ref sa20)])) rfl (by rw [hml]; rfl) (Steps.refl _) (argsL := [(.int (45 : Int32))]) (rest := []) (lenOf pd_7 rfl) rfl (own_le rfl) (hb hby d10_39) (fun _ _ => ⟨rfl, e20, (by decide : 2 + 0 ≤ 2), (by decide : 28 + 0 ≤ 28)⟩)
    dsimp only [Pt.U, Pt.locs, Pt.cells, Pt.slots] at X22 l22 y22 z22 st22 hQ22
    subst l22 y22 z22
    obtain ⟨rfl, Nq22, eh22⟩ := hQ22
    have N22 := Fr.app N0 Nq22
    refine own_gs st22 ?_
    show own_Fin p e below (T22.setTop (mkF m 42 #[vi (45 : Int32)] [(.int (3 : Int32))])) _
    refine own_gs (cur' := T22.setTop (mkF m 50 #[vi (45 : Int32)] [(.int (1 : Int32))])) ?_ ?_
    · refine XS.ifNo X22.here hx rfl (hb hby d10_42) rfl ((if0 _ _).trans (flt ((by decide) : ¬ ((3 : Int32) < (0 : Int32)))).1) ?_
      refine XS.iconst X22.here hx rfl (hb hby d10_45) ?_
      refine XS.goto X22.here hx rfl (pc0 := 46) (pc' := 50) rfl (hb hby d10_46) (by decide) (by decide) ?_
      exact Steps.refl _
    obtain ⟨fs, hr, hrun, hended, hRE⟩ := X22.leaveW hS20 (show k20 ≤ T22.heap.size by rw [eh22]; omega) (v := (some (.int (1 : Int32)))) (fun h => by rw [Bd.returns] at h; cases h)
    refine ⟨_, _, retN X22 hx (t := .boolean) Bd.returns (by simp) (hb hby d10_50) hr, hrun, hended, _, _, rfl, ?_, ?_, hRE.1, hRE.2.1, hRE.2.2.1, hRE.2.2.2.mono (own_le rfl) (own_le rfl)⟩
    · show own_all_Q Z (45 : Int32) h0 n0 (some (.int (1 : Int32))) T22.heap _
      rw [eh22]
      exact ⟨rfl, N22, K21⟩
    · have hfin := CH21.trans (CHv.at X22 hZ20 hEL CH21.1)
      rw [hh]
      show CHr Z own_EL s.vm h0 T22.vm T22.heap
      rw [eh22]
      exact hfin
  · show own_Fin p e below (s₁.setTop (mkF m 0 #[vi (47 : Int32)] [])) _
    refine own_gs (cur' := s₁.setTop (mkF m 36 #[vi (47 : Int32)] [])) ?_ ?_
    · refine XS.iloadN X0.here hx rfl (hb hby d10_0) rfl ?_
      refine XS.bipush X0.here hx rfl (hb hby d10_1) ?_
      refine XS.icmpYes X0.here hx rfl (pc0 := 3) (pc' := 12) rfl (hb hby d10_3) rfl (tlt ((by decide) : (47 : Int32) < (97 : Int32))).1 (by decide) (by decide) ?_
      refine XS.iloadN X0.here hx rfl (hb hby d10_12) rfl ?_
      refine XS.bipush X0.here hx rfl (hb hby d10_13) ?_
      refine XS.icmpYes X0.here hx rfl (pc0 := 15) (pc' := 24) rfl (hb hby d10_15) rfl (tlt ((by decide) : (47 : Int32) < (65 : Int32))).1 (by decide) (by decide) ?_
      refine XS.iloadN X0.here hx rfl (hb hby d10_24) rfl ?_
      refine XS.bipush X0.here hx rfl (hb hby d10_25) ?_
      show Steps p.tables e below (s₁.setTop (mkF m 27 #[vi (47 : Int32)] [(.int (48 : Int32)), (.int (47 : Int32))])) _
      refine XS.icmpYes X0.here hx rfl (pc0 := 27) (pc' := 36) rfl (hb hby d10_27) rfl (tlt ((by decide) : (47 : Int32) < (48 : Int32))).1 (by decide) (by decide) ?_
      exact Steps.refl _
    obtain ⟨sa23, T23, h23, k23, sb23, c23, X23, e23, E23, hS23, hk23, hZ23, hown23, A23, Fc23, Fv23, V23, lta23, ltt23, hC23, Li23, ne23, st23⟩ := ldcCH X0 hx hZ hown (own_tw hw 119 rfl) hSA e0 hS0 (show h0.size ≤ h0.size by omega) hEL (own_mem_0) CH0.1 (vs := [.int (46 : Int32), .int (95 : Int32), .int (58 : Int32), .int (45 : Int32), .int (47 : Int32), .int (64 : Int32)]) (z := (6 : Int32)) own_lit_0 (by decide) rfl (g := (mkF m 36 #[vi (47 : Int32)] [])) rfl (hb hby d10_36) (n := 24) (by decide) (by decide) (by decide) (by decide)
    replace lta23 := own_lt lta23
    replace ltt23 := own_lt ltt23
    refine own_go st23 ?_
    show own_Fin p e below (T23.setTop (mkF m 38 #[vi (47 : Int32)] [(.ref sa23)])) _
    have z24 := E23.1
    have K24 := K0.ext E23
    have O24 := O0.ext E23
    have CH24 := CH0.trans hC23
    refine own_gs (cur' := T23.setTop (mkF m 39 #[vi (47 : Int32)] [(.int (47 : Int32)), (.ref sa23)])) ?_ ?_
    · refine XS.iloadN X23.here hx rfl (hb hby d10_38) rfl ?_
      exact Steps.refl _
    obtain ⟨cq25, kq25, q25a, q25b, q25c⟩ := isOf hZ23 e23 A23
    obtain ⟨_, _, ⟨T25, L25, k25, n25⟩, -, X25, ⟨Lc25, hQ25, l25, y25, z25⟩, st25⟩ := X23.virtualBack hx (y := own_n12) (z := own_n12) hown23 (mvT hZ23 (own_tw hw 120 rfl)) (mvT hZ23 (own_tw hw 121 rfl)) (notFace_of_selects (args := #[]) (mvT hZ23 (own_tw hw 123 rfl))) (mvT hZ23 (own_tw hw 123 rfl)) (mvT hZ23 (own_tw hw 122 rfl)) (by decide) (backOf (W := 0) (own_ix1_4 l Z a0 hW sa23 sb23 c23 h23 n0 (by omega) O24 A23 Fv23 Fc23 V23) hZ23 (own_tw hw 124 rfl) (own_tw hw 5 rfl) (by decide) (by decide)) q25a q25c (g := (mkF m 39 #[vi (47 : Int32)] [(.int (47 : Int32)), (.ref sa23)])) rfl (by rw [hml]; rfl) (Steps.refl _) (argsL := [(.int (47 : Int32))]) (rest := []) (lenOf pd_7 rfl) rfl (own_le rfl) (hb hby d10_39) (fun _ _ => ⟨rfl, e23, (by decide : 2 + 0 ≤ 2), (by decide : 28 + 0 ≤ 28)⟩)
    dsimp only [Pt.U, Pt.locs, Pt.cells, Pt.slots] at X25 l25 y25 z25 st25 hQ25
    subst l25 y25 z25
    obtain ⟨rfl, Nq25, eh25⟩ := hQ25
    have N25 := Fr.app N0 Nq25
    refine own_gs st25 ?_
    show own_Fin p e below (T25.setTop (mkF m 42 #[vi (47 : Int32)] [(.int (4 : Int32))])) _
    refine own_gs (cur' := T25.setTop (mkF m 50 #[vi (47 : Int32)] [(.int (1 : Int32))])) ?_ ?_
    · refine XS.ifNo X25.here hx rfl (hb hby d10_42) rfl ((if0 _ _).trans (flt ((by decide) : ¬ ((4 : Int32) < (0 : Int32)))).1) ?_
      refine XS.iconst X25.here hx rfl (hb hby d10_45) ?_
      refine XS.goto X25.here hx rfl (pc0 := 46) (pc' := 50) rfl (hb hby d10_46) (by decide) (by decide) ?_
      exact Steps.refl _
    obtain ⟨fs, hr, hrun, hended, hRE⟩ := X25.leaveW hS23 (show k23 ≤ T25.heap.size by rw [eh25]; omega) (v := (some (.int (1 : Int32)))) (fun h => by rw [Bd.returns] at h; cases h)
    refine ⟨_, _, retN X25 hx (t := .boolean) Bd.returns (by simp) (hb hby d10_50) hr, hrun, hended, _, _, rfl, ?_, ?_, hRE.1, hRE.2.1, hRE.2.2.1, hRE.2.2.2.mono (own_le rfl) (own_le rfl)⟩
    · show own_all_Q Z (47 : Int32) h0 n0 (some (.int (1 : Int32))) T25.heap _
      rw [eh25]
      exact ⟨rfl, N25, K24⟩
    · have hfin := CH24.trans (CHv.at X25 hZ23 hEL CH24.1)
      rw [hh]
      show CHr Z own_EL s.vm h0 T25.vm T25.heap
      rw [eh25]
      exact hfin
  · show own_Fin p e below (s₁.setTop (mkF m 0 #[vi (64 : Int32)] [])) _
    refine own_gs (cur' := s₁.setTop (mkF m 36 #[vi (64 : Int32)] [])) ?_ ?_
    · refine XS.iloadN X0.here hx rfl (hb hby d10_0) rfl ?_
      refine XS.bipush X0.here hx rfl (hb hby d10_1) ?_
      refine XS.icmpYes X0.here hx rfl (pc0 := 3) (pc' := 12) rfl (hb hby d10_3) rfl (tlt ((by decide) : (64 : Int32) < (97 : Int32))).1 (by decide) (by decide) ?_
      refine XS.iloadN X0.here hx rfl (hb hby d10_12) rfl ?_
      refine XS.bipush X0.here hx rfl (hb hby d10_13) ?_
      refine XS.icmpYes X0.here hx rfl (pc0 := 15) (pc' := 24) rfl (hb hby d10_15) rfl (tlt ((by decide) : (64 : Int32) < (65 : Int32))).1 (by decide) (by decide) ?_
      refine XS.iloadN X0.here hx rfl (hb hby d10_24) rfl ?_
      refine XS.bipush X0.here hx rfl (hb hby d10_25) ?_
      show Steps p.tables e below (s₁.setTop (mkF m 27 #[vi (64 : Int32)] [(.int (48 : Int32)), (.int (64 : Int32))])) _
      refine XS.icmpNo X0.here hx rfl (hb hby d10_27) rfl (flt ((by decide) : ¬ ((64 : Int32) < (48 : Int32)))).1 ?_
      refine XS.iloadN X0.here hx rfl (hb hby d10_30) rfl ?_
      refine XS.bipush X0.here hx rfl (hb hby d10_31) ?_
      refine XS.icmpNo X0.here hx rfl (hb hby d10_33) rfl (tlt ((by decide) : (57 : Int32) < (64 : Int32))).2.2.2 ?_
      exact Steps.refl _
    obtain ⟨sa26, T26, h26, k26, sb26, c26, X26, e26, E26, hS26, hk26, hZ26, hown26, A26, Fc26, Fv26, V26, lta26, ltt26, hC26, Li26, ne26, st26⟩ := ldcCH X0 hx hZ hown (own_tw hw 119 rfl) hSA e0 hS0 (show h0.size ≤ h0.size by omega) hEL (own_mem_0) CH0.1 (vs := [.int (46 : Int32), .int (95 : Int32), .int (58 : Int32), .int (45 : Int32), .int (47 : Int32), .int (64 : Int32)]) (z := (6 : Int32)) own_lit_0 (by decide) rfl (g := (mkF m 36 #[vi (64 : Int32)] [])) rfl (hb hby d10_36) (n := 24) (by decide) (by decide) (by decide) (by decide)
    replace lta26 := own_lt lta26
    replace ltt26 := own_lt ltt26
    refine own_go st26 ?_
    show own_Fin p e below (T26.setTop (mkF m 38 #[vi (64 : Int32)] [(.ref sa26)])) _
    have z27 := E26.1
    have K27 := K0.ext E26
    have O27 := O0.ext E26
    have CH27 := CH0.trans hC26
    refine own_gs (cur' := T26.setTop (mkF m 39 #[vi (64 : Int32)] [(.int (64 : Int32)), (.ref sa26)])) ?_ ?_
    · refine XS.iloadN X26.here hx rfl (hb hby d10_38) rfl ?_
      exact Steps.refl _
    obtain ⟨cq28, kq28, q28a, q28b, q28c⟩ := isOf hZ26 e26 A26
    obtain ⟨_, _, ⟨T28, L28, k28, n28⟩, -, X28, ⟨Lc28, hQ28, l28, y28, z28⟩, st28⟩ := X26.virtualBack hx (y := own_n12) (z := own_n12) hown26 (mvT hZ26 (own_tw hw 120 rfl)) (mvT hZ26 (own_tw hw 121 rfl)) (notFace_of_selects (args := #[]) (mvT hZ26 (own_tw hw 123 rfl))) (mvT hZ26 (own_tw hw 123 rfl)) (mvT hZ26 (own_tw hw 122 rfl)) (by decide) (backOf (W := 0) (own_ix1_5 l Z a0 hW sa26 sb26 c26 h26 n0 (by omega) O27 A26 Fv26 Fc26 V26) hZ26 (own_tw hw 124 rfl) (own_tw hw 5 rfl) (by decide) (by decide)) q28a q28c (g := (mkF m 39 #[vi (64 : Int32)] [(.int (64 : Int32)), (.ref sa26)])) rfl (by rw [hml]; rfl) (Steps.refl _) (argsL := [(.int (64 : Int32))]) (rest := []) (lenOf pd_7 rfl) rfl (own_le rfl) (hb hby d10_39) (fun _ _ => ⟨rfl, e26, (by decide : 2 + 0 ≤ 2), (by decide : 28 + 0 ≤ 28)⟩)
    dsimp only [Pt.U, Pt.locs, Pt.cells, Pt.slots] at X28 l28 y28 z28 st28 hQ28
    subst l28 y28 z28
    obtain ⟨rfl, Nq28, eh28⟩ := hQ28
    have N28 := Fr.app N0 Nq28
    refine own_gs st28 ?_
    show own_Fin p e below (T28.setTop (mkF m 42 #[vi (64 : Int32)] [(.int (5 : Int32))])) _
    refine own_gs (cur' := T28.setTop (mkF m 50 #[vi (64 : Int32)] [(.int (1 : Int32))])) ?_ ?_
    · refine XS.ifNo X28.here hx rfl (hb hby d10_42) rfl ((if0 _ _).trans (flt ((by decide) : ¬ ((5 : Int32) < (0 : Int32)))).1) ?_
      refine XS.iconst X28.here hx rfl (hb hby d10_45) ?_
      refine XS.goto X28.here hx rfl (pc0 := 46) (pc' := 50) rfl (hb hby d10_46) (by decide) (by decide) ?_
      exact Steps.refl _
    obtain ⟨fs, hr, hrun, hended, hRE⟩ := X28.leaveW hS26 (show k26 ≤ T28.heap.size by rw [eh28]; omega) (v := (some (.int (1 : Int32)))) (fun h => by rw [Bd.returns] at h; cases h)
    refine ⟨_, _, retN X28 hx (t := .boolean) Bd.returns (by simp) (hb hby d10_50) hr, hrun, hended, _, _, rfl, ?_, ?_, hRE.1, hRE.2.1, hRE.2.2.1, hRE.2.2.2.mono (own_le rfl) (own_le rfl)⟩
    · show own_all_Q Z (64 : Int32) h0 n0 (some (.int (1 : Int32))) T28.heap _
      rw [eh28]
      exact ⟨rfl, N28, K27⟩
    · have hfin := CH27.trans (CHv.at X28 hZ26 hEL CH27.1)
      rw [hh]
      show CHr Z own_EL s.vm h0 T28.vm T28.heap
      rw [eh28]
      exact hfin
abbrev own_c11 : ByteArray := prog_2_method_1_code
def own_linit_Q (Z : State) (b1 a1 : Nat) (u1 : Value) (h0 : Heap) (n0 : Nat) (v : Option Value) (h : Heap) (L : List Loc) : Prop := v = none ∧ Fr n0 L ∧ Keep h0 h [b1] ∧ Fld Z h b1 "com/example/lease_lock/leaselock/LockName" "value" "Ljava/lang/String;" (.ref a1)
theorem ef_own_linit (m : MethodId) (x0 : Nat) (x1 : Nat) : entryFrame m #[(.ref x0), (.ref x1)] 2 = mkF m 0 #[vr x0, vr x1] [] := by first | (simp [entryFrame, mkF, argsToLocals, Value.category]; done) | rfl
abbrev own_n14 : MethodName := ⟨"com/example/lease_lock/leaselock/LockName", "<init>", "(Ljava/lang/String;)V"⟩
theorem d11_0 : decode own_c11 0 = .ok (.aload_n 0, 1) := by decide +kernel
theorem d11_1 : decode own_c11 1 = .ok (.invokespecial 1, 3) := by decide +kernel
theorem d11_4 : decode own_c11 4 = .ok (.aload_n 0, 1) := by decide +kernel
theorem d11_5 : decode own_c11 5 = .ok (.aload_n 1, 1) := by decide +kernel
theorem d11_6 : decode own_c11 6 = .ok (.putfield 7, 3) := by decide +kernel
theorem d11_9 : decode own_c11 9 = .ok (.return_, 1) := by decide +kernel
set_option maxRecDepth 65536 in
set_option maxHeartbeats 40000000 in
theorem own_linit (l : Launch) (Z : State) (a0 : Array Value) (hW : own_W Z a0) (b1 a1 : Nat) (u1 : Value) (h0 : Heap) (n0 : Nat) (Z0 : n0 ≤ h0.size) (O0 : Old Z n0 h0) (E1 : Exa Z h0 b1 "com/example/lease_lock/leaselock/LockName") (F1 : Fld Z h0 b1 "com/example/lease_lock/leaselock/LockName" "value" "Ljava/lang/String;" u1) (g1 : n0 ≤ b1) :
    MetFree l own_n14 (head1 (Jvm.Cond.code own_n14 own_c11 2 none :: []) ({ frames := 1, cells := 0, slots := 0, locals := 12 } : Room)) (fun a U => a = #[(.ref b1), (.ref a1)] ∧ Z.Warmed39 U.vm ∧ U.heap = h0) (fun _ _ _ _ _ => True) (fun _ U o U' => ∃ v L, o = .returned v ∧ own_linit_Q Z b1 a1 u1 h0 n0 v U'.heap L ∧ FrameEnd U o U' L ({ frames := 1, cells := 0, slots := 0, locals := 12 } : Room).cells ({ frames := 1, cells := 0, slots := 0, locals := 12 } : Room).slots) := by
  refine MetFree.of_bodySF (plainFor_of_name pn_com_example_lease_lock_leaselock_LockName) hisR ?_
  intro p e s m args below meth c s₁ Bd hml0 hP hK
  obtain ⟨rfl, hZ, hh⟩ := hP
  obtain ⟨hw, ⟨G1, O2, P5⟩, ⟨G3, O4, rG3⟩⟩ := id hW
  have hx := Bd.exec
  have hby := Bd.bytes
  have hml : c.maxLocals = 2 := hml0
  have hown : s.vm.findClass "com/example/lease_lock/leaselock/LockName" = some m.cls := findClass_of_methodNamed Bd.named
  have hnm := (name_of_methodNamed Bd.named Bd.method).1
  have X0 : Stand p l e ({ frames := 1, cells := 0, slots := 0, locals := 12 } : Room) s m #[(.ref b1), (.ref a1)] below meth c s₁ [] 0 0 := Stand.of_body Bd
  have e0 : s₁.heap = h0 := by rw [← hh, Bd.state]; rfl
  have N0 := Fr.nil n0
  have K0 := Keep.refl h0 [b1]
  have lt1 := own_lt E1.lt
  show own_Fin p e below (s₁.setTop (entryFrame m #[(.ref b1), (.ref a1)] 2)) _
  refine own_gs (castTop (ef_own_linit m b1 a1) (Steps.refl _)) ?_
  show own_Fin p e below (s₁.setTop (mkF m 0 #[vr b1, vr a1] [])) _
  refine own_gs (cur' := s₁.setTop (mkF m 1 #[vr b1, vr a1] [(.ref b1)])) ?_ ?_
  · refine XS.aloadN X0.here hx rfl (hb hby d11_0) rfl rfl ?_
    exact Steps.refl _
  obtain ⟨T11, X11, e11, st11⟩ := initO X0 hx hZ hown (own_tw hw 90 rfl) (own_tw hw 50 rfl) (own_tw hw 51 rfl) e0 (g := (mkF m 1 #[vr b1, vr a1] [(.ref b1)])) rfl (by rw [hml]; rfl) rfl (hb hby d11_1) (by decide) (W := 0) (own_le rfl) (by decide)
  refine own_go st11 ?_
  show own_Fin p e below (T11.setTop (mkF m 4 #[vr b1, vr a1] [])) _
  refine own_gs (cur' := T11.setTop (mkF m 6 #[vr b1, vr a1] [(.ref a1), (.ref b1)])) ?_ ?_
  · refine XS.aloadN X11.here hx rfl (hb hby d11_4) rfl rfl ?_
    refine XS.aloadN X11.here hx rfl (hb hby d11_5) rfl rfl ?_
    exact Steps.refl _
  obtain ⟨T12, h12, X12, e12, W12, st12⟩ := putF X11 hx hZ hown (host := "") (Or.inl (own_tw hw 91 rfl)) Via.refl e11 F1 E1 (Or.inr ⟨(own_tw hw 92 rfl), rfl, hnm⟩) (own_tw hw 86 rfl) (ty := (.object "java/lang/String")) (by decide) rfl rfl (g := (mkF m 6 #[vr b1, vr a1] [(.ref a1), (.ref b1)])) rfl rfl (hb hby d11_6)
  have F12 := F1.same W12
  refine own_go st12 ?_
  show own_Fin p e below (T12.setTop (mkF m 9 #[vr b1, vr a1] [])) _
  have z13 := W12.size
  have K13 := K0.wr W12 (Or.inl (List.mem_of_getElem? (i := 0) rfl))
  have O13 := O0.wr W12 (by omega)
  have N13 := Fr.snoc X12 N0 (by omega)
  obtain ⟨fs, hr, hrun, hended, hW1, hsame⟩ := X12.leave (v := none) (fun _ => rfl)
  refine ⟨_, _, X12.returnOut hx Bd.returns (hb hby d11_9) hr, hrun, hended, _, _, rfl, ?_, ⟨_, rfl⟩, hW1, hsame.mono (own_le rfl) (own_le rfl)⟩
  show own_linit_Q Z b1 a1 u1 h0 n0 none T12.heap _
  rw [e12]
  exact ⟨rfl, N13, K13, F12⟩
abbrev own_c12 : ByteArray := prog_2_method_2_code
def own_of1_Q (Z : State) (a1 t1 : Nat) (c0 : Int32) (h0 : Heap) (n0 : Nat) (v : Option Value) (h : Heap) (L : List Loc) : Prop := ∃ b : Nat, v = some (.ref b) ∧ Fr n0 L ∧ Keep h0 h [] ∧ Exa Z h b "com/example/lease_lock/leaselock/LockName" ∧ Fld Z h b "com/example/lease_lock/leaselock/LockName" "value" "Ljava/lang/String;" (.ref a1) ∧ h0.size ≤ b
theorem ef_own_of1 (m : MethodId) (x0 : Nat) : entryFrame m #[(.ref x0)] 2 = mkF m 0 #[vr x0, .unset] [] := by first | (simp [entryFrame, mkF, argsToLocals, Value.category]; done) | rfl
abbrev own_n15 : MethodName := ⟨"com/example/lease_lock/leaselock/LockName", "of", "(Ljava/lang/String;)Lcom/example/lease_lock/leaselock/LockName;"⟩
theorem d12_0 : decode own_c12 0 = .ok (.aload_n 0, 1) := by decide +kernel
theorem d12_1 : decode own_c12 1 = .ok (.ifnonnull 13, 3) := by decide +kernel
theorem d12_14 : decode own_c12 14 = .ok (.aload_n 0, 1) := by decide +kernel
theorem d12_15 : decode own_c12 15 = .ok (.invokevirtual 20, 3) := by decide +kernel
abbrev own_n16 : MethodName := ⟨"java/lang/String", "isEmpty", "()Z"⟩
theorem d12_18 : decode own_c12 18 = .ok (.ifCond .eq 13, 3) := by decide +kernel
theorem d12_31 : decode own_c12 31 = .ok (.aload_n 0, 1) := by decide +kernel
theorem d12_32 : decode own_c12 32 = .ok (.invokevirtual 28, 3) := by decide +kernel
theorem d12_35 : decode own_c12 35 = .ok (.sipush 200, 3) := by decide +kernel
theorem d12_38 : decode own_c12 38 = .ok (.if_icmp .le 20, 3) := by decide +kernel
theorem d12_58 : decode own_c12 58 = .ok (.iconst 0, 1) := by decide +kernel
theorem d12_59 : decode own_c12 59 = .ok (.istore_n 1, 1) := by decide +kernel
theorem d12_60 : decode own_c12 60 = .ok (.iload_n 1, 1) := by decide +kernel
theorem d12_61 : decode own_c12 61 = .ok (.aload_n 0, 1) := by decide +kernel
theorem d12_62 : decode own_c12 62 = .ok (.invokevirtual 28, 3) := by decide +kernel
theorem d12_65 : decode own_c12 65 = .ok (.if_icmp .ge 33, 3) := by decide +kernel
theorem d12_68 : decode own_c12 68 = .ok (.aload_n 0, 1) := by decide +kernel
theorem d12_69 : decode own_c12 69 = .ok (.iload_n 1, 1) := by decide +kernel
theorem d12_70 : decode own_c12 70 = .ok (.invokevirtual 36, 3) := by decide +kernel
theorem d12_73 : decode own_c12 73 = .ok (.invokestatic 40, 3) := by decide +kernel
theorem pd_8 : parseMethodDescriptor "(C)Z" = some ⟨[.char], some .boolean⟩ := by decide +kernel
theorem d12_76 : decode own_c12 76 = .ok (.ifCond .ne 16, 3) := by decide +kernel
theorem d12_92 : decode own_c12 92 = .ok (.iinc 1 1, 3) := by decide +kernel
theorem d12_95 : decode own_c12 95 = .ok (.goto (-35), 3) := by decide +kernel
theorem d12_98 : decode own_c12 98 = .ok (.new 8, 3) := by decide +kernel
theorem d12_101 : decode own_c12 101 = .ok (.dup, 1) := by decide +kernel
theorem d12_102 : decode own_c12 102 = .ok (.aload_n 0, 1) := by decide +kernel
theorem d12_103 : decode own_c12 103 = .ok (.invokespecial 48, 3) := by decide +kernel
theorem pd_9 : parseMethodDescriptor "(Ljava/lang/String;)V" = some ⟨[(.object "java/lang/String")], none⟩ := by decide +kernel
theorem d12_106 : decode own_c12 106 = .ok (.areturn, 1) := by decide +kernel
set_option maxRecDepth 65536 in
set_option maxHeartbeats 40000000 in
theorem own_of1 (l : Launch) (Z : State) (a0 : Array Value) (hW : own_W Z a0) (a1 t1 : Nat) (c0 : Int32) (h0 : Heap) (n0 : Nat) (Z0 : n0 ≤ h0.size) (O0 : Old Z n0 h0) (F1 : own_Str Z h0 a1 t1 [c0]) (hc0 : own_ok c0) :
    MetFree l own_n15 (head1 (Jvm.Cond.code own_n15 own_c12 2 (some (.object "com/example/lease_lock/leaselock/LockName")) :: []) ({ frames := 5, cells := 3, slots := 29, locals := 80 } : Room)) (fun a U => a = #[(.ref a1)] ∧ Z.Warmed39 U.vm ∧ U.heap = h0 ∧ CHv Z own_EL U.vm h0 ∧ ∀ x ∈ ([] : List Addr), Safe Z own_EL U.vm h0 x) (fun _ _ _ _ _ => True) (fun _ U o U' => ∃ v L, o = .returned v ∧ own_of1_Q Z a1 t1 c0 h0 n0 v U'.heap L ∧ CHr Z own_EL U.vm U.heap U'.vm U'.heap ∧ ReturnedEndW U o U' L ({ frames := 5, cells := 3, slots := 29, locals := 80 } : Room).cells ({ frames := 5, cells := 3, slots := 29, locals := 80 } : Room).slots) := by
  refine MetFree.of_bodySF (plainFor_of_name pn_com_example_lease_lock_leaselock_LockName) hisR ?_
  intro p e s m args below meth c s₁ Bd hml0 hP hK
  obtain ⟨rfl, hZ, hh, hCH, hSf⟩ := hP
  obtain ⟨hw, ⟨G1, O2, P5⟩, ⟨G3, O4, rG3⟩⟩ := id hW
  have hx := Bd.exec
  have hby := Bd.bytes
  have hml : c.maxLocals = 2 := hml0
  have hown : s.vm.findClass "com/example/lease_lock/leaselock/LockName" = some m.cls := findClass_of_methodNamed Bd.named
  have hnm := (name_of_methodNamed Bd.named Bd.method).1
  have X0 : Stand p l e ({ frames := 5, cells := 3, slots := 29, locals := 80 } : Room) (s.setVm s.vm) m #[(.ref a1)] below meth c s₁ [] 0 0 := Stand.of_body Bd
  have e0 : s₁.heap = h0 := by rw [← hh, Bd.state]; rfl
  have N0 := Fr.nil n0
  have K0 := Keep.refl h0 []
  have hS0 : s.Since s.vm h0.size := (State.WarmedH.refl s).since _
  have CH0 : CHr Z own_EL s.vm h0 s.vm h0 := CHr.refl hCH
  have hEL := own_EW hw
  have hSA := own_SA hw
  have E1 := F1.exa
  have lt1 := F1.lt
  have hlat : ∀ c ∈ ([c0] : List Int32), ¬ (255 : Int32) < c := by
    intro c hc
    simp only [List.mem_cons, List.not_mem_nil, or_false] at hc
    rcases hc with rfl
    · exact (own_ok_lat hc0).2
  show own_Fin p e below (s₁.setTop (entryFrame m #[(.ref a1)] 2)) _
  refine own_gs (castTop (ef_own_of1 m a1) (Steps.refl _)) ?_
  show own_Fin p e below (s₁.setTop (mkF m 0 #[vr a1, uu] [])) _
  refine own_gs (cur' := s₁.setTop (mkF m 15 #[vr a1, uu] [(.ref a1)])) ?_ ?_
  · refine XS.aloadN X0.here hx rfl (hb hby d12_0) rfl rfl ?_
    refine XS.ifnonnullYes X0.here hx rfl (pc0 := 1) (pc' := 14) rfl (hb hby d12_1) rfl (by decide) (by decide) ?_
    refine XS.aloadN X0.here hx rfl (hb hby d12_14) rfl rfl ?_
    exact Steps.refl _
  obtain ⟨cq11, kq11, q11a, q11b, q11c⟩ := isOf hZ e0 E1
  obtain ⟨_, _, ⟨T11, L11, k11, n11⟩, -, X11, ⟨Lc11, hQ11, l11, y11, z11⟩, st11⟩ := X0.virtualBack hx (y := own_n16) (z := own_n16) hown (mvT hZ (own_tw hw 66 rfl)) (mvT hZ (own_tw hw 67 rfl)) (notFace_of_selects (args := #[]) (mvT hZ (own_tw hw 69 rfl))) (mvT hZ (own_tw hw 69 rfl)) (mvT hZ (own_tw hw 68 rfl)) (by decide) (own_empB (W := 0) hZ hw F1 (by decide) (by decide)) q11a q11c (g := (mkF m 15 #[vr a1, uu] [(.ref a1)])) rfl (by rw [hml]; rfl) (Steps.refl _) (argsL := []) (rest := []) (lenOf pd_5 rfl) rfl (own_le rfl) (hb hby d12_15) (fun _ _ => ⟨rfl, e0, (by decide : 0 + 0 ≤ 3), (by decide : 0 + 0 ≤ 29)⟩)
  dsimp only [Pt.U, Pt.locs, Pt.cells, Pt.slots] at X11 l11 y11 z11 st11 hQ11
  subst l11 y11 z11
  obtain ⟨rfl, rfl, eh11⟩ := hQ11
  have N11 := Fr.app N0 (Fr.nil n0)
  refine own_gs st11 ?_
  show own_Fin p e below (T11.setTop (mkF m 18 #[vr a1, uu] [(.int (0 : Int32))])) _
  refine own_gs (cur' := T11.setTop (mkF m 32 #[vr a1, uu] [(.ref a1)])) ?_ ?_
  · refine XS.ifYes X11.here hx rfl (pc0 := 18) (pc' := 31) rfl (hb hby d12_18) rfl ((if0 _ _).trans (teq ((by decide) : (0 : Int32) = (0 : Int32))).1) (by decide) (by decide) ?_
    refine XS.aloadN X11.here hx rfl (hb hby d12_31) rfl rfl ?_
    exact Steps.refl _
  obtain ⟨cq12, kq12, q12a, q12b, q12c⟩ := isOf hZ eh11 E1
  obtain ⟨_, _, ⟨T12, L12, k12, n12⟩, -, X12, ⟨Lc12, hQ12, l12, y12, z12⟩, st12⟩ := X11.virtualBack hx (y := own_n11) (z := own_n11) hown (mvT hZ (own_tw hw 71 rfl)) (mvT hZ (own_tw hw 72 rfl)) (notFace_of_selects (args := #[]) (mvT hZ (own_tw hw 74 rfl))) (mvT hZ (own_tw hw 74 rfl)) (mvT hZ (own_tw hw 73 rfl)) (by decide) (own_lenB (W := 0) hZ hw F1 (O2.ext O0.2) P5 (by decide) (by decide)) q12a q12c (g := (mkF m 32 #[vr a1, uu] [(.ref a1)])) rfl (by rw [hml]; rfl) (Steps.refl _) (argsL := []) (rest := []) (lenOf pd_6 rfl) rfl (own_le rfl) (hb hby d12_32) (fun _ _ => ⟨rfl, eh11, (by decide : 0 + 0 ≤ 3), (by decide : 0 + 0 ≤ 29)⟩)
  dsimp only [Pt.U, Pt.locs, Pt.cells, Pt.slots] at X12 l12 y12 z12 st12 hQ12
  subst l12 y12 z12
  obtain ⟨rfl, rfl, eh12⟩ := hQ12
  have N12 := Fr.app N11 (Fr.nil n0)
  refine own_gs st12 ?_
  show own_Fin p e below (T12.setTop (mkF m 35 #[vr a1, uu] [(.int (1 : Int32))])) _
  refine own_gs (cur' := T12.setTop (mkF m 62 #[vr a1, vi (0 : Int32)] [(.ref a1), (.int (0 : Int32))])) ?_ ?_
  · refine XS.sipush X12.here hx rfl (hb hby d12_35) ?_
    refine XS.icmpYes X12.here hx rfl (pc0 := 38) (pc' := 58) rfl (hb hby d12_38) rfl (flt ((by decide) : ¬ ((200 : Int32) < (1 : Int32)))).2.2.2 (by decide) (by decide) ?_
    refine XS.iconst X12.here hx rfl (hb hby d12_58) ?_
    refine XS.istoreN X12.here hx rfl (hb hby d12_59) rfl (l' := #[vr a1, vi (0 : Int32)]) rfl ?_
    refine XS.iloadN X12.here hx rfl (hb hby d12_60) rfl ?_
    refine XS.aloadN X12.here hx rfl (hb hby d12_61) rfl rfl ?_
    exact Steps.refl _
  obtain ⟨cq13, kq13, q13a, q13b, q13c⟩ := isOf hZ eh12 E1
  obtain ⟨_, _, ⟨T13, L13, k13, n13⟩, -, X13, ⟨Lc13, hQ13, l13, y13, z13⟩, st13⟩ := X12.virtualBack hx (y := own_n11) (z := own_n11) hown (mvT hZ (own_tw hw 71 rfl)) (mvT hZ (own_tw hw 72 rfl)) (notFace_of_selects (args := #[]) (mvT hZ (own_tw hw 74 rfl))) (mvT hZ (own_tw hw 74 rfl)) (mvT hZ (own_tw hw 73 rfl)) (by decide) (own_lenB (W := 1) hZ hw F1 (O2.ext O0.2) P5 (by decide) (by decide)) q13a q13c (g := (mkF m 62 #[vr a1, vi (0 : Int32)] [(.ref a1), (.int (0 : Int32))])) rfl (by rw [hml]; rfl) (Steps.refl _) (argsL := []) (rest := [(.int (0 : Int32))]) (lenOf pd_6 rfl) rfl (own_le rfl) (hb hby d12_62) (fun _ _ => ⟨rfl, eh12, (by decide : 0 + 0 ≤ 3), (by decide : 0 + 0 ≤ 29)⟩)
  dsimp only [Pt.U, Pt.locs, Pt.cells, Pt.slots] at X13 l13 y13 z13 st13 hQ13
  subst l13 y13 z13
  obtain ⟨rfl, rfl, eh13⟩ := hQ13
  have N13 := Fr.app N12 (Fr.nil n0)
  refine own_gs st13 ?_
  show own_Fin p e below (T13.setTop (mkF m 65 #[vr a1, vi (0 : Int32)] [(.int (1 : Int32)), (.int (0 : Int32))])) _
  refine own_gs (cur' := T13.setTop (mkF m 70 #[vr a1, vi (0 : Int32)] [(.int (0 : Int32)), (.ref a1)])) ?_ ?_
  · refine XS.icmpNo X13.here hx rfl (hb hby d12_65) rfl (tlt ((by decide) : (0 : Int32) < (1 : Int32))).2.1 ?_
    refine XS.aloadN X13.here hx rfl (hb hby d12_68) rfl rfl ?_
    refine XS.iloadN X13.here hx rfl (hb hby d12_69) rfl ?_
    exact Steps.refl _
  obtain ⟨cq14, kq14, q14a, q14b, q14c⟩ := isOf hZ eh13 E1
  obtain ⟨_, _, ⟨T14, L14, k14, n14⟩, -, X14, ⟨Lc14, hQ14, l14, y14, z14⟩, st14⟩ := X13.virtualBack hx (y := own_n1) (z := own_n1) hown (mvT hZ (own_tw hw 81 rfl)) (mvT hZ (own_tw hw 13 rfl)) (notFace_of_selects (args := #[]) (mvT hZ (own_tw hw 15 rfl))) (mvT hZ (own_tw hw 15 rfl)) (mvT hZ (own_tw hw 14 rfl)) (by decide) (own_chL (W := 0) hZ hw F1 hlat (O2.ext O0.2) P5 (O4.ext O0.2) rG3 (i := 0) (Nat.le_of_ble_eq_true rfl) rfl (by decide) (by decide)) q14a q14c (g := (mkF m 70 #[vr a1, vi (0 : Int32)] [(.int (0 : Int32)), (.ref a1)])) rfl (by rw [hml]; rfl) (Steps.refl _) (argsL := [(.int (0 : Int32))]) (rest := []) (lenOf pd_0 rfl) rfl (own_le rfl) (hb hby d12_70) (fun _ _ => ⟨rfl, eh13, (by decide : 0 + 0 ≤ 3), (by decide : 0 + 0 ≤ 29)⟩)
  dsimp only [Pt.U, Pt.locs, Pt.cells, Pt.slots] at X14 l14 y14 z14 st14 hQ14
  subst l14 y14 z14
  obtain ⟨rfl, rfl, eh14⟩ := hQ14
  have N14 := Fr.app N13 (Fr.nil n0)
  refine own_gs st14 ?_
  show own_Fin p e below (T14.setTop (mkF m 73 #[vr a1, vi (0 : Int32)] [(.int c0)])) _
  obtain ⟨_, _, ⟨T15, L15, k15, n15⟩, -, Xw15, hSw15, hgw15, ⟨Lc15, hQ15, l15, y15, z15, hC15⟩, st15⟩ := callSS X14 hx (y := own_n13) hown (mvT hZ (own_tw hw 82 rfl)) (mvT hZ (own_tw hw 83 rfl)) (mvT hZ (own_tw hw 64 rfl)) (mvT hZ (own_tw hw 84 rfl)) (by decide) (own_backS (W := 0) (own_all l Z a0 hW c0 h0 n0 (by omega) O0 hc0) hZ (own_tw hw 84 rfl) (own_tw hw 64 rfl) (by decide) (by decide) hEL CH0.1 all0) (g := (mkF m 73 #[vr a1, vi (0 : Int32)] [(.int c0)])) rfl (by rw [hml]; rfl) (argsL := [(.int c0)]) (rest := []) (lenOf pd_8 rfl) rfl (own_le rfl) (hb hby d12_73) (fun _ _ => ⟨rfl, eh14, (by decide : 0 + 2 ≤ 3), (by decide : 0 + 28 ≤ 29)⟩)
  dsimp only [Pt.U, Pt.locs, Pt.cells, Pt.slots] at Xw15 hSw15 hgw15 hC15 l15 y15 z15 st15 hQ15
  subst l15 y15 z15
  obtain ⟨X15, hS15, hZ15, hown15⟩ := rebS hS0 (show h0.size ≤ T14.heap.size by rw [eh14]; omega) Xw15 hSw15 hgw15 hZ hown
  obtain ⟨rfl, Nq15, Kq15⟩ := hQ15
  have N15 := Fr.app N14 Nq15
  have z16 := Kq15.1
  have K16 := K0.trans Kq15 all0
  have O16 := O0.keep Kq15 all0
  have CH16 := CH0.trans hC15
  refine own_gs st15 ?_
  show own_Fin p e below (T15.setTop (mkF m 76 #[vr a1, vi (0 : Int32)] [(.int (1 : Int32))])) _
  have f17 := (F1.keep Kq15 nin0 nin0)
  refine own_gs (cur' := T15.setTop (mkF m 62 #[vr a1, vi (1 : Int32)] [(.ref a1), (.int (1 : Int32))])) ?_ ?_
  · refine XS.ifYes X15.here hx rfl (pc0 := 76) (pc' := 92) rfl (hb hby d12_76) rfl ((if0 _ _).trans (feq ((by decide) : ¬ ((1 : Int32) = (0 : Int32)))).2) (by decide) (by decide) ?_
    refine XS.iinc X15.here hx rfl (hb hby d12_92) rfl (l' := #[vr a1, vi (1 : Int32)]) rfl ?_
    refine XS.goto X15.here hx rfl (pc0 := 95) (pc' := 60) rfl (hb hby d12_95) (by decide) (by decide) ?_
    refine XS.iloadN X15.here hx rfl (hb hby d12_60) rfl ?_
    refine XS.aloadN X15.here hx rfl (hb hby d12_61) rfl rfl ?_
    exact Steps.refl _
  have f19 := (E1.keep Kq15)
  obtain ⟨cq18, kq18, q18a, q18b, q18c⟩ := isOf hZ15 rfl f19
  obtain ⟨_, _, ⟨T18, L18, k18, n18⟩, -, X18, ⟨Lc18, hQ18, l18, y18, z18⟩, st18⟩ := X15.virtualBack hx (y := own_n11) (z := own_n11) hown15 (mvT hZ15 (own_tw hw 71 rfl)) (mvT hZ15 (own_tw hw 72 rfl)) (notFace_of_selects (args := #[]) (mvT hZ15 (own_tw hw 74 rfl))) (mvT hZ15 (own_tw hw 74 rfl)) (mvT hZ15 (own_tw hw 73 rfl)) (by decide) (own_lenB (W := 1) hZ15 hw f17 (O2.ext O16.2) P5 (by decide) (by decide)) q18a q18c (g := (mkF m 62 #[vr a1, vi (1 : Int32)] [(.ref a1), (.int (1 : Int32))])) rfl (by rw [hml]; rfl) (Steps.refl _) (argsL := []) (rest := [(.int (1 : Int32))]) (lenOf pd_6 rfl) rfl (own_le rfl) (hb hby d12_62) (fun _ _ => ⟨rfl, rfl, (by decide : 2 + 0 ≤ 3), (by decide : 28 + 0 ≤ 29)⟩)
  dsimp only [Pt.U, Pt.locs, Pt.cells, Pt.slots] at X18 l18 y18 z18 st18 hQ18
  subst l18 y18 z18
  obtain ⟨rfl, rfl, eh18⟩ := hQ18
  have N18 := Fr.app N15 (Fr.nil n0)
  refine own_gs st18 ?_
  show own_Fin p e below (T18.setTop (mkF m 65 #[vr a1, vi (1 : Int32)] [(.int (1 : Int32)), (.int (1 : Int32))])) _
  refine own_gs (cur' := T18.setTop (mkF m 98 #[vr a1, vi (1 : Int32)] [])) ?_ ?_
  · refine XS.icmpYes X18.here hx rfl (pc0 := 65) (pc' := 98) rfl (hb hby d12_65) rfl (flt ((by decide) : ¬ ((1 : Int32) < (1 : Int32)))).2.1 (by decide) (by decide) ?_
    exact Steps.refl _
  obtain ⟨T20, h20, X20, e20, E20, A20, D20, -, st20⟩ := newO X18 hx hZ15 hown15 (own_tw hw 85 rfl) (own_tw hw 86 rfl) (own_tw hw 64 rfl) eh18 (g := (mkF m 98 #[vr a1, vi (1 : Int32)] [])) rfl (hb hby d12_98) (by decide) (by decide)
  obtain ⟨b20, g20⟩ : ∃ z, z = T15.heap.size := ⟨_, rfl⟩
  rw [← g20] at A20 D20 st20
  have lt20 := own_lt A20.lt
  refine own_go st20 ?_
  show own_Fin p e below (T20.setTop (mkF m 101 #[vr a1, vi (1 : Int32)] [(.ref b20)])) _
  have z21 := E20.1
  have K21 := K16.ext E20
  have O21 := O16.ext E20
  have CH21 := CH16.trans (CHr.ext E20 CH16.1)
  have F20_value : Fld Z h20 b20 "com/example/lease_lock/leaselock/LockName" "value" "Ljava/lang/String;" .null := D20 (Or.inr (own_tw hw 92 rfl)) (ty := (.object "java/lang/String")) (by decide)
  refine own_gs (cur' := T20.setTop (mkF m 103 #[vr a1, vi (1 : Int32)] [(.ref a1), (.ref b20), (.ref b20)])) ?_ ?_
  · refine XS.dup X20.here hx rfl (hb hby d12_101) rfl rfl ?_
    refine XS.aloadN X20.here hx rfl (hb hby d12_102) rfl rfl ?_
    exact Steps.refl _
  obtain ⟨_, _, ⟨T22, L22, k22, n22⟩, -, X22, ⟨Lc22, hQ22, l22, y22, z22⟩, st22⟩ := X20.specialBack hx (y := own_n14) rfl hown15 (mvT hZ15 (own_tw hw 87 rfl)) (mvT hZ15 (own_tw hw 88 rfl)) (mvT hZ15 (own_tw hw 89 rfl)) (by decide) (backOf (W := 1) (own_linit l Z a0 hW b20 a1 .null h20 n0 (by omega) O21 A20 F20_value (by omega)) hZ15 (own_tw hw 89 rfl) (own_tw hw 64 rfl) (by decide) (by decide)) (g := (mkF m 103 #[vr a1, vi (1 : Int32)] [(.ref a1), (.ref b20), (.ref b20)])) rfl (by rw [hml]; rfl) (Steps.refl _) (a := b20) (argsL := [(.ref a1)]) (rest := [(.ref b20)]) (lenOf pd_9 rfl) rfl (own_le rfl) (hb hby d12_103) (fun _ _ => ⟨rfl, e20, (by decide : 3 + 0 ≤ 3), (by decide : 29 + 0 ≤ 29)⟩)
  dsimp only [Pt.U, Pt.locs, Pt.cells, Pt.slots] at X22 l22 y22 z22 st22 hQ22
  subst l22 y22 z22
  obtain ⟨rfl, Nq22, Kq22, Fo22⟩ := hQ22
  have N22 := Fr.app N18 Nq22
  have z23 := Kq22.1
  have K23 := K21.trans Kq22 (allS (Or.inr (by omega)) all0)
  have O23 := O21.keep Kq22 (allS (by omega) all0)
  have CH23 := CH21.trans (CHr.keep Kq22 (allS (Safe.exa hZ15.alike A20 (by decide) (by decide)) all0) CH21.1)
  refine own_gs st22 ?_
  show own_Fin p e below (T22.setTop (mkF m 106 #[vr a1, vi (1 : Int32)] [(.ref b20)])) _
  have f24 := (A20.keep Kq22)
  obtain ⟨fs, hr, hrun, hended, hRE⟩ := X22.leaveW hS15 (show T15.heap.size ≤ T22.heap.size by omega) (v := (some (.ref b20))) (fun h => by rw [Bd.returns] at h; cases h)
  refine ⟨_, _, X22.areturnOut hx rfl Bd.returns rfl (hb hby d12_106) hr, hrun, hended, _, _, rfl, ?_, ?_, hRE.1, hRE.2.1, hRE.2.2.1, hRE.2.2.2.mono (own_le rfl) (own_le rfl)⟩
  · show own_of1_Q Z a1 t1 c0 h0 n0 (some (.ref b20)) T22.heap _
    exact ⟨_, rfl, N22, K23, f24, Fo22, (by omega)⟩
  · have hfin := CH23.trans (CHv.at X22 hZ15 hEL CH23.1)
    rw [hh]
    show CHr Z own_EL s.vm h0 T22.vm T22.heap
    exact hfin
def own_of2_Q (Z : State) (a1 t1 : Nat) (c0 c1 : Int32) (h0 : Heap) (n0 : Nat) (v : Option Value) (h : Heap) (L : List Loc) : Prop := ∃ b : Nat, v = some (.ref b) ∧ Fr n0 L ∧ Keep h0 h [] ∧ Exa Z h b "com/example/lease_lock/leaselock/LockName" ∧ Fld Z h b "com/example/lease_lock/leaselock/LockName" "value" "Ljava/lang/String;" (.ref a1) ∧ h0.size ≤ b
theorem ef_own_of2 (m : MethodId) (x0 : Nat) : entryFrame m #[(.ref x0)] 2 = mkF m 0 #[vr x0, .unset] [] := by first | (simp [entryFrame, mkF, argsToLocals, Value.category]; done) | rfl
set_option maxRecDepth 65536 in
set_option maxHeartbeats 40000000 in
theorem own_of2 (l : Launch) (Z : State) (a0 : Array Value) (hW : own_W Z a0) (a1 t1 : Nat) (c0 c1 : Int32) (h0 : Heap) (n0 : Nat) (Z0 : n0 ≤ h0.size) (O0 : Old Z n0 h0) (F1 : own_Str Z h0 a1 t1 [c0, c1]) (hc0 : own_ok c0) (hc1 : own_ok c1) :
    MetFree l own_n15 (head1 (Jvm.Cond.code own_n15 own_c12 2 (some (.object "com/example/lease_lock/leaselock/LockName")) :: []) ({ frames := 5, cells := 5, slots := 57, locals := 80 } : Room)) (fun a U => a = #[(.ref a1)] ∧ Z.Warmed39 U.vm ∧ U.heap = h0 ∧ CHv Z own_EL U.vm h0 ∧ ∀ x ∈ ([] : List Addr), Safe Z own_EL U.vm h0 x) (fun _ _ _ _ _ => True) (fun _ U o U' => ∃ v L, o = .returned v ∧ own_of2_Q Z a1 t1 c0 c1 h0 n0 v U'.heap L ∧ CHr Z own_EL U.vm U.heap U'.vm U'.heap ∧ ReturnedEndW U o U' L ({ frames := 5, cells := 5, slots := 57, locals := 80 } : Room).cells ({ frames := 5, cells := 5, slots := 57, locals := 80 } : Room).slots) := by
  refine MetFree.of_bodySF (plainFor_of_name pn_com_example_lease_lock_leaselock_LockName) hisR ?_
  intro p e s m args below meth c s₁ Bd hml0 hP hK
  obtain ⟨rfl, hZ, hh, hCH, hSf⟩ := hP
  obtain ⟨hw, ⟨G1, O2, P5⟩, ⟨G3, O4, rG3⟩⟩ := id hW
  have hx := Bd.exec
  have hby := Bd.bytes
  have hml : c.maxLocals = 2 := hml0
  have hown : s.vm.findClass "com/example/lease_lock/leaselock/LockName" = some m.cls := findClass_of_methodNamed Bd.named
  have hnm := (name_of_methodNamed Bd.named Bd.method).1
  have X0 : Stand p l e ({ frames := 5, cells := 5, slots := 57, locals := 80 } : Room) (s.setVm s.vm) m #[(.ref a1)] below meth c s₁ [] 0 0 := Stand.of_body Bd
  have e0 : s₁.heap = h0 := by rw [← hh, Bd.state]; rfl
  have N0 := Fr.nil n0
  have K0 := Keep.refl h0 []
  have hS0 : s.Since s.vm h0.size := (State.WarmedH.refl s).since _
  have CH0 : CHr Z own_EL s.vm h0 s.vm h0 := CHr.refl hCH
  have hEL := own_EW hw
  have hSA := own_SA hw
  have E1 := F1.exa
  have lt1 := F1.lt
  have hlat : ∀ c ∈ ([c0, c1] : List Int32), ¬ (255 : Int32) < c := by
    intro c hc
    simp only [List.mem_cons, List.not_mem_nil, or_false] at hc
    rcases hc with rfl | rfl
    · exact (own_ok_lat hc0).2
    · exact (own_ok_lat hc1).2
  show own_Fin p e below (s₁.setTop (entryFrame m #[(.ref a1)] 2)) _
  refine own_gs (castTop (ef_own_of2 m a1) (Steps.refl _)) ?_
  show own_Fin p e below (s₁.setTop (mkF m 0 #[vr a1, uu] [])) _
  refine own_gs (cur' := s₁.setTop (mkF m 15 #[vr a1, uu] [(.ref a1)])) ?_ ?_
  · refine XS.aloadN X0.here hx rfl (hb hby d12_0) rfl rfl ?_
    refine XS.ifnonnullYes X0.here hx rfl (pc0 := 1) (pc' := 14) rfl (hb hby d12_1) rfl (by decide) (by decide) ?_
    refine XS.aloadN X0.here hx rfl (hb hby d12_14) rfl rfl ?_
    exact Steps.refl _
  obtain ⟨cq11, kq11, q11a, q11b, q11c⟩ := isOf hZ e0 E1
  obtain ⟨_, _, ⟨T11, L11, k11, n11⟩, -, X11, ⟨Lc11, hQ11, l11, y11, z11⟩, st11⟩ := X0.virtualBack hx (y := own_n16) (z := own_n16) hown (mvT hZ (own_tw hw 66 rfl)) (mvT hZ (own_tw hw 67 rfl)) (notFace_of_selects (args := #[]) (mvT hZ (own_tw hw 69 rfl))) (mvT hZ (own_tw hw 69 rfl)) (mvT hZ (own_tw hw 68 rfl)) (by decide) (own_empB (W := 0) hZ hw F1 (by decide) (by decide)) q11a q11c (g := (mkF m 15 #[vr a1, uu] [(.ref a1)])) rfl (by rw [hml]; rfl) (Steps.refl _) (argsL := []) (rest := []) (lenOf pd_5 rfl) rfl (own_le rfl) (hb hby d12_15) (fun _ _ => ⟨rfl, e0, (by decide : 0 + 0 ≤ 5), (by decide : 0 + 0 ≤ 57)⟩)
  dsimp only [Pt.U, Pt.locs, Pt.cells, Pt.slots] at X11 l11 y11 z11 st11 hQ11
  subst l11 y11 z11
  obtain ⟨rfl, rfl, eh11⟩ := hQ11
  have N11 := Fr.app N0 (Fr.nil n0)
  refine own_gs st11 ?_
  show own_Fin p e below (T11.setTop (mkF m 18 #[vr a1, uu] [(.int (0 : Int32))])) _
  refine own_gs (cur' := T11.setTop (mkF m 32 #[vr a1, uu] [(.ref a1)])) ?_ ?_
  · refine XS.ifYes X11.here hx rfl (pc0 := 18) (pc' := 31) rfl (hb hby d12_18) rfl ((if0 _ _).trans (teq ((by decide) : (0 : Int32) = (0 : Int32))).1) (by decide) (by decide) ?_
    refine XS.aloadN X11.here hx rfl (hb hby d12_31) rfl rfl ?_
    exact Steps.refl _
  obtain ⟨cq12, kq12, q12a, q12b, q12c⟩ := isOf hZ eh11 E1
  obtain ⟨_, _, ⟨T12, L12, k12, n12⟩, -, X12, ⟨Lc12, hQ12, l12, y12, z12⟩, st12⟩ := X11.virtualBack hx (y := own_n11) (z := own_n11) hown (mvT hZ (own_tw hw 71 rfl)) (mvT hZ (own_tw hw 72 rfl)) (notFace_of_selects (args := #[]) (mvT hZ (own_tw hw 74 rfl))) (mvT hZ (own_tw hw 74 rfl)) (mvT hZ (own_tw hw 73 rfl)) (by decide) (own_lenB (W := 0) hZ hw F1 (O2.ext O0.2) P5 (by decide) (by decide)) q12a q12c (g := (mkF m 32 #[vr a1, uu] [(.ref a1)])) rfl (by rw [hml]; rfl) (Steps.refl _) (argsL := []) (rest := []) (lenOf pd_6 rfl) rfl (own_le rfl) (hb hby d12_32) (fun _ _ => ⟨rfl, eh11, (by decide : 0 + 0 ≤ 5), (by decide : 0 + 0 ≤ 57)⟩)
  dsimp only [Pt.U, Pt.locs, Pt.cells, Pt.slots] at X12 l12 y12 z12 st12 hQ12
  subst l12 y12 z12
  obtain ⟨rfl, rfl, eh12⟩ := hQ12
  have N12 := Fr.app N11 (Fr.nil n0)
  refine own_gs st12 ?_
  show own_Fin p e below (T12.setTop (mkF m 35 #[vr a1, uu] [(.int (2 : Int32))])) _
  refine own_gs (cur' := T12.setTop (mkF m 62 #[vr a1, vi (0 : Int32)] [(.ref a1), (.int (0 : Int32))])) ?_ ?_
  · refine XS.sipush X12.here hx rfl (hb hby d12_35) ?_
    refine XS.icmpYes X12.here hx rfl (pc0 := 38) (pc' := 58) rfl (hb hby d12_38) rfl (flt ((by decide) : ¬ ((200 : Int32) < (2 : Int32)))).2.2.2 (by decide) (by decide) ?_
    refine XS.iconst X12.here hx rfl (hb hby d12_58) ?_
    refine XS.istoreN X12.here hx rfl (hb hby d12_59) rfl (l' := #[vr a1, vi (0 : Int32)]) rfl ?_
    refine XS.iloadN X12.here hx rfl (hb hby d12_60) rfl ?_
    refine XS.aloadN X12.here hx rfl (hb hby d12_61) rfl rfl ?_
    exact Steps.refl _
  obtain ⟨cq13, kq13, q13a, q13b, q13c⟩ := isOf hZ eh12 E1
  obtain ⟨_, _, ⟨T13, L13, k13, n13⟩, -, X13, ⟨Lc13, hQ13, l13, y13, z13⟩, st13⟩ := X12.virtualBack hx (y := own_n11) (z := own_n11) hown (mvT hZ (own_tw hw 71 rfl)) (mvT hZ (own_tw hw 72 rfl)) (notFace_of_selects (args := #[]) (mvT hZ (own_tw hw 74 rfl))) (mvT hZ (own_tw hw 74 rfl)) (mvT hZ (own_tw hw 73 rfl)) (by decide) (own_lenB (W := 1) hZ hw F1 (O2.ext O0.2) P5 (by decide) (by decide)) q13a q13c (g := (mkF m 62 #[vr a1, vi (0 : Int32)] [(.ref a1), (.int (0 : Int32))])) rfl (by rw [hml]; rfl) (Steps.refl _) (argsL := []) (rest := [(.int (0 : Int32))]) (lenOf pd_6 rfl) rfl (own_le rfl) (hb hby d12_62) (fun _ _ => ⟨rfl, eh12, (by decide : 0 + 0 ≤ 5), (by decide : 0 + 0 ≤ 57)⟩)
  dsimp only [Pt.U, Pt.locs, Pt.cells, Pt.slots] at X13 l13 y13 z13 st13 hQ13
  subst l13 y13 z13
  obtain ⟨rfl, rfl, eh13⟩ := hQ13
  have N13 := Fr.app N12 (Fr.nil n0)
  refine own_gs st13 ?_
  show own_Fin p e below (T13.setTop (mkF m 65 #[vr a1, vi (0 : Int32)] [(.int (2 : Int32)), (.int (0 : Int32))])) _
  refine own_gs (cur' := T13.setTop (mkF m 70 #[vr a1, vi (0 : Int32)] [(.int (0 : Int32)), (.ref a1)])) ?_ ?_
  · refine XS.icmpNo X13.here hx rfl (hb hby d12_65) rfl (tlt ((by decide) : (0 : Int32) < (2 : Int32))).2.1 ?_
    refine XS.aloadN X13.here hx rfl (hb hby d12_68) rfl rfl ?_
    refine XS.iloadN X13.here hx rfl (hb hby d12_69) rfl ?_
    exact Steps.refl _
  obtain ⟨cq14, kq14, q14a, q14b, q14c⟩ := isOf hZ eh13 E1
  obtain ⟨_, _, ⟨T14, L14, k14, n14⟩, -, X14, ⟨Lc14, hQ14, l14, y14, z14⟩, st14⟩ := X13.virtualBack hx (y := own_n1) (z := own_n1) hown (mvT hZ (own_tw hw 81 rfl)) (mvT hZ (own_tw hw 13 rfl)) (notFace_of_selects (args := #[]) (mvT hZ (own_tw hw 15 rfl))) (mvT hZ (own_tw hw 15 rfl)) (mvT hZ (own_tw hw 14 rfl)) (by decide) (own_chL (W := 0) hZ hw F1 hlat (O2.ext O0.2) P5 (O4.ext O0.2) rG3 (i := 0) (Nat.le_of_ble_eq_true rfl) rfl (by decide) (by decide)) q14a q14c (g := (mkF m 70 #[vr a1, vi (0 : Int32)] [(.int (0 : Int32)), (.ref a1)])) rfl (by rw [hml]; rfl) (Steps.refl _) (argsL := [(.int (0 : Int32))]) (rest := []) (lenOf pd_0 rfl) rfl (own_le rfl) (hb hby d12_70) (fun _ _ => ⟨rfl, eh13, (by decide : 0 + 0 ≤ 5), (by decide : 0 + 0 ≤ 57)⟩)
  dsimp only [Pt.U, Pt.locs, Pt.cells, Pt.slots] at X14 l14 y14 z14 st14 hQ14
  subst l14 y14 z14
  obtain ⟨rfl, rfl, eh14⟩ := hQ14
  have N14 := Fr.app N13 (Fr.nil n0)
  refine own_gs st14 ?_
  show own_Fin p e below (T14.setTop (mkF m 73 #[vr a1, vi (0 : Int32)] [(.int c0)])) _
  obtain ⟨_, _, ⟨T15, L15, k15, n15⟩, -, Xw15, hSw15, hgw15, ⟨Lc15, hQ15, l15, y15, z15, hC15⟩, st15⟩ := callSS X14 hx (y := own_n13) hown (mvT hZ (own_tw hw 82 rfl)) (mvT hZ (own_tw hw 83 rfl)) (mvT hZ (own_tw hw 64 rfl)) (mvT hZ (own_tw hw 84 rfl)) (by decide) (own_backS (W := 0) (own_all l Z a0 hW c0 h0 n0 (by omega) O0 hc0) hZ (own_tw hw 84 rfl) (own_tw hw 64 rfl) (by decide) (by decide) hEL CH0.1 all0) (g := (mkF m 73 #[vr a1, vi (0 : Int32)] [(.int c0)])) rfl (by rw [hml]; rfl) (argsL := [(.int c0)]) (rest := []) (lenOf pd_8 rfl) rfl (own_le rfl) (hb hby d12_73) (fun _ _ => ⟨rfl, eh14, (by decide : 0 + 2 ≤ 5), (by decide : 0 + 28 ≤ 57)⟩)
  dsimp only [Pt.U, Pt.locs, Pt.cells, Pt.slots] at Xw15 hSw15 hgw15 hC15 l15 y15 z15 st15 hQ15
  subst l15 y15 z15
  obtain ⟨X15, hS15, hZ15, hown15⟩ := rebS hS0 (show h0.size ≤ T14.heap.size by rw [eh14]; omega) Xw15 hSw15 hgw15 hZ hown
  obtain ⟨rfl, Nq15, Kq15⟩ := hQ15
  have N15 := Fr.app N14 Nq15
  have z16 := Kq15.1
  have K16 := K0.trans Kq15 all0
  have O16 := O0.keep Kq15 all0
  have CH16 := CH0.trans hC15
  refine own_gs st15 ?_
  show own_Fin p e below (T15.setTop (mkF m 76 #[vr a1, vi (0 : Int32)] [(.int (1 : Int32))])) _
  have f17 := (F1.keep Kq15 nin0 nin0)
  refine own_gs (cur' := T15.setTop (mkF m 62 #[vr a1, vi (1 : Int32)] [(.ref a1), (.int (1 : Int32))])) ?_ ?_
  · refine XS.ifYes X15.here hx rfl (pc0 := 76) (pc' := 92) rfl (hb hby d12_76) rfl ((if0 _ _).trans (feq ((by decide) : ¬ ((1 : Int32) = (0 : Int32)))).2) (by decide) (by decide) ?_
    refine XS.iinc X15.here hx rfl (hb hby d12_92) rfl (l' := #[vr a1, vi (1 : Int32)]) rfl ?_
    refine XS.goto X15.here hx rfl (pc0 := 95) (pc' := 60) rfl (hb hby d12_95) (by decide) (by decide) ?_
    refine XS.iloadN X15.here hx rfl (hb hby d12_60) rfl ?_
    refine XS.aloadN X15.here hx rfl (hb hby d12_61) rfl rfl ?_
    exact Steps.refl _
  have f19 := (E1.keep Kq15)
  obtain ⟨cq18, kq18, q18a, q18b, q18c⟩ := isOf hZ15 rfl f19
  obtain ⟨_, _, ⟨T18, L18, k18, n18⟩, -, X18, ⟨Lc18, hQ18, l18, y18, z18⟩, st18⟩ := X15.virtualBack hx (y := own_n11) (z := own_n11) hown15 (mvT hZ15 (own_tw hw 71 rfl)) (mvT hZ15 (own_tw hw 72 rfl)) (notFace_of_selects (args := #[]) (mvT hZ15 (own_tw hw 74 rfl))) (mvT hZ15 (own_tw hw 74 rfl)) (mvT hZ15 (own_tw hw 73 rfl)) (by decide) (own_lenB (W := 1) hZ15 hw f17 (O2.ext O16.2) P5 (by decide) (by decide)) q18a q18c (g := (mkF m 62 #[vr a1, vi (1 : Int32)] [(.ref a1), (.int (1 : Int32))])) rfl (by rw [hml]; rfl) (Steps.refl _) (argsL := []) (rest := [(.int (1 : Int32))]) (lenOf pd_6 rfl) rfl (own_le rfl) (hb hby d12_62) (fun _ _ => ⟨rfl, rfl, (by decide : 2 + 0 ≤ 5), (by decide : 28 + 0 ≤ 57)⟩)
  dsimp only [Pt.U, Pt.locs, Pt.cells, Pt.slots] at X18 l18 y18 z18 st18 hQ18
  subst l18 y18 z18
  obtain ⟨rfl, rfl, eh18⟩ := hQ18
  have N18 := Fr.app N15 (Fr.nil n0)
  refine own_gs st18 ?_
  show own_Fin p e below (T18.setTop (mkF m 65 #[vr a1, vi (1 : Int32)] [(.int (2 : Int32)), (.int (1 : Int32))])) _
  refine own_gs (cur' := T18.setTop (mkF m 70 #[vr a1, vi (1 : Int32)] [(.int (1 : Int32)), (.ref a1)])) ?_ ?_
  · refine XS.icmpNo X18.here hx rfl (hb hby d12_65) rfl (tlt ((by decide) : (1 : Int32) < (2 : Int32))).2.1 ?_
    refine XS.aloadN X18.here hx rfl (hb hby d12_68) rfl rfl ?_
    refine XS.iloadN X18.here hx rfl (hb hby d12_69) rfl ?_
    exact Steps.refl _
  obtain ⟨cq20, kq20, q20a, q20b, q20c⟩ := isOf hZ15 eh18 f19
  obtain ⟨_, _, ⟨T20, L20, k20, n20⟩, -, X20, ⟨Lc20, hQ20, l20, y20, z20⟩, st20⟩ := X18.virtualBack hx (y := own_n1) (z := own_n1) hown15 (mvT hZ15 (own_tw hw 81 rfl)) (mvT hZ15 (own_tw hw 13 rfl)) (notFace_of_selects (args := #[]) (mvT hZ15 (own_tw hw 15 rfl))) (mvT hZ15 (own_tw hw 15 rfl)) (mvT hZ15 (own_tw hw 14 rfl)) (by decide) (own_chL (W := 0) hZ15 hw f17 hlat (O2.ext O16.2) P5 (O4.ext O16.2) rG3 (i := 1) (Nat.le_of_ble_eq_true rfl) rfl (by decide) (by decide)) q20a q20c (g := (mkF m 70 #[vr a1, vi (1 : Int32)] [(.int (1 : Int32)), (.ref a1)])) rfl (by rw [hml]; rfl) (Steps.refl _) (argsL := [(.int (1 : Int32))]) (rest := []) (lenOf pd_0 rfl) rfl (own_le rfl) (hb hby d12_70) (fun _ _ => ⟨rfl, eh18, (by decide : 2 + 0 ≤ 5), (by decide : 28 + 0 ≤ 57)⟩)
  dsimp only [Pt.U, Pt.locs, Pt.cells, Pt.slots] at X20 l20 y20 z20 st20 hQ20
  subst l20 y20 z20
  obtain ⟨rfl, rfl, eh20⟩ := hQ20
  have N20 := Fr.app N18 (Fr.nil n0)
  refine own_gs st20 ?_
  show own_Fin p e below (T20.setTop (mkF m 73 #[vr a1, vi (1 : Int32)] [(.int c1)])) _
  obtain ⟨_, _, ⟨T21, L21, k21, n21⟩, -, Xw21, hSw21, hgw21, ⟨Lc21, hQ21, l21, y21, z21, hC21⟩, st21⟩ := callSS X20 hx (y := own_n13) hown15 (mvT hZ15 (own_tw hw 82 rfl)) (mvT hZ15 (own_tw hw 83 rfl)) (mvT hZ15 (own_tw hw 64 rfl)) (mvT hZ15 (own_tw hw 84 rfl)) (by decide) (own_backS (W := 0) (own_all l Z a0 hW c1 T15.heap n0 (by omega) O16 hc1) hZ15 (own_tw hw 84 rfl) (own_tw hw 64 rfl) (by decide) (by decide) hEL CH16.1 all0) (g := (mkF m 73 #[vr a1, vi (1 : Int32)] [(.int c1)])) rfl (by rw [hml]; rfl) (argsL := [(.int c1)]) (rest := []) (lenOf pd_8 rfl) rfl (own_le rfl) (hb hby d12_73) (fun _ _ => ⟨rfl, eh20, (by decide : 2 + 2 ≤ 5), (by decide : 28 + 28 ≤ 57)⟩)
  dsimp only [Pt.U, Pt.locs, Pt.cells, Pt.slots] at Xw21 hSw21 hgw21 hC21 l21 y21 z21 st21 hQ21
  subst l21 y21 z21
  obtain ⟨X21, hS21, hZ21, hown21⟩ := rebS hS15 (show T15.heap.size ≤ T20.heap.size by rw [eh20]; omega) Xw21 hSw21 hgw21 hZ15 hown15
  obtain ⟨rfl, Nq21, Kq21⟩ := hQ21
  have N21 := Fr.app N20 Nq21
  have z22 := Kq21.1
  have K22 := K16.trans Kq21 all0
  have O22 := O16.keep Kq21 all0
  have CH22 := CH16.trans hC21
  refine own_gs st21 ?_
  show own_Fin p e below (T21.setTop (mkF m 76 #[vr a1, vi (1 : Int32)] [(.int (1 : Int32))])) _
  have f23 := (f17.keep Kq21 nin0 nin0)
  refine own_gs (cur' := T21.setTop (mkF m 62 #[vr a1, vi (2 : Int32)] [(.ref a1), (.int (2 : Int32))])) ?_ ?_
  · refine XS.ifYes X21.here hx rfl (pc0 := 76) (pc' := 92) rfl (hb hby d12_76) rfl ((if0 _ _).trans (feq ((by decide) : ¬ ((1 : Int32) = (0 : Int32)))).2) (by decide) (by decide) ?_
    refine XS.iinc X21.here hx rfl (hb hby d12_92) rfl (l' := #[vr a1, vi (2 : Int32)]) rfl ?_
    refine XS.goto X21.here hx rfl (pc0 := 95) (pc' := 60) rfl (hb hby d12_95) (by decide) (by decide) ?_
    refine XS.iloadN X21.here hx rfl (hb hby d12_60) rfl ?_
    refine XS.aloadN X21.here hx rfl (hb hby d12_61) rfl rfl ?_
    exact Steps.refl _
  have f25 := (f19.keep Kq21)
  obtain ⟨cq24, kq24, q24a, q24b, q24c⟩ := isOf hZ21 rfl f25
  obtain ⟨_, _, ⟨T24, L24, k24, n24⟩, -, X24, ⟨Lc24, hQ24, l24, y24, z24⟩, st24⟩ := X21.virtualBack hx (y := own_n11) (z := own_n11) hown21 (mvT hZ21 (own_tw hw 71 rfl)) (mvT hZ21 (own_tw hw 72 rfl)) (notFace_of_selects (args := #[]) (mvT hZ21 (own_tw hw 74 rfl))) (mvT hZ21 (own_tw hw 74 rfl)) (mvT hZ21 (own_tw hw 73 rfl)) (by decide) (own_lenB (W := 1) hZ21 hw f23 (O2.ext O22.2) P5 (by decide) (by decide)) q24a q24c (g := (mkF m 62 #[vr a1, vi (2 : Int32)] [(.ref a1), (.int (2 : Int32))])) rfl (by rw [hml]; rfl) (Steps.refl _) (argsL := []) (rest := [(.int (2 : Int32))]) (lenOf pd_6 rfl) rfl (own_le rfl) (hb hby d12_62) (fun _ _ => ⟨rfl, rfl, (by decide : 4 + 0 ≤ 5), (by decide : 56 + 0 ≤ 57)⟩)
  dsimp only [Pt.U, Pt.locs, Pt.cells, Pt.slots] at X24 l24 y24 z24 st24 hQ24
  subst l24 y24 z24
  obtain ⟨rfl, rfl, eh24⟩ := hQ24
  have N24 := Fr.app N21 (Fr.nil n0)
  refine own_gs st24 ?_
  show own_Fin p e below (T24.setTop (mkF m 65 #[vr a1, vi (2 : Int32)] [(.int (2 : Int32)), (.int (2 : Int32))])) _
  refine own_gs (cur' := T24.setTop (mkF m 98 #[vr a1, vi (2 : Int32)] [])) ?_ ?_
  · refine XS.icmpYes X24.here hx rfl (pc0 := 65) (pc' := 98) rfl (hb hby d12_65) rfl (flt ((by decide) : ¬ ((2 : Int32) < (2 : Int32)))).2.1 (by decide) (by decide) ?_
    exact Steps.refl _
  obtain ⟨T26, h26, X26, e26, E26, A26, D26, -, st26⟩ := newO X24 hx hZ21 hown21 (own_tw hw 85 rfl) (own_tw hw 86 rfl) (own_tw hw 64 rfl) eh24 (g := (mkF m 98 #[vr a1, vi (2 : Int32)] [])) rfl (hb hby d12_98) (by decide) (by decide)
  obtain ⟨b26, g26⟩ : ∃ z, z = T21.heap.size := ⟨_, rfl⟩
  rw [← g26] at A26 D26 st26
  have lt26 := own_lt A26.lt
  refine own_go st26 ?_
  show own_Fin p e below (T26.setTop (mkF m 101 #[vr a1, vi (2 : Int32)] [(.ref b26)])) _
  have z27 := E26.1
  have K27 := K22.ext E26
  have O27 := O22.ext E26
  have CH27 := CH22.trans (CHr.ext E26 CH22.1)
  have F26_value : Fld Z h26 b26 "com/example/lease_lock/leaselock/LockName" "value" "Ljava/lang/String;" .null := D26 (Or.inr (own_tw hw 92 rfl)) (ty := (.object "java/lang/String")) (by decide)
  refine own_gs (cur' := T26.setTop (mkF m 103 #[vr a1, vi (2 : Int32)] [(.ref a1), (.ref b26), (.ref b26)])) ?_ ?_
  · refine XS.dup X26.here hx rfl (hb hby d12_101) rfl rfl ?_
    refine XS.aloadN X26.here hx rfl (hb hby d12_102) rfl rfl ?_
    exact Steps.refl _
  obtain ⟨_, _, ⟨T28, L28, k28, n28⟩, -, X28, ⟨Lc28, hQ28, l28, y28, z28⟩, st28⟩ := X26.specialBack hx (y := own_n14) rfl hown21 (mvT hZ21 (own_tw hw 87 rfl)) (mvT hZ21 (own_tw hw 88 rfl)) (mvT hZ21 (own_tw hw 89 rfl)) (by decide) (backOf (W := 1) (own_linit l Z a0 hW b26 a1 .null h26 n0 (by omega) O27 A26 F26_value (by omega)) hZ21 (own_tw hw 89 rfl) (own_tw hw 64 rfl) (by decide) (by decide)) (g := (mkF m 103 #[vr a1, vi (2 : Int32)] [(.ref a1), (.ref b26), (.ref b26)])) rfl (by rw [hml]; rfl) (Steps.refl _) (a := b26) (argsL := [(.ref a1)]) (rest := [(.ref b26)]) (lenOf pd_9 rfl) rfl (own_le rfl) (hb hby d12_103) (fun _ _ => ⟨rfl, e26, (by decide : 5 + 0 ≤ 5), (by decide : 57 + 0 ≤ 57)⟩)
  dsimp only [Pt.U, Pt.locs, Pt.cells, Pt.slots] at X28 l28 y28 z28 st28 hQ28
  subst l28 y28 z28
  obtain ⟨rfl, Nq28, Kq28, Fo28⟩ := hQ28
  have N28 := Fr.app N24 Nq28
  have z29 := Kq28.1
  have K29 := K27.trans Kq28 (allS (Or.inr (by omega)) all0)
  have O29 := O27.keep Kq28 (allS (by omega) all0)
  have CH29 := CH27.trans (CHr.keep Kq28 (allS (Safe.exa hZ21.alike A26 (by decide) (by decide)) all0) CH27.1)
  refine own_gs st28 ?_
  show own_Fin p e below (T28.setTop (mkF m 106 #[vr a1, vi (2 : Int32)] [(.ref b26)])) _
  have f30 := (A26.keep Kq28)
  obtain ⟨fs, hr, hrun, hended, hRE⟩ := X28.leaveW hS21 (show T21.heap.size ≤ T28.heap.size by omega) (v := (some (.ref b26))) (fun h => by rw [Bd.returns] at h; cases h)
  refine ⟨_, _, X28.areturnOut hx rfl Bd.returns rfl (hb hby d12_106) hr, hrun, hended, _, _, rfl, ?_, ?_, hRE.1, hRE.2.1, hRE.2.2.1, hRE.2.2.2.mono (own_le rfl) (own_le rfl)⟩
  · show own_of2_Q Z a1 t1 c0 c1 h0 n0 (some (.ref b26)) T28.heap _
    exact ⟨_, rfl, N28, K29, f30, Fo28, (by omega)⟩
  · have hfin := CH29.trans (CHv.at X28 hZ21 hEL CH29.1)
    rw [hh]
    show CHr Z own_EL s.vm h0 T28.vm T28.heap
    exact hfin
def own_of3_Q (Z : State) (a1 t1 : Nat) (c0 c1 c2 : Int32) (h0 : Heap) (n0 : Nat) (v : Option Value) (h : Heap) (L : List Loc) : Prop := ∃ b : Nat, v = some (.ref b) ∧ Fr n0 L ∧ Keep h0 h [] ∧ Exa Z h b "com/example/lease_lock/leaselock/LockName" ∧ Fld Z h b "com/example/lease_lock/leaselock/LockName" "value" "Ljava/lang/String;" (.ref a1) ∧ h0.size ≤ b
theorem ef_own_of3 (m : MethodId) (x0 : Nat) : entryFrame m #[(.ref x0)] 2 = mkF m 0 #[vr x0, .unset] [] := by first | (simp [entryFrame, mkF, argsToLocals, Value.category]; done) | rfl
set_option maxRecDepth 65536 in
set_option maxHeartbeats 40000000 in
theorem own_of3 (l : Launch) (Z : State) (a0 : Array Value) (hW : own_W Z a0) (a1 t1 : Nat) (c0 c1 c2 : Int32) (h0 : Heap) (n0 : Nat) (Z0 : n0 ≤ h0.size) (O0 : Old Z n0 h0) (F1 : own_Str Z h0 a1 t1 [c0, c1, c2]) (hc0 : own_ok c0) (hc1 : own_ok c1) (hc2 : own_ok c2) :
    MetFree l own_n15 (head1 (Jvm.Cond.code own_n15 own_c12 2 (some (.object "com/example/lease_lock/leaselock/LockName")) :: []) ({ frames := 5, cells := 7, slots := 85, locals := 80 } : Room)) (fun a U => a = #[(.ref a1)] ∧ Z.Warmed39 U.vm ∧ U.heap = h0 ∧ CHv Z own_EL U.vm h0 ∧ ∀ x ∈ ([] : List Addr), Safe Z own_EL U.vm h0 x) (fun _ _ _ _ _ => True) (fun _ U o U' => ∃ v L, o = .returned v ∧ own_of3_Q Z a1 t1 c0 c1 c2 h0 n0 v U'.heap L ∧ CHr Z own_EL U.vm U.heap U'.vm U'.heap ∧ ReturnedEndW U o U' L ({ frames := 5, cells := 7, slots := 85, locals := 80 } : Room).cells ({ frames := 5, cells := 7, slots := 85, locals := 80 } : Room).slots) := by
  refine MetFree.of_bodySF (plainFor_of_name pn_com_example_lease_lock_leaselock_LockName) hisR ?_
  intro p e s m args below meth c s₁ Bd hml0 hP hK
  obtain ⟨rfl, hZ, hh, hCH, hSf⟩ := hP
  obtain ⟨hw, ⟨G1, O2, P5⟩, ⟨G3, O4, rG3⟩⟩ := id hW
  have hx := Bd.exec
  have hby := Bd.bytes
  have hml : c.maxLocals = 2 := hml0
  have hown : s.vm.findClass "com/example/lease_lock/leaselock/LockName" = some m.cls := findClass_of_methodNamed Bd.named
  have hnm := (name_of_methodNamed Bd.named Bd.method).1
  have X0 : Stand p l e ({ frames := 5, cells := 7, slots := 85, locals := 80 } : Room) (s.setVm s.vm) m #[(.ref a1)] below meth c s₁ [] 0 0 := Stand.of_body Bd
  have e0 : s₁.heap = h0 := by rw [← hh, Bd.state]; rfl
  have N0 := Fr.nil n0
  have K0 := Keep.refl h0 []
  have hS0 : s.Since s.vm h0.size := (State.WarmedH.refl s).since _
  have CH0 : CHr Z own_EL s.vm h0 s.vm h0 := CHr.refl hCH
  have hEL := own_EW hw
  have hSA := own_SA hw
  have E1 := F1.exa
  have lt1 := F1.lt
  have hlat : ∀ c ∈ ([c0, c1, c2] : List Int32), ¬ (255 : Int32) < c := by
    intro c hc
    simp only [List.mem_cons, List.not_mem_nil, or_false] at hc
    rcases hc with rfl | rfl | rfl
    · exact (own_ok_lat hc0).2
    · exact (own_ok_lat hc1).2
    · exact (own_ok_lat hc2).2
  show own_Fin p e below (s₁.setTop (entryFrame m #[(.ref a1)] 2)) _
  refine own_gs (castTop (ef_own_of3 m a1) (Steps.refl _)) ?_
  show own_Fin p e below (s₁.setTop (mkF m 0 #[vr a1, uu] [])) _
  refine own_gs (cur' := s₁.setTop (mkF m 15 #[vr a1, uu] [(.ref a1)])) ?_ ?_
  · refine XS.aloadN X0.here hx rfl (hb hby d12_0) rfl rfl ?_
    refine XS.ifnonnullYes X0.here hx rfl (pc0 := 1) (pc' := 14) rfl (hb hby d12_1) rfl (by decide) (by decide) ?_
    refine XS.aloadN X0.here hx rfl (hb hby d12_14) rfl rfl ?_
    exact Steps.refl _
  obtain ⟨cq11, kq11, q11a, q11b, q11c⟩ := isOf hZ e0 E1
  obtain ⟨_, _, ⟨T11, L11, k11, n11⟩, -, X11, ⟨Lc11, hQ11, l11, y11, z11⟩, st11⟩ := X0.virtualBack hx (y := own_n16) (z := own_n16) hown (mvT hZ (own_tw hw 66 rfl)) (mvT hZ (own_tw hw 67 rfl)) (notFace_of_selects (args := #[]) (mvT hZ (own_tw hw 69 rfl))) (mvT hZ (own_tw hw 69 rfl)) (mvT hZ (own_tw hw 68 rfl)) (by decide) (own_empB (W := 0) hZ hw F1 (by decide) (by decide)) q11a q11c (g := (mkF m 15 #[vr a1, uu] [(.ref a1)])) rfl (by rw [hml]; rfl) (Steps.refl _) (argsL := []) (rest := []) (lenOf pd_5 rfl) rfl (own_le rfl) (hb hby d12_15) (fun _ _ => ⟨rfl, e0, (by decide : 0 + 0 ≤ 7), (by decide : 0 + 0 ≤ 85)⟩)
  dsimp only [Pt.U, Pt.locs, Pt.cells, Pt.slots] at X11 l11 y11 z11 st11 hQ11
  subst l11 y11 z11
  obtain ⟨rfl, rfl, eh11⟩ := hQ11
  have N11 := Fr.app N0 (Fr.nil n0)
  refine own_gs st11 ?_
  show own_Fin p e below (T11.setTop (mkF m 18 #[vr a1, uu] [(.int (0 : Int32))])) _
  refine own_gs (cur' := T11.setTop (mkF m 32 #[vr a1, uu] [(.ref a1)])) ?_ ?_
  · refine XS.ifYes X11.here hx rfl (pc0 := 18) (pc' := 31) rfl (hb hby d12_18) rfl ((if0 _ _).trans (teq ((by decide) : (0 : Int32) = (0 : Int32))).1) (by decide) (by decide) ?_
    refine XS.aloadN X11.here hx rfl (hb hby d12_31) rfl rfl ?_
    exact Steps.refl _
  obtain ⟨cq12, kq12, q12a, q12b, q12c⟩ := isOf hZ eh11 E1
  obtain ⟨_, _, ⟨T12, L12, k12, n12⟩, -, X12, ⟨Lc12, hQ12, l12, y12, z12⟩, st12⟩ := X11.virtualBack hx (y := own_n11) (z := own_n11) hown (mvT hZ (own_tw hw 71 rfl)) (mvT hZ (own_tw hw 72 rfl)) (notFace_of_selects (args := #[]) (mvT hZ (own_tw hw 74 rfl))) (mvT hZ (own_tw hw 74 rfl)) (mvT hZ (own_tw hw 73 rfl)) (by decide) (own_lenB (W := 0) hZ hw F1 (O2.ext O0.2) P5 (by decide) (by decide)) q12a q12c (g := (mkF m 32 #[vr a1, uu] [(.ref a1)])) rfl (by rw [hml]; rfl) (Steps.refl _) (argsL := []) (rest := []) (lenOf pd_6 rfl) rfl (own_le rfl) (hb hby d12_32) (fun _ _ => ⟨rfl, eh11, (by decide : 0 + 0 ≤ 7), (by decide : 0 + 0 ≤ 85)⟩)
  dsimp only [Pt.U, Pt.locs, Pt.cells, Pt.slots] at X12 l12 y12 z12 st12 hQ12
  subst l12 y12 z12
  obtain ⟨rfl, rfl, eh12⟩ := hQ12
  have N12 := Fr.app N11 (Fr.nil n0)
  refine own_gs st12 ?_
  show own_Fin p e below (T12.setTop (mkF m 35 #[vr a1, uu] [(.int (3 : Int32))])) _
  refine own_gs (cur' := T12.setTop (mkF m 62 #[vr a1, vi (0 : Int32)] [(.ref a1), (.int (0 : Int32))])) ?_ ?_
  · refine XS.sipush X12.here hx rfl (hb hby d12_35) ?_
    refine XS.icmpYes X12.here hx rfl (pc0 := 38) (pc' := 58) rfl (hb hby d12_38) rfl (flt ((by decide) : ¬ ((200 : Int32) < (3 : Int32)))).2.2.2 (by decide) (by decide) ?_
    refine XS.iconst X12.here hx rfl (hb hby d12_58) ?_
    refine XS.istoreN X12.here hx rfl (hb hby d12_59) rfl (l' := #[vr a1, vi (0 : Int32)]) rfl ?_
    refine XS.iloadN X12.here hx rfl (hb hby d12_60) rfl ?_
    refine XS.aloadN X12.here hx rfl (hb hby d12_61) rfl rfl ?_
    exact Steps.refl _
  obtain ⟨cq13, kq13, q13a, q13b, q13c⟩ := isOf hZ eh12 E1
  obtain ⟨_, _, ⟨T13, L13, k13, n13⟩, -, X13, ⟨Lc13, hQ13, l13, y13, z13⟩, st13⟩ := X12.virtualBack hx (y := own_n11) (z := own_n11) hown (mvT hZ (own_tw hw 71 rfl)) (mvT hZ (own_tw hw 72 rfl)) (notFace_of_selects (args := #[]) (mvT hZ (own_tw hw 74 rfl))) (mvT hZ (own_tw hw 74 rfl)) (mvT hZ (own_tw hw 73 rfl)) (by decide) (own_lenB (W := 1) hZ hw F1 (O2.ext O0.2) P5 (by decide) (by decide)) q13a q13c (g := (mkF m 62 #[vr a1, vi (0 : Int32)] [(.ref a1), (.int (0 : Int32))])) rfl (by rw [hml]; rfl) (Steps.refl _) (argsL := []) (rest := [(.int (0 : Int32))]) (lenOf pd_6 rfl) rfl (own_le rfl) (hb hby d12_62) (fun _ _ => ⟨rfl, eh12, (by decide : 0 + 0 ≤ 7), (by decide : 0 + 0 ≤ 85)⟩)
  dsimp only [Pt.U, Pt.locs, Pt.cells, Pt.slots] at X13 l13 y13 z13 st13 hQ13
  subst l13 y13 z13
  obtain ⟨rfl, rfl, eh13⟩ := hQ13
  have N13 := Fr.app N12 (Fr.nil n0)
  refine own_gs st13 ?_
  show own_Fin p e below (T13.setTop (mkF m 65 #[vr a1, vi (0 : Int32)] [(.int (3 : Int32)), (.int (0 : Int32))])) _
  refine own_gs (cur' := T13.setTop (mkF m 70 #[vr a1, vi (0 : Int32)] [(.int (0 : Int32)), (.ref a1)])) ?_ ?_
  · refine XS.icmpNo X13.here hx rfl (hb hby d12_65) rfl (tlt ((by decide) : (0 : Int32) < (3 : Int32))).2.1 ?_
    refine XS.aloadN X13.here hx rfl (hb hby d12_68) rfl rfl ?_
    refine XS.iloadN X13.here hx rfl (hb hby d12_69) rfl ?_
    exact Steps.refl _
  obtain ⟨cq14, kq14, q14a, q14b, q14c⟩ := isOf hZ eh13 E1
  obtain ⟨_, _, ⟨T14, L14, k14, n14⟩, -, X14, ⟨Lc14, hQ14, l14, y14, z14⟩, st14⟩ := X13.virtualBack hx (y := own_n1) (z := own_n1) hown (mvT hZ (own_tw hw 81 rfl)) (mvT hZ (own_tw hw 13 rfl)) (notFace_of_selects (args := #[]) (mvT hZ (own_tw hw 15 rfl))) (mvT hZ (own_tw hw 15 rfl)) (mvT hZ (own_tw hw 14 rfl)) (by decide) (own_chL (W := 0) hZ hw F1 hlat (O2.ext O0.2) P5 (O4.ext O0.2) rG3 (i := 0) (Nat.le_of_ble_eq_true rfl) rfl (by decide) (by decide)) q14a q14c (g := (mkF m 70 #[vr a1, vi (0 : Int32)] [(.int (0 : Int32)), (.ref a1)])) rfl (by rw [hml]; rfl) (Steps.refl _) (argsL := [(.int (0 : Int32))]) (rest := []) (lenOf pd_0 rfl) rfl (own_le rfl) (hb hby d12_70) (fun _ _ => ⟨rfl, eh13, (by decide : 0 + 0 ≤ 7), (by decide : 0 + 0 ≤ 85)⟩)
  dsimp only [Pt.U, Pt.locs, Pt.cells, Pt.slots] at X14 l14 y14 z14 st14 hQ14
  subst l14 y14 z14
  obtain ⟨rfl, rfl, eh14⟩ := hQ14
  have N14 := Fr.app N13 (Fr.nil n0)
  refine own_gs st14 ?_
  show own_Fin p e below (T14.setTop (mkF m 73 #[vr a1, vi (0 : Int32)] [(.int c0)])) _
  obtain ⟨_, _, ⟨T15, L15, k15, n15⟩, -, Xw15, hSw15, hgw15, ⟨Lc15, hQ15, l15, y15, z15, hC15⟩, st15⟩ := callSS X14 hx (y := own_n13) hown (mvT hZ (own_tw hw 82 rfl)) (mvT hZ (own_tw hw 83 rfl)) (mvT hZ (own_tw hw 64 rfl)) (mvT hZ (own_tw hw 84 rfl)) (by decide) (own_backS (W := 0) (own_all l Z a0 hW c0 h0 n0 (by omega) O0 hc0) hZ (own_tw hw 84 rfl) (own_tw hw 64 rfl) (by decide) (by decide) hEL CH0.1 all0) (g := (mkF m 73 #[vr a1, vi (0 : Int32)] [(.int c0)])) rfl (by rw [hml]; rfl) (argsL := [(.int c0)]) (rest := []) (lenOf pd_8 rfl) rfl (own_le rfl) (hb hby d12_73) (fun _ _ => ⟨rfl, eh14, (by decide : 0 + 2 ≤ 7), (by decide : 0 + 28 ≤ 85)⟩)
  dsimp only [Pt.U, Pt.locs, Pt.cells, Pt.slots] at Xw15 hSw15 hgw15 hC15 l15 y15 z15 st15 hQ15
  subst l15 y15 z15
  obtain ⟨X15, hS15, hZ15, hown15⟩ := rebS hS0 (show h0.size ≤ T14.heap.size by rw [eh14]; omega) Xw15 hSw15 hgw15 hZ hown
  obtain ⟨rfl, Nq15, Kq15⟩ := hQ15
  have N15 := Fr.app N14 Nq15
  have z16 := Kq15.1
  have K16 := K0.trans Kq15 all0
  have O16 := O0.keep Kq15 all0
  have CH16 := CH0.trans hC15
  refine own_gs st15 ?_
  show own_Fin p e below (T15.setTop (mkF m 76 #[vr a1, vi (0 : Int32)] [(.int (1 : Int32))])) _
  have f17 := (F1.keep Kq15 nin0 nin0)
  refine own_gs (cur' := T15.setTop (mkF m 62 #[vr a1, vi (1 : Int32)] [(.ref a1), (.int (1 : Int32))])) ?_ ?_
  · refine XS.ifYes X15.here hx rfl (pc0 := 76) (pc' := 92) rfl (hb hby d12_76) rfl ((if0 _ _).trans (feq ((by decide) : ¬ ((1 : Int32) = (0 : Int32)))).2) (by decide) (by decide) ?_
    refine XS.iinc X15.here hx rfl (hb hby d12_92) rfl (l' := #[vr a1, vi (1 : Int32)]) rfl ?_
    refine XS.goto X15.here hx rfl (pc0 := 95) (pc' := 60) rfl (hb hby d12_95) (by decide) (by decide) ?_
    refine XS.iloadN X15.here hx rfl (hb hby d12_60) rfl ?_
    refine XS.aloadN X15.here hx rfl (hb hby d12_61) rfl rfl ?_
    exact Steps.refl _
  have f19 := (E1.keep Kq15)
  obtain ⟨cq18, kq18, q18a, q18b, q18c⟩ := isOf hZ15 rfl f19
  obtain ⟨_, _, ⟨T18, L18, k18, n18⟩, -, X18, ⟨Lc18, hQ18, l18, y18, z18⟩, st18⟩ := X15.virtualBack hx (y := own_n11) (z := own_n11) hown15 (mvT hZ15 (own_tw hw 71 rfl)) (mvT hZ15 (own_tw hw 72 rfl)) (notFace_of_selects (args := #[]) (mvT hZ15 (own_tw hw 74 rfl))) (mvT hZ15 (own_tw hw 74 rfl)) (mvT hZ15 (own_tw hw 73 rfl)) (by decide) (own_lenB (W := 1) hZ15 hw f17 (O2.ext O16.2) P5 (by decide) (by decide)) q18a q18c (g := (mkF m 62 #[vr a1, vi (1 : Int32)] [(.ref a1), (.int (1 : Int32))])) rfl (by rw [hml]; rfl) (Steps.refl _) (argsL := []) (rest := [(.int (1 : Int32))]) (lenOf pd_6 rfl) rfl (own_le rfl) (hb hby d12_62) (fun _ _ => ⟨rfl, rfl, (by decide : 2 + 0 ≤ 7), (by decide : 28 + 0 ≤ 85)⟩)
  dsimp only [Pt.U, Pt.locs, Pt.cells, Pt.slots] at X18 l18 y18 z18 st18 hQ18
  subst l18 y18 z18
  obtain ⟨rfl, rfl, eh18⟩ := hQ18
  have N18 := Fr.app N15 (Fr.nil n0)
  refine own_gs st18 ?_
  show own_Fin p e below (T18.setTop (mkF m 65 #[vr a1, vi (1 : Int32)] [(.int (3 : Int32)), (.int (1 : Int32))])) _
  refine own_gs (cur' := T18.setTop (mkF m 70 #[vr a1, vi (1 : Int32)] [(.int (1 : Int32)), (.ref a1)])) ?_ ?_
  · refine XS.icmpNo X18.here hx rfl (hb hby d12_65) rfl (tlt ((by decide) : (1 : Int32) < (3 : Int32))).2.1 ?_
    refine XS.aloadN X18.here hx rfl (hb hby d12_68) rfl rfl ?_
    refine XS.iloadN X18.here hx rfl (hb hby d12_69) rfl ?_
    exact Steps.refl _
  obtain ⟨cq20, kq20, q20a, q20b, q20c⟩ := isOf hZ15 eh18 f19
  obtain ⟨_, _, ⟨T20, L20, k20, n20⟩, -, X20, ⟨Lc20, hQ20, l20, y20, z20⟩, st20⟩ := X18.virtualBack hx (y := own_n1) (z := own_n1) hown15 (mvT hZ15 (own_tw hw 81 rfl)) (mvT hZ15 (own_tw hw 13 rfl)) (notFace_of_selects (args := #[]) (mvT hZ15 (own_tw hw 15 rfl))) (mvT hZ15 (own_tw hw 15 rfl)) (mvT hZ15 (own_tw hw 14 rfl)) (by decide) (own_chL (W := 0) hZ15 hw f17 hlat (O2.ext O16.2) P5 (O4.ext O16.2) rG3 (i := 1) (Nat.le_of_ble_eq_true rfl) rfl (by decide) (by decide)) q20a q20c (g := (mkF m 70 #[vr a1, vi (1 : Int32)] [(.int (1 : Int32)), (.ref a1)])) rfl (by rw [hml]; rfl) (Steps.refl _) (argsL := [(.int (1 : Int32))]) (rest := []) (lenOf pd_0 rfl) rfl (own_le rfl) (hb hby d12_70) (fun _ _ => ⟨rfl, eh18, (by decide : 2 + 0 ≤ 7), (by decide : 28 + 0 ≤ 85)⟩)
  dsimp only [Pt.U, Pt.locs, Pt.cells, Pt.slots] at X20 l20 y20 z20 st20 hQ20
  subst l20 y20 z20
  obtain ⟨rfl, rfl, eh20⟩ := hQ20
  have N20 := Fr.app N18 (Fr.nil n0)
  refine own_gs st20 ?_
  show own_Fin p e below (T20.setTop (mkF m 73 #[vr a1, vi (1 : Int32)] [(.int c1)])) _
  obtain ⟨_, _, ⟨T21, L21, k21, n21⟩, -, Xw21, hSw21, hgw21, ⟨Lc21, hQ21, l21, y21, z21, hC21⟩, st21⟩ := callSS X20 hx (y := own_n13) hown15 (mvT hZ15 (own_tw hw 82 rfl)) (mvT hZ15 (own_tw hw 83 rfl)) (mvT hZ15 (own_tw hw 64 rfl)) (mvT hZ15 (own_tw hw 84 rfl)) (by decide) (own_backS (W := 0) (own_all l Z a0 hW c1 T15.heap n0 (by omega) O16 hc1) hZ15 (own_tw hw 84 rfl) (own_tw hw 64 rfl) (by decide) (by decide) hEL CH16.1 all0) (g := (mkF m 73 #[vr a1, vi (1 : Int32)] [(.int c1)])) rfl (by rw [hml]; rfl) (argsL := [(.int c1)]) (rest := []) (lenOf pd_8 rfl) rfl (own_le rfl) (hb hby d12_73) (fun _ _ => ⟨rfl, eh20, (by decide : 2 + 2 ≤ 7), (by decide : 28 + 28 ≤ 85)⟩)
  dsimp only [Pt.U, Pt.locs, Pt.cells, Pt.slots] at Xw21 hSw21 hgw21 hC21 l21 y21 z21 st21 hQ21
  subst l21 y21 z21
  obtain ⟨X21, hS21, hZ21, hown21⟩ := rebS hS15 (show T15.heap.size ≤ T20.heap.size by rw [eh20]; omega) Xw21 hSw21 hgw21 hZ15 hown15
  obtain ⟨rfl, Nq21, Kq21⟩ := hQ21
  have N21 := Fr.app N20 Nq21
  have z22 := Kq21.1
  have K22 := K16.trans Kq21 all0
  have O22 := O16.keep Kq21 all0
  have CH22 := CH16.trans hC21
  refine own_gs st21 ?_
  show own_Fin p e below (T21.setTop (mkF m 76 #[vr a1, vi (1 : Int32)] [(.int (1 : Int32))])) _
  have f23 := (f17.keep Kq21 nin0 nin0)
  refine own_gs (cur' := T21.setTop (mkF m 62 #[vr a1, vi (2 : Int32)] [(.ref a1), (.int (2 : Int32))])) ?_ ?_
  · refine XS.ifYes X21.here hx rfl (pc0 := 76) (pc' := 92) rfl (hb hby d12_76) rfl ((if0 _ _).trans (feq ((by decide) : ¬ ((1 : Int32) = (0 : Int32)))).2) (by decide) (by decide) ?_
    refine XS.iinc X21.here hx rfl (hb hby d12_92) rfl (l' := #[vr a1, vi (2 : Int32)]) rfl ?_
    refine XS.goto X21.here hx rfl (pc0 := 95) (pc' := 60) rfl (hb hby d12_95) (by decide) (by decide) ?_
    refine XS.iloadN X21.here hx rfl (hb hby d12_60) rfl ?_
    refine XS.aloadN X21.here hx rfl (hb hby d12_61) rfl rfl ?_
    exact Steps.refl _
  have f25 := (f19.keep Kq21)
  obtain ⟨cq24, kq24, q24a, q24b, q24c⟩ := isOf hZ21 rfl f25
  obtain ⟨_, _, ⟨T24, L24, k24, n24⟩, -, X24, ⟨Lc24, hQ24, l24, y24, z24⟩, st24⟩ := X21.virtualBack hx (y := own_n11) (z := own_n11) hown21 (mvT hZ21 (own_tw hw 71 rfl)) (mvT hZ21 (own_tw hw 72 rfl)) (notFace_of_selects (args := #[]) (mvT hZ21 (own_tw hw 74 rfl))) (mvT hZ21 (own_tw hw 74 rfl)) (mvT hZ21 (own_tw hw 73 rfl)) (by decide) (own_lenB (W := 1) hZ21 hw f23 (O2.ext O22.2) P5 (by decide) (by decide)) q24a q24c (g := (mkF m 62 #[vr a1, vi (2 : Int32)] [(.ref a1), (.int (2 : Int32))])) rfl (by rw [hml]; rfl) (Steps.refl _) (argsL := []) (rest := [(.int (2 : Int32))]) (lenOf pd_6 rfl) rfl (own_le rfl) (hb hby d12_62) (fun _ _ => ⟨rfl, rfl, (by decide : 4 + 0 ≤ 7), (by decide : 56 + 0 ≤ 85)⟩)
  dsimp only [Pt.U, Pt.locs, Pt.cells, Pt.slots] at X24 l24 y24 z24 st24 hQ24
  subst l24 y24 z24
  obtain ⟨rfl, rfl, eh24⟩ := hQ24
  have N24 := Fr.app N21 (Fr.nil n0)
  refine own_gs st24 ?_
  show own_Fin p e below (T24.setTop (mkF m 65 #[vr a1, vi (2 : Int32)] [(.int (3 : Int32)), (.int (2 : Int32))])) _
  refine own_gs (cur' := T24.setTop (mkF m 70 #[vr a1, vi (2 : Int32)] [(.int (2 : Int32)), (.ref a1)])) ?_ ?_
  · refine XS.icmpNo X24.here hx rfl (hb hby d12_65) rfl (tlt ((by decide) : (2 : Int32) < (3 : Int32))).2.1 ?_
    refine XS.aloadN X24.here hx rfl (hb hby d12_68) rfl rfl ?_
    refine XS.iloadN X24.here hx rfl (hb hby d12_69) rfl ?_
    exact Steps.refl _
  obtain ⟨cq26, kq26, q26a, q26b, q26c⟩ := isOf hZ21 eh24 f25
  obtain ⟨_, _, ⟨T26, L26, k26, n26⟩, -, X26, ⟨Lc26, hQ26, l26, y26, z26⟩, st26⟩ := X24.virtualBack hx (y := own_n1) (z := own_n1) hown21 (mvT hZ21 (own_tw hw 81 rfl)) (mvT hZ21 (own_tw hw 13 rfl)) (notFace_of_selects (args := #[]) (mvT hZ21 (own_tw hw 15 rfl))) (mvT hZ21 (own_tw hw 15 rfl)) (mvT hZ21 (own_tw hw 14 rfl)) (by decide) (own_chL (W := 0) hZ21 hw f23 hlat (O2.ext O22.2) P5 (O4.ext O22.2) rG3 (i := 2) (Nat.le_of_ble_eq_true rfl) rfl (by decide) (by decide)) q26a q26c (g := (mkF m 70 #[vr a1, vi (2 : Int32)] [(.int (2 : Int32)), (.ref a1)])) rfl (by rw [hml]; rfl) (Steps.refl _) (argsL := [(.int (2 : Int32))]) (rest := []) (lenOf pd_0 rfl) rfl (own_le rfl) (hb hby d12_70) (fun _ _ => ⟨rfl, eh24, (by decide : 4 + 0 ≤ 7), (by decide : 56 + 0 ≤ 85)⟩)
  dsimp only [Pt.U, Pt.locs, Pt.cells, Pt.slots] at X26 l26 y26 z26 st26 hQ26
  subst l26 y26 z26
  obtain ⟨rfl, rfl, eh26⟩ := hQ26
  have N26 := Fr.app N24 (Fr.nil n0)
  refine own_gs st26 ?_
  show own_Fin p e below (T26.setTop (mkF m 73 #[vr a1, vi (2 : Int32)] [(.int c2)])) _
  obtain ⟨_, _, ⟨T27, L27, k27, n27⟩, -, Xw27, hSw27, hgw27, ⟨Lc27, hQ27, l27, y27, z27, hC27⟩, st27⟩ := callSS X26 hx (y := own_n13) hown21 (mvT hZ21 (own_tw hw 82 rfl)) (mvT hZ21 (own_tw hw 83 rfl)) (mvT hZ21 (own_tw hw 64 rfl)) (mvT hZ21 (own_tw hw 84 rfl)) (by decide) (own_backS (W := 0) (own_all l Z a0 hW c2 T21.heap n0 (by omega) O22 hc2) hZ21 (own_tw hw 84 rfl) (own_tw hw 64 rfl) (by decide) (by decide) hEL CH22.1 all0) (g := (mkF m 73 #[vr a1, vi (2 : Int32)] [(.int c2)])) rfl (by rw [hml]; rfl) (argsL := [(.int c2)]) (rest := []) (lenOf pd_8 rfl) rfl (own_le rfl) (hb hby d12_73) (fun _ _ => ⟨rfl, eh26, (by decide : 4 + 2 ≤ 7), (by decide : 56 + 28 ≤ 85)⟩)
  dsimp only [Pt.U, Pt.locs, Pt.cells, Pt.slots] at Xw27 hSw27 hgw27 hC27 l27 y27 z27 st27 hQ27
  subst l27 y27 z27
  obtain ⟨X27, hS27, hZ27, hown27⟩ := rebS hS21 (show T21.heap.size ≤ T26.heap.size by rw [eh26]; omega) Xw27 hSw27 hgw27 hZ21 hown21
  obtain ⟨rfl, Nq27, Kq27⟩ := hQ27
  have N27 := Fr.app N26 Nq27
  have z28 := Kq27.1
  have K28 := K22.trans Kq27 all0
  have O28 := O22.keep Kq27 all0
  have CH28 := CH22.trans hC27
  refine own_gs st27 ?_
  show own_Fin p e below (T27.setTop (mkF m 76 #[vr a1, vi (2 : Int32)] [(.int (1 : Int32))])) _
  have f29 := (f23.keep Kq27 nin0 nin0)
  refine own_gs (cur' := T27.setTop (mkF m 62 #[vr a1, vi (3 : Int32)] [(.ref a1), (.int (3 : Int32))])) ?_ ?_
  · refine XS.ifYes X27.here hx rfl (pc0 := 76) (pc' := 92) rfl (hb hby d12_76) rfl ((if0 _ _).trans (feq ((by decide) : ¬ ((1 : Int32) = (0 : Int32)))).2) (by decide) (by decide) ?_
    refine XS.iinc X27.here hx rfl (hb hby d12_92) rfl (l' := #[vr a1, vi (3 : Int32)]) rfl ?_
    refine XS.goto X27.here hx rfl (pc0 := 95) (pc' := 60) rfl (hb hby d12_95) (by decide) (by decide) ?_
    refine XS.iloadN X27.here hx rfl (hb hby d12_60) rfl ?_
    refine XS.aloadN X27.here hx rfl (hb hby d12_61) rfl rfl ?_
    exact Steps.refl _
  have f31 := (f25.keep Kq27)
  obtain ⟨cq30, kq30, q30a, q30b, q30c⟩ := isOf hZ27 rfl f31
  obtain ⟨_, _, ⟨T30, L30, k30, n30⟩, -, X30, ⟨Lc30, hQ30, l30, y30, z30⟩, st30⟩ := X27.virtualBack hx (y := own_n11) (z := own_n11) hown27 (mvT hZ27 (own_tw hw 71 rfl)) (mvT hZ27 (own_tw hw 72 rfl)) (notFace_of_selects (args := #[]) (mvT hZ27 (own_tw hw 74 rfl))) (mvT hZ27 (own_tw hw 74 rfl)) (mvT hZ27 (own_tw hw 73 rfl)) (by decide) (own_lenB (W := 1) hZ27 hw f29 (O2.ext O28.2) P5 (by decide) (by decide)) q30a q30c (g := (mkF m 62 #[vr a1, vi (3 : Int32)] [(.ref a1), (.int (3 : Int32))])) rfl (by rw [hml]; rfl) (Steps.refl _) (argsL := []) (rest := [(.int (3 : Int32))]) (lenOf pd_6 rfl) rfl (own_le rfl) (hb hby d12_62) (fun _ _ => ⟨rfl, rfl, (by decide : 6 + 0 ≤ 7), (by decide : 84 + 0 ≤ 85)⟩)
  dsimp only [Pt.U, Pt.locs, Pt.cells, Pt.slots] at X30 l30 y30 z30 st30 hQ30
  subst l30 y30 z30
  obtain ⟨rfl, rfl, eh30⟩ := hQ30
  have N30 := Fr.app N27 (Fr.nil n0)
  refine own_gs st30 ?_
  show own_Fin p e below (T30.setTop (mkF m 65 #[vr a1, vi (3 : Int32)] [(.int (3 : Int32)), (.int (3 : Int32))])) _
  refine own_gs (cur' := T30.setTop (mkF m 98 #[vr a1, vi (3 : Int32)] [])) ?_ ?_
  · refine XS.icmpYes X30.here hx rfl (pc0 := 65) (pc' := 98) rfl (hb hby d12_65) rfl (flt ((by decide) : ¬ ((3 : Int32) < (3 : Int32)))).2.1 (by decide) (by decide) ?_
    exact Steps.refl _
  obtain ⟨T32, h32, X32, e32, E32, A32, D32, -, st32⟩ := newO X30 hx hZ27 hown27 (own_tw hw 85 rfl) (own_tw hw 86 rfl) (own_tw hw 64 rfl) eh30 (g := (mkF m 98 #[vr a1, vi (3 : Int32)] [])) rfl (hb hby d12_98) (by decide) (by decide)
  obtain ⟨b32, g32⟩ : ∃ z, z = T27.heap.size := ⟨_, rfl⟩
  rw [← g32] at A32 D32 st32
  have lt32 := own_lt A32.lt
  refine own_go st32 ?_
  show own_Fin p e below (T32.setTop (mkF m 101 #[vr a1, vi (3 : Int32)] [(.ref b32)])) _
  have z33 := E32.1
  have K33 := K28.ext E32
  have O33 := O28.ext E32
  have CH33 := CH28.trans (CHr.ext E32 CH28.1)
  have F32_value : Fld Z h32 b32 "com/example/lease_lock/leaselock/LockName" "value" "Ljava/lang/String;" .null := D32 (Or.inr (own_tw hw 92 rfl)) (ty := (.object "java/lang/String")) (by decide)
  refine own_gs (cur' := T32.setTop (mkF m 103 #[vr a1, vi (3 : Int32)] [(.ref a1), (.ref b32), (.ref b32)])) ?_ ?_
  · refine XS.dup X32.here hx rfl (hb hby d12_101) rfl rfl ?_
    refine XS.aloadN X32.here hx rfl (hb hby d12_102) rfl rfl ?_
    exact Steps.refl _
  obtain ⟨_, _, ⟨T34, L34, k34, n34⟩, -, X34, ⟨Lc34, hQ34, l34, y34, z34⟩, st34⟩ := X32.specialBack hx (y := own_n14) rfl hown27 (mvT hZ27 (own_tw hw 87 rfl)) (mvT hZ27 (own_tw hw 88 rfl)) (mvT hZ27 (own_tw hw 89 rfl)) (by decide) (backOf (W := 1) (own_linit l Z a0 hW b32 a1 .null h32 n0 (by omega) O33 A32 F32_value (by omega)) hZ27 (own_tw hw 89 rfl) (own_tw hw 64 rfl) (by decide) (by decide)) (g := (mkF m 103 #[vr a1, vi (3 : Int32)] [(.ref a1), (.ref b32), (.ref b32)])) rfl (by rw [hml]; rfl) (Steps.refl _) (a := b32) (argsL := [(.ref a1)]) (rest := [(.ref b32)]) (lenOf pd_9 rfl) rfl (own_le rfl) (hb hby d12_103) (fun _ _ => ⟨rfl, e32, (by decide : 7 + 0 ≤ 7), (by decide : 85 + 0 ≤ 85)⟩)
  dsimp only [Pt.U, Pt.locs, Pt.cells, Pt.slots] at X34 l34 y34 z34 st34 hQ34
  subst l34 y34 z34
  obtain ⟨rfl, Nq34, Kq34, Fo34⟩ := hQ34
  have N34 := Fr.app N30 Nq34
  have z35 := Kq34.1
  have K35 := K33.trans Kq34 (allS (Or.inr (by omega)) all0)
  have O35 := O33.keep Kq34 (allS (by omega) all0)
  have CH35 := CH33.trans (CHr.keep Kq34 (allS (Safe.exa hZ27.alike A32 (by decide) (by decide)) all0) CH33.1)
  refine own_gs st34 ?_
  show own_Fin p e below (T34.setTop (mkF m 106 #[vr a1, vi (3 : Int32)] [(.ref b32)])) _
  have f36 := (A32.keep Kq34)
  obtain ⟨fs, hr, hrun, hended, hRE⟩ := X34.leaveW hS27 (show T27.heap.size ≤ T34.heap.size by omega) (v := (some (.ref b32))) (fun h => by rw [Bd.returns] at h; cases h)
  refine ⟨_, _, X34.areturnOut hx rfl Bd.returns rfl (hb hby d12_106) hr, hrun, hended, _, _, rfl, ?_, ?_, hRE.1, hRE.2.1, hRE.2.2.1, hRE.2.2.2.mono (own_le rfl) (own_le rfl)⟩
  · show own_of3_Q Z a1 t1 c0 c1 c2 h0 n0 (some (.ref b32)) T34.heap _
    exact ⟨_, rfl, N34, K35, f36, Fo34, (by omega)⟩
  · have hfin := CH35.trans (CHv.at X34 hZ27 hEL CH35.1)
    rw [hh]
    show CHr Z own_EL s.vm h0 T34.vm T34.heap
    exact hfin
abbrev own_c13 : ByteArray := prog_2_method_3_code
def own_val_Q (Z : State) (b1 a1 : Nat) (h0 : Heap) (n0 : Nat) (v : Option Value) (h : Heap) (L : List Loc) : Prop := v = (some (.ref a1)) ∧ Fr n0 L ∧ h = h0
theorem ef_own_val (m : MethodId) (x0 : Nat) : entryFrame m #[(.ref x0)] 1 = mkF m 0 #[vr x0] [] := by first | (simp [entryFrame, mkF, argsToLocals, Value.category]; done) | rfl
abbrev own_n17 : MethodName := ⟨"com/example/lease_lock/leaselock/LockName", "value", "()Ljava/lang/String;"⟩
theorem d13_0 : decode own_c13 0 = .ok (.aload_n 0, 1) := by decide +kernel
theorem d13_1 : decode own_c13 1 = .ok (.getfield 7, 3) := by decide +kernel
theorem d13_4 : decode own_c13 4 = .ok (.areturn, 1) := by decide +kernel
set_option maxRecDepth 65536 in
set_option maxHeartbeats 40000000 in
theorem own_val (l : Launch) (Z : State) (a0 : Array Value) (hW : own_W Z a0) (b1 a1 : Nat) (h0 : Heap) (n0 : Nat) (Z0 : n0 ≤ h0.size) (O0 : Old Z n0 h0) (F1 : Fld Z h0 b1 "com/example/lease_lock/leaselock/LockName" "value" "Ljava/lang/String;" (.ref a1)) :
    MetFree l own_n17 (head1 (Jvm.Cond.code own_n17 own_c13 1 (some (.object "java/lang/String")) :: []) ({ frames := 0, cells := 0, slots := 0, locals := 0 } : Room)) (fun a U => a = #[(.ref b1)] ∧ Z.Warmed39 U.vm ∧ U.heap = h0) (fun _ _ _ _ _ => True) (fun _ U o U' => ∃ v L, o = .returned v ∧ own_val_Q Z b1 a1 h0 n0 v U'.heap L ∧ FrameEnd U o U' L ({ frames := 0, cells := 0, slots := 0, locals := 0 } : Room).cells ({ frames := 0, cells := 0, slots := 0, locals := 0 } : Room).slots) := by
  refine MetFree.of_bodySF (plainFor_of_name pn_com_example_lease_lock_leaselock_LockName) hisR ?_
  intro p e s m args below meth c s₁ Bd hml0 hP hK
  obtain ⟨rfl, hZ, hh⟩ := hP
  obtain ⟨hw, ⟨G1, O2, P5⟩, ⟨G3, O4, rG3⟩⟩ := id hW
  have hx := Bd.exec
  have hby := Bd.bytes
  have hml : c.maxLocals = 1 := hml0
  have hown : s.vm.findClass "com/example/lease_lock/leaselock/LockName" = some m.cls := findClass_of_methodNamed Bd.named
  have hnm := (name_of_methodNamed Bd.named Bd.method).1
  have X0 : Stand p l e ({ frames := 0, cells := 0, slots := 0, locals := 0 } : Room) s m #[(.ref b1)] below meth c s₁ [] 0 0 := Stand.of_body Bd
  have e0 : s₁.heap = h0 := by rw [← hh, Bd.state]; rfl
  have N0 := Fr.nil n0
  have K0 := Keep.refl h0 []
  show own_Fin p e below (s₁.setTop (entryFrame m #[(.ref b1)] 1)) _
  refine own_gs (castTop (ef_own_val m b1) (Steps.refl _)) ?_
  show own_Fin p e below (s₁.setTop (mkF m 0 #[vr b1] [])) _
  refine own_gs (cur' := s₁.setTop (mkF m 1 #[vr b1] [(.ref b1)])) ?_ ?_
  · refine XS.aloadN X0.here hx rfl (hb hby d13_0) rfl rfl ?_
    exact Steps.refl _
  obtain ⟨T11, X11, e11, st11⟩ := getF X0 hx hZ hown (host := "") (Or.inl (own_tw hw 91 rfl)) Via.refl e0 F1 (g := (mkF m 1 #[vr b1] [(.ref b1)])) rfl rfl (hb hby d13_1)
  refine own_go st11 ?_
  show own_Fin p e below (T11.setTop (mkF m 4 #[vr b1] [(.ref a1)])) _
  obtain ⟨fs, hr, hrun, hended, hW1, hsame⟩ := X11.leave (v := (some (.ref a1))) (fun h => by rw [Bd.returns] at h; cases h)
  refine ⟨_, _, X11.areturnOut hx rfl Bd.returns rfl (hb hby d13_4) hr, hrun, hended, _, _, rfl, ?_, ⟨_, rfl⟩, hW1, hsame.mono (own_le rfl) (own_le rfl)⟩
  show own_val_Q Z b1 a1 h0 n0 (some (.ref a1)) T11.heap _
  rw [e11]
  exact ⟨rfl, N0, rfl⟩
abbrev own_c14 : ByteArray := prog_2_method_6_code
def own_tos_Q (Z : State) (b1 a1 : Nat) (h0 : Heap) (n0 : Nat) (v : Option Value) (h : Heap) (L : List Loc) : Prop := v = (some (.ref a1)) ∧ Fr n0 L ∧ h = h0
theorem ef_own_tos (m : MethodId) (x0 : Nat) : entryFrame m #[(.ref x0)] 1 = mkF m 0 #[vr x0] [] := by first | (simp [entryFrame, mkF, argsToLocals, Value.category]; done) | rfl
abbrev own_n18 : MethodName := ⟨"com/example/lease_lock/leaselock/LockName", "toString", "()Ljava/lang/String;"⟩
theorem d14_0 : decode own_c14 0 = .ok (.aload_n 0, 1) := by decide +kernel
theorem d14_1 : decode own_c14 1 = .ok (.getfield 7, 3) := by decide +kernel
theorem d14_4 : decode own_c14 4 = .ok (.areturn, 1) := by decide +kernel
set_option maxRecDepth 65536 in
set_option maxHeartbeats 40000000 in
theorem own_tos (l : Launch) (Z : State) (a0 : Array Value) (hW : own_W Z a0) (b1 a1 : Nat) (h0 : Heap) (n0 : Nat) (Z0 : n0 ≤ h0.size) (O0 : Old Z n0 h0) (F1 : Fld Z h0 b1 "com/example/lease_lock/leaselock/LockName" "value" "Ljava/lang/String;" (.ref a1)) :
    MetFree l own_n18 (head1 (Jvm.Cond.code own_n18 own_c14 1 (some (.object "java/lang/String")) :: []) ({ frames := 0, cells := 0, slots := 0, locals := 0 } : Room)) (fun a U => a = #[(.ref b1)] ∧ Z.Warmed39 U.vm ∧ U.heap = h0) (fun _ _ _ _ _ => True) (fun _ U o U' => ∃ v L, o = .returned v ∧ own_tos_Q Z b1 a1 h0 n0 v U'.heap L ∧ FrameEnd U o U' L ({ frames := 0, cells := 0, slots := 0, locals := 0 } : Room).cells ({ frames := 0, cells := 0, slots := 0, locals := 0 } : Room).slots) := by
  refine MetFree.of_bodySF (plainFor_of_name pn_com_example_lease_lock_leaselock_LockName) hisR ?_
  intro p e s m args below meth c s₁ Bd hml0 hP hK
  obtain ⟨rfl, hZ, hh⟩ := hP
  obtain ⟨hw, ⟨G1, O2, P5⟩, ⟨G3, O4, rG3⟩⟩ := id hW
  have hx := Bd.exec
  have hby := Bd.bytes
  have hml : c.maxLocals = 1 := hml0
  have hown : s.vm.findClass "com/example/lease_lock/leaselock/LockName" = some m.cls := findClass_of_methodNamed Bd.named
  have hnm := (name_of_methodNamed Bd.named Bd.method).1
  have X0 : Stand p l e ({ frames := 0, cells := 0, slots := 0, locals := 0 } : Room) s m #[(.ref b1)] below meth c s₁ [] 0 0 := Stand.of_body Bd
  have e0 : s₁.heap = h0 := by rw [← hh, Bd.state]; rfl
  have N0 := Fr.nil n0
  have K0 := Keep.refl h0 []
  show own_Fin p e below (s₁.setTop (entryFrame m #[(.ref b1)] 1)) _
  refine own_gs (castTop (ef_own_tos m b1) (Steps.refl _)) ?_
  show own_Fin p e below (s₁.setTop (mkF m 0 #[vr b1] [])) _
  refine own_gs (cur' := s₁.setTop (mkF m 1 #[vr b1] [(.ref b1)])) ?_ ?_
  · refine XS.aloadN X0.here hx rfl (hb hby d14_0) rfl rfl ?_
    exact Steps.refl _
  obtain ⟨T11, X11, e11, st11⟩ := getF X0 hx hZ hown (host := "") (Or.inl (own_tw hw 91 rfl)) Via.refl e0 F1 (g := (mkF m 1 #[vr b1] [(.ref b1)])) rfl rfl (hb hby d14_1)
  refine own_go st11 ?_
  show own_Fin p e below (T11.setTop (mkF m 4 #[vr b1] [(.ref a1)])) _
  obtain ⟨fs, hr, hrun, hended, hW1, hsame⟩ := X11.leave (v := (some (.ref a1))) (fun h => by rw [Bd.returns] at h; cases h)
  refine ⟨_, _, X11.areturnOut hx rfl Bd.returns rfl (hb hby d14_4) hr, hrun, hended, _, _, rfl, ?_, ⟨_, rfl⟩, hW1, hsame.mono (own_le rfl) (own_le rfl)⟩
  show own_tos_Q Z b1 a1 h0 n0 (some (.ref a1)) T11.heap _
  rw [e11]
  exact ⟨rfl, N0, rfl⟩
abbrev own_c15 : ByteArray := prog_2_method_4_code
def own_leq_Q (Z : State) (b1 b2 a1 a2 t1 t2 : Nat) (cs ds : List Int32) (h0 : Heap) (n0 : Nat) (v : Option Value) (h : Heap) (L : List Loc) : Prop := v = (some (.int (if cs = ds then 1 else 0))) ∧ Fr n0 L ∧ h = h0
theorem ef_own_leq (m : MethodId) (x0 : Nat) (x1 : Nat) : entryFrame m #[(.ref x0), (.ref x1)] 3 = mkF m 0 #[vr x0, vr x1, .unset] [] := by first | (simp [entryFrame, mkF, argsToLocals, Value.category]; done) | rfl
abbrev own_n19 : MethodName := ⟨"com/example/lease_lock/leaselock/LockName", "equals", "(Ljava/lang/Object;)Z"⟩
theorem d15_0 : decode own_c15 0 = .ok (.aload_n 1, 1) := by decide +kernel
theorem d15_1 : decode own_c15 1 = .ok (.instanceof 8, 3) := by decide +kernel
theorem d15_4 : decode own_c15 4 = .ok (.ifCond .eq 26, 3) := by decide +kernel
theorem d15_7 : decode own_c15 7 = .ok (.aload_n 1, 1) := by decide +kernel
theorem d15_8 : decode own_c15 8 = .ok (.checkcast 8, 3) := by decide +kernel
theorem d15_11 : decode own_c15 11 = .ok (.astore_n 2, 1) := by decide +kernel
theorem d15_12 : decode own_c15 12 = .ok (.aload_n 0, 1) := by decide +kernel
theorem d15_13 : decode own_c15 13 = .ok (.getfield 7, 3) := by decide +kernel
theorem d15_16 : decode own_c15 16 = .ok (.aload_n 2, 1) := by decide +kernel
theorem d15_17 : decode own_c15 17 = .ok (.getfield 7, 3) := by decide +kernel
theorem d15_20 : decode own_c15 20 = .ok (.invokevirtual 49, 3) := by decide +kernel
theorem pd_10 : parseMethodDescriptor "(Ljava/lang/Object;)Z" = some ⟨[(.object "java/lang/Object")], some .boolean⟩ := by decide +kernel
abbrev own_n20 : MethodName := ⟨"java/lang/String", "equals", "(Ljava/lang/Object;)Z"⟩
theorem d15_23 : decode own_c15 23 = .ok (.ifCond .eq 7, 3) := by decide +kernel
theorem d15_26 : decode own_c15 26 = .ok (.iconst 1, 1) := by decide +kernel
theorem d15_27 : decode own_c15 27 = .ok (.goto 4, 3) := by decide +kernel
theorem d15_31 : decode own_c15 31 = .ok (.ireturn, 1) := by decide +kernel
theorem d15_30 : decode own_c15 30 = .ok (.iconst 0, 1) := by decide +kernel
set_option maxRecDepth 65536 in
set_option maxHeartbeats 40000000 in
theorem own_leq (l : Launch) (Z : State) (a0 : Array Value) (hW : own_W Z a0) (b1 b2 a1 a2 t1 t2 : Nat) (cs ds : List Int32) (h0 : Heap) (n0 : Nat) (Z0 : n0 ≤ h0.size) (O0 : Old Z n0 h0) (E1 : Exa Z h0 b1 "com/example/lease_lock/leaselock/LockName") (F1 : Fld Z h0 b1 "com/example/lease_lock/leaselock/LockName" "value" "Ljava/lang/String;" (.ref a1)) (S1 : own_Str Z h0 a1 t1 cs) (E2 : Exa Z h0 b2 "com/example/lease_lock/leaselock/LockName") (F2 : Fld Z h0 b2 "com/example/lease_lock/leaselock/LockName" "value" "Ljava/lang/String;" (.ref a2)) (S2 : own_Str Z h0 a2 t2 ds) :
    MetFree l own_n19 (head1 (Jvm.Cond.code own_n19 own_c15 3 (some .boolean) :: []) ({ frames := 2, cells := 0, slots := 0, locals := 30 } : Room)) (fun a U => a = #[(.ref b1), (.ref b2)] ∧ Z.Warmed39 U.vm ∧ U.heap = h0) (fun _ _ _ _ _ => True) (fun _ U o U' => ∃ v L, o = .returned v ∧ own_leq_Q Z b1 b2 a1 a2 t1 t2 cs ds h0 n0 v U'.heap L ∧ FrameEnd U o U' L ({ frames := 2, cells := 0, slots := 0, locals := 30 } : Room).cells ({ frames := 2, cells := 0, slots := 0, locals := 30 } : Room).slots) := by
  refine MetFree.of_bodySF (plainFor_of_name pn_com_example_lease_lock_leaselock_LockName) hisR ?_
  intro p e s m args below meth c s₁ Bd hml0 hP hK
  obtain ⟨rfl, hZ, hh⟩ := hP
  obtain ⟨hw, ⟨G1, O2, P5⟩, ⟨G3, O4, rG3⟩⟩ := id hW
  have hx := Bd.exec
  have hby := Bd.bytes
  have hml : c.maxLocals = 3 := hml0
  have hown : s.vm.findClass "com/example/lease_lock/leaselock/LockName" = some m.cls := findClass_of_methodNamed Bd.named
  have hnm := (name_of_methodNamed Bd.named Bd.method).1
  have X0 : Stand p l e ({ frames := 2, cells := 0, slots := 0, locals := 30 } : Room) s m #[(.ref b1), (.ref b2)] below meth c s₁ [] 0 0 := Stand.of_body Bd
  have e0 : s₁.heap = h0 := by rw [← hh, Bd.state]; rfl
  have N0 := Fr.nil n0
  have K0 := Keep.refl h0 []
  have Ea1 := S1.exa
  have Ea2 := S2.exa
  show own_Fin p e below (s₁.setTop (entryFrame m #[(.ref b1), (.ref b2)] 3)) _
  refine own_gs (castTop (ef_own_leq m b1 b2) (Steps.refl _)) ?_
  show own_Fin p e below (s₁.setTop (mkF m 0 #[vr b1, vr b2, uu] [])) _
  refine own_gs (cur' := s₁.setTop (mkF m 1 #[vr b1, vr b2, uu] [(.ref b2)])) ?_ ?_
  · refine XS.aloadN X0.here hx rfl (hb hby d15_0) rfl rfl ?_
    exact Steps.refl _
  obtain ⟨T11, X11, e11, st11⟩ := instY X0 hx hZ hown (own_tw hw 85 rfl) e0 (Ins.self E2) (g := (mkF m 1 #[vr b1, vr b2, uu] [(.ref b2)])) rfl rfl (hb hby d15_1)
  refine own_go st11 ?_
  show own_Fin p e below (T11.setTop (mkF m 4 #[vr b1, vr b2, uu] [(.int (1 : Int32))])) _
  refine own_gs (cur' := T11.setTop (mkF m 8 #[vr b1, vr b2, uu] [(.ref b2)])) ?_ ?_
  · refine XS.ifNo X11.here hx rfl (hb hby d15_4) rfl ((if0 _ _).trans (feq ((by decide) : ¬ ((1 : Int32) = (0 : Int32)))).1) ?_
    refine XS.aloadN X11.here hx rfl (hb hby d15_7) rfl rfl ?_
    exact Steps.refl _
  obtain ⟨T12, X12, e12, st12⟩ := castY X11 hx hZ hown (own_tw hw 85 rfl) e11 (Ins.self E2) (g := (mkF m 8 #[vr b1, vr b2, uu] [(.ref b2)])) rfl rfl (hb hby d15_8)
  refine own_go st12 ?_
  show own_Fin p e below (T12.setTop (mkF m 11 #[vr b1, vr b2, uu] [(.ref b2)])) _
  refine own_gs (cur' := T12.setTop (mkF m 13 #[vr b1, vr b2, vr b2] [(.ref b1)])) ?_ ?_
  · refine XS.astoreN X12.here hx rfl (hb hby d15_11) rfl rfl (l' := #[vr b1, vr b2, vr b2]) rfl ?_
    refine XS.aloadN X12.here hx rfl (hb hby d15_12) rfl rfl ?_
    exact Steps.refl _
  obtain ⟨T13, X13, e13, st13⟩ := getF X12 hx hZ hown (host := "") (Or.inl (own_tw hw 91 rfl)) Via.refl e12 F1 (g := (mkF m 13 #[vr b1, vr b2, vr b2] [(.ref b1)])) rfl rfl (hb hby d15_13)
  refine own_go st13 ?_
  show own_Fin p e below (T13.setTop (mkF m 16 #[vr b1, vr b2, vr b2] [(.ref a1)])) _
  refine own_gs (cur' := T13.setTop (mkF m 17 #[vr b1, vr b2, vr b2] [(.ref b2), (.ref a1)])) ?_ ?_
  · refine XS.aloadN X13.here hx rfl (hb hby d15_16) rfl rfl ?_
    exact Steps.refl _
  obtain ⟨T14, X14, e14, st14⟩ := getF X13 hx hZ hown (host := "") (Or.inl (own_tw hw 91 rfl)) Via.refl e13 F2 (g := (mkF m 17 #[vr b1, vr b2, vr b2] [(.ref b2), (.ref a1)])) rfl rfl (hb hby d15_17)
  refine own_go st14 ?_
  show own_Fin p e below (T14.setTop (mkF m 20 #[vr b1, vr b2, vr b2] [(.ref a2), (.ref a1)])) _
  obtain ⟨cq15, kq15, q15a, q15b, q15c⟩ := isOf hZ e14 Ea1
  obtain ⟨_, _, ⟨T15, L15, k15, n15⟩, -, X15, ⟨Lc15, hQ15, l15, y15, z15⟩, st15⟩ := X14.virtualBack hx (y := own_n20) (z := own_n20) hown (mvT hZ (own_tw hw 118 rfl)) (mvT hZ (own_tw hw 94 rfl)) (notFace_of_selects (args := #[]) (mvT hZ (own_tw hw 96 rfl))) (mvT hZ (own_tw hw 96 rfl)) (mvT hZ (own_tw hw 95 rfl)) (by decide) (own_eqB (W := 0) hZ hw S1 S2 (O2.ext O0.2) P5 (by decide) (by decide)) q15a q15c (g := (mkF m 20 #[vr b1, vr b2, vr b2] [(.ref a2), (.ref a1)])) rfl (by rw [hml]; rfl) (Steps.refl _) (argsL := [(.ref a2)]) (rest := []) (lenOf pd_10 rfl) rfl (own_le rfl) (hb hby d15_20) (fun _ _ => ⟨rfl, e14, (by decide : 0 + 0 ≤ 0), (by decide : 0 + 0 ≤ 0)⟩)
  dsimp only [Pt.U, Pt.locs, Pt.cells, Pt.slots] at X15 l15 y15 z15 st15 hQ15
  subst l15 y15 z15
  obtain ⟨rfl, rfl, eh15⟩ := hQ15
  have N15 := Fr.app N0 (Fr.nil n0)
  refine own_gs st15 ?_
  show own_Fin p e below (T15.setTop (mkF m 23 #[vr b1, vr b2, vr b2] [(.int (if cs = ds then 1 else 0))])) _
  by_cases hq : cs = ds
  · rw [if_pos hq]
    show own_Fin p e below (T15.setTop (mkF m 23 #[vr b1, vr b2, vr b2] [(.int (1 : Int32))])) _
    refine own_gs (cur' := T15.setTop (mkF m 31 #[vr b1, vr b2, vr b2] [(.int (1 : Int32))])) ?_ ?_
    · refine XS.ifNo X15.here hx rfl (hb hby d15_23) rfl ((if0 _ _).trans (feq ((by decide) : ¬ ((1 : Int32) = (0 : Int32)))).1) ?_
      refine XS.iconst X15.here hx rfl (hb hby d15_26) ?_
      refine XS.goto X15.here hx rfl (pc0 := 27) (pc' := 31) rfl (hb hby d15_27) (by decide) (by decide) ?_
      exact Steps.refl _
    obtain ⟨fs, hr, hrun, hended, hW1, hsame⟩ := X15.leave (v := (some (.int (1 : Int32)))) (fun h => by rw [Bd.returns] at h; cases h)
    refine ⟨_, _, retN X15 hx (t := .boolean) Bd.returns (by simp) (hb hby d15_31) hr, hrun, hended, _, _, rfl, ?_, ⟨_, rfl⟩, hW1, hsame.mono (own_le rfl) (own_le rfl)⟩
    show own_leq_Q Z b1 b2 a1 a2 t1 t2 cs ds h0 n0 (some (.int (1 : Int32))) T15.heap _
    rw [eh15]
    exact ⟨by rw [if_pos hq], N15, rfl⟩
  · rw [if_neg hq]
    show own_Fin p e below (T15.setTop (mkF m 23 #[vr b1, vr b2, vr b2] [(.int (0 : Int32))])) _
    refine own_gs (cur' := T15.setTop (mkF m 31 #[vr b1, vr b2, vr b2] [(.int (0 : Int32))])) ?_ ?_
    · refine XS.ifYes X15.here hx rfl (pc0 := 23) (pc' := 30) rfl (hb hby d15_23) rfl ((if0 _ _).trans (teq ((by decide) : (0 : Int32) = (0 : Int32))).1) (by decide) (by decide) ?_
      refine XS.iconst X15.here hx rfl (hb hby d15_30) ?_
      exact Steps.refl _
    obtain ⟨fs, hr, hrun, hended, hW1, hsame⟩ := X15.leave (v := (some (.int (0 : Int32)))) (fun h => by rw [Bd.returns] at h; cases h)
    refine ⟨_, _, retN X15 hx (t := .boolean) Bd.returns (by simp) (hb hby d15_31) hr, hrun, hended, _, _, rfl, ?_, ⟨_, rfl⟩, hW1, hsame.mono (own_le rfl) (own_le rfl)⟩
    show own_leq_Q Z b1 b2 a1 a2 t1 t2 cs ds h0 n0 (some (.int (0 : Int32))) T15.heap _
    rw [eh15]
    exact ⟨by rw [if_neg hq], N15, rfl⟩
def own_hash (cs : List Int32) : Int32 := match cs with
  | [c] => StrChars.lo8 c &&& 255
  | cs => cs.foldl (fun h c => 31 * h + (StrChars.lo8 c &&& 255)) 0
abbrev own_c16 : ByteArray := jdk_43_method_21_code
def own_lhs_k1_Q (Z : State) (t1 : Nat) (k1 : ClassId) (c0 : Int32) (h0 : Heap) (n0 : Nat) (v : Option Value) (h : Heap) (L : List Loc) : Prop := v = (some (.int (own_hash [c0]))) ∧ Fr n0 L ∧ h = h0
theorem ef_own_lhs_k1 (m : MethodId) (x0 : Nat) : entryFrame m #[(.ref x0)] 1 = mkF m 0 #[vr x0] [] := by first | (simp [entryFrame, mkF, argsToLocals, Value.category]; done) | rfl
abbrev own_n21 : MethodName := ⟨"java/lang/StringLatin1", "hashCode", "([B)I"⟩
theorem d16_0 : decode own_c16 0 = .ok (.aload_n 0, 1) := by decide +kernel
theorem d16_1 : decode own_c16 1 = .ok (.arraylength, 1) := by decide +kernel
theorem d16_2 : decode own_c16 2 = .ok (.lookupswitch 40 #[(0, 26), (1, 30)], 26) := by decide +kernel
theorem d16_32 : decode own_c16 32 = .ok (.aload_n 0, 1) := by decide +kernel
theorem d16_33 : decode own_c16 33 = .ok (.iconst 0, 1) := by decide +kernel
theorem d16_34 : decode own_c16 34 = .ok (.baload, 1) := by decide +kernel
theorem d16_35 : decode own_c16 35 = .ok (.sipush 255, 3) := by decide +kernel
theorem d16_38 : decode own_c16 38 = .ok (.iand, 1) := by decide +kernel
theorem d16_39 : decode own_c16 39 = .ok (.goto 12, 3) := by decide +kernel
theorem d16_51 : decode own_c16 51 = .ok (.ireturn, 1) := by decide +kernel
set_option maxRecDepth 65536 in
set_option maxHeartbeats 40000000 in
theorem own_lhs_k1 (l : Launch) (Z : State) (a0 : Array Value) (hW : own_W Z a0) (t1 : Nat) (k1 : ClassId) (c0 : Int32) (h0 : Heap) (n0 : Nat) (Z0 : n0 ≤ h0.size) (O0 : Old Z n0 h0) (V1 : Arv Z h0 t1 k1 .byte (1 : Int32) [(.int (StrChars.lo8 c0))] (.int (0 : Int32))) (Eb1 : Exa Z h0 t1 "[B") :
    MetFree l own_n21 (head1 (Jvm.Cond.code own_n21 own_c16 1 (some .int) :: []) ({ frames := 2, cells := 0, slots := 0, locals := 40 } : Room)) (fun a U => a = #[(.ref t1)] ∧ Z.Warmed39 U.vm ∧ U.heap = h0) (fun _ _ _ _ _ => True) (fun _ U o U' => ∃ v L, o = .returned v ∧ own_lhs_k1_Q Z t1 k1 c0 h0 n0 v U'.heap L ∧ FrameEnd U o U' L ({ frames := 2, cells := 0, slots := 0, locals := 40 } : Room).cells ({ frames := 2, cells := 0, slots := 0, locals := 40 } : Room).slots) := by
  refine MetFree.of_bodySF (plainFor_of_name pn_java_lang_StringLatin1) hisR ?_
  intro p e s m args below meth c s₁ Bd hml0 hP hK
  obtain ⟨rfl, hZ, hh⟩ := hP
  obtain ⟨hw, ⟨G1, O2, P5⟩, ⟨G3, O4, rG3⟩⟩ := id hW
  have hx := Bd.exec
  have hby := Bd.bytes
  have hml : c.maxLocals = 1 := hml0
  have hown : s.vm.findClass "java/lang/StringLatin1" = some m.cls := findClass_of_methodNamed Bd.named
  have hnm := (name_of_methodNamed Bd.named Bd.method).1
  have X0 : Stand p l e ({ frames := 2, cells := 0, slots := 0, locals := 40 } : Room) s m #[(.ref t1)] below meth c s₁ [] 0 0 := Stand.of_body Bd
  have e0 : s₁.heap = h0 := by rw [← hh, Bd.state]; rfl
  have N0 := Fr.nil n0
  have K0 := Keep.refl h0 []
  have lt1 := own_lt V1.lt
  show own_Fin p e below (s₁.setTop (entryFrame m #[(.ref t1)] 1)) _
  refine own_gs (castTop (ef_own_lhs_k1 m t1) (Steps.refl _)) ?_
  show own_Fin p e below (s₁.setTop (mkF m 0 #[vr t1] [])) _
  refine own_gs (cur' := s₁.setTop (mkF m 1 #[vr t1] [(.ref t1)])) ?_ ?_
  · refine XS.aloadN X0.here hx rfl (hb hby d16_0) rfl rfl ?_
    exact Steps.refl _
  obtain ⟨cl11, Ar11, q11, S11, M11, Hs11, G11⟩ := id V1
  refine own_go (X0.arraylength hx (by rw [e0]; exact Ar11.1) (State.isArrayOf_alike hZ.alike Ar11.2.1) (g := (mkF m 1 #[vr t1] [(.ref t1)])) rfl rfl (hb hby d16_1)) ?_
  rw [len_of S11 M11]
  show own_Fin p e below (s₁.setTop (mkF m 2 #[vr t1] [(.int (1 : Int32))])) _
  refine own_gs (cur' := s₁.setTop (mkF m 34 #[vr t1] [(.int (0 : Int32)), (.ref t1)])) ?_ ?_
  · refine own_lsw X0.here hx rfl (pc0 := 2) (pc' := 32) rfl (hb hby d16_2) rfl (by decide) (o := 30) (by decide) (by decide) (by decide) ?_
    refine XS.aloadN X0.here hx rfl (hb hby d16_32) rfl rfl ?_
    refine XS.iconst X0.here hx rfl (hb hby d16_33) ?_
    exact Steps.refl _
  obtain ⟨cl12, Ar12, q12, S12, M12, Hs12, G12⟩ := id V1
  have hin12 : ¬ ((0 : Int32) < 0 ∨ cl12.slots.size ≤ ((0 : Int32)).toNatClampNeg) := inb_of S12 ⟨by decide, by decide⟩
  have hat12 : cl12.slots[((0 : Int32)).toNatClampNeg]? = some (.int (StrChars.lo8 c0)) := Has.at Hs12 hin12 rfl
  refine own_go (X0.baloadBytes hx (j := (0 : Int32)) (v := (.int (StrChars.lo8 c0))) (by rw [e0]; exact Ar12.1) (State.isArrayOf_alike hZ.alike Ar12.2.1) Ar12.2.2 hin12 hat12 (g := (mkF m 34 #[vr t1] [(.int (0 : Int32)), (.ref t1)])) rfl rfl (hb hby d16_34)) ?_
  show own_Fin p e below (s₁.setTop (mkF m 35 #[vr t1] [(.int (StrChars.lo8 c0))])) _
  refine own_gs (cur' := s₁.setTop (mkF m 51 #[vr t1] [(.int ((StrChars.lo8 c0) &&& (255 : Int32)))])) ?_ ?_
  · refine XS.sipush X0.here hx rfl (hb hby d16_35) ?_
    refine XS.iand X0.here hx rfl (hb hby d16_38) rfl ?_
    refine XS.goto X0.here hx rfl (pc0 := 39) (pc' := 51) rfl (hb hby d16_39) (by decide) (by decide) ?_
    exact Steps.refl _
  obtain ⟨fs, hr, hrun, hended, hW1, hsame⟩ := X0.leave (v := (some (.int ((StrChars.lo8 c0) &&& (255 : Int32))))) (fun h => by rw [Bd.returns] at h; cases h)
  refine ⟨_, _, retI X0 hx Bd.returns (hb hby d16_51) hr, hrun, hended, _, _, rfl, ?_, ⟨_, rfl⟩, hW1, hsame.mono (own_le rfl) (own_le rfl)⟩
  show own_lhs_k1_Q Z t1 k1 c0 h0 n0 (some (.int ((StrChars.lo8 c0) &&& (255 : Int32)))) s₁.heap _
  rw [e0]
  exact ⟨rfl, N0, rfl⟩
abbrev own_c17 : ByteArray := jdk_48_method_5_code
def own_shc_k2_Q (Z : State) (t1 : Nat) (k1 : ClassId) (c0 c1 : Int32) (h0 : Heap) (n0 : Nat) (v : Option Value) (h : Heap) (L : List Loc) : Prop := v = (some (.int (own_hash [c0, c1]))) ∧ Fr n0 L ∧ h = h0
theorem pn_jdk_internal_util_ArraysSupport : plainName "jdk/internal/util/ArraysSupport" = true := by first | (simp [plainName, overriddenIn]; done) | decide +kernel
theorem ef_own_shc_k2 (m : MethodId) (x0 : Int32) (x1 : Nat) (x2 : Int32) (x3 : Int32) : entryFrame m #[(.int x0), (.ref x1), (.int x2), (.int x3)] 6 = mkF m 0 #[vi x0, vr x1, vi x2, vi x3, .unset, .unset] [] := by first | (simp [entryFrame, mkF, argsToLocals, Value.category]; done) | rfl
abbrev own_n22 : MethodName := ⟨"jdk/internal/util/ArraysSupport", "signedHashCode", "(I[BII)I"⟩
theorem d17_0 : decode own_c17 0 = .ok (.iload_n 2, 1) := by decide +kernel
theorem d17_1 : decode own_c17 1 = .ok (.iload_n 3, 1) := by decide +kernel
theorem d17_2 : decode own_c17 2 = .ok (.iadd, 1) := by decide +kernel
theorem d17_3 : decode own_c17 3 = .ok (.istore 4, 2) := by decide +kernel
theorem d17_5 : decode own_c17 5 = .ok (.iload_n 2, 1) := by decide +kernel
theorem d17_6 : decode own_c17 6 = .ok (.istore 5, 2) := by decide +kernel
theorem d17_8 : decode own_c17 8 = .ok (.iload 5, 2) := by decide +kernel
theorem d17_10 : decode own_c17 10 = .ok (.iload 4, 2) := by decide +kernel
theorem d17_12 : decode own_c17 12 = .ok (.if_icmp .ge 23, 3) := by decide +kernel
theorem d17_15 : decode own_c17 15 = .ok (.bipush 31, 2) := by decide +kernel
theorem d17_17 : decode own_c17 17 = .ok (.iload_n 0, 1) := by decide +kernel
theorem d17_18 : decode own_c17 18 = .ok (.imul, 1) := by decide +kernel
theorem d17_19 : decode own_c17 19 = .ok (.aload_n 1, 1) := by decide +kernel
theorem d17_20 : decode own_c17 20 = .ok (.iload 5, 2) := by decide +kernel
theorem d17_22 : decode own_c17 22 = .ok (.baload, 1) := by decide +kernel
theorem d17_23 : decode own_c17 23 = .ok (.sipush 255, 3) := by decide +kernel
theorem d17_26 : decode own_c17 26 = .ok (.iand, 1) := by decide +kernel
theorem d17_27 : decode own_c17 27 = .ok (.iadd, 1) := by decide +kernel
theorem d17_28 : decode own_c17 28 = .ok (.istore_n 0, 1) := by decide +kernel
theorem d17_29 : decode own_c17 29 = .ok (.iinc 5 1, 3) := by decide +kernel
theorem d17_32 : decode own_c17 32 = .ok (.goto (-24), 3) := by decide +kernel
theorem d17_35 : decode own_c17 35 = .ok (.iload_n 0, 1) := by decide +kernel
theorem d17_36 : decode own_c17 36 = .ok (.ireturn, 1) := by decide +kernel
set_option maxRecDepth 65536 in
set_option maxHeartbeats 40000000 in
theorem own_shc_k2 (l : Launch) (Z : State) (a0 : Array Value) (hW : own_W Z a0) (t1 : Nat) (k1 : ClassId) (c0 c1 : Int32) (h0 : Heap) (n0 : Nat) (Z0 : n0 ≤ h0.size) (O0 : Old Z n0 h0) (V1 : Arv Z h0 t1 k1 .byte (2 : Int32) [(.int (StrChars.lo8 c0)), (.int (StrChars.lo8 c1))] (.int (0 : Int32))) :
    MetFree l own_n22 (head1 (Jvm.Cond.code own_n22 own_c17 6 (some .int) :: []) ({ frames := 0, cells := 0, slots := 0, locals := 0 } : Room)) (fun a U => a = #[(.int (0 : Int32)), (.ref t1), (.int (0 : Int32)), (.int (2 : Int32))] ∧ Z.Warmed39 U.vm ∧ U.heap = h0) (fun _ _ _ _ _ => True) (fun _ U o U' => ∃ v L, o = .returned v ∧ own_shc_k2_Q Z t1 k1 c0 c1 h0 n0 v U'.heap L ∧ FrameEnd U o U' L ({ frames := 0, cells := 0, slots := 0, locals := 0 } : Room).cells ({ frames := 0, cells := 0, slots := 0, locals := 0 } : Room).slots) := by
  refine MetFree.of_bodySF (plainFor_of_name pn_jdk_internal_util_ArraysSupport) hisR ?_
  intro p e s m args below meth c s₁ Bd hml0 hP hK
  obtain ⟨rfl, hZ, hh⟩ := hP
  obtain ⟨hw, ⟨G1, O2, P5⟩, ⟨G3, O4, rG3⟩⟩ := id hW
  have hx := Bd.exec
  have hby := Bd.bytes
  have hml : c.maxLocals = 6 := hml0
  have hown : s.vm.findClass "jdk/internal/util/ArraysSupport" = some m.cls := findClass_of_methodNamed Bd.named
  have hnm := (name_of_methodNamed Bd.named Bd.method).1
  have X0 : Stand p l e ({ frames := 0, cells := 0, slots := 0, locals := 0 } : Room) s m #[(.int (0 : Int32)), (.ref t1), (.int (0 : Int32)), (.int (2 : Int32))] below meth c s₁ [] 0 0 := Stand.of_body Bd
  have e0 : s₁.heap = h0 := by rw [← hh, Bd.state]; rfl
  have N0 := Fr.nil n0
  have K0 := Keep.refl h0 []
  have lt1 := own_lt V1.lt
  show own_Fin p e below (s₁.setTop (entryFrame m #[(.int (0 : Int32)), (.ref t1), (.int (0 : Int32)), (.int (2 : Int32))] 6)) _
  refine own_gs (castTop (ef_own_shc_k2 m (0 : Int32) t1 (0 : Int32) (2 : Int32)) (Steps.refl _)) ?_
  show own_Fin p e below (s₁.setTop (mkF m 0 #[vi (0 : Int32), vr t1, vi (0 : Int32), vi (2 : Int32), uu, uu] [])) _
  refine own_gs (cur' := s₁.setTop (mkF m 22 #[vi (0 : Int32), vr t1, vi (0 : Int32), vi (2 : Int32), vi (2 : Int32), vi (0 : Int32)] [(.int (0 : Int32)), (.ref t1), (.int (0 : Int32))])) ?_ ?_
  · refine XS.iloadN X0.here hx rfl (hb hby d17_0) rfl ?_
    refine XS.iloadN X0.here hx rfl (hb hby d17_1) rfl ?_
    refine XS.iadd X0.here hx rfl (hb hby d17_2) rfl ?_
    refine XS.istore X0.here hx rfl (hb hby d17_3) rfl (l' := #[vi (0 : Int32), vr t1, vi (0 : Int32), vi (2 : Int32), vi (2 : Int32), uu]) rfl ?_
    refine XS.iloadN X0.here hx rfl (hb hby d17_5) rfl ?_
    refine XS.istore X0.here hx rfl (hb hby d17_6) rfl (l' := #[vi (0 : Int32), vr t1, vi (0 : Int32), vi (2 : Int32), vi (2 : Int32), vi (0 : Int32)]) rfl ?_
    refine XS.iload X0.here hx rfl (hb hby d17_8) rfl ?_
    refine XS.iload X0.here hx rfl (hb hby d17_10) rfl ?_
    show Steps p.tables e below (s₁.setTop (mkF m 12 #[vi (0 : Int32), vr t1, vi (0 : Int32), vi (2 : Int32), vi (2 : Int32), vi (0 : Int32)] [(.int (2 : Int32)), (.int (0 : Int32))])) _
    refine XS.icmpNo X0.here hx rfl (hb hby d17_12) rfl (tlt ((by decide) : (0 : Int32) < (2 : Int32))).2.1 ?_
    refine XS.bipush X0.here hx rfl (hb hby d17_15) ?_
    refine XS.iloadN X0.here hx rfl (hb hby d17_17) rfl ?_
    refine XS.imul X0.here hx rfl (hb hby d17_18) rfl ?_
    refine XS.aloadN X0.here hx rfl (hb hby d17_19) rfl rfl ?_
    refine XS.iload X0.here hx rfl (hb hby d17_20) rfl ?_
    exact Steps.refl _
  obtain ⟨cl11, Ar11, q11, S11, M11, Hs11, G11⟩ := id V1
  have hin11 : ¬ ((0 : Int32) < 0 ∨ cl11.slots.size ≤ ((0 : Int32)).toNatClampNeg) := inb_of S11 ⟨by decide, by decide⟩
  have hat11 : cl11.slots[((0 : Int32)).toNatClampNeg]? = some (.int (StrChars.lo8 c0)) := Has.at Hs11 hin11 rfl
  refine own_go (X0.baloadBytes hx (j := (0 : Int32)) (v := (.int (StrChars.lo8 c0))) (by rw [e0]; exact Ar11.1) (State.isArrayOf_alike hZ.alike Ar11.2.1) Ar11.2.2 hin11 hat11 (g := (mkF m 22 #[vi (0 : Int32), vr t1, vi (0 : Int32), vi (2 : Int32), vi (2 : Int32), vi (0 : Int32)] [(.int (0 : Int32)), (.ref t1), (.int (0 : Int32))])) rfl rfl (hb hby d17_22)) ?_
  show own_Fin p e below (s₁.setTop (mkF m 23 #[vi (0 : Int32), vr t1, vi (0 : Int32), vi (2 : Int32), vi (2 : Int32), vi (0 : Int32)] [(.int (StrChars.lo8 c0)), (.int (0 : Int32))])) _
  refine own_gs (cur' := s₁.setTop (mkF m 22 #[vi ((0 : Int32) + ((StrChars.lo8 c0) &&& (255 : Int32))), vr t1, vi (0 : Int32), vi (2 : Int32), vi (2 : Int32), vi (1 : Int32)] [(.int (1 : Int32)), (.ref t1), (.int ((31 : Int32) * ((0 : Int32) + ((StrChars.lo8 c0) &&& (255 : Int32)))))])) ?_ ?_
  · refine XS.sipush X0.here hx rfl (hb hby d17_23) ?_
    refine XS.iand X0.here hx rfl (hb hby d17_26) rfl ?_
    refine XS.iadd X0.here hx rfl (hb hby d17_27) rfl ?_
    refine XS.istoreN X0.here hx rfl (hb hby d17_28) rfl (l' := #[vi ((0 : Int32) + ((StrChars.lo8 c0) &&& (255 : Int32))), vr t1, vi (0 : Int32), vi (2 : Int32), vi (2 : Int32), vi (0 : Int32)]) rfl ?_
    refine XS.iinc X0.here hx rfl (hb hby d17_29) rfl (l' := #[vi ((0 : Int32) + ((StrChars.lo8 c0) &&& (255 : Int32))), vr t1, vi (0 : Int32), vi (2 : Int32), vi (2 : Int32), vi (1 : Int32)]) rfl ?_
    refine XS.goto X0.here hx rfl (pc0 := 32) (pc' := 8) rfl (hb hby d17_32) (by decide) (by decide) ?_
    refine XS.iload X0.here hx rfl (hb hby d17_8) rfl ?_
    refine XS.iload X0.here hx rfl (hb hby d17_10) rfl ?_
    show Steps p.tables e below (s₁.setTop (mkF m 12 #[vi ((0 : Int32) + ((StrChars.lo8 c0) &&& (255 : Int32))), vr t1, vi (0 : Int32), vi (2 : Int32), vi (2 : Int32), vi (1 : Int32)] [(.int (2 : Int32)), (.int (1 : Int32))])) _
    refine XS.icmpNo X0.here hx rfl (hb hby d17_12) rfl (tlt ((by decide) : (1 : Int32) < (2 : Int32))).2.1 ?_
    refine XS.bipush X0.here hx rfl (hb hby d17_15) ?_
    refine XS.iloadN X0.here hx rfl (hb hby d17_17) rfl ?_
    refine XS.imul X0.here hx rfl (hb hby d17_18) rfl ?_
    refine XS.aloadN X0.here hx rfl (hb hby d17_19) rfl rfl ?_
    refine XS.iload X0.here hx rfl (hb hby d17_20) rfl ?_
    exact Steps.refl _
  obtain ⟨cl12, Ar12, q12, S12, M12, Hs12, G12⟩ := id V1
  have hin12 : ¬ ((1 : Int32) < 0 ∨ cl12.slots.size ≤ ((1 : Int32)).toNatClampNeg) := inb_of S12 ⟨by decide, by decide⟩
  have hat12 : cl12.slots[((1 : Int32)).toNatClampNeg]? = some (.int (StrChars.lo8 c1)) := Has.at Hs12 hin12 rfl
  refine own_go (X0.baloadBytes hx (j := (1 : Int32)) (v := (.int (StrChars.lo8 c1))) (by rw [e0]; exact Ar12.1) (State.isArrayOf_alike hZ.alike Ar12.2.1) Ar12.2.2 hin12 hat12 (g := (mkF m 22 #[vi ((0 : Int32) + ((StrChars.lo8 c0) &&& (255 : Int32))), vr t1, vi (0 : Int32), vi (2 : Int32), vi (2 : Int32), vi (1 : Int32)] [(.int (1 : Int32)), (.ref t1), (.int ((31 : Int32) * ((0 : Int32) + ((StrChars.lo8 c0) &&& (255 : Int32)))))])) rfl rfl (hb hby d17_22)) ?_
  show own_Fin p e below (s₁.setTop (mkF m 23 #[vi ((0 : Int32) + ((StrChars.lo8 c0) &&& (255 : Int32))), vr t1, vi (0 : Int32), vi (2 : Int32), vi (2 : Int32), vi (1 : Int32)] [(.int (StrChars.lo8 c1)), (.int ((31 : Int32) * ((0 : Int32) + ((StrChars.lo8 c0) &&& (255 : Int32)))))])) _
  refine own_gs (cur' := s₁.setTop (mkF m 36 #[vi (((31 : Int32) * ((0 : Int32) + ((StrChars.lo8 c0) &&& (255 : Int32)))) + ((StrChars.lo8 c1) &&& (255 : Int32))), vr t1, vi (0 : Int32), vi (2 : Int32), vi (2 : Int32), vi (2 : Int32)] [(.int (((31 : Int32) * ((0 : Int32) + ((StrChars.lo8 c0) &&& (255 : Int32)))) + ((StrChars.lo8 c1) &&& (255 : Int32))))])) ?_ ?_
  · refine XS.sipush X0.here hx rfl (hb hby d17_23) ?_
    refine XS.iand X0.here hx rfl (hb hby d17_26) rfl ?_
    refine XS.iadd X0.here hx rfl (hb hby d17_27) rfl ?_
    refine XS.istoreN X0.here hx rfl (hb hby d17_28) rfl (l' := #[vi (((31 : Int32) * ((0 : Int32) + ((StrChars.lo8 c0) &&& (255 : Int32)))) + ((StrChars.lo8 c1) &&& (255 : Int32))), vr t1, vi (0 : Int32), vi (2 : Int32), vi (2 : Int32), vi (1 : Int32)]) rfl ?_
    refine XS.iinc X0.here hx rfl (hb hby d17_29) rfl (l' := #[vi (((31 : Int32) * ((0 : Int32) + ((StrChars.lo8 c0) &&& (255 : Int32)))) + ((StrChars.lo8 c1) &&& (255 : Int32))), vr t1, vi (0 : Int32), vi (2 : Int32), vi (2 : Int32), vi (2 : Int32)]) rfl ?_
    refine XS.goto X0.here hx rfl (pc0 := 32) (pc' := 8) rfl (hb hby d17_32) (by decide) (by decide) ?_
    refine XS.iload X0.here hx rfl (hb hby d17_8) rfl ?_
    refine XS.iload X0.here hx rfl (hb hby d17_10) rfl ?_
    show Steps p.tables e below (s₁.setTop (mkF m 12 #[vi (((31 : Int32) * ((0 : Int32) + ((StrChars.lo8 c0) &&& (255 : Int32)))) + ((StrChars.lo8 c1) &&& (255 : Int32))), vr t1, vi (0 : Int32), vi (2 : Int32), vi (2 : Int32), vi (2 : Int32)] [(.int (2 : Int32)), (.int (2 : Int32))])) _
    refine XS.icmpYes X0.here hx rfl (pc0 := 12) (pc' := 35) rfl (hb hby d17_12) rfl (flt ((by decide) : ¬ ((2 : Int32) < (2 : Int32)))).2.1 (by decide) (by decide) ?_
    refine XS.iloadN X0.here hx rfl (hb hby d17_35) rfl ?_
    exact Steps.refl _
  obtain ⟨fs, hr, hrun, hended, hW1, hsame⟩ := X0.leave (v := (some (.int (((31 : Int32) * ((0 : Int32) + ((StrChars.lo8 c0) &&& (255 : Int32)))) + ((StrChars.lo8 c1) &&& (255 : Int32)))))) (fun h => by rw [Bd.returns] at h; cases h)
  refine ⟨_, _, retI X0 hx Bd.returns (hb hby d17_36) hr, hrun, hended, _, _, rfl, ?_, ⟨_, rfl⟩, hW1, hsame.mono (own_le rfl) (own_le rfl)⟩
  show own_shc_k2_Q Z t1 k1 c0 c1 h0 n0 (some (.int (((31 : Int32) * ((0 : Int32) + ((StrChars.lo8 c0) &&& (255 : Int32)))) + ((StrChars.lo8 c1) &&& (255 : Int32))))) s₁.heap _
  rw [e0]
  exact ⟨rfl, N0, rfl⟩
abbrev own_c18 : ByteArray := jdk_48_method_4_code
def own_vhc_k2_Q (Z : State) (t1 : Nat) (k1 : ClassId) (c0 c1 : Int32) (h0 : Heap) (n0 : Nat) (v : Option Value) (h : Heap) (L : List Loc) : Prop := v = (some (.int (own_hash [c0, c1]))) ∧ Fr n0 L ∧ h = h0
theorem ef_own_vhc_k2 (m : MethodId) (x0 : Nat) (x1 : Int32) (x2 : Int32) (x3 : Int32) (x4 : Int32) : entryFrame m #[(.ref x0), (.int x1), (.int x2), (.int x3), (.int x4)] 5 = mkF m 0 #[vr x0, vi x1, vi x2, vi x3, vi x4] [] := by first | (simp [entryFrame, mkF, argsToLocals, Value.category]; done) | rfl
abbrev own_n23 : MethodName := ⟨"jdk/internal/util/ArraysSupport", "vectorizedHashCode", "(Ljava/lang/Object;IIII)I"⟩
theorem d18_0 : decode own_c18 0 = .ok (.iload 4, 2) := by decide +kernel
theorem d18_2 : decode own_c18 2 = .ok (.tableswitch 127 4 10 #[42, 55, 127, 127, 88, 101, 114], 42) := by decide +kernel
theorem d18_44 : decode own_c18 44 = .ok (.iload_n 3, 1) := by decide +kernel
theorem d18_45 : decode own_c18 45 = .ok (.aload_n 0, 1) := by decide +kernel
theorem d18_46 : decode own_c18 46 = .ok (.checkcast 60, 3) := by decide +kernel
theorem d18_49 : decode own_c18 49 = .ok (.iload_n 1, 1) := by decide +kernel
theorem d18_50 : decode own_c18 50 = .ok (.iload_n 2, 1) := by decide +kernel
theorem d18_51 : decode own_c18 51 = .ok (.invokestatic 62, 3) := by decide +kernel
theorem pd_11 : parseMethodDescriptor "(I[BII)I" = some ⟨[.int, (.array .byte), .int, .int], some .int⟩ := by decide +kernel
theorem d18_54 : decode own_c18 54 = .ok (.goto 103, 3) := by decide +kernel
theorem d18_157 : decode own_c18 157 = .ok (.ireturn, 1) := by decide +kernel
set_option maxRecDepth 65536 in
set_option maxHeartbeats 40000000 in
theorem own_vhc_k2 (l : Launch) (Z : State) (a0 : Array Value) (hW : own_W Z a0) (t1 : Nat) (k1 : ClassId) (c0 c1 : Int32) (h0 : Heap) (n0 : Nat) (Z0 : n0 ≤ h0.size) (O0 : Old Z n0 h0) (V1 : Arv Z h0 t1 k1 .byte (2 : Int32) [(.int (StrChars.lo8 c0)), (.int (StrChars.lo8 c1))] (.int (0 : Int32))) (Eb1 : Exa Z h0 t1 "[B") :
    MetFree l own_n23 (head1 (Jvm.Cond.code own_n23 own_c18 5 (some .int) :: []) ({ frames := 1, cells := 0, slots := 0, locals := 18 } : Room)) (fun a U => a = #[(.ref t1), (.int (0 : Int32)), (.int (2 : Int32)), (.int (0 : Int32)), (.int (4 : Int32))] ∧ Z.Warmed39 U.vm ∧ U.heap = h0) (fun _ _ _ _ _ => True) (fun _ U o U' => ∃ v L, o = .returned v ∧ own_vhc_k2_Q Z t1 k1 c0 c1 h0 n0 v U'.heap L ∧ FrameEnd U o U' L ({ frames := 1, cells := 0, slots := 0, locals := 18 } : Room).cells ({ frames := 1, cells := 0, slots := 0, locals := 18 } : Room).slots) := by
  refine MetFree.of_bodySF (plainFor_of_name pn_jdk_internal_util_ArraysSupport) hisR ?_
  intro p e s m args below meth c s₁ Bd hml0 hP hK
  obtain ⟨rfl, hZ, hh⟩ := hP
  obtain ⟨hw, ⟨G1, O2, P5⟩, ⟨G3, O4, rG3⟩⟩ := id hW
  have hx := Bd.exec
  have hby := Bd.bytes
  have hml : c.maxLocals = 5 := hml0
  have hown : s.vm.findClass "jdk/internal/util/ArraysSupport" = some m.cls := findClass_of_methodNamed Bd.named
  have hnm := (name_of_methodNamed Bd.named Bd.method).1
  have X0 : Stand p l e ({ frames := 1, cells := 0, slots := 0, locals := 18 } : Room) s m #[(.ref t1), (.int (0 : Int32)), (.int (2 : Int32)), (.int (0 : Int32)), (.int (4 : Int32))] below meth c s₁ [] 0 0 := Stand.of_body Bd
  have e0 : s₁.heap = h0 := by rw [← hh, Bd.state]; rfl
  have N0 := Fr.nil n0
  have K0 := Keep.refl h0 []
  have lt1 := own_lt V1.lt
  show own_Fin p e below (s₁.setTop (entryFrame m #[(.ref t1), (.int (0 : Int32)), (.int (2 : Int32)), (.int (0 : Int32)), (.int (4 : Int32))] 5)) _
  refine own_gs (castTop (ef_own_vhc_k2 m t1 (0 : Int32) (2 : Int32) (0 : Int32) (4 : Int32)) (Steps.refl _)) ?_
  show own_Fin p e below (s₁.setTop (mkF m 0 #[vr t1, vi (0 : Int32), vi (2 : Int32), vi (0 : Int32), vi (4 : Int32)] [])) _
  refine own_gs (cur' := s₁.setTop (mkF m 46 #[vr t1, vi (0 : Int32), vi (2 : Int32), vi (0 : Int32), vi (4 : Int32)] [(.ref t1), (.int (0 : Int32))])) ?_ ?_
  · refine XS.iload X0.here hx rfl (hb hby d18_0) rfl ?_
    refine XS.tswIn X0.here hx rfl (pc0 := 2) (pc' := 44) rfl (hb hby d18_2) rfl (by decide) (o := 42) rfl (by decide) (by decide) ?_
    refine XS.iloadN X0.here hx rfl (hb hby d18_44) rfl ?_
    refine XS.aloadN X0.here hx rfl (hb hby d18_45) rfl rfl ?_
    exact Steps.refl _
  obtain ⟨T11, X11, e11, st11⟩ := castY X0 hx hZ hown (own_tw hw 168 rfl) e0 (Ins.self Eb1) (g := (mkF m 46 #[vr t1, vi (0 : Int32), vi (2 : Int32), vi (0 : Int32), vi (4 : Int32)] [(.ref t1), (.int (0 : Int32))])) rfl rfl (hb hby d18_46)
  refine own_go st11 ?_
  show own_Fin p e below (T11.setTop (mkF m 49 #[vr t1, vi (0 : Int32), vi (2 : Int32), vi (0 : Int32), vi (4 : Int32)] [(.ref t1), (.int (0 : Int32))])) _
  refine own_gs (cur' := T11.setTop (mkF m 51 #[vr t1, vi (0 : Int32), vi (2 : Int32), vi (0 : Int32), vi (4 : Int32)] [(.int (2 : Int32)), (.int (0 : Int32)), (.ref t1), (.int (0 : Int32))])) ?_ ?_
  · refine XS.iloadN X11.here hx rfl (hb hby d18_49) rfl ?_
    refine XS.iloadN X11.here hx rfl (hb hby d18_50) rfl ?_
    exact Steps.refl _
  obtain ⟨_, _, ⟨T12, L12, k12, n12⟩, -, X12, ⟨Lc12, hQ12, l12, y12, z12⟩, st12⟩ := Jvm.LawKit.callS X11 hx (y := own_n22) hown (mvT hZ (own_tw hw 170 rfl)) (mvT hZ (own_tw hw 171 rfl)) (mvT hZ (own_tw hw 166 rfl)) (mvT hZ (own_tw hw 172 rfl)) (by decide) (backOf (W := 0) (own_shc_k2 l Z a0 hW t1 k1 c0 c1 h0 n0 (by omega) O0 V1) hZ (own_tw hw 172 rfl) (own_tw hw 166 rfl) (by decide) (by decide)) (g := (mkF m 51 #[vr t1, vi (0 : Int32), vi (2 : Int32), vi (0 : Int32), vi (4 : Int32)] [(.int (2 : Int32)), (.int (0 : Int32)), (.ref t1), (.int (0 : Int32))])) rfl (by rw [hml]; rfl) (argsL := [(.int (0 : Int32)), (.ref t1), (.int (0 : Int32)), (.int (2 : Int32))]) (rest := []) (lenOf pd_11 rfl) rfl (own_le rfl) (hb hby d18_51) (fun _ _ => ⟨rfl, e11, (by decide : 0 + 0 ≤ 0), (by decide : 0 + 0 ≤ 0)⟩)
  dsimp only [Pt.U, Pt.locs, Pt.cells, Pt.slots] at X12 l12 y12 z12 st12 hQ12
  subst l12 y12 z12
  obtain ⟨rfl, Nq12, eh12⟩ := hQ12
  have N12 := Fr.app N0 Nq12
  refine own_go st12 ?_
  show own_Fin p e below (T12.setTop (mkF m 54 #[vr t1, vi (0 : Int32), vi (2 : Int32), vi (0 : Int32), vi (4 : Int32)] [(.int (own_hash [c0, c1]))])) _
  refine own_gs (cur' := T12.setTop (mkF m 157 #[vr t1, vi (0 : Int32), vi (2 : Int32), vi (0 : Int32), vi (4 : Int32)] [(.int (own_hash [c0, c1]))])) ?_ ?_
  · refine XS.goto X12.here hx rfl (pc0 := 54) (pc' := 157) rfl (hb hby d18_54) (by decide) (by decide) ?_
    exact Steps.refl _
  obtain ⟨fs, hr, hrun, hended, hW1, hsame⟩ := X12.leave (v := (some (.int (own_hash [c0, c1])))) (fun h => by rw [Bd.returns] at h; cases h)
  refine ⟨_, _, retI X12 hx Bd.returns (hb hby d18_157) hr, hrun, hended, _, _, rfl, ?_, ⟨_, rfl⟩, hW1, hsame.mono (own_le rfl) (own_le rfl)⟩
  show own_vhc_k2_Q Z t1 k1 c0 c1 h0 n0 (some (.int (own_hash [c0, c1]))) T12.heap _
  rw [eh12]
  exact ⟨rfl, N12, rfl⟩
def own_lhs_k2_Q (Z : State) (t1 : Nat) (k1 : ClassId) (c0 c1 : Int32) (h0 : Heap) (n0 : Nat) (v : Option Value) (h : Heap) (L : List Loc) : Prop := v = (some (.int (own_hash [c0, c1]))) ∧ Fr n0 L ∧ h = h0
theorem ef_own_lhs_k2 (m : MethodId) (x0 : Nat) : entryFrame m #[(.ref x0)] 1 = mkF m 0 #[vr x0] [] := by first | (simp [entryFrame, mkF, argsToLocals, Value.category]; done) | rfl
theorem d16_42 : decode own_c16 42 = .ok (.aload_n 0, 1) := by decide +kernel
theorem d16_43 : decode own_c16 43 = .ok (.iconst 0, 1) := by decide +kernel
theorem d16_44 : decode own_c16 44 = .ok (.aload_n 0, 1) := by decide +kernel
theorem d16_45 : decode own_c16 45 = .ok (.arraylength, 1) := by decide +kernel
theorem d16_46 : decode own_c16 46 = .ok (.iconst 0, 1) := by decide +kernel
theorem d16_47 : decode own_c16 47 = .ok (.iconst 4, 1) := by decide +kernel
theorem d16_48 : decode own_c16 48 = .ok (.invokestatic 84, 3) := by decide +kernel
theorem pd_12 : parseMethodDescriptor "(Ljava/lang/Object;IIII)I" = some ⟨[(.object "java/lang/Object"), .int, .int, .int, .int], some .int⟩ := by decide +kernel
set_option maxRecDepth 65536 in
set_option maxHeartbeats 40000000 in
theorem own_lhs_k2 (l : Launch) (Z : State) (a0 : Array Value) (hW : own_W Z a0) (t1 : Nat) (k1 : ClassId) (c0 c1 : Int32) (h0 : Heap) (n0 : Nat) (Z0 : n0 ≤ h0.size) (O0 : Old Z n0 h0) (V1 : Arv Z h0 t1 k1 .byte (2 : Int32) [(.int (StrChars.lo8 c0)), (.int (StrChars.lo8 c1))] (.int (0 : Int32))) (Eb1 : Exa Z h0 t1 "[B") :
    MetFree l own_n21 (head1 (Jvm.Cond.code own_n21 own_c16 1 (some .int) :: []) ({ frames := 2, cells := 0, slots := 0, locals := 40 } : Room)) (fun a U => a = #[(.ref t1)] ∧ Z.Warmed39 U.vm ∧ U.heap = h0) (fun _ _ _ _ _ => True) (fun _ U o U' => ∃ v L, o = .returned v ∧ own_lhs_k2_Q Z t1 k1 c0 c1 h0 n0 v U'.heap L ∧ FrameEnd U o U' L ({ frames := 2, cells := 0, slots := 0, locals := 40 } : Room).cells ({ frames := 2, cells := 0, slots := 0, locals := 40 } : Room).slots) := by
  refine MetFree.of_bodySF (plainFor_of_name pn_java_lang_StringLatin1) hisR ?_
  intro p e s m args below meth c s₁ Bd hml0 hP hK
  obtain ⟨rfl, hZ, hh⟩ := hP
  obtain ⟨hw, ⟨G1, O2, P5⟩, ⟨G3, O4, rG3⟩⟩ := id hW
  have hx := Bd.exec
  have hby := Bd.bytes
  have hml : c.maxLocals = 1 := hml0
  have hown : s.vm.findClass "java/lang/StringLatin1" = some m.cls := findClass_of_methodNamed Bd.named
  have hnm := (name_of_methodNamed Bd.named Bd.method).1
  have X0 : Stand p l e ({ frames := 2, cells := 0, slots := 0, locals := 40 } : Room) s m #[(.ref t1)] below meth c s₁ [] 0 0 := Stand.of_body Bd
  have e0 : s₁.heap = h0 := by rw [← hh, Bd.state]; rfl
  have N0 := Fr.nil n0
  have K0 := Keep.refl h0 []
  have lt1 := own_lt V1.lt
  show own_Fin p e below (s₁.setTop (entryFrame m #[(.ref t1)] 1)) _
  refine own_gs (castTop (ef_own_lhs_k2 m t1) (Steps.refl _)) ?_
  show own_Fin p e below (s₁.setTop (mkF m 0 #[vr t1] [])) _
  refine own_gs (cur' := s₁.setTop (mkF m 1 #[vr t1] [(.ref t1)])) ?_ ?_
  · refine XS.aloadN X0.here hx rfl (hb hby d16_0) rfl rfl ?_
    exact Steps.refl _
  obtain ⟨cl11, Ar11, q11, S11, M11, Hs11, G11⟩ := id V1
  refine own_go (X0.arraylength hx (by rw [e0]; exact Ar11.1) (State.isArrayOf_alike hZ.alike Ar11.2.1) (g := (mkF m 1 #[vr t1] [(.ref t1)])) rfl rfl (hb hby d16_1)) ?_
  rw [len_of S11 M11]
  show own_Fin p e below (s₁.setTop (mkF m 2 #[vr t1] [(.int (2 : Int32))])) _
  refine own_gs (cur' := s₁.setTop (mkF m 45 #[vr t1] [(.ref t1), (.int (0 : Int32)), (.ref t1)])) ?_ ?_
  · refine own_lsw X0.here hx rfl (pc0 := 2) (pc' := 42) rfl (hb hby d16_2) rfl (by decide) (o := 40) (by decide) (by decide) (by decide) ?_
    refine XS.aloadN X0.here hx rfl (hb hby d16_42) rfl rfl ?_
    refine XS.iconst X0.here hx rfl (hb hby d16_43) ?_
    refine XS.aloadN X0.here hx rfl (hb hby d16_44) rfl rfl ?_
    exact Steps.refl _
  obtain ⟨cl12, Ar12, q12, S12, M12, Hs12, G12⟩ := id V1
  refine own_go (X0.arraylength hx (by rw [e0]; exact Ar12.1) (State.isArrayOf_alike hZ.alike Ar12.2.1) (g := (mkF m 45 #[vr t1] [(.ref t1), (.int (0 : Int32)), (.ref t1)])) rfl rfl (hb hby d16_45)) ?_
  rw [len_of S12 M12]
  show own_Fin p e below (s₁.setTop (mkF m 46 #[vr t1] [(.int (2 : Int32)), (.int (0 : Int32)), (.ref t1)])) _
  refine own_gs (cur' := s₁.setTop (mkF m 48 #[vr t1] [(.int (4 : Int32)), (.int (0 : Int32)), (.int (2 : Int32)), (.int (0 : Int32)), (.ref t1)])) ?_ ?_
  · refine XS.iconst X0.here hx rfl (hb hby d16_46) ?_
    refine XS.iconst X0.here hx rfl (hb hby d16_47) ?_
    exact Steps.refl _
  obtain ⟨_, _, ⟨T13, L13, k13, n13⟩, -, X13, ⟨Lc13, hQ13, l13, y13, z13⟩, st13⟩ := Jvm.LawKit.callS X0 hx (y := own_n23) hown (mvT hZ (own_tw hw 164 rfl)) (mvT hZ (own_tw hw 165 rfl)) (mvT hZ (own_tw hw 166 rfl)) (mvT hZ (own_tw hw 167 rfl)) (by decide) (backOf (W := 0) (own_vhc_k2 l Z a0 hW t1 k1 c0 c1 h0 n0 (by omega) O0 V1 Eb1) hZ (own_tw hw 167 rfl) (own_tw hw 166 rfl) (by decide) (by decide)) (g := (mkF m 48 #[vr t1] [(.int (4 : Int32)), (.int (0 : Int32)), (.int (2 : Int32)), (.int (0 : Int32)), (.ref t1)])) rfl (by rw [hml]; rfl) (argsL := [(.ref t1), (.int (0 : Int32)), (.int (2 : Int32)), (.int (0 : Int32)), (.int (4 : Int32))]) (rest := []) (lenOf pd_12 rfl) rfl (own_le rfl) (hb hby d16_48) (fun _ _ => ⟨rfl, e0, (by decide : 0 + 0 ≤ 0), (by decide : 0 + 0 ≤ 0)⟩)
  dsimp only [Pt.U, Pt.locs, Pt.cells, Pt.slots] at X13 l13 y13 z13 st13 hQ13
  subst l13 y13 z13
  obtain ⟨rfl, Nq13, eh13⟩ := hQ13
  have N13 := Fr.app N0 Nq13
  refine own_go st13 ?_
  show own_Fin p e below (T13.setTop (mkF m 51 #[vr t1] [(.int (own_hash [c0, c1]))])) _
  obtain ⟨fs, hr, hrun, hended, hW1, hsame⟩ := X13.leave (v := (some (.int (own_hash [c0, c1])))) (fun h => by rw [Bd.returns] at h; cases h)
  refine ⟨_, _, retI X13 hx Bd.returns (hb hby d16_51) hr, hrun, hended, _, _, rfl, ?_, ⟨_, rfl⟩, hW1, hsame.mono (own_le rfl) (own_le rfl)⟩
  show own_lhs_k2_Q Z t1 k1 c0 c1 h0 n0 (some (.int (own_hash [c0, c1]))) T13.heap _
  rw [eh13]
  exact ⟨rfl, N13, rfl⟩
def own_shc_k3_Q (Z : State) (t1 : Nat) (k1 : ClassId) (c0 c1 c2 : Int32) (h0 : Heap) (n0 : Nat) (v : Option Value) (h : Heap) (L : List Loc) : Prop := v = (some (.int (own_hash [c0, c1, c2]))) ∧ Fr n0 L ∧ h = h0
theorem ef_own_shc_k3 (m : MethodId) (x0 : Int32) (x1 : Nat) (x2 : Int32) (x3 : Int32) : entryFrame m #[(.int x0), (.ref x1), (.int x2), (.int x3)] 6 = mkF m 0 #[vi x0, vr x1, vi x2, vi x3, .unset, .unset] [] := by first | (simp [entryFrame, mkF, argsToLocals, Value.category]; done) | rfl
set_option maxRecDepth 65536 in
set_option maxHeartbeats 40000000 in
theorem own_shc_k3 (l : Launch) (Z : State) (a0 : Array Value) (hW : own_W Z a0) (t1 : Nat) (k1 : ClassId) (c0 c1 c2 : Int32) (h0 : Heap) (n0 : Nat) (Z0 : n0 ≤ h0.size) (O0 : Old Z n0 h0) (V1 : Arv Z h0 t1 k1 .byte (3 : Int32) [(.int (StrChars.lo8 c0)), (.int (StrChars.lo8 c1)), (.int (StrChars.lo8 c2))] (.int (0 : Int32))) :
    MetFree l own_n22 (head1 (Jvm.Cond.code own_n22 own_c17 6 (some .int) :: []) ({ frames := 0, cells := 0, slots := 0, locals := 0 } : Room)) (fun a U => a = #[(.int (0 : Int32)), (.ref t1), (.int (0 : Int32)), (.int (3 : Int32))] ∧ Z.Warmed39 U.vm ∧ U.heap = h0) (fun _ _ _ _ _ => True) (fun _ U o U' => ∃ v L, o = .returned v ∧ own_shc_k3_Q Z t1 k1 c0 c1 c2 h0 n0 v U'.heap L ∧ FrameEnd U o U' L ({ frames := 0, cells := 0, slots := 0, locals := 0 } : Room).cells ({ frames := 0, cells := 0, slots := 0, locals := 0 } : Room).slots) := by
  refine MetFree.of_bodySF (plainFor_of_name pn_jdk_internal_util_ArraysSupport) hisR ?_
  intro p e s m args below meth c s₁ Bd hml0 hP hK
  obtain ⟨rfl, hZ, hh⟩ := hP
  obtain ⟨hw, ⟨G1, O2, P5⟩, ⟨G3, O4, rG3⟩⟩ := id hW
  have hx := Bd.exec
  have hby := Bd.bytes
  have hml : c.maxLocals = 6 := hml0
  have hown : s.vm.findClass "jdk/internal/util/ArraysSupport" = some m.cls := findClass_of_methodNamed Bd.named
  have hnm := (name_of_methodNamed Bd.named Bd.method).1
  have X0 : Stand p l e ({ frames := 0, cells := 0, slots := 0, locals := 0 } : Room) s m #[(.int (0 : Int32)), (.ref t1), (.int (0 : Int32)), (.int (3 : Int32))] below meth c s₁ [] 0 0 := Stand.of_body Bd
  have e0 : s₁.heap = h0 := by rw [← hh, Bd.state]; rfl
  have N0 := Fr.nil n0
  have K0 := Keep.refl h0 []
  have lt1 := own_lt V1.lt
  show own_Fin p e below (s₁.setTop (entryFrame m #[(.int (0 : Int32)), (.ref t1), (.int (0 : Int32)), (.int (3 : Int32))] 6)) _
  refine own_gs (castTop (ef_own_shc_k3 m (0 : Int32) t1 (0 : Int32) (3 : Int32)) (Steps.refl _)) ?_
  show own_Fin p e below (s₁.setTop (mkF m 0 #[vi (0 : Int32), vr t1, vi (0 : Int32), vi (3 : Int32), uu, uu] [])) _
  refine own_gs (cur' := s₁.setTop (mkF m 22 #[vi (0 : Int32), vr t1, vi (0 : Int32), vi (3 : Int32), vi (3 : Int32), vi (0 : Int32)] [(.int (0 : Int32)), (.ref t1), (.int (0 : Int32))])) ?_ ?_
  · refine XS.iloadN X0.here hx rfl (hb hby d17_0) rfl ?_
    refine XS.iloadN X0.here hx rfl (hb hby d17_1) rfl ?_
    refine XS.iadd X0.here hx rfl (hb hby d17_2) rfl ?_
    refine XS.istore X0.here hx rfl (hb hby d17_3) rfl (l' := #[vi (0 : Int32), vr t1, vi (0 : Int32), vi (3 : Int32), vi (3 : Int32), uu]) rfl ?_
    refine XS.iloadN X0.here hx rfl (hb hby d17_5) rfl ?_
    refine XS.istore X0.here hx rfl (hb hby d17_6) rfl (l' := #[vi (0 : Int32), vr t1, vi (0 : Int32), vi (3 : Int32), vi (3 : Int32), vi (0 : Int32)]) rfl ?_
    refine XS.iload X0.here hx rfl (hb hby d17_8) rfl ?_
    refine XS.iload X0.here hx rfl (hb hby d17_10) rfl ?_
    show Steps p.tables e below (s₁.setTop (mkF m 12 #[vi (0 : Int32), vr t1, vi (0 : Int32), vi (3 : Int32), vi (3 : Int32), vi (0 : Int32)] [(.int (3 : Int32)), (.int (0 : Int32))])) _
    refine XS.icmpNo X0.here hx rfl (hb hby d17_12) rfl (tlt ((by decide) : (0 : Int32) < (3 : Int32))).2.1 ?_
    refine XS.bipush X0.here hx rfl (hb hby d17_15) ?_
    refine XS.iloadN X0.here hx rfl (hb hby d17_17) rfl ?_
    refine XS.imul X0.here hx rfl (hb hby d17_18) rfl ?_
    refine XS.aloadN X0.here hx rfl (hb hby d17_19) rfl rfl ?_
    refine XS.iload X0.here hx rfl (hb hby d17_20) rfl ?_
    exact Steps.refl _
  obtain ⟨cl11, Ar11, q11, S11, M11, Hs11, G11⟩ := id V1
  have hin11 : ¬ ((0 : Int32) < 0 ∨ cl11.slots.size ≤ ((0 : Int32)).toNatClampNeg) := inb_of S11 ⟨by decide, by decide⟩
  have hat11 : cl11.slots[((0 : Int32)).toNatClampNeg]? = some (.int (StrChars.lo8 c0)) := Has.at Hs11 hin11 rfl
  refine own_go (X0.baloadBytes hx (j := (0 : Int32)) (v := (.int (StrChars.lo8 c0))) (by rw [e0]; exact Ar11.1) (State.isArrayOf_alike hZ.alike Ar11.2.1) Ar11.2.2 hin11 hat11 (g := (mkF m 22 #[vi (0 : Int32), vr t1, vi (0 : Int32), vi (3 : Int32), vi (3 : Int32), vi (0 : Int32)] [(.int (0 : Int32)), (.ref t1), (.int (0 : Int32))])) rfl rfl (hb hby d17_22)) ?_
  show own_Fin p e below (s₁.setTop (mkF m 23 #[vi (0 : Int32), vr t1, vi (0 : Int32), vi (3 : Int32), vi (3 : Int32), vi (0 : Int32)] [(.int (StrChars.lo8 c0)), (.int (0 : Int32))])) _
  refine own_gs (cur' := s₁.setTop (mkF m 22 #[vi ((0 : Int32) + ((StrChars.lo8 c0) &&& (255 : Int32))), vr t1, vi (0 : Int32), vi (3 : Int32), vi (3 : Int32), vi (1 : Int32)] [(.int (1 : Int32)), (.ref t1), (.int ((31 : Int32) * ((0 : Int32) + ((StrChars.lo8 c0) &&& (255 : Int32)))))])) ?_ ?_
  · refine XS.sipush X0.here hx rfl (hb hby d17_23) ?_
    refine XS.iand X0.here hx rfl (hb hby d17_26) rfl ?_
    refine XS.iadd X0.here hx rfl (hb hby d17_27) rfl ?_
    refine XS.istoreN X0.here hx rfl (hb hby d17_28) rfl (l' := #[vi ((0 : Int32) + ((StrChars.lo8 c0) &&& (255 : Int32))), vr t1, vi (0 : Int32), vi (3 : Int32), vi (3 : Int32), vi (0 : Int32)]) rfl ?_
    refine XS.iinc X0.here hx rfl (hb hby d17_29) rfl (l' := #[vi ((0 : Int32) + ((StrChars.lo8 c0) &&& (255 : Int32))), vr t1, vi (0 : Int32), vi (3 : Int32), vi (3 : Int32), vi (1 : Int32)]) rfl ?_
    refine XS.goto X0.here hx rfl (pc0 := 32) (pc' := 8) rfl (hb hby d17_32) (by decide) (by decide) ?_
    refine XS.iload X0.here hx rfl (hb hby d17_8) rfl ?_
    refine XS.iload X0.here hx rfl (hb hby d17_10) rfl ?_
    show Steps p.tables e below (s₁.setTop (mkF m 12 #[vi ((0 : Int32) + ((StrChars.lo8 c0) &&& (255 : Int32))), vr t1, vi (0 : Int32), vi (3 : Int32), vi (3 : Int32), vi (1 : Int32)] [(.int (3 : Int32)), (.int (1 : Int32))])) _
    refine XS.icmpNo X0.here hx rfl (hb hby d17_12) rfl (tlt ((by decide) : (1 : Int32) < (3 : Int32))).2.1 ?_
    refine XS.bipush X0.here hx rfl (hb hby d17_15) ?_
    refine XS.iloadN X0.here hx rfl (hb hby d17_17) rfl ?_
    refine XS.imul X0.here hx rfl (hb hby d17_18) rfl ?_
    refine XS.aloadN X0.here hx rfl (hb hby d17_19) rfl rfl ?_
    refine XS.iload X0.here hx rfl (hb hby d17_20) rfl ?_
    exact Steps.refl _
  obtain ⟨cl12, Ar12, q12, S12, M12, Hs12, G12⟩ := id V1
  have hin12 : ¬ ((1 : Int32) < 0 ∨ cl12.slots.size ≤ ((1 : Int32)).toNatClampNeg) := inb_of S12 ⟨by decide, by decide⟩
  have hat12 : cl12.slots[((1 : Int32)).toNatClampNeg]? = some (.int (StrChars.lo8 c1)) := Has.at Hs12 hin12 rfl
  refine own_go (X0.baloadBytes hx (j := (1 : Int32)) (v := (.int (StrChars.lo8 c1))) (by rw [e0]; exact Ar12.1) (State.isArrayOf_alike hZ.alike Ar12.2.1) Ar12.2.2 hin12 hat12 (g := (mkF m 22 #[vi ((0 : Int32) + ((StrChars.lo8 c0) &&& (255 : Int32))), vr t1, vi (0 : Int32), vi (3 : Int32), vi (3 : Int32), vi (1 : Int32)] [(.int (1 : Int32)), (.ref t1), (.int ((31 : Int32) * ((0 : Int32) + ((StrChars.lo8 c0) &&& (255 : Int32)))))])) rfl rfl (hb hby d17_22)) ?_
  show own_Fin p e below (s₁.setTop (mkF m 23 #[vi ((0 : Int32) + ((StrChars.lo8 c0) &&& (255 : Int32))), vr t1, vi (0 : Int32), vi (3 : Int32), vi (3 : Int32), vi (1 : Int32)] [(.int (StrChars.lo8 c1)), (.int ((31 : Int32) * ((0 : Int32) + ((StrChars.lo8 c0) &&& (255 : Int32)))))])) _
  refine own_gs (cur' := s₁.setTop (mkF m 22 #[vi (((31 : Int32) * ((0 : Int32) + ((StrChars.lo8 c0) &&& (255 : Int32)))) + ((StrChars.lo8 c1) &&& (255 : Int32))), vr t1, vi (0 : Int32), vi (3 : Int32), vi (3 : Int32), vi (2 : Int32)] [(.int (2 : Int32)), (.ref t1), (.int ((31 : Int32) * (((31 : Int32) * ((0 : Int32) + ((StrChars.lo8 c0) &&& (255 : Int32)))) + ((StrChars.lo8 c1) &&& (255 : Int32)))))])) ?_ ?_
  · refine XS.sipush X0.here hx rfl (hb hby d17_23) ?_
    refine XS.iand X0.here hx rfl (hb hby d17_26) rfl ?_
    refine XS.iadd X0.here hx rfl (hb hby d17_27) rfl ?_
    refine XS.istoreN X0.here hx rfl (hb hby d17_28) rfl (l' := #[vi (((31 : Int32) * ((0 : Int32) + ((StrChars.lo8 c0) &&& (255 : Int32)))) + ((StrChars.lo8 c1) &&& (255 : Int32))), vr t1, vi (0 : Int32), vi (3 : Int32), vi (3 : Int32), vi (1 : Int32)]) rfl ?_
    refine XS.iinc X0.here hx rfl (hb hby d17_29) rfl (l' := #[vi (((31 : Int32) * ((0 : Int32) + ((StrChars.lo8 c0) &&& (255 : Int32)))) + ((StrChars.lo8 c1) &&& (255 : Int32))), vr t1, vi (0 : Int32), vi (3 : Int32), vi (3 : Int32), vi (2 : Int32)]) rfl ?_
    refine XS.goto X0.here hx rfl (pc0 := 32) (pc' := 8) rfl (hb hby d17_32) (by decide) (by decide) ?_
    refine XS.iload X0.here hx rfl (hb hby d17_8) rfl ?_
    refine XS.iload X0.here hx rfl (hb hby d17_10) rfl ?_
    show Steps p.tables e below (s₁.setTop (mkF m 12 #[vi (((31 : Int32) * ((0 : Int32) + ((StrChars.lo8 c0) &&& (255 : Int32)))) + ((StrChars.lo8 c1) &&& (255 : Int32))), vr t1, vi (0 : Int32), vi (3 : Int32), vi (3 : Int32), vi (2 : Int32)] [(.int (3 : Int32)), (.int (2 : Int32))])) _
    refine XS.icmpNo X0.here hx rfl (hb hby d17_12) rfl (tlt ((by decide) : (2 : Int32) < (3 : Int32))).2.1 ?_
    refine XS.bipush X0.here hx rfl (hb hby d17_15) ?_
    refine XS.iloadN X0.here hx rfl (hb hby d17_17) rfl ?_
    refine XS.imul X0.here hx rfl (hb hby d17_18) rfl ?_
    refine XS.aloadN X0.here hx rfl (hb hby d17_19) rfl rfl ?_
    refine XS.iload X0.here hx rfl (hb hby d17_20) rfl ?_
    exact Steps.refl _
  obtain ⟨cl13, Ar13, q13, S13, M13, Hs13, G13⟩ := id V1
  have hin13 : ¬ ((2 : Int32) < 0 ∨ cl13.slots.size ≤ ((2 : Int32)).toNatClampNeg) := inb_of S13 ⟨by decide, by decide⟩
  have hat13 : cl13.slots[((2 : Int32)).toNatClampNeg]? = some (.int (StrChars.lo8 c2)) := Has.at Hs13 hin13 rfl
  refine own_go (X0.baloadBytes hx (j := (2 : Int32)) (v := (.int (StrChars.lo8 c2))) (by rw [e0]; exact Ar13.1) (State.isArrayOf_alike hZ.alike Ar13.2.1) Ar13.2.2 hin13 hat13 (g := (mkF m 22 #[vi (((31 : Int32) * ((0 : Int32) + ((StrChars.lo8 c0) &&& (255 : Int32)))) + ((StrChars.lo8 c1) &&& (255 : Int32))), vr t1, vi (0 : Int32), vi (3 : Int32), vi (3 : Int32), vi (2 : Int32)] [(.int (2 : Int32)), (.ref t1), (.int ((31 : Int32) * (((31 : Int32) * ((0 : Int32) + ((StrChars.lo8 c0) &&& (255 : Int32)))) + ((StrChars.lo8 c1) &&& (255 : Int32)))))])) rfl rfl (hb hby d17_22)) ?_
  show own_Fin p e below (s₁.setTop (mkF m 23 #[vi (((31 : Int32) * ((0 : Int32) + ((StrChars.lo8 c0) &&& (255 : Int32)))) + ((StrChars.lo8 c1) &&& (255 : Int32))), vr t1, vi (0 : Int32), vi (3 : Int32), vi (3 : Int32), vi (2 : Int32)] [(.int (StrChars.lo8 c2)), (.int ((31 : Int32) * (((31 : Int32) * ((0 : Int32) + ((StrChars.lo8 c0) &&& (255 : Int32)))) + ((StrChars.lo8 c1) &&& (255 : Int32)))))])) _
  refine own_gs (cur' := s₁.setTop (mkF m 36 #[vi (((31 : Int32) * (((31 : Int32) * ((0 : Int32) + ((StrChars.lo8 c0) &&& (255 : Int32)))) + ((StrChars.lo8 c1) &&& (255 : Int32)))) + ((StrChars.lo8 c2) &&& (255 : Int32))), vr t1, vi (0 : Int32), vi (3 : Int32), vi (3 : Int32), vi (3 : Int32)] [(.int (((31 : Int32) * (((31 : Int32) * ((0 : Int32) + ((StrChars.lo8 c0) &&& (255 : Int32)))) + ((StrChars.lo8 c1) &&& (255 : Int32)))) + ((StrChars.lo8 c2) &&& (255 : Int32))))])) ?_ ?_
  · refine XS.sipush X0.here hx rfl (hb hby d17_23) ?_
    refine XS.iand X0.here hx rfl (hb hby d17_26) rfl ?_
    refine XS.iadd X0.here hx rfl (hb hby d17_27) rfl ?_
    refine XS.istoreN X0.here hx rfl (hb hby d17_28) rfl (l' := #[vi (((31 : Int32) * (((31 : Int32) * ((0 : Int32) + ((StrChars.lo8 c0) &&& (255 : Int32)))) + ((StrChars.lo8 c1) &&& (255 : Int32)))) + ((StrChars.lo8 c2) &&& (255 : Int32))), vr t1, vi (0 : Int32), vi (3 : Int32), vi (3 : Int32), vi (2 : Int32)]) rfl ?_
    refine XS.iinc X0.here hx rfl (hb hby d17_29) rfl (l' := #[vi (((31 : Int32) * (((31 : Int32) * ((0 : Int32) + ((StrChars.lo8 c0) &&& (255 : Int32)))) + ((StrChars.lo8 c1) &&& (255 : Int32)))) + ((StrChars.lo8 c2) &&& (255 : Int32))), vr t1, vi (0 : Int32), vi (3 : Int32), vi (3 : Int32), vi (3 : Int32)]) rfl ?_
    refine XS.goto X0.here hx rfl (pc0 := 32) (pc' := 8) rfl (hb hby d17_32) (by decide) (by decide) ?_
    refine XS.iload X0.here hx rfl (hb hby d17_8) rfl ?_
    refine XS.iload X0.here hx rfl (hb hby d17_10) rfl ?_
    show Steps p.tables e below (s₁.setTop (mkF m 12 #[vi (((31 : Int32) * (((31 : Int32) * ((0 : Int32) + ((StrChars.lo8 c0) &&& (255 : Int32)))) + ((StrChars.lo8 c1) &&& (255 : Int32)))) + ((StrChars.lo8 c2) &&& (255 : Int32))), vr t1, vi (0 : Int32), vi (3 : Int32), vi (3 : Int32), vi (3 : Int32)] [(.int (3 : Int32)), (.int (3 : Int32))])) _
    refine XS.icmpYes X0.here hx rfl (pc0 := 12) (pc' := 35) rfl (hb hby d17_12) rfl (flt ((by decide) : ¬ ((3 : Int32) < (3 : Int32)))).2.1 (by decide) (by decide) ?_
    refine XS.iloadN X0.here hx rfl (hb hby d17_35) rfl ?_
    exact Steps.refl _
  obtain ⟨fs, hr, hrun, hended, hW1, hsame⟩ := X0.leave (v := (some (.int (((31 : Int32) * (((31 : Int32) * ((0 : Int32) + ((StrChars.lo8 c0) &&& (255 : Int32)))) + ((StrChars.lo8 c1) &&& (255 : Int32)))) + ((StrChars.lo8 c2) &&& (255 : Int32)))))) (fun h => by rw [Bd.returns] at h; cases h)
  refine ⟨_, _, retI X0 hx Bd.returns (hb hby d17_36) hr, hrun, hended, _, _, rfl, ?_, ⟨_, rfl⟩, hW1, hsame.mono (own_le rfl) (own_le rfl)⟩
  show own_shc_k3_Q Z t1 k1 c0 c1 c2 h0 n0 (some (.int (((31 : Int32) * (((31 : Int32) * ((0 : Int32) + ((StrChars.lo8 c0) &&& (255 : Int32)))) + ((StrChars.lo8 c1) &&& (255 : Int32)))) + ((StrChars.lo8 c2) &&& (255 : Int32))))) s₁.heap _
  rw [e0]
  exact ⟨rfl, N0, rfl⟩
def own_vhc_k3_Q (Z : State) (t1 : Nat) (k1 : ClassId) (c0 c1 c2 : Int32) (h0 : Heap) (n0 : Nat) (v : Option Value) (h : Heap) (L : List Loc) : Prop := v = (some (.int (own_hash [c0, c1, c2]))) ∧ Fr n0 L ∧ h = h0
theorem ef_own_vhc_k3 (m : MethodId) (x0 : Nat) (x1 : Int32) (x2 : Int32) (x3 : Int32) (x4 : Int32) : entryFrame m #[(.ref x0), (.int x1), (.int x2), (.int x3), (.int x4)] 5 = mkF m 0 #[vr x0, vi x1, vi x2, vi x3, vi x4] [] := by first | (simp [entryFrame, mkF, argsToLocals, Value.category]; done) | rfl
set_option maxRecDepth 65536 in
set_option maxHeartbeats 40000000 in
theorem own_vhc_k3 (l : Launch) (Z : State) (a0 : Array Value) (hW : own_W Z a0) (t1 : Nat) (k1 : ClassId) (c0 c1 c2 : Int32) (h0 : Heap) (n0 : Nat) (Z0 : n0 ≤ h0.size) (O0 : Old Z n0 h0) (V1 : Arv Z h0 t1 k1 .byte (3 : Int32) [(.int (StrChars.lo8 c0)), (.int (StrChars.lo8 c1)), (.int (StrChars.lo8 c2))] (.int (0 : Int32))) (Eb1 : Exa Z h0 t1 "[B") :
    MetFree l own_n23 (head1 (Jvm.Cond.code own_n23 own_c18 5 (some .int) :: []) ({ frames := 1, cells := 0, slots := 0, locals := 18 } : Room)) (fun a U => a = #[(.ref t1), (.int (0 : Int32)), (.int (3 : Int32)), (.int (0 : Int32)), (.int (4 : Int32))] ∧ Z.Warmed39 U.vm ∧ U.heap = h0) (fun _ _ _ _ _ => True) (fun _ U o U' => ∃ v L, o = .returned v ∧ own_vhc_k3_Q Z t1 k1 c0 c1 c2 h0 n0 v U'.heap L ∧ FrameEnd U o U' L ({ frames := 1, cells := 0, slots := 0, locals := 18 } : Room).cells ({ frames := 1, cells := 0, slots := 0, locals := 18 } : Room).slots) := by
  refine MetFree.of_bodySF (plainFor_of_name pn_jdk_internal_util_ArraysSupport) hisR ?_
  intro p e s m args below meth c s₁ Bd hml0 hP hK
  obtain ⟨rfl, hZ, hh⟩ := hP
  obtain ⟨hw, ⟨G1, O2, P5⟩, ⟨G3, O4, rG3⟩⟩ := id hW
  have hx := Bd.exec
  have hby := Bd.bytes
  have hml : c.maxLocals = 5 := hml0
  have hown : s.vm.findClass "jdk/internal/util/ArraysSupport" = some m.cls := findClass_of_methodNamed Bd.named
  have hnm := (name_of_methodNamed Bd.named Bd.method).1
  have X0 : Stand p l e ({ frames := 1, cells := 0, slots := 0, locals := 18 } : Room) s m #[(.ref t1), (.int (0 : Int32)), (.int (3 : Int32)), (.int (0 : Int32)), (.int (4 : Int32))] below meth c s₁ [] 0 0 := Stand.of_body Bd
  have e0 : s₁.heap = h0 := by rw [← hh, Bd.state]; rfl
  have N0 := Fr.nil n0
  have K0 := Keep.refl h0 []
  have lt1 := own_lt V1.lt
  show own_Fin p e below (s₁.setTop (entryFrame m #[(.ref t1), (.int (0 : Int32)), (.int (3 : Int32)), (.int (0 : Int32)), (.int (4 : Int32))] 5)) _
  refine own_gs (castTop (ef_own_vhc_k3 m t1 (0 : Int32) (3 : Int32) (0 : Int32) (4 : Int32)) (Steps.refl _)) ?_
  show own_Fin p e below (s₁.setTop (mkF m 0 #[vr t1, vi (0 : Int32), vi (3 : Int32), vi (0 : Int32), vi (4 : Int32)] [])) _
  refine own_gs (cur' := s₁.setTop (mkF m 46 #[vr t1, vi (0 : Int32), vi (3 : Int32), vi (0 : Int32), vi (4 : Int32)] [(.ref t1), (.int (0 : Int32))])) ?_ ?_
  · refine XS.iload X0.here hx rfl (hb hby d18_0) rfl ?_
    refine XS.tswIn X0.here hx rfl (pc0 := 2) (pc' := 44) rfl (hb hby d18_2) rfl (by decide) (o := 42) rfl (by decide) (by decide) ?_
    refine XS.iloadN X0.here hx rfl (hb hby d18_44) rfl ?_
    refine XS.aloadN X0.here hx rfl (hb hby d18_45) rfl rfl ?_
    exact Steps.refl _
  obtain ⟨T11, X11, e11, st11⟩ := castY X0 hx hZ hown (own_tw hw 168 rfl) e0 (Ins.self Eb1) (g := (mkF m 46 #[vr t1, vi (0 : Int32), vi (3 : Int32), vi (0 : Int32), vi (4 : Int32)] [(.ref t1), (.int (0 : Int32))])) rfl rfl (hb hby d18_46)
  refine own_go st11 ?_
  show own_Fin p e below (T11.setTop (mkF m 49 #[vr t1, vi (0 : Int32), vi (3 : Int32), vi (0 : Int32), vi (4 : Int32)] [(.ref t1), (.int (0 : Int32))])) _
  refine own_gs (cur' := T11.setTop (mkF m 51 #[vr t1, vi (0 : Int32), vi (3 : Int32), vi (0 : Int32), vi (4 : Int32)] [(.int (3 : Int32)), (.int (0 : Int32)), (.ref t1), (.int (0 : Int32))])) ?_ ?_
  · refine XS.iloadN X11.here hx rfl (hb hby d18_49) rfl ?_
    refine XS.iloadN X11.here hx rfl (hb hby d18_50) rfl ?_
    exact Steps.refl _
  obtain ⟨_, _, ⟨T12, L12, k12, n12⟩, -, X12, ⟨Lc12, hQ12, l12, y12, z12⟩, st12⟩ := Jvm.LawKit.callS X11 hx (y := own_n22) hown (mvT hZ (own_tw hw 170 rfl)) (mvT hZ (own_tw hw 171 rfl)) (mvT hZ (own_tw hw 166 rfl)) (mvT hZ (own_tw hw 172 rfl)) (by decide) (backOf (W := 0) (own_shc_k3 l Z a0 hW t1 k1 c0 c1 c2 h0 n0 (by omega) O0 V1) hZ (own_tw hw 172 rfl) (own_tw hw 166 rfl) (by decide) (by decide)) (g := (mkF m 51 #[vr t1, vi (0 : Int32), vi (3 : Int32), vi (0 : Int32), vi (4 : Int32)] [(.int (3 : Int32)), (.int (0 : Int32)), (.ref t1), (.int (0 : Int32))])) rfl (by rw [hml]; rfl) (argsL := [(.int (0 : Int32)), (.ref t1), (.int (0 : Int32)), (.int (3 : Int32))]) (rest := []) (lenOf pd_11 rfl) rfl (own_le rfl) (hb hby d18_51) (fun _ _ => ⟨rfl, e11, (by decide : 0 + 0 ≤ 0), (by decide : 0 + 0 ≤ 0)⟩)
  dsimp only [Pt.U, Pt.locs, Pt.cells, Pt.slots] at X12 l12 y12 z12 st12 hQ12
  subst l12 y12 z12
  obtain ⟨rfl, Nq12, eh12⟩ := hQ12
  have N12 := Fr.app N0 Nq12
  refine own_go st12 ?_
  show own_Fin p e below (T12.setTop (mkF m 54 #[vr t1, vi (0 : Int32), vi (3 : Int32), vi (0 : Int32), vi (4 : Int32)] [(.int (own_hash [c0, c1, c2]))])) _
  refine own_gs (cur' := T12.setTop (mkF m 157 #[vr t1, vi (0 : Int32), vi (3 : Int32), vi (0 : Int32), vi (4 : Int32)] [(.int (own_hash [c0, c1, c2]))])) ?_ ?_
  · refine XS.goto X12.here hx rfl (pc0 := 54) (pc' := 157) rfl (hb hby d18_54) (by decide) (by decide) ?_
    exact Steps.refl _
  obtain ⟨fs, hr, hrun, hended, hW1, hsame⟩ := X12.leave (v := (some (.int (own_hash [c0, c1, c2])))) (fun h => by rw [Bd.returns] at h; cases h)
  refine ⟨_, _, retI X12 hx Bd.returns (hb hby d18_157) hr, hrun, hended, _, _, rfl, ?_, ⟨_, rfl⟩, hW1, hsame.mono (own_le rfl) (own_le rfl)⟩
  show own_vhc_k3_Q Z t1 k1 c0 c1 c2 h0 n0 (some (.int (own_hash [c0, c1, c2]))) T12.heap _
  rw [eh12]
  exact ⟨rfl, N12, rfl⟩
def own_lhs_k3_Q (Z : State) (t1 : Nat) (k1 : ClassId) (c0 c1 c2 : Int32) (h0 : Heap) (n0 : Nat) (v : Option Value) (h : Heap) (L : List Loc) : Prop := v = (some (.int (own_hash [c0, c1, c2]))) ∧ Fr n0 L ∧ h = h0
theorem ef_own_lhs_k3 (m : MethodId) (x0 : Nat) : entryFrame m #[(.ref x0)] 1 = mkF m 0 #[vr x0] [] := by first | (simp [entryFrame, mkF, argsToLocals, Value.category]; done) | rfl
set_option maxRecDepth 65536 in
set_option maxHeartbeats 40000000 in
theorem own_lhs_k3 (l : Launch) (Z : State) (a0 : Array Value) (hW : own_W Z a0) (t1 : Nat) (k1 : ClassId) (c0 c1 c2 : Int32) (h0 : Heap) (n0 : Nat) (Z0 : n0 ≤ h0.size) (O0 : Old Z n0 h0) (V1 : Arv Z h0 t1 k1 .byte (3 : Int32) [(.int (StrChars.lo8 c0)), (.int (StrChars.lo8 c1)), (.int (StrChars.lo8 c2))] (.int (0 : Int32))) (Eb1 : Exa Z h0 t1 "[B") :
    MetFree l own_n21 (head1 (Jvm.Cond.code own_n21 own_c16 1 (some .int) :: []) ({ frames := 2, cells := 0, slots := 0, locals := 40 } : Room)) (fun a U => a = #[(.ref t1)] ∧ Z.Warmed39 U.vm ∧ U.heap = h0) (fun _ _ _ _ _ => True) (fun _ U o U' => ∃ v L, o = .returned v ∧ own_lhs_k3_Q Z t1 k1 c0 c1 c2 h0 n0 v U'.heap L ∧ FrameEnd U o U' L ({ frames := 2, cells := 0, slots := 0, locals := 40 } : Room).cells ({ frames := 2, cells := 0, slots := 0, locals := 40 } : Room).slots) := by
  refine MetFree.of_bodySF (plainFor_of_name pn_java_lang_StringLatin1) hisR ?_
  intro p e s m args below meth c s₁ Bd hml0 hP hK
  obtain ⟨rfl, hZ, hh⟩ := hP
  obtain ⟨hw, ⟨G1, O2, P5⟩, ⟨G3, O4, rG3⟩⟩ := id hW
  have hx := Bd.exec
  have hby := Bd.bytes
  have hml : c.maxLocals = 1 := hml0
  have hown : s.vm.findClass "java/lang/StringLatin1" = some m.cls := findClass_of_methodNamed Bd.named
  have hnm := (name_of_methodNamed Bd.named Bd.method).1
  have X0 : Stand p l e ({ frames := 2, cells := 0, slots := 0, locals := 40 } : Room) s m #[(.ref t1)] below meth c s₁ [] 0 0 := Stand.of_body Bd
  have e0 : s₁.heap = h0 := by rw [← hh, Bd.state]; rfl
  have N0 := Fr.nil n0
  have K0 := Keep.refl h0 []
  have lt1 := own_lt V1.lt
  show own_Fin p e below (s₁.setTop (entryFrame m #[(.ref t1)] 1)) _
  refine own_gs (castTop (ef_own_lhs_k3 m t1) (Steps.refl _)) ?_
  show own_Fin p e below (s₁.setTop (mkF m 0 #[vr t1] [])) _
  refine own_gs (cur' := s₁.setTop (mkF m 1 #[vr t1] [(.ref t1)])) ?_ ?_
  · refine XS.aloadN X0.here hx rfl (hb hby d16_0) rfl rfl ?_
    exact Steps.refl _
  obtain ⟨cl11, Ar11, q11, S11, M11, Hs11, G11⟩ := id V1
  refine own_go (X0.arraylength hx (by rw [e0]; exact Ar11.1) (State.isArrayOf_alike hZ.alike Ar11.2.1) (g := (mkF m 1 #[vr t1] [(.ref t1)])) rfl rfl (hb hby d16_1)) ?_
  rw [len_of S11 M11]
  show own_Fin p e below (s₁.setTop (mkF m 2 #[vr t1] [(.int (3 : Int32))])) _
  refine own_gs (cur' := s₁.setTop (mkF m 45 #[vr t1] [(.ref t1), (.int (0 : Int32)), (.ref t1)])) ?_ ?_
  · refine own_lsw X0.here hx rfl (pc0 := 2) (pc' := 42) rfl (hb hby d16_2) rfl (by decide) (o := 40) (by decide) (by decide) (by decide) ?_
    refine XS.aloadN X0.here hx rfl (hb hby d16_42) rfl rfl ?_
    refine XS.iconst X0.here hx rfl (hb hby d16_43) ?_
    refine XS.aloadN X0.here hx rfl (hb hby d16_44) rfl rfl ?_
    exact Steps.refl _
  obtain ⟨cl12, Ar12, q12, S12, M12, Hs12, G12⟩ := id V1
  refine own_go (X0.arraylength hx (by rw [e0]; exact Ar12.1) (State.isArrayOf_alike hZ.alike Ar12.2.1) (g := (mkF m 45 #[vr t1] [(.ref t1), (.int (0 : Int32)), (.ref t1)])) rfl rfl (hb hby d16_45)) ?_
  rw [len_of S12 M12]
  show own_Fin p e below (s₁.setTop (mkF m 46 #[vr t1] [(.int (3 : Int32)), (.int (0 : Int32)), (.ref t1)])) _
  refine own_gs (cur' := s₁.setTop (mkF m 48 #[vr t1] [(.int (4 : Int32)), (.int (0 : Int32)), (.int (3 : Int32)), (.int (0 : Int32)), (.ref t1)])) ?_ ?_
  · refine XS.iconst X0.here hx rfl (hb hby d16_46) ?_
    refine XS.iconst X0.here hx rfl (hb hby d16_47) ?_
    exact Steps.refl _
  obtain ⟨_, _, ⟨T13, L13, k13, n13⟩, -, X13, ⟨Lc13, hQ13, l13, y13, z13⟩, st13⟩ := Jvm.LawKit.callS X0 hx (y := own_n23) hown (mvT hZ (own_tw hw 164 rfl)) (mvT hZ (own_tw hw 165 rfl)) (mvT hZ (own_tw hw 166 rfl)) (mvT hZ (own_tw hw 167 rfl)) (by decide) (backOf (W := 0) (own_vhc_k3 l Z a0 hW t1 k1 c0 c1 c2 h0 n0 (by omega) O0 V1 Eb1) hZ (own_tw hw 167 rfl) (own_tw hw 166 rfl) (by decide) (by decide)) (g := (mkF m 48 #[vr t1] [(.int (4 : Int32)), (.int (0 : Int32)), (.int (3 : Int32)), (.int (0 : Int32)), (.ref t1)])) rfl (by rw [hml]; rfl) (argsL := [(.ref t1), (.int (0 : Int32)), (.int (3 : Int32)), (.int (0 : Int32)), (.int (4 : Int32))]) (rest := []) (lenOf pd_12 rfl) rfl (own_le rfl) (hb hby d16_48) (fun _ _ => ⟨rfl, e0, (by decide : 0 + 0 ≤ 0), (by decide : 0 + 0 ≤ 0)⟩)
  dsimp only [Pt.U, Pt.locs, Pt.cells, Pt.slots] at X13 l13 y13 z13 st13 hQ13
  subst l13 y13 z13
  obtain ⟨rfl, Nq13, eh13⟩ := hQ13
  have N13 := Fr.app N0 Nq13
  refine own_go st13 ?_
  show own_Fin p e below (T13.setTop (mkF m 51 #[vr t1] [(.int (own_hash [c0, c1, c2]))])) _
  obtain ⟨fs, hr, hrun, hended, hW1, hsame⟩ := X13.leave (v := (some (.int (own_hash [c0, c1, c2])))) (fun h => by rw [Bd.returns] at h; cases h)
  refine ⟨_, _, retI X13 hx Bd.returns (hb hby d16_51) hr, hrun, hended, _, _, rfl, ?_, ⟨_, rfl⟩, hW1, hsame.mono (own_le rfl) (own_le rfl)⟩
  show own_lhs_k3_Q Z t1 k1 c0 c1 c2 h0 n0 (some (.int (own_hash [c0, c1, c2]))) T13.heap _
  rw [eh13]
  exact ⟨rfl, N13, rfl⟩
abbrev own_c19 : ByteArray := jdk_42_method_78_code
def own_hc_k1_Q (Z : State) (x1 t1 : Nat) (c0 : Int32) (h0 : Heap) (n0 : Nat) (v : Option Value) (h : Heap) (L : List Loc) : Prop := v = (some (.int (own_hash [c0]))) ∧ Fr n0 L ∧ Keep h0 h [x1]
theorem ef_own_hc_k1 (m : MethodId) (x0 : Nat) : entryFrame m #[(.ref x0)] 2 = mkF m 0 #[vr x0, .unset] [] := by first | (simp [entryFrame, mkF, argsToLocals, Value.category]; done) | rfl
abbrev own_n24 : MethodName := ⟨"java/lang/String", "hashCode", "()I"⟩
theorem d19_0 : decode own_c19 0 = .ok (.aload_n 0, 1) := by decide +kernel
theorem d19_1 : decode own_c19 1 = .ok (.getfield 19, 3) := by decide +kernel
theorem d19_4 : decode own_c19 4 = .ok (.istore_n 1, 1) := by decide +kernel
theorem d19_5 : decode own_c19 5 = .ok (.iload_n 1, 1) := by decide +kernel
theorem d19_6 : decode own_c19 6 = .ok (.ifCond .ne 52, 3) := by decide +kernel
theorem d19_9 : decode own_c19 9 = .ok (.aload_n 0, 1) := by decide +kernel
theorem d19_10 : decode own_c19 10 = .ok (.getfield 23, 3) := by decide +kernel
theorem d19_13 : decode own_c19 13 = .ok (.ifCond .ne 45, 3) := by decide +kernel
theorem d19_16 : decode own_c19 16 = .ok (.aload_n 0, 1) := by decide +kernel
theorem d19_17 : decode own_c19 17 = .ok (.invokevirtual 492, 3) := by decide +kernel
theorem d19_20 : decode own_c19 20 = .ok (.ifCond .eq 13, 3) := by decide +kernel
theorem d19_23 : decode own_c19 23 = .ok (.aload_n 0, 1) := by decide +kernel
theorem d19_24 : decode own_c19 24 = .ok (.getfield 9, 3) := by decide +kernel
theorem d19_27 : decode own_c19 27 = .ok (.invokestatic 628, 3) := by decide +kernel
theorem pd_13 : parseMethodDescriptor "([B)I" = some ⟨[(.array .byte)], some .int⟩ := by decide +kernel
theorem d19_30 : decode own_c19 30 = .ok (.goto 10, 3) := by decide +kernel
theorem d19_40 : decode own_c19 40 = .ok (.istore_n 1, 1) := by decide +kernel
theorem d19_41 : decode own_c19 41 = .ok (.iload_n 1, 1) := by decide +kernel
theorem d19_42 : decode own_c19 42 = .ok (.ifCond .ne 11, 3) := by decide +kernel
theorem d19_45 : decode own_c19 45 = .ok (.aload_n 0, 1) := by decide +kernel
theorem d19_46 : decode own_c19 46 = .ok (.iconst 1, 1) := by decide +kernel
theorem d19_47 : decode own_c19 47 = .ok (.putfield 23, 3) := by decide +kernel
theorem d19_50 : decode own_c19 50 = .ok (.goto 8, 3) := by decide +kernel
theorem d19_58 : decode own_c19 58 = .ok (.iload_n 1, 1) := by decide +kernel
theorem d19_59 : decode own_c19 59 = .ok (.ireturn, 1) := by decide +kernel
theorem d19_53 : decode own_c19 53 = .ok (.aload_n 0, 1) := by decide +kernel
theorem d19_54 : decode own_c19 54 = .ok (.iload_n 1, 1) := by decide +kernel
theorem d19_55 : decode own_c19 55 = .ok (.putfield 19, 3) := by decide +kernel
set_option maxRecDepth 65536 in
set_option maxHeartbeats 40000000 in
theorem own_hc_k1 (l : Launch) (Z : State) (a0 : Array Value) (hW : own_W Z a0) (x1 t1 : Nat) (c0 : Int32) (h0 : Heap) (n0 : Nat) (Z0 : n0 ≤ h0.size) (O0 : Old Z n0 h0) (S1 : own_Str Z h0 x1 t1 [c0]) (Fh1 : Fld Z h0 x1 "java/lang/String" "hash" "I" (.int (0 : Int32))) (Fz1 : Fld Z h0 x1 "java/lang/String" "hashIsZero" "Z" (.int (0 : Int32))) (Eb1 : Exa Z h0 t1 "[B") (g1 : n0 ≤ x1) (hc0 : own_ok c0) :
    MetFree l own_n24 (head1 (Jvm.Cond.code own_n24 own_c19 2 (some .int) :: []) ({ frames := 3, cells := 0, slots := 0, locals := 60 } : Room)) (fun a U => a = #[(.ref x1)] ∧ Z.Warmed39 U.vm ∧ U.heap = h0) (fun _ _ _ _ _ => True) (fun _ U o U' => ∃ v L, o = .returned v ∧ own_hc_k1_Q Z x1 t1 c0 h0 n0 v U'.heap L ∧ FrameEnd U o U' L ({ frames := 3, cells := 0, slots := 0, locals := 60 } : Room).cells ({ frames := 3, cells := 0, slots := 0, locals := 60 } : Room).slots) := by
  refine MetFree.of_bodySF (plainFor_of_name pn_java_lang_String) hisR ?_
  intro p e s m args below meth c s₁ Bd hml0 hP hK
  obtain ⟨rfl, hZ, hh⟩ := hP
  obtain ⟨hw, ⟨G1, O2, P5⟩, ⟨G3, O4, rG3⟩⟩ := id hW
  have hx := Bd.exec
  have hby := Bd.bytes
  have hml : c.maxLocals = 2 := hml0
  have hown : s.vm.findClass "java/lang/String" = some m.cls := findClass_of_methodNamed Bd.named
  have hnm := (name_of_methodNamed Bd.named Bd.method).1
  have X0 : Stand p l e ({ frames := 3, cells := 0, slots := 0, locals := 60 } : Room) s m #[(.ref x1)] below meth c s₁ [] 0 0 := Stand.of_body Bd
  have e0 : s₁.heap = h0 := by rw [← hh, Bd.state]; rfl
  have N0 := Fr.nil n0
  have K0 := Keep.refl h0 [x1]
  have hlat : ∀ c ∈ ([c0] : List Int32), ¬ (255 : Int32) < c := by
    intro c hc
    simp only [List.mem_cons, List.not_mem_nil, or_false] at hc
    rcases hc with rfl
    · exact (own_ok_lat hc0).2
  obtain ⟨k1, cd1, N1, vs1, E1, Fv1, Fc1, Vq1, hcod, hb1, hl1⟩ := id S1
  obtain ⟨rfl, rfl, rfl⟩ : cd1 = 0 ∧ N1 = (1 : Int32) ∧ vs1 = [(.int (StrChars.lo8 c0))] := by
    rcases hcod with ⟨q1, q2, q3, -⟩ | ⟨-, -, -, c, hc, q⟩
    · exact ⟨q1, q2, q3⟩
    · exact absurd q (hlat c hc)
  have lt1 := own_lt E1.lt
  have lt2 := own_lt Vq1.lt
  show own_Fin p e below (s₁.setTop (entryFrame m #[(.ref x1)] 2)) _
  refine own_gs (castTop (ef_own_hc_k1 m x1) (Steps.refl _)) ?_
  show own_Fin p e below (s₁.setTop (mkF m 0 #[vr x1, uu] [])) _
  refine own_gs (cur' := s₁.setTop (mkF m 1 #[vr x1, uu] [(.ref x1)])) ?_ ?_
  · refine XS.aloadN X0.here hx rfl (hb hby d19_0) rfl rfl ?_
    exact Steps.refl _
  obtain ⟨T11, X11, e11, st11⟩ := getF X0 hx hZ hown (host := "") (Or.inl (own_tw hw 157 rfl)) Via.refl e0 Fh1 (g := (mkF m 1 #[vr x1, uu] [(.ref x1)])) rfl rfl (hb hby d19_1)
  refine own_go st11 ?_
  show own_Fin p e below (T11.setTop (mkF m 4 #[vr x1, uu] [(.int (0 : Int32))])) _
  refine own_gs (cur' := T11.setTop (mkF m 10 #[vr x1, vi (0 : Int32)] [(.ref x1)])) ?_ ?_
  · refine XS.istoreN X11.here hx rfl (hb hby d19_4) rfl (l' := #[vr x1, vi (0 : Int32)]) rfl ?_
    refine XS.iloadN X11.here hx rfl (hb hby d19_5) rfl ?_
    refine XS.ifNo X11.here hx rfl (hb hby d19_6) rfl ((if0 _ _).trans (teq ((by decide) : (0 : Int32) = (0 : Int32))).2) ?_
    refine XS.aloadN X11.here hx rfl (hb hby d19_9) rfl rfl ?_
    exact Steps.refl _
  obtain ⟨T12, X12, e12, st12⟩ := getF X11 hx hZ hown (host := "") (Or.inl (own_tw hw 159 rfl)) Via.refl e11 Fz1 (g := (mkF m 10 #[vr x1, vi (0 : Int32)] [(.ref x1)])) rfl rfl (hb hby d19_10)
  refine own_go st12 ?_
  show own_Fin p e below (T12.setTop (mkF m 13 #[vr x1, vi (0 : Int32)] [(.int (0 : Int32))])) _
  refine own_gs (cur' := T12.setTop (mkF m 17 #[vr x1, vi (0 : Int32)] [(.ref x1)])) ?_ ?_
  · refine XS.ifNo X12.here hx rfl (hb hby d19_13) rfl ((if0 _ _).trans (teq ((by decide) : (0 : Int32) = (0 : Int32))).2) ?_
    refine XS.aloadN X12.here hx rfl (hb hby d19_16) rfl rfl ?_
    exact Steps.refl _
  obtain ⟨cq13, kq13, q13a, q13b, q13c⟩ := isOf hZ e12 E1
  obtain ⟨_, _, ⟨T13, L13, k13, n13⟩, -, X13, ⟨Lc13, hQ13, l13, y13, z13⟩, st13⟩ := X12.virtualBack hx (y := own_n6) (z := own_n6) hown (mvT hZ (own_tw hw 17 rfl)) (mvT hZ (own_tw hw 18 rfl)) (notFace_of_selects (args := #[]) (mvT hZ (own_tw hw 20 rfl))) (mvT hZ (own_tw hw 20 rfl)) (mvT hZ (own_tw hw 19 rfl)) (by decide) (backOf (W := 0) (own_isl l Z a0 hW x1 h0 n0 (by omega) O0 Fc1) hZ (own_tw hw 21 rfl) (own_tw hw 5 rfl) (by decide) (by decide)) q13a q13c (g := (mkF m 17 #[vr x1, vi (0 : Int32)] [(.ref x1)])) rfl (by rw [hml]; rfl) (Steps.refl _) (argsL := []) (rest := []) (lenOf pd_5 rfl) rfl (own_le rfl) (hb hby d19_17) (fun _ _ => ⟨rfl, e12, (by decide : 0 + 0 ≤ 0), (by decide : 0 + 0 ≤ 0)⟩)
  dsimp only [Pt.U, Pt.locs, Pt.cells, Pt.slots] at X13 l13 y13 z13 st13 hQ13
  subst l13 y13 z13
  obtain ⟨rfl, Nq13, eh13⟩ := hQ13
  have N13 := Fr.app N0 Nq13
  refine own_gs st13 ?_
  show own_Fin p e below (T13.setTop (mkF m 20 #[vr x1, vi (0 : Int32)] [(.int (1 : Int32))])) _
  refine own_gs (cur' := T13.setTop (mkF m 24 #[vr x1, vi (0 : Int32)] [(.ref x1)])) ?_ ?_
  · refine XS.ifNo X13.here hx rfl (hb hby d19_20) rfl ((if0 _ _).trans (feq ((by decide) : ¬ ((1 : Int32) = (0 : Int32)))).1) ?_
    refine XS.aloadN X13.here hx rfl (hb hby d19_23) rfl rfl ?_
    exact Steps.refl _
  obtain ⟨T14, X14, e14, st14⟩ := getF X13 hx hZ hown (host := "") (Or.inl (own_tw hw 24 rfl)) Via.refl eh13 Fv1 (g := (mkF m 24 #[vr x1, vi (0 : Int32)] [(.ref x1)])) rfl rfl (hb hby d19_24)
  refine own_go st14 ?_
  show own_Fin p e below (T14.setTop (mkF m 27 #[vr x1, vi (0 : Int32)] [(.ref t1)])) _
  obtain ⟨_, _, ⟨T15, L15, k15, n15⟩, -, X15, ⟨Lc15, hQ15, l15, y15, z15⟩, st15⟩ := Jvm.LawKit.callS X14 hx (y := own_n21) hown (mvT hZ (own_tw hw 161 rfl)) (mvT hZ (own_tw hw 162 rfl)) (mvT hZ (own_tw hw 27 rfl)) (mvT hZ (own_tw hw 163 rfl)) (by decide) (backOf (W := 0) (own_lhs_k1 l Z a0 hW t1 k1 c0 h0 n0 (by omega) O0 Vq1 Eb1) hZ (own_tw hw 163 rfl) (own_tw hw 27 rfl) (by decide) (by decide)) (g := (mkF m 27 #[vr x1, vi (0 : Int32)] [(.ref t1)])) rfl (by rw [hml]; rfl) (argsL := [(.ref t1)]) (rest := []) (lenOf pd_13 rfl) rfl (own_le rfl) (hb hby d19_27) (fun _ _ => ⟨rfl, e14, (by decide : 0 + 0 ≤ 0), (by decide : 0 + 0 ≤ 0)⟩)
  dsimp only [Pt.U, Pt.locs, Pt.cells, Pt.slots] at X15 l15 y15 z15 st15 hQ15
  subst l15 y15 z15
  obtain ⟨rfl, Nq15, eh15⟩ := hQ15
  have N15 := Fr.app N13 Nq15
  refine own_go st15 ?_
  show own_Fin p e below (T15.setTop (mkF m 30 #[vr x1, vi (0 : Int32)] [(.int (own_hash [c0]))])) _
  refine own_gs (cur' := T15.setTop (mkF m 42 #[vr x1, vi (own_hash [c0])] [(.int (own_hash [c0]))])) ?_ ?_
  · refine XS.goto X15.here hx rfl (pc0 := 30) (pc' := 40) rfl (hb hby d19_30) (by decide) (by decide) ?_
    refine XS.istoreN X15.here hx rfl (hb hby d19_40) rfl (l' := #[vr x1, vi (own_hash [c0])]) rfl ?_
    refine XS.iloadN X15.here hx rfl (hb hby d19_41) rfl ?_
    exact Steps.refl _
  by_cases hc42_16 : (own_hash [c0]) = (0 : Int32)
  · refine own_gs (cur' := T15.setTop (mkF m 47 #[vr x1, vi (own_hash [c0])] [(.int (1 : Int32)), (.ref x1)])) ?_ ?_
    · refine XS.ifNo X15.here hx rfl (hb hby d19_42) rfl ((if0 _ _).trans (teq (hc42_16 : (own_hash [c0]) = (0 : Int32))).2) ?_
      refine XS.aloadN X15.here hx rfl (hb hby d19_45) rfl rfl ?_
      refine XS.iconst X15.here hx rfl (hb hby d19_46) ?_
      exact Steps.refl _
    obtain ⟨T17, h17, X17, e17, W17, st17⟩ := putF X15 hx hZ hown (host := "") (Or.inl (own_tw hw 159 rfl)) Via.refl eh15 Fz1 E1 (Or.inl (own_tw hw 160 rfl)) (own_tw hw 6 rfl) (ty := .boolean) (by decide) rfl rfl (g := (mkF m 47 #[vr x1, vi (own_hash [c0])] [(.int (1 : Int32)), (.ref x1)])) rfl rfl (hb hby d19_47)
    have F17 := Fz1.same W17
    refine own_go st17 ?_
    show own_Fin p e below (T17.setTop (mkF m 50 #[vr x1, vi (own_hash [c0])] [])) _
    have z18 := W17.size
    have K18 := K0.wr W17 (Or.inl (List.mem_of_getElem? (i := 0) rfl))
    have O18 := O0.wr W17 (by omega)
    have N18 := Fr.snoc X17 N15 (by omega)
    refine own_gs (cur' := T17.setTop (mkF m 59 #[vr x1, vi (own_hash [c0])] [(.int (own_hash [c0]))])) ?_ ?_
    · refine XS.goto X17.here hx rfl (pc0 := 50) (pc' := 58) rfl (hb hby d19_50) (by decide) (by decide) ?_
      refine XS.iloadN X17.here hx rfl (hb hby d19_58) rfl ?_
      exact Steps.refl _
    obtain ⟨fs, hr, hrun, hended, hW1, hsame⟩ := X17.leave (v := (some (.int (own_hash [c0])))) (fun h => by rw [Bd.returns] at h; cases h)
    refine ⟨_, _, retI X17 hx Bd.returns (hb hby d19_59) hr, hrun, hended, _, _, rfl, ?_, ⟨_, rfl⟩, hW1, hsame.mono (own_le rfl) (own_le rfl)⟩
    show own_hc_k1_Q Z x1 t1 c0 h0 n0 (some (.int (own_hash [c0]))) T17.heap _
    rw [e17]
    exact ⟨rfl, N18, K18⟩
  · refine own_gs (cur' := T15.setTop (mkF m 55 #[vr x1, vi (own_hash [c0])] [(.int (own_hash [c0])), (.ref x1)])) ?_ ?_
    · refine XS.ifYes X15.here hx rfl (pc0 := 42) (pc' := 53) rfl (hb hby d19_42) rfl ((if0 _ _).trans (feq (hc42_16 : ¬ ((own_hash [c0]) = (0 : Int32)))).2) (by decide) (by decide) ?_
      refine XS.aloadN X15.here hx rfl (hb hby d19_53) rfl rfl ?_
      refine XS.iloadN X15.here hx rfl (hb hby d19_54) rfl ?_
      exact Steps.refl _
    obtain ⟨T19, h19, X19, e19, W19, st19⟩ := putF X15 hx hZ hown (host := "") (Or.inl (own_tw hw 157 rfl)) Via.refl eh15 Fh1 E1 (Or.inl (own_tw hw 158 rfl)) (own_tw hw 6 rfl) (ty := .int) (by decide) rfl rfl (g := (mkF m 55 #[vr x1, vi (own_hash [c0])] [(.int (own_hash [c0])), (.ref x1)])) rfl rfl (hb hby d19_55)
    have F19 := Fh1.same W19
    refine own_go st19 ?_
    show own_Fin p e below (T19.setTop (mkF m 58 #[vr x1, vi (own_hash [c0])] [])) _
    have z20 := W19.size
    have K20 := K0.wr W19 (Or.inl (List.mem_of_getElem? (i := 0) rfl))
    have O20 := O0.wr W19 (by omega)
    have N20 := Fr.snoc X19 N15 (by omega)
    refine own_gs (cur' := T19.setTop (mkF m 59 #[vr x1, vi (own_hash [c0])] [(.int (own_hash [c0]))])) ?_ ?_
    · refine XS.iloadN X19.here hx rfl (hb hby d19_58) rfl ?_
      exact Steps.refl _
    obtain ⟨fs, hr, hrun, hended, hW1, hsame⟩ := X19.leave (v := (some (.int (own_hash [c0])))) (fun h => by rw [Bd.returns] at h; cases h)
    refine ⟨_, _, retI X19 hx Bd.returns (hb hby d19_59) hr, hrun, hended, _, _, rfl, ?_, ⟨_, rfl⟩, hW1, hsame.mono (own_le rfl) (own_le rfl)⟩
    show own_hc_k1_Q Z x1 t1 c0 h0 n0 (some (.int (own_hash [c0]))) T19.heap _
    rw [e19]
    exact ⟨rfl, N20, K20⟩
abbrev own_c20 : ByteArray := prog_2_method_5_code
def own_lhc_k1_Q (Z : State) (b1 a1 t1 : Nat) (c0 : Int32) (h0 : Heap) (n0 : Nat) (v : Option Value) (h : Heap) (L : List Loc) : Prop := v = (some (.int (own_hash [c0]))) ∧ Fr n0 L ∧ Keep h0 h [a1]
theorem ef_own_lhc_k1 (m : MethodId) (x0 : Nat) : entryFrame m #[(.ref x0)] 1 = mkF m 0 #[vr x0] [] := by first | (simp [entryFrame, mkF, argsToLocals, Value.category]; done) | rfl
abbrev own_n25 : MethodName := ⟨"com/example/lease_lock/leaselock/LockName", "hashCode", "()I"⟩
theorem d20_0 : decode own_c20 0 = .ok (.aload_n 0, 1) := by decide +kernel
theorem d20_1 : decode own_c20 1 = .ok (.getfield 7, 3) := by decide +kernel
theorem d20_4 : decode own_c20 4 = .ok (.invokevirtual 53, 3) := by decide +kernel
theorem d20_7 : decode own_c20 7 = .ok (.ireturn, 1) := by decide +kernel
set_option maxRecDepth 65536 in
set_option maxHeartbeats 40000000 in
theorem own_lhc_k1 (l : Launch) (Z : State) (a0 : Array Value) (hW : own_W Z a0) (b1 a1 t1 : Nat) (c0 : Int32) (h0 : Heap) (n0 : Nat) (Z0 : n0 ≤ h0.size) (O0 : Old Z n0 h0) (F1 : Fld Z h0 b1 "com/example/lease_lock/leaselock/LockName" "value" "Ljava/lang/String;" (.ref a1)) (S1 : own_Str Z h0 a1 t1 [c0]) (Fh1 : Fld Z h0 a1 "java/lang/String" "hash" "I" (.int (0 : Int32))) (Fz1 : Fld Z h0 a1 "java/lang/String" "hashIsZero" "Z" (.int (0 : Int32))) (Eb1 : Exa Z h0 t1 "[B") (g1 : n0 ≤ a1) (hc0 : own_ok c0) :
    MetFree l own_n25 (head1 (Jvm.Cond.code own_n25 own_c20 1 (some .int) :: []) ({ frames := 4, cells := 0, slots := 0, locals := 74 } : Room)) (fun a U => a = #[(.ref b1)] ∧ Z.Warmed39 U.vm ∧ U.heap = h0) (fun _ _ _ _ _ => True) (fun _ U o U' => ∃ v L, o = .returned v ∧ own_lhc_k1_Q Z b1 a1 t1 c0 h0 n0 v U'.heap L ∧ FrameEnd U o U' L ({ frames := 4, cells := 0, slots := 0, locals := 74 } : Room).cells ({ frames := 4, cells := 0, slots := 0, locals := 74 } : Room).slots) := by
  refine MetFree.of_bodySF (plainFor_of_name pn_com_example_lease_lock_leaselock_LockName) hisR ?_
  intro p e s m args below meth c s₁ Bd hml0 hP hK
  obtain ⟨rfl, hZ, hh⟩ := hP
  obtain ⟨hw, ⟨G1, O2, P5⟩, ⟨G3, O4, rG3⟩⟩ := id hW
  have hx := Bd.exec
  have hby := Bd.bytes
  have hml : c.maxLocals = 1 := hml0
  have hown : s.vm.findClass "com/example/lease_lock/leaselock/LockName" = some m.cls := findClass_of_methodNamed Bd.named
  have hnm := (name_of_methodNamed Bd.named Bd.method).1
  have X0 : Stand p l e ({ frames := 4, cells := 0, slots := 0, locals := 74 } : Room) s m #[(.ref b1)] below meth c s₁ [] 0 0 := Stand.of_body Bd
  have e0 : s₁.heap = h0 := by rw [← hh, Bd.state]; rfl
  have N0 := Fr.nil n0
  have K0 := Keep.refl h0 [a1]
  have E1 := S1.exa
  have lt1 := S1.lt
  show own_Fin p e below (s₁.setTop (entryFrame m #[(.ref b1)] 1)) _
  refine own_gs (castTop (ef_own_lhc_k1 m b1) (Steps.refl _)) ?_
  show own_Fin p e below (s₁.setTop (mkF m 0 #[vr b1] [])) _
  refine own_gs (cur' := s₁.setTop (mkF m 1 #[vr b1] [(.ref b1)])) ?_ ?_
  · refine XS.aloadN X0.here hx rfl (hb hby d20_0) rfl rfl ?_
    exact Steps.refl _
  obtain ⟨T11, X11, e11, st11⟩ := getF X0 hx hZ hown (host := "") (Or.inl (own_tw hw 91 rfl)) Via.refl e0 F1 (g := (mkF m 1 #[vr b1] [(.ref b1)])) rfl rfl (hb hby d20_1)
  refine own_go st11 ?_
  show own_Fin p e below (T11.setTop (mkF m 4 #[vr b1] [(.ref a1)])) _
  obtain ⟨cq12, kq12, q12a, q12b, q12c⟩ := isOf hZ e11 E1
  obtain ⟨_, _, ⟨T12, L12, k12, n12⟩, -, X12, ⟨Lc12, hQ12, l12, y12, z12⟩, st12⟩ := X11.virtualBack hx (y := own_n24) (z := own_n24) hown (mvT hZ (own_tw hw 152 rfl)) (mvT hZ (own_tw hw 153 rfl)) (notFace_of_selects (args := #[]) (mvT hZ (own_tw hw 155 rfl))) (mvT hZ (own_tw hw 155 rfl)) (mvT hZ (own_tw hw 154 rfl)) (by decide) (backOf (W := 0) (own_hc_k1 l Z a0 hW a1 t1 c0 h0 n0 (by omega) O0 S1 Fh1 Fz1 Eb1 g1 hc0) hZ (own_tw hw 156 rfl) (own_tw hw 5 rfl) (by decide) (by decide)) q12a q12c (g := (mkF m 4 #[vr b1] [(.ref a1)])) rfl (by rw [hml]; rfl) (Steps.refl _) (argsL := []) (rest := []) (lenOf pd_6 rfl) rfl (own_le rfl) (hb hby d20_4) (fun _ _ => ⟨rfl, e11, (by decide : 0 + 0 ≤ 0), (by decide : 0 + 0 ≤ 0)⟩)
  dsimp only [Pt.U, Pt.locs, Pt.cells, Pt.slots] at X12 l12 y12 z12 st12 hQ12
  subst l12 y12 z12
  obtain ⟨rfl, Nq12, Kq12⟩ := hQ12
  have N12 := Fr.app N0 Nq12
  have z13 := Kq12.1
  have K13 := K0.trans Kq12 (allS (Or.inl (List.mem_of_getElem? (i := 0) rfl)) all0)
  have O13 := O0.keep Kq12 (allS (by omega) all0)
  refine own_gs st12 ?_
  show own_Fin p e below (T12.setTop (mkF m 7 #[vr b1] [(.int (own_hash [c0]))])) _
  obtain ⟨fs, hr, hrun, hended, hW1, hsame⟩ := X12.leave (v := (some (.int (own_hash [c0])))) (fun h => by rw [Bd.returns] at h; cases h)
  refine ⟨_, _, retI X12 hx Bd.returns (hb hby d20_7) hr, hrun, hended, _, _, rfl, ?_, ⟨_, rfl⟩, hW1, hsame.mono (own_le rfl) (own_le rfl)⟩
  show own_lhc_k1_Q Z b1 a1 t1 c0 h0 n0 (some (.int (own_hash [c0]))) T12.heap _
  exact ⟨rfl, N12, K13⟩
def own_hc_k2_Q (Z : State) (x1 t1 : Nat) (c0 c1 : Int32) (h0 : Heap) (n0 : Nat) (v : Option Value) (h : Heap) (L : List Loc) : Prop := v = (some (.int (own_hash [c0, c1]))) ∧ Fr n0 L ∧ Keep h0 h [x1]
theorem ef_own_hc_k2 (m : MethodId) (x0 : Nat) : entryFrame m #[(.ref x0)] 2 = mkF m 0 #[vr x0, .unset] [] := by first | (simp [entryFrame, mkF, argsToLocals, Value.category]; done) | rfl
set_option maxRecDepth 65536 in
set_option maxHeartbeats 40000000 in
theorem own_hc_k2 (l : Launch) (Z : State) (a0 : Array Value) (hW : own_W Z a0) (x1 t1 : Nat) (c0 c1 : Int32) (h0 : Heap) (n0 : Nat) (Z0 : n0 ≤ h0.size) (O0 : Old Z n0 h0) (S1 : own_Str Z h0 x1 t1 [c0, c1]) (Fh1 : Fld Z h0 x1 "java/lang/String" "hash" "I" (.int (0 : Int32))) (Fz1 : Fld Z h0 x1 "java/lang/String" "hashIsZero" "Z" (.int (0 : Int32))) (Eb1 : Exa Z h0 t1 "[B") (g1 : n0 ≤ x1) (hc0 : own_ok c0) (hc1 : own_ok c1) :
    MetFree l own_n24 (head1 (Jvm.Cond.code own_n24 own_c19 2 (some .int) :: []) ({ frames := 3, cells := 0, slots := 0, locals := 60 } : Room)) (fun a U => a = #[(.ref x1)] ∧ Z.Warmed39 U.vm ∧ U.heap = h0) (fun _ _ _ _ _ => True) (fun _ U o U' => ∃ v L, o = .returned v ∧ own_hc_k2_Q Z x1 t1 c0 c1 h0 n0 v U'.heap L ∧ FrameEnd U o U' L ({ frames := 3, cells := 0, slots := 0, locals := 60 } : Room).cells ({ frames := 3, cells := 0, slots := 0, locals := 60 } : Room).slots) := by
  refine MetFree.of_bodySF (plainFor_of_name pn_java_lang_String) hisR ?_
  intro p e s m args below meth c s₁ Bd hml0 hP hK
  obtain ⟨rfl, hZ, hh⟩ := hP
  obtain ⟨hw, ⟨G1, O2, P5⟩, ⟨G3, O4, rG3⟩⟩ := id hW
  have hx := Bd.exec
  have hby := Bd.bytes
  have hml : c.maxLocals = 2 := hml0
  have hown : s.vm.findClass "java/lang/String" = some m.cls := findClass_of_methodNamed Bd.named
  have hnm := (name_of_methodNamed Bd.named Bd.method).1
  have X0 : Stand p l e ({ frames := 3, cells := 0, slots := 0, locals := 60 } : Room) s m #[(.ref x1)] below meth c s₁ [] 0 0 := Stand.of_body Bd
  have e0 : s₁.heap = h0 := by rw [← hh, Bd.state]; rfl
  have N0 := Fr.nil n0
  have K0 := Keep.refl h0 [x1]
  have hlat : ∀ c ∈ ([c0, c1] : List Int32), ¬ (255 : Int32) < c := by
    intro c hc
    simp only [List.mem_cons, List.not_mem_nil, or_false] at hc
    rcases hc with rfl | rfl
    · exact (own_ok_lat hc0).2
    · exact (own_ok_lat hc1).2
  obtain ⟨k1, cd1, N1, vs1, E1, Fv1, Fc1, Vq1, hcod, hb1, hl1⟩ := id S1
  obtain ⟨rfl, rfl, rfl⟩ : cd1 = 0 ∧ N1 = (2 : Int32) ∧ vs1 = [(.int (StrChars.lo8 c0)), (.int (StrChars.lo8 c1))] := by
    rcases hcod with ⟨q1, q2, q3, -⟩ | ⟨-, -, -, c, hc, q⟩
    · exact ⟨q1, q2, q3⟩
    · exact absurd q (hlat c hc)
  have lt1 := own_lt E1.lt
  have lt2 := own_lt Vq1.lt
  show own_Fin p e below (s₁.setTop (entryFrame m #[(.ref x1)] 2)) _
  refine own_gs (castTop (ef_own_hc_k2 m x1) (Steps.refl _)) ?_
  show own_Fin p e below (s₁.setTop (mkF m 0 #[vr x1, uu] [])) _
  refine own_gs (cur' := s₁.setTop (mkF m 1 #[vr x1, uu] [(.ref x1)])) ?_ ?_
  · refine XS.aloadN X0.here hx rfl (hb hby d19_0) rfl rfl ?_
    exact Steps.refl _
  obtain ⟨T11, X11, e11, st11⟩ := getF X0 hx hZ hown (host := "") (Or.inl (own_tw hw 157 rfl)) Via.refl e0 Fh1 (g := (mkF m 1 #[vr x1, uu] [(.ref x1)])) rfl rfl (hb hby d19_1)
  refine own_go st11 ?_
  show own_Fin p e below (T11.setTop (mkF m 4 #[vr x1, uu] [(.int (0 : Int32))])) _
  refine own_gs (cur' := T11.setTop (mkF m 10 #[vr x1, vi (0 : Int32)] [(.ref x1)])) ?_ ?_
  · refine XS.istoreN X11.here hx rfl (hb hby d19_4) rfl (l' := #[vr x1, vi (0 : Int32)]) rfl ?_
    refine XS.iloadN X11.here hx rfl (hb hby d19_5) rfl ?_
    refine XS.ifNo X11.here hx rfl (hb hby d19_6) rfl ((if0 _ _).trans (teq ((by decide) : (0 : Int32) = (0 : Int32))).2) ?_
    refine XS.aloadN X11.here hx rfl (hb hby d19_9) rfl rfl ?_
    exact Steps.refl _
  obtain ⟨T12, X12, e12, st12⟩ := getF X11 hx hZ hown (host := "") (Or.inl (own_tw hw 159 rfl)) Via.refl e11 Fz1 (g := (mkF m 10 #[vr x1, vi (0 : Int32)] [(.ref x1)])) rfl rfl (hb hby d19_10)
  refine own_go st12 ?_
  show own_Fin p e below (T12.setTop (mkF m 13 #[vr x1, vi (0 : Int32)] [(.int (0 : Int32))])) _
  refine own_gs (cur' := T12.setTop (mkF m 17 #[vr x1, vi (0 : Int32)] [(.ref x1)])) ?_ ?_
  · refine XS.ifNo X12.here hx rfl (hb hby d19_13) rfl ((if0 _ _).trans (teq ((by decide) : (0 : Int32) = (0 : Int32))).2) ?_
    refine XS.aloadN X12.here hx rfl (hb hby d19_16) rfl rfl ?_
    exact Steps.refl _
  obtain ⟨cq13, kq13, q13a, q13b, q13c⟩ := isOf hZ e12 E1
  obtain ⟨_, _, ⟨T13, L13, k13, n13⟩, -, X13, ⟨Lc13, hQ13, l13, y13, z13⟩, st13⟩ := X12.virtualBack hx (y := own_n6) (z := own_n6) hown (mvT hZ (own_tw hw 17 rfl)) (mvT hZ (own_tw hw 18 rfl)) (notFace_of_selects (args := #[]) (mvT hZ (own_tw hw 20 rfl))) (mvT hZ (own_tw hw 20 rfl)) (mvT hZ (own_tw hw 19 rfl)) (by decide) (backOf (W := 0) (own_isl l Z a0 hW x1 h0 n0 (by omega) O0 Fc1) hZ (own_tw hw 21 rfl) (own_tw hw 5 rfl) (by decide) (by decide)) q13a q13c (g := (mkF m 17 #[vr x1, vi (0 : Int32)] [(.ref x1)])) rfl (by rw [hml]; rfl) (Steps.refl _) (argsL := []) (rest := []) (lenOf pd_5 rfl) rfl (own_le rfl) (hb hby d19_17) (fun _ _ => ⟨rfl, e12, (by decide : 0 + 0 ≤ 0), (by decide : 0 + 0 ≤ 0)⟩)
  dsimp only [Pt.U, Pt.locs, Pt.cells, Pt.slots] at X13 l13 y13 z13 st13 hQ13
  subst l13 y13 z13
  obtain ⟨rfl, Nq13, eh13⟩ := hQ13
  have N13 := Fr.app N0 Nq13
  refine own_gs st13 ?_
  show own_Fin p e below (T13.setTop (mkF m 20 #[vr x1, vi (0 : Int32)] [(.int (1 : Int32))])) _
  refine own_gs (cur' := T13.setTop (mkF m 24 #[vr x1, vi (0 : Int32)] [(.ref x1)])) ?_ ?_
  · refine XS.ifNo X13.here hx rfl (hb hby d19_20) rfl ((if0 _ _).trans (feq ((by decide) : ¬ ((1 : Int32) = (0 : Int32)))).1) ?_
    refine XS.aloadN X13.here hx rfl (hb hby d19_23) rfl rfl ?_
    exact Steps.refl _
  obtain ⟨T14, X14, e14, st14⟩ := getF X13 hx hZ hown (host := "") (Or.inl (own_tw hw 24 rfl)) Via.refl eh13 Fv1 (g := (mkF m 24 #[vr x1, vi (0 : Int32)] [(.ref x1)])) rfl rfl (hb hby d19_24)
  refine own_go st14 ?_
  show own_Fin p e below (T14.setTop (mkF m 27 #[vr x1, vi (0 : Int32)] [(.ref t1)])) _
  obtain ⟨_, _, ⟨T15, L15, k15, n15⟩, -, X15, ⟨Lc15, hQ15, l15, y15, z15⟩, st15⟩ := Jvm.LawKit.callS X14 hx (y := own_n21) hown (mvT hZ (own_tw hw 161 rfl)) (mvT hZ (own_tw hw 162 rfl)) (mvT hZ (own_tw hw 27 rfl)) (mvT hZ (own_tw hw 163 rfl)) (by decide) (backOf (W := 0) (own_lhs_k2 l Z a0 hW t1 k1 c0 c1 h0 n0 (by omega) O0 Vq1 Eb1) hZ (own_tw hw 163 rfl) (own_tw hw 27 rfl) (by decide) (by decide)) (g := (mkF m 27 #[vr x1, vi (0 : Int32)] [(.ref t1)])) rfl (by rw [hml]; rfl) (argsL := [(.ref t1)]) (rest := []) (lenOf pd_13 rfl) rfl (own_le rfl) (hb hby d19_27) (fun _ _ => ⟨rfl, e14, (by decide : 0 + 0 ≤ 0), (by decide : 0 + 0 ≤ 0)⟩)
  dsimp only [Pt.U, Pt.locs, Pt.cells, Pt.slots] at X15 l15 y15 z15 st15 hQ15
  subst l15 y15 z15
  obtain ⟨rfl, Nq15, eh15⟩ := hQ15
  have N15 := Fr.app N13 Nq15
  refine own_go st15 ?_
  show own_Fin p e below (T15.setTop (mkF m 30 #[vr x1, vi (0 : Int32)] [(.int (own_hash [c0, c1]))])) _
  refine own_gs (cur' := T15.setTop (mkF m 42 #[vr x1, vi (own_hash [c0, c1])] [(.int (own_hash [c0, c1]))])) ?_ ?_
  · refine XS.goto X15.here hx rfl (pc0 := 30) (pc' := 40) rfl (hb hby d19_30) (by decide) (by decide) ?_
    refine XS.istoreN X15.here hx rfl (hb hby d19_40) rfl (l' := #[vr x1, vi (own_hash [c0, c1])]) rfl ?_
    refine XS.iloadN X15.here hx rfl (hb hby d19_41) rfl ?_
    exact Steps.refl _
  by_cases hc42_16 : (own_hash [c0, c1]) = (0 : Int32)
  · refine own_gs (cur' := T15.setTop (mkF m 47 #[vr x1, vi (own_hash [c0, c1])] [(.int (1 : Int32)), (.ref x1)])) ?_ ?_
    · refine XS.ifNo X15.here hx rfl (hb hby d19_42) rfl ((if0 _ _).trans (teq (hc42_16 : (own_hash [c0, c1]) = (0 : Int32))).2) ?_
      refine XS.aloadN X15.here hx rfl (hb hby d19_45) rfl rfl ?_
      refine XS.iconst X15.here hx rfl (hb hby d19_46) ?_
      exact Steps.refl _
    obtain ⟨T17, h17, X17, e17, W17, st17⟩ := putF X15 hx hZ hown (host := "") (Or.inl (own_tw hw 159 rfl)) Via.refl eh15 Fz1 E1 (Or.inl (own_tw hw 160 rfl)) (own_tw hw 6 rfl) (ty := .boolean) (by decide) rfl rfl (g := (mkF m 47 #[vr x1, vi (own_hash [c0, c1])] [(.int (1 : Int32)), (.ref x1)])) rfl rfl (hb hby d19_47)
    have F17 := Fz1.same W17
    refine own_go st17 ?_
    show own_Fin p e below (T17.setTop (mkF m 50 #[vr x1, vi (own_hash [c0, c1])] [])) _
    have z18 := W17.size
    have K18 := K0.wr W17 (Or.inl (List.mem_of_getElem? (i := 0) rfl))
    have O18 := O0.wr W17 (by omega)
    have N18 := Fr.snoc X17 N15 (by omega)
    refine own_gs (cur' := T17.setTop (mkF m 59 #[vr x1, vi (own_hash [c0, c1])] [(.int (own_hash [c0, c1]))])) ?_ ?_
    · refine XS.goto X17.here hx rfl (pc0 := 50) (pc' := 58) rfl (hb hby d19_50) (by decide) (by decide) ?_
      refine XS.iloadN X17.here hx rfl (hb hby d19_58) rfl ?_
      exact Steps.refl _
    obtain ⟨fs, hr, hrun, hended, hW1, hsame⟩ := X17.leave (v := (some (.int (own_hash [c0, c1])))) (fun h => by rw [Bd.returns] at h; cases h)
    refine ⟨_, _, retI X17 hx Bd.returns (hb hby d19_59) hr, hrun, hended, _, _, rfl, ?_, ⟨_, rfl⟩, hW1, hsame.mono (own_le rfl) (own_le rfl)⟩
    show own_hc_k2_Q Z x1 t1 c0 c1 h0 n0 (some (.int (own_hash [c0, c1]))) T17.heap _
    rw [e17]
    exact ⟨rfl, N18, K18⟩
  · refine own_gs (cur' := T15.setTop (mkF m 55 #[vr x1, vi (own_hash [c0, c1])] [(.int (own_hash [c0, c1])), (.ref x1)])) ?_ ?_
    · refine XS.ifYes X15.here hx rfl (pc0 := 42) (pc' := 53) rfl (hb hby d19_42) rfl ((if0 _ _).trans (feq (hc42_16 : ¬ ((own_hash [c0, c1]) = (0 : Int32)))).2) (by decide) (by decide) ?_
      refine XS.aloadN X15.here hx rfl (hb hby d19_53) rfl rfl ?_
      refine XS.iloadN X15.here hx rfl (hb hby d19_54) rfl ?_
      exact Steps.refl _
    obtain ⟨T19, h19, X19, e19, W19, st19⟩ := putF X15 hx hZ hown (host := "") (Or.inl (own_tw hw 157 rfl)) Via.refl eh15 Fh1 E1 (Or.inl (own_tw hw 158 rfl)) (own_tw hw 6 rfl) (ty := .int) (by decide) rfl rfl (g := (mkF m 55 #[vr x1, vi (own_hash [c0, c1])] [(.int (own_hash [c0, c1])), (.ref x1)])) rfl rfl (hb hby d19_55)
    have F19 := Fh1.same W19
    refine own_go st19 ?_
    show own_Fin p e below (T19.setTop (mkF m 58 #[vr x1, vi (own_hash [c0, c1])] [])) _
    have z20 := W19.size
    have K20 := K0.wr W19 (Or.inl (List.mem_of_getElem? (i := 0) rfl))
    have O20 := O0.wr W19 (by omega)
    have N20 := Fr.snoc X19 N15 (by omega)
    refine own_gs (cur' := T19.setTop (mkF m 59 #[vr x1, vi (own_hash [c0, c1])] [(.int (own_hash [c0, c1]))])) ?_ ?_
    · refine XS.iloadN X19.here hx rfl (hb hby d19_58) rfl ?_
      exact Steps.refl _
    obtain ⟨fs, hr, hrun, hended, hW1, hsame⟩ := X19.leave (v := (some (.int (own_hash [c0, c1])))) (fun h => by rw [Bd.returns] at h; cases h)
    refine ⟨_, _, retI X19 hx Bd.returns (hb hby d19_59) hr, hrun, hended, _, _, rfl, ?_, ⟨_, rfl⟩, hW1, hsame.mono (own_le rfl) (own_le rfl)⟩
    show own_hc_k2_Q Z x1 t1 c0 c1 h0 n0 (some (.int (own_hash [c0, c1]))) T19.heap _
    rw [e19]
    exact ⟨rfl, N20, K20⟩
def own_lhc_k2_Q (Z : State) (b1 a1 t1 : Nat) (c0 c1 : Int32) (h0 : Heap) (n0 : Nat) (v : Option Value) (h : Heap) (L : List Loc) : Prop := v = (some (.int (own_hash [c0, c1]))) ∧ Fr n0 L ∧ Keep h0 h [a1]
theorem ef_own_lhc_k2 (m : MethodId) (x0 : Nat) : entryFrame m #[(.ref x0)] 1 = mkF m 0 #[vr x0] [] := by first | (simp [entryFrame, mkF, argsToLocals, Value.category]; done) | rfl
set_option maxRecDepth 65536 in
set_option maxHeartbeats 40000000 in
theorem own_lhc_k2 (l : Launch) (Z : State) (a0 : Array Value) (hW : own_W Z a0) (b1 a1 t1 : Nat) (c0 c1 : Int32) (h0 : Heap) (n0 : Nat) (Z0 : n0 ≤ h0.size) (O0 : Old Z n0 h0) (F1 : Fld Z h0 b1 "com/example/lease_lock/leaselock/LockName" "value" "Ljava/lang/String;" (.ref a1)) (S1 : own_Str Z h0 a1 t1 [c0, c1]) (Fh1 : Fld Z h0 a1 "java/lang/String" "hash" "I" (.int (0 : Int32))) (Fz1 : Fld Z h0 a1 "java/lang/String" "hashIsZero" "Z" (.int (0 : Int32))) (Eb1 : Exa Z h0 t1 "[B") (g1 : n0 ≤ a1) (hc0 : own_ok c0) (hc1 : own_ok c1) :
    MetFree l own_n25 (head1 (Jvm.Cond.code own_n25 own_c20 1 (some .int) :: []) ({ frames := 4, cells := 0, slots := 0, locals := 74 } : Room)) (fun a U => a = #[(.ref b1)] ∧ Z.Warmed39 U.vm ∧ U.heap = h0) (fun _ _ _ _ _ => True) (fun _ U o U' => ∃ v L, o = .returned v ∧ own_lhc_k2_Q Z b1 a1 t1 c0 c1 h0 n0 v U'.heap L ∧ FrameEnd U o U' L ({ frames := 4, cells := 0, slots := 0, locals := 74 } : Room).cells ({ frames := 4, cells := 0, slots := 0, locals := 74 } : Room).slots) := by
  refine MetFree.of_bodySF (plainFor_of_name pn_com_example_lease_lock_leaselock_LockName) hisR ?_
  intro p e s m args below meth c s₁ Bd hml0 hP hK
  obtain ⟨rfl, hZ, hh⟩ := hP
  obtain ⟨hw, ⟨G1, O2, P5⟩, ⟨G3, O4, rG3⟩⟩ := id hW
  have hx := Bd.exec
  have hby := Bd.bytes
  have hml : c.maxLocals = 1 := hml0
  have hown : s.vm.findClass "com/example/lease_lock/leaselock/LockName" = some m.cls := findClass_of_methodNamed Bd.named
  have hnm := (name_of_methodNamed Bd.named Bd.method).1
  have X0 : Stand p l e ({ frames := 4, cells := 0, slots := 0, locals := 74 } : Room) s m #[(.ref b1)] below meth c s₁ [] 0 0 := Stand.of_body Bd
  have e0 : s₁.heap = h0 := by rw [← hh, Bd.state]; rfl
  have N0 := Fr.nil n0
  have K0 := Keep.refl h0 [a1]
  have E1 := S1.exa
  have lt1 := S1.lt
  show own_Fin p e below (s₁.setTop (entryFrame m #[(.ref b1)] 1)) _
  refine own_gs (castTop (ef_own_lhc_k2 m b1) (Steps.refl _)) ?_
  show own_Fin p e below (s₁.setTop (mkF m 0 #[vr b1] [])) _
  refine own_gs (cur' := s₁.setTop (mkF m 1 #[vr b1] [(.ref b1)])) ?_ ?_
  · refine XS.aloadN X0.here hx rfl (hb hby d20_0) rfl rfl ?_
    exact Steps.refl _
  obtain ⟨T11, X11, e11, st11⟩ := getF X0 hx hZ hown (host := "") (Or.inl (own_tw hw 91 rfl)) Via.refl e0 F1 (g := (mkF m 1 #[vr b1] [(.ref b1)])) rfl rfl (hb hby d20_1)
  refine own_go st11 ?_
  show own_Fin p e below (T11.setTop (mkF m 4 #[vr b1] [(.ref a1)])) _
  obtain ⟨cq12, kq12, q12a, q12b, q12c⟩ := isOf hZ e11 E1
  obtain ⟨_, _, ⟨T12, L12, k12, n12⟩, -, X12, ⟨Lc12, hQ12, l12, y12, z12⟩, st12⟩ := X11.virtualBack hx (y := own_n24) (z := own_n24) hown (mvT hZ (own_tw hw 152 rfl)) (mvT hZ (own_tw hw 153 rfl)) (notFace_of_selects (args := #[]) (mvT hZ (own_tw hw 155 rfl))) (mvT hZ (own_tw hw 155 rfl)) (mvT hZ (own_tw hw 154 rfl)) (by decide) (backOf (W := 0) (own_hc_k2 l Z a0 hW a1 t1 c0 c1 h0 n0 (by omega) O0 S1 Fh1 Fz1 Eb1 g1 hc0 hc1) hZ (own_tw hw 156 rfl) (own_tw hw 5 rfl) (by decide) (by decide)) q12a q12c (g := (mkF m 4 #[vr b1] [(.ref a1)])) rfl (by rw [hml]; rfl) (Steps.refl _) (argsL := []) (rest := []) (lenOf pd_6 rfl) rfl (own_le rfl) (hb hby d20_4) (fun _ _ => ⟨rfl, e11, (by decide : 0 + 0 ≤ 0), (by decide : 0 + 0 ≤ 0)⟩)
  dsimp only [Pt.U, Pt.locs, Pt.cells, Pt.slots] at X12 l12 y12 z12 st12 hQ12
  subst l12 y12 z12
  obtain ⟨rfl, Nq12, Kq12⟩ := hQ12
  have N12 := Fr.app N0 Nq12
  have z13 := Kq12.1
  have K13 := K0.trans Kq12 (allS (Or.inl (List.mem_of_getElem? (i := 0) rfl)) all0)
  have O13 := O0.keep Kq12 (allS (by omega) all0)
  refine own_gs st12 ?_
  show own_Fin p e below (T12.setTop (mkF m 7 #[vr b1] [(.int (own_hash [c0, c1]))])) _
  obtain ⟨fs, hr, hrun, hended, hW1, hsame⟩ := X12.leave (v := (some (.int (own_hash [c0, c1])))) (fun h => by rw [Bd.returns] at h; cases h)
  refine ⟨_, _, retI X12 hx Bd.returns (hb hby d20_7) hr, hrun, hended, _, _, rfl, ?_, ⟨_, rfl⟩, hW1, hsame.mono (own_le rfl) (own_le rfl)⟩
  show own_lhc_k2_Q Z b1 a1 t1 c0 c1 h0 n0 (some (.int (own_hash [c0, c1]))) T12.heap _
  exact ⟨rfl, N12, K13⟩
def own_hc_k3_Q (Z : State) (x1 t1 : Nat) (c0 c1 c2 : Int32) (h0 : Heap) (n0 : Nat) (v : Option Value) (h : Heap) (L : List Loc) : Prop := v = (some (.int (own_hash [c0, c1, c2]))) ∧ Fr n0 L ∧ Keep h0 h [x1]
theorem ef_own_hc_k3 (m : MethodId) (x0 : Nat) : entryFrame m #[(.ref x0)] 2 = mkF m 0 #[vr x0, .unset] [] := by first | (simp [entryFrame, mkF, argsToLocals, Value.category]; done) | rfl
set_option maxRecDepth 65536 in
set_option maxHeartbeats 40000000 in
theorem own_hc_k3 (l : Launch) (Z : State) (a0 : Array Value) (hW : own_W Z a0) (x1 t1 : Nat) (c0 c1 c2 : Int32) (h0 : Heap) (n0 : Nat) (Z0 : n0 ≤ h0.size) (O0 : Old Z n0 h0) (S1 : own_Str Z h0 x1 t1 [c0, c1, c2]) (Fh1 : Fld Z h0 x1 "java/lang/String" "hash" "I" (.int (0 : Int32))) (Fz1 : Fld Z h0 x1 "java/lang/String" "hashIsZero" "Z" (.int (0 : Int32))) (Eb1 : Exa Z h0 t1 "[B") (g1 : n0 ≤ x1) (hc0 : own_ok c0) (hc1 : own_ok c1) (hc2 : own_ok c2) :
    MetFree l own_n24 (head1 (Jvm.Cond.code own_n24 own_c19 2 (some .int) :: []) ({ frames := 3, cells := 0, slots := 0, locals := 60 } : Room)) (fun a U => a = #[(.ref x1)] ∧ Z.Warmed39 U.vm ∧ U.heap = h0) (fun _ _ _ _ _ => True) (fun _ U o U' => ∃ v L, o = .returned v ∧ own_hc_k3_Q Z x1 t1 c0 c1 c2 h0 n0 v U'.heap L ∧ FrameEnd U o U' L ({ frames := 3, cells := 0, slots := 0, locals := 60 } : Room).cells ({ frames := 3, cells := 0, slots := 0, locals := 60 } : Room).slots) := by
  refine MetFree.of_bodySF (plainFor_of_name pn_java_lang_String) hisR ?_
  intro p e s m args below meth c s₁ Bd hml0 hP hK
  obtain ⟨rfl, hZ, hh⟩ := hP
  obtain ⟨hw, ⟨G1, O2, P5⟩, ⟨G3, O4, rG3⟩⟩ := id hW
  have hx := Bd.exec
  have hby := Bd.bytes
  have hml : c.maxLocals = 2 := hml0
  have hown : s.vm.findClass "java/lang/String" = some m.cls := findClass_of_methodNamed Bd.named
  have hnm := (name_of_methodNamed Bd.named Bd.method).1
  have X0 : Stand p l e ({ frames := 3, cells := 0, slots := 0, locals := 60 } : Room) s m #[(.ref x1)] below meth c s₁ [] 0 0 := Stand.of_body Bd
  have e0 : s₁.heap = h0 := by rw [← hh, Bd.state]; rfl
  have N0 := Fr.nil n0
  have K0 := Keep.refl h0 [x1]
  have hlat : ∀ c ∈ ([c0, c1, c2] : List Int32), ¬ (255 : Int32) < c := by
    intro c hc
    simp only [List.mem_cons, List.not_mem_nil, or_false] at hc
    rcases hc with rfl | rfl | rfl
    · exact (own_ok_lat hc0).2
    · exact (own_ok_lat hc1).2
    · exact (own_ok_lat hc2).2
  obtain ⟨k1, cd1, N1, vs1, E1, Fv1, Fc1, Vq1, hcod, hb1, hl1⟩ := id S1
  obtain ⟨rfl, rfl, rfl⟩ : cd1 = 0 ∧ N1 = (3 : Int32) ∧ vs1 = [(.int (StrChars.lo8 c0)), (.int (StrChars.lo8 c1)), (.int (StrChars.lo8 c2))] := by
    rcases hcod with ⟨q1, q2, q3, -⟩ | ⟨-, -, -, c, hc, q⟩
    · exact ⟨q1, q2, q3⟩
    · exact absurd q (hlat c hc)
  have lt1 := own_lt E1.lt
  have lt2 := own_lt Vq1.lt
  show own_Fin p e below (s₁.setTop (entryFrame m #[(.ref x1)] 2)) _
  refine own_gs (castTop (ef_own_hc_k3 m x1) (Steps.refl _)) ?_
  show own_Fin p e below (s₁.setTop (mkF m 0 #[vr x1, uu] [])) _
  refine own_gs (cur' := s₁.setTop (mkF m 1 #[vr x1, uu] [(.ref x1)])) ?_ ?_
  · refine XS.aloadN X0.here hx rfl (hb hby d19_0) rfl rfl ?_
    exact Steps.refl _
  obtain ⟨T11, X11, e11, st11⟩ := getF X0 hx hZ hown (host := "") (Or.inl (own_tw hw 157 rfl)) Via.refl e0 Fh1 (g := (mkF m 1 #[vr x1, uu] [(.ref x1)])) rfl rfl (hb hby d19_1)
  refine own_go st11 ?_
  show own_Fin p e below (T11.setTop (mkF m 4 #[vr x1, uu] [(.int (0 : Int32))])) _
  refine own_gs (cur' := T11.setTop (mkF m 10 #[vr x1, vi (0 : Int32)] [(.ref x1)])) ?_ ?_
  · refine XS.istoreN X11.here hx rfl (hb hby d19_4) rfl (l' := #[vr x1, vi (0 : Int32)]) rfl ?_
    refine XS.iloadN X11.here hx rfl (hb hby d19_5) rfl ?_
    refine XS.ifNo X11.here hx rfl (hb hby d19_6) rfl ((if0 _ _).trans (teq ((by decide) : (0 : Int32) = (0 : Int32))).2) ?_
    refine XS.aloadN X11.here hx rfl (hb hby d19_9) rfl rfl ?_
    exact Steps.refl _
  obtain ⟨T12, X12, e12, st12⟩ := getF X11 hx hZ hown (host := "") (Or.inl (own_tw hw 159 rfl)) Via.refl e11 Fz1 (g := (mkF m 10 #[vr x1, vi (0 : Int32)] [(.ref x1)])) rfl rfl (hb hby d19_10)
  refine own_go st12 ?_
  show own_Fin p e below (T12.setTop (mkF m 13 #[vr x1, vi (0 : Int32)] [(.int (0 : Int32))])) _
  refine own_gs (cur' := T12.setTop (mkF m 17 #[vr x1, vi (0 : Int32)] [(.ref x1)])) ?_ ?_
  · refine XS.ifNo X12.here hx rfl (hb hby d19_13) rfl ((if0 _ _).trans (teq ((by decide) : (0 : Int32) = (0 : Int32))).2) ?_
    refine XS.aloadN X12.here hx rfl (hb hby d19_16) rfl rfl ?_
    exact Steps.refl _
  obtain ⟨cq13, kq13, q13a, q13b, q13c⟩ := isOf hZ e12 E1
  obtain ⟨_, _, ⟨T13, L13, k13, n13⟩, -, X13, ⟨Lc13, hQ13, l13, y13, z13⟩, st13⟩ := X12.virtualBack hx (y := own_n6) (z := own_n6) hown (mvT hZ (own_tw hw 17 rfl)) (mvT hZ (own_tw hw 18 rfl)) (notFace_of_selects (args := #[]) (mvT hZ (own_tw hw 20 rfl))) (mvT hZ (own_tw hw 20 rfl)) (mvT hZ (own_tw hw 19 rfl)) (by decide) (backOf (W := 0) (own_isl l Z a0 hW x1 h0 n0 (by omega) O0 Fc1) hZ (own_tw hw 21 rfl) (own_tw hw 5 rfl) (by decide) (by decide)) q13a q13c (g := (mkF m 17 #[vr x1, vi (0 : Int32)] [(.ref x1)])) rfl (by rw [hml]; rfl) (Steps.refl _) (argsL := []) (rest := []) (lenOf pd_5 rfl) rfl (own_le rfl) (hb hby d19_17) (fun _ _ => ⟨rfl, e12, (by decide : 0 + 0 ≤ 0), (by decide : 0 + 0 ≤ 0)⟩)
  dsimp only [Pt.U, Pt.locs, Pt.cells, Pt.slots] at X13 l13 y13 z13 st13 hQ13
  subst l13 y13 z13
  obtain ⟨rfl, Nq13, eh13⟩ := hQ13
  have N13 := Fr.app N0 Nq13
  refine own_gs st13 ?_
  show own_Fin p e below (T13.setTop (mkF m 20 #[vr x1, vi (0 : Int32)] [(.int (1 : Int32))])) _
  refine own_gs (cur' := T13.setTop (mkF m 24 #[vr x1, vi (0 : Int32)] [(.ref x1)])) ?_ ?_
  · refine XS.ifNo X13.here hx rfl (hb hby d19_20) rfl ((if0 _ _).trans (feq ((by decide) : ¬ ((1 : Int32) = (0 : Int32)))).1) ?_
    refine XS.aloadN X13.here hx rfl (hb hby d19_23) rfl rfl ?_
    exact Steps.refl _
  obtain ⟨T14, X14, e14, st14⟩ := getF X13 hx hZ hown (host := "") (Or.inl (own_tw hw 24 rfl)) Via.refl eh13 Fv1 (g := (mkF m 24 #[vr x1, vi (0 : Int32)] [(.ref x1)])) rfl rfl (hb hby d19_24)
  refine own_go st14 ?_
  show own_Fin p e below (T14.setTop (mkF m 27 #[vr x1, vi (0 : Int32)] [(.ref t1)])) _
  obtain ⟨_, _, ⟨T15, L15, k15, n15⟩, -, X15, ⟨Lc15, hQ15, l15, y15, z15⟩, st15⟩ := Jvm.LawKit.callS X14 hx (y := own_n21) hown (mvT hZ (own_tw hw 161 rfl)) (mvT hZ (own_tw hw 162 rfl)) (mvT hZ (own_tw hw 27 rfl)) (mvT hZ (own_tw hw 163 rfl)) (by decide) (backOf (W := 0) (own_lhs_k3 l Z a0 hW t1 k1 c0 c1 c2 h0 n0 (by omega) O0 Vq1 Eb1) hZ (own_tw hw 163 rfl) (own_tw hw 27 rfl) (by decide) (by decide)) (g := (mkF m 27 #[vr x1, vi (0 : Int32)] [(.ref t1)])) rfl (by rw [hml]; rfl) (argsL := [(.ref t1)]) (rest := []) (lenOf pd_13 rfl) rfl (own_le rfl) (hb hby d19_27) (fun _ _ => ⟨rfl, e14, (by decide : 0 + 0 ≤ 0), (by decide : 0 + 0 ≤ 0)⟩)
  dsimp only [Pt.U, Pt.locs, Pt.cells, Pt.slots] at X15 l15 y15 z15 st15 hQ15
  subst l15 y15 z15
  obtain ⟨rfl, Nq15, eh15⟩ := hQ15
  have N15 := Fr.app N13 Nq15
  refine own_go st15 ?_
  show own_Fin p e below (T15.setTop (mkF m 30 #[vr x1, vi (0 : Int32)] [(.int (own_hash [c0, c1, c2]))])) _
  refine own_gs (cur' := T15.setTop (mkF m 42 #[vr x1, vi (own_hash [c0, c1, c2])] [(.int (own_hash [c0, c1, c2]))])) ?_ ?_
  · refine XS.goto X15.here hx rfl (pc0 := 30) (pc' := 40) rfl (hb hby d19_30) (by decide) (by decide) ?_
    refine XS.istoreN X15.here hx rfl (hb hby d19_40) rfl (l' := #[vr x1, vi (own_hash [c0, c1, c2])]) rfl ?_
    refine XS.iloadN X15.here hx rfl (hb hby d19_41) rfl ?_
    exact Steps.refl _
  by_cases hc42_16 : (own_hash [c0, c1, c2]) = (0 : Int32)
  · refine own_gs (cur' := T15.setTop (mkF m 47 #[vr x1, vi (own_hash [c0, c1, c2])] [(.int (1 : Int32)), (.ref x1)])) ?_ ?_
    · refine XS.ifNo X15.here hx rfl (hb hby d19_42) rfl ((if0 _ _).trans (teq (hc42_16 : (own_hash [c0, c1, c2]) = (0 : Int32))).2) ?_
      refine XS.aloadN X15.here hx rfl (hb hby d19_45) rfl rfl ?_
      refine XS.iconst X15.here hx rfl (hb hby d19_46) ?_
      exact Steps.refl _
    obtain ⟨T17, h17, X17, e17, W17, st17⟩ := putF X15 hx hZ hown (host := "") (Or.inl (own_tw hw 159 rfl)) Via.refl eh15 Fz1 E1 (Or.inl (own_tw hw 160 rfl)) (own_tw hw 6 rfl) (ty := .boolean) (by decide) rfl rfl (g := (mkF m 47 #[vr x1, vi (own_hash [c0, c1, c2])] [(.int (1 : Int32)), (.ref x1)])) rfl rfl (hb hby d19_47)
    have F17 := Fz1.same W17
    refine own_go st17 ?_
    show own_Fin p e below (T17.setTop (mkF m 50 #[vr x1, vi (own_hash [c0, c1, c2])] [])) _
    have z18 := W17.size
    have K18 := K0.wr W17 (Or.inl (List.mem_of_getElem? (i := 0) rfl))
    have O18 := O0.wr W17 (by omega)
    have N18 := Fr.snoc X17 N15 (by omega)
    refine own_gs (cur' := T17.setTop (mkF m 59 #[vr x1, vi (own_hash [c0, c1, c2])] [(.int (own_hash [c0, c1, c2]))])) ?_ ?_
    · refine XS.goto X17.here hx rfl (pc0 := 50) (pc' := 58) rfl (hb hby d19_50) (by decide) (by decide) ?_
      refine XS.iloadN X17.here hx rfl (hb hby d19_58) rfl ?_
      exact Steps.refl _
    obtain ⟨fs, hr, hrun, hended, hW1, hsame⟩ := X17.leave (v := (some (.int (own_hash [c0, c1, c2])))) (fun h => by rw [Bd.returns] at h; cases h)
    refine ⟨_, _, retI X17 hx Bd.returns (hb hby d19_59) hr, hrun, hended, _, _, rfl, ?_, ⟨_, rfl⟩, hW1, hsame.mono (own_le rfl) (own_le rfl)⟩
    show own_hc_k3_Q Z x1 t1 c0 c1 c2 h0 n0 (some (.int (own_hash [c0, c1, c2]))) T17.heap _
    rw [e17]
    exact ⟨rfl, N18, K18⟩
  · refine own_gs (cur' := T15.setTop (mkF m 55 #[vr x1, vi (own_hash [c0, c1, c2])] [(.int (own_hash [c0, c1, c2])), (.ref x1)])) ?_ ?_
    · refine XS.ifYes X15.here hx rfl (pc0 := 42) (pc' := 53) rfl (hb hby d19_42) rfl ((if0 _ _).trans (feq (hc42_16 : ¬ ((own_hash [c0, c1, c2]) = (0 : Int32)))).2) (by decide) (by decide) ?_
      refine XS.aloadN X15.here hx rfl (hb hby d19_53) rfl rfl ?_
      refine XS.iloadN X15.here hx rfl (hb hby d19_54) rfl ?_
      exact Steps.refl _
    obtain ⟨T19, h19, X19, e19, W19, st19⟩ := putF X15 hx hZ hown (host := "") (Or.inl (own_tw hw 157 rfl)) Via.refl eh15 Fh1 E1 (Or.inl (own_tw hw 158 rfl)) (own_tw hw 6 rfl) (ty := .int) (by decide) rfl rfl (g := (mkF m 55 #[vr x1, vi (own_hash [c0, c1, c2])] [(.int (own_hash [c0, c1, c2])), (.ref x1)])) rfl rfl (hb hby d19_55)
    have F19 := Fh1.same W19
    refine own_go st19 ?_
    show own_Fin p e below (T19.setTop (mkF m 58 #[vr x1, vi (own_hash [c0, c1, c2])] [])) _
    have z20 := W19.size
    have K20 := K0.wr W19 (Or.inl (List.mem_of_getElem? (i := 0) rfl))
    have O20 := O0.wr W19 (by omega)
    have N20 := Fr.snoc X19 N15 (by omega)
    refine own_gs (cur' := T19.setTop (mkF m 59 #[vr x1, vi (own_hash [c0, c1, c2])] [(.int (own_hash [c0, c1, c2]))])) ?_ ?_
    · refine XS.iloadN X19.here hx rfl (hb hby d19_58) rfl ?_
      exact Steps.refl _
    obtain ⟨fs, hr, hrun, hended, hW1, hsame⟩ := X19.leave (v := (some (.int (own_hash [c0, c1, c2])))) (fun h => by rw [Bd.returns] at h; cases h)
    refine ⟨_, _, retI X19 hx Bd.returns (hb hby d19_59) hr, hrun, hended, _, _, rfl, ?_, ⟨_, rfl⟩, hW1, hsame.mono (own_le rfl) (own_le rfl)⟩
    show own_hc_k3_Q Z x1 t1 c0 c1 c2 h0 n0 (some (.int (own_hash [c0, c1, c2]))) T19.heap _
    rw [e19]
    exact ⟨rfl, N20, K20⟩
def own_lhc_k3_Q (Z : State) (b1 a1 t1 : Nat) (c0 c1 c2 : Int32) (h0 : Heap) (n0 : Nat) (v : Option Value) (h : Heap) (L : List Loc) : Prop := v = (some (.int (own_hash [c0, c1, c2]))) ∧ Fr n0 L ∧ Keep h0 h [a1]
theorem ef_own_lhc_k3 (m : MethodId) (x0 : Nat) : entryFrame m #[(.ref x0)] 1 = mkF m 0 #[vr x0] [] := by first | (simp [entryFrame, mkF, argsToLocals, Value.category]; done) | rfl
set_option maxRecDepth 65536 in
set_option maxHeartbeats 40000000 in
theorem own_lhc_k3 (l : Launch) (Z : State) (a0 : Array Value) (hW : own_W Z a0) (b1 a1 t1 : Nat) (c0 c1 c2 : Int32) (h0 : Heap) (n0 : Nat) (Z0 : n0 ≤ h0.size) (O0 : Old Z n0 h0) (F1 : Fld Z h0 b1 "com/example/lease_lock/leaselock/LockName" "value" "Ljava/lang/String;" (.ref a1)) (S1 : own_Str Z h0 a1 t1 [c0, c1, c2]) (Fh1 : Fld Z h0 a1 "java/lang/String" "hash" "I" (.int (0 : Int32))) (Fz1 : Fld Z h0 a1 "java/lang/String" "hashIsZero" "Z" (.int (0 : Int32))) (Eb1 : Exa Z h0 t1 "[B") (g1 : n0 ≤ a1) (hc0 : own_ok c0) (hc1 : own_ok c1) (hc2 : own_ok c2) :
    MetFree l own_n25 (head1 (Jvm.Cond.code own_n25 own_c20 1 (some .int) :: []) ({ frames := 4, cells := 0, slots := 0, locals := 74 } : Room)) (fun a U => a = #[(.ref b1)] ∧ Z.Warmed39 U.vm ∧ U.heap = h0) (fun _ _ _ _ _ => True) (fun _ U o U' => ∃ v L, o = .returned v ∧ own_lhc_k3_Q Z b1 a1 t1 c0 c1 c2 h0 n0 v U'.heap L ∧ FrameEnd U o U' L ({ frames := 4, cells := 0, slots := 0, locals := 74 } : Room).cells ({ frames := 4, cells := 0, slots := 0, locals := 74 } : Room).slots) := by
  refine MetFree.of_bodySF (plainFor_of_name pn_com_example_lease_lock_leaselock_LockName) hisR ?_
  intro p e s m args below meth c s₁ Bd hml0 hP hK
  obtain ⟨rfl, hZ, hh⟩ := hP
  obtain ⟨hw, ⟨G1, O2, P5⟩, ⟨G3, O4, rG3⟩⟩ := id hW
  have hx := Bd.exec
  have hby := Bd.bytes
  have hml : c.maxLocals = 1 := hml0
  have hown : s.vm.findClass "com/example/lease_lock/leaselock/LockName" = some m.cls := findClass_of_methodNamed Bd.named
  have hnm := (name_of_methodNamed Bd.named Bd.method).1
  have X0 : Stand p l e ({ frames := 4, cells := 0, slots := 0, locals := 74 } : Room) s m #[(.ref b1)] below meth c s₁ [] 0 0 := Stand.of_body Bd
  have e0 : s₁.heap = h0 := by rw [← hh, Bd.state]; rfl
  have N0 := Fr.nil n0
  have K0 := Keep.refl h0 [a1]
  have E1 := S1.exa
  have lt1 := S1.lt
  show own_Fin p e below (s₁.setTop (entryFrame m #[(.ref b1)] 1)) _
  refine own_gs (castTop (ef_own_lhc_k3 m b1) (Steps.refl _)) ?_
  show own_Fin p e below (s₁.setTop (mkF m 0 #[vr b1] [])) _
  refine own_gs (cur' := s₁.setTop (mkF m 1 #[vr b1] [(.ref b1)])) ?_ ?_
  · refine XS.aloadN X0.here hx rfl (hb hby d20_0) rfl rfl ?_
    exact Steps.refl _
  obtain ⟨T11, X11, e11, st11⟩ := getF X0 hx hZ hown (host := "") (Or.inl (own_tw hw 91 rfl)) Via.refl e0 F1 (g := (mkF m 1 #[vr b1] [(.ref b1)])) rfl rfl (hb hby d20_1)
  refine own_go st11 ?_
  show own_Fin p e below (T11.setTop (mkF m 4 #[vr b1] [(.ref a1)])) _
  obtain ⟨cq12, kq12, q12a, q12b, q12c⟩ := isOf hZ e11 E1
  obtain ⟨_, _, ⟨T12, L12, k12, n12⟩, -, X12, ⟨Lc12, hQ12, l12, y12, z12⟩, st12⟩ := X11.virtualBack hx (y := own_n24) (z := own_n24) hown (mvT hZ (own_tw hw 152 rfl)) (mvT hZ (own_tw hw 153 rfl)) (notFace_of_selects (args := #[]) (mvT hZ (own_tw hw 155 rfl))) (mvT hZ (own_tw hw 155 rfl)) (mvT hZ (own_tw hw 154 rfl)) (by decide) (backOf (W := 0) (own_hc_k3 l Z a0 hW a1 t1 c0 c1 c2 h0 n0 (by omega) O0 S1 Fh1 Fz1 Eb1 g1 hc0 hc1 hc2) hZ (own_tw hw 156 rfl) (own_tw hw 5 rfl) (by decide) (by decide)) q12a q12c (g := (mkF m 4 #[vr b1] [(.ref a1)])) rfl (by rw [hml]; rfl) (Steps.refl _) (argsL := []) (rest := []) (lenOf pd_6 rfl) rfl (own_le rfl) (hb hby d20_4) (fun _ _ => ⟨rfl, e11, (by decide : 0 + 0 ≤ 0), (by decide : 0 + 0 ≤ 0)⟩)
  dsimp only [Pt.U, Pt.locs, Pt.cells, Pt.slots] at X12 l12 y12 z12 st12 hQ12
  subst l12 y12 z12
  obtain ⟨rfl, Nq12, Kq12⟩ := hQ12
  have N12 := Fr.app N0 Nq12
  have z13 := Kq12.1
  have K13 := K0.trans Kq12 (allS (Or.inl (List.mem_of_getElem? (i := 0) rfl)) all0)
  have O13 := O0.keep Kq12 (allS (by omega) all0)
  refine own_gs st12 ?_
  show own_Fin p e below (T12.setTop (mkF m 7 #[vr b1] [(.int (own_hash [c0, c1, c2]))])) _
  obtain ⟨fs, hr, hrun, hended, hW1, hsame⟩ := X12.leave (v := (some (.int (own_hash [c0, c1, c2])))) (fun h => by rw [Bd.returns] at h; cases h)
  refine ⟨_, _, retI X12 hx Bd.returns (hb hby d20_7) hr, hrun, hended, _, _, rfl, ?_, ⟨_, rfl⟩, hW1, hsame.mono (own_le rfl) (own_le rfl)⟩
  show own_lhc_k3_Q Z b1 a1 t1 c0 c1 c2 h0 n0 (some (.int (own_hash [c0, c1, c2]))) T12.heap _
  exact ⟨rfl, N12, K13⟩
def own_law_Q (Z : State) (p0 p1 p2 p3 p4 : Int32) (h0 : Heap) (n0 : Nat) (v : Option Value) (h : Heap) (L : List Loc) : Prop := v = some (.int (1 : Int32)) ∧ Fr n0 L
theorem ef_own_law (m : MethodId) (x0 : Int32) (x1 : Int32) (x2 : Int32) (x3 : Int32) (x4 : Int32) : entryFrame m #[(.int x0), (.int x1), (.int x2), (.int x3), (.int x4)] maxLocals = mkF m 0 #[vi x0, vi x1, vi x2, vi x3, vi x4, .unset, .unset, .unset, .unset, .unset, .unset, .unset, .unset, .unset, .unset] [] := by first | (simp [entryFrame, mkF, argsToLocals, Value.category, maxLocals]; done) | rfl
theorem pd_14 : parseMethodDescriptor "(CCCI)Ljava/lang/String;" = some ⟨[.char, .char, .char, .int], some (.object "java/lang/String")⟩ := by decide +kernel
theorem pd_15 : parseMethodDescriptor "(Ljava/lang/String;)Lcom/example/lease_lock/leaselock/LockName;" = some ⟨[(.object "java/lang/String")], some (.object "com/example/lease_lock/leaselock/LockName")⟩ := by decide +kernel
theorem pd_16 : parseMethodDescriptor "()Ljava/lang/String;" = some ⟨[], some (.object "java/lang/String")⟩ := by decide +kernel
set_option maxRecDepth 65536 in
set_option maxHeartbeats 40000000 in
theorem own_law (l : Launch) (Z : State) (a0 : Array Value) (hW : own_W Z a0) (ws : List Jvm.Cond) (p0 p1 p2 p3 p4 : Int32) (h0 : Heap) (n0 : Nat) (Z0 : n0 ≤ h0.size) (O0 : Old Z n0 h0)  :
    MetFree l x (head1 (Jvm.Cond.code x code maxLocals ret :: ws) room_1) (fun a U => a = #[(.int p0), (.int p1), (.int p2), (.int p3), (.int p4)] ∧ Z.Warmed39 U.vm ∧ U.heap = h0 ∧ CHv Z own_EL U.vm h0 ∧ ∀ x ∈ ([] : List Addr), Safe Z own_EL U.vm h0 x) (fun _ _ _ _ _ => True) (fun _ U o U' => ∃ v L, o = .returned v ∧ own_law_Q Z p0 p1 p2 p3 p4 h0 n0 v U'.heap L ∧ CHr Z own_EL U.vm U.heap U'.vm U'.heap ∧ ReturnedEndW U o U' L room_1.cells room_1.slots) := by
  refine MetFree.of_bodySF (plainFor_of_name pn_com_example_lease_lock_leaselock_LockNameOfPinLaw) hisR ?_
  intro p e s m args below meth c s₁ Bd hml0 hP hK
  obtain ⟨rfl, hZ, hh, hCH, hSf⟩ := hP
  obtain ⟨hw, ⟨G1, O2, P5⟩, ⟨G3, O4, rG3⟩⟩ := id hW
  have hx := Bd.exec
  have hby := Bd.bytes
  have hml : c.maxLocals = 15 := hml0
  have hown : s.vm.findClass "com/example/lease_lock/leaselock/LockNameOfPinLaw" = some m.cls := findClass_of_methodNamed Bd.named
  have hnm := (name_of_methodNamed Bd.named Bd.method).1
  have X0 : Stand p l e room_1 (s.setVm s.vm) m #[(.int p0), (.int p1), (.int p2), (.int p3), (.int p4)] below meth c s₁ [] 0 0 := Stand.of_body Bd
  have e0 : s₁.heap = h0 := by rw [← hh, Bd.state]; rfl
  have N0 := Fr.nil n0
  have K0 := Keep.refl h0 []
  have hS0 : s.Since s.vm h0.size := (State.WarmedH.refl s).since _
  have CH0 : CHr Z own_EL s.vm h0 s.vm h0 := CHr.refl hCH
  have hEL := own_EW hw
  have hSA := own_SA hw
  show own_Fin p e below (s₁.setTop (entryFrame m #[(.int p0), (.int p1), (.int p2), (.int p3), (.int p4)] maxLocals)) _
  refine own_gs (castTop (ef_own_law m p0 p1 p2 p3 p4) (Steps.refl _)) ?_
  show own_Fin p e below (s₁.setTop (mkF m 0 #[vi p0, vi p1, vi p2, vi p3, vi p4, uu, uu, uu, uu, uu, uu, uu, uu, uu, uu] [])) _
  refine own_gs (cur' := s₁.setTop (mkF m 1 #[vi p0, vi p1, vi p2, vi p3, vi p4, uu, uu, uu, uu, uu, uu, uu, uu, uu, uu] [(.int p0)])) ?_ ?_
  · refine XS.iloadN X0.here hx rfl (hb hby at_0) rfl ?_
    exact Steps.refl _
  obtain ⟨_, _, ⟨T11, L11, k11, n11⟩, -, Xw11, hSw11, hgw11, ⟨Lc11, hQ11, l11, y11, z11, hC11⟩, st11⟩ := callSS X0 hx (y := own_n0) hown (mvT hZ (own_tw hw 0 rfl)) (mvT hZ (own_tw hw 1 rfl)) (mvT hZ (own_tw hw 2 rfl)) (mvT hZ (own_tw hw 3 rfl)) (by decide) (own_backS (W := 0) (own_pick l Z a0 hW p0 h0 n0 (by omega) O0) hZ (own_tw hw 3 rfl) (own_tw hw 2 rfl) (by decide) (by decide) hEL CH0.1 all0) (g := (mkF m 1 #[vi p0, vi p1, vi p2, vi p3, vi p4, uu, uu, uu, uu, uu, uu, uu, uu, uu, uu] [(.int p0)])) rfl (by rw [hml]; rfl) (argsL := [(.int p0)]) (rest := []) (lenOf pd_0 rfl) rfl (own_le rfl) (hb hby at_1) (fun _ _ => ⟨rfl, e0, (by decide : 0 + 2 ≤ 32), (by decide : 0 + 28 ≤ 2176)⟩)
  dsimp only [Pt.U, Pt.locs, Pt.cells, Pt.slots] at Xw11 hSw11 hgw11 hC11 l11 y11 z11 st11 hQ11
  subst l11 y11 z11
  obtain ⟨X11, hS11, hZ11, hown11⟩ := rebS hS0 (show h0.size ≤ s₁.heap.size by rw [e0]; omega) Xw11 hSw11 hgw11 hZ hown
  obtain ⟨c11, rfl, hc11, Nq11, Kq11⟩ := hQ11
  have N11 := Fr.app N0 Nq11
  have z12 := Kq11.1
  have K12 := K0.trans Kq11 all0
  have O12 := O0.keep Kq11 all0
  have CH12 := CH0.trans hC11
  refine own_gs st11 ?_
  show own_Fin p e below (T11.setTop (mkF m 4 #[vi p0, vi p1, vi p2, vi p3, vi p4, uu, uu, uu, uu, uu, uu, uu, uu, uu, uu] [(.int c11)])) _
  refine own_gs (cur' := T11.setTop (mkF m 7 #[vi p0, vi p1, vi p2, vi p3, vi p4, vi c11, uu, uu, uu, uu, uu, uu, uu, uu, uu] [(.int p1)])) ?_ ?_
  · refine XS.istore X11.here hx rfl (hb hby at_4) rfl (l' := #[vi p0, vi p1, vi p2, vi p3, vi p4, vi c11, uu, uu, uu, uu, uu, uu, uu, uu, uu]) rfl ?_
    refine XS.iloadN X11.here hx rfl (hb hby at_6) rfl ?_
    exact Steps.refl _
  obtain ⟨_, _, ⟨T13, L13, k13, n13⟩, -, Xw13, hSw13, hgw13, ⟨Lc13, hQ13, l13, y13, z13, hC13⟩, st13⟩ := callSS X11 hx (y := own_n0) hown11 (mvT hZ11 (own_tw hw 0 rfl)) (mvT hZ11 (own_tw hw 1 rfl)) (mvT hZ11 (own_tw hw 2 rfl)) (mvT hZ11 (own_tw hw 3 rfl)) (by decide) (own_backS (W := 0) (own_pick l Z a0 hW p1 T11.heap n0 (by omega) O12) hZ11 (own_tw hw 3 rfl) (own_tw hw 2 rfl) (by decide) (by decide) hEL CH12.1 all0) (g := (mkF m 7 #[vi p0, vi p1, vi p2, vi p3, vi p4, vi c11, uu, uu, uu, uu, uu, uu, uu, uu, uu] [(.int p1)])) rfl (by rw [hml]; rfl) (argsL := [(.int p1)]) (rest := []) (lenOf pd_0 rfl) rfl (own_le rfl) (hb hby at_7) (fun _ _ => ⟨rfl, rfl, (by decide : 2 + 2 ≤ 32), (by decide : 28 + 28 ≤ 2176)⟩)
  dsimp only [Pt.U, Pt.locs, Pt.cells, Pt.slots] at Xw13 hSw13 hgw13 hC13 l13 y13 z13 st13 hQ13
  subst l13 y13 z13
  obtain ⟨X13, hS13, hZ13, hown13⟩ := rebS hS11 (show T11.heap.size ≤ T11.heap.size by omega) Xw13 hSw13 hgw13 hZ11 hown11
  obtain ⟨c13, rfl, hc13, Nq13, Kq13⟩ := hQ13
  have N13 := Fr.app N11 Nq13
  have z14 := Kq13.1
  have K14 := K12.trans Kq13 all0
  have O14 := O12.keep Kq13 all0
  have CH14 := CH12.trans hC13
  refine own_gs st13 ?_
  show own_Fin p e below (T13.setTop (mkF m 10 #[vi p0, vi p1, vi p2, vi p3, vi p4, vi c11, uu, uu, uu, uu, uu, uu, uu, uu, uu] [(.int c13)])) _
  refine own_gs (cur' := T13.setTop (mkF m 13 #[vi p0, vi p1, vi p2, vi p3, vi p4, vi c11, vi c13, uu, uu, uu, uu, uu, uu, uu, uu] [(.int p2)])) ?_ ?_
  · refine XS.istore X13.here hx rfl (hb hby at_10) rfl (l' := #[vi p0, vi p1, vi p2, vi p3, vi p4, vi c11, vi c13, uu, uu, uu, uu, uu, uu, uu, uu]) rfl ?_
    refine XS.iloadN X13.here hx rfl (hb hby at_12) rfl ?_
    exact Steps.refl _
  obtain ⟨_, _, ⟨T15, L15, k15, n15⟩, -, Xw15, hSw15, hgw15, ⟨Lc15, hQ15, l15, y15, z15, hC15⟩, st15⟩ := callSS X13 hx (y := own_n0) hown13 (mvT hZ13 (own_tw hw 0 rfl)) (mvT hZ13 (own_tw hw 1 rfl)) (mvT hZ13 (own_tw hw 2 rfl)) (mvT hZ13 (own_tw hw 3 rfl)) (by decide) (own_backS (W := 0) (own_pick l Z a0 hW p2 T13.heap n0 (by omega) O14) hZ13 (own_tw hw 3 rfl) (own_tw hw 2 rfl) (by decide) (by decide) hEL CH14.1 all0) (g := (mkF m 13 #[vi p0, vi p1, vi p2, vi p3, vi p4, vi c11, vi c13, uu, uu, uu, uu, uu, uu, uu, uu] [(.int p2)])) rfl (by rw [hml]; rfl) (argsL := [(.int p2)]) (rest := []) (lenOf pd_0 rfl) rfl (own_le rfl) (hb hby at_13) (fun _ _ => ⟨rfl, rfl, (by decide : 4 + 2 ≤ 32), (by decide : 56 + 28 ≤ 2176)⟩)
  dsimp only [Pt.U, Pt.locs, Pt.cells, Pt.slots] at Xw15 hSw15 hgw15 hC15 l15 y15 z15 st15 hQ15
  subst l15 y15 z15
  obtain ⟨X15, hS15, hZ15, hown15⟩ := rebS hS13 (show T13.heap.size ≤ T13.heap.size by omega) Xw15 hSw15 hgw15 hZ13 hown13
  obtain ⟨c15, rfl, hc15, Nq15, Kq15⟩ := hQ15
  have N15 := Fr.app N13 Nq15
  have z16 := Kq15.1
  have K16 := K14.trans Kq15 all0
  have O16 := O14.keep Kq15 all0
  have CH16 := CH14.trans hC15
  refine own_gs st15 ?_
  show own_Fin p e below (T15.setTop (mkF m 16 #[vi p0, vi p1, vi p2, vi p3, vi p4, vi c11, vi c13, uu, uu, uu, uu, uu, uu, uu, uu] [(.int c15)])) _
  refine own_gs (cur' := T15.setTop (mkF m 19 #[vi p0, vi p1, vi p2, vi p3, vi p4, vi c11, vi c13, vi c15, uu, uu, uu, uu, uu, uu, uu] [(.int p3)])) ?_ ?_
  · refine XS.istore X15.here hx rfl (hb hby at_16) rfl (l' := #[vi p0, vi p1, vi p2, vi p3, vi p4, vi c11, vi c13, vi c15, uu, uu, uu, uu, uu, uu, uu]) rfl ?_
    refine XS.iloadN X15.here hx rfl (hb hby at_18) rfl ?_
    exact Steps.refl _
  obtain ⟨_, _, ⟨T17, L17, k17, n17⟩, -, Xw17, hSw17, hgw17, ⟨Lc17, hQ17, l17, y17, z17, hC17⟩, st17⟩ := callSS X15 hx (y := own_n0) hown15 (mvT hZ15 (own_tw hw 0 rfl)) (mvT hZ15 (own_tw hw 1 rfl)) (mvT hZ15 (own_tw hw 2 rfl)) (mvT hZ15 (own_tw hw 3 rfl)) (by decide) (own_backS (W := 0) (own_pick l Z a0 hW p3 T15.heap n0 (by omega) O16) hZ15 (own_tw hw 3 rfl) (own_tw hw 2 rfl) (by decide) (by decide) hEL CH16.1 all0) (g := (mkF m 19 #[vi p0, vi p1, vi p2, vi p3, vi p4, vi c11, vi c13, vi c15, uu, uu, uu, uu, uu, uu, uu] [(.int p3)])) rfl (by rw [hml]; rfl) (argsL := [(.int p3)]) (rest := []) (lenOf pd_0 rfl) rfl (own_le rfl) (hb hby at_19) (fun _ _ => ⟨rfl, rfl, (by decide : 6 + 2 ≤ 32), (by decide : 84 + 28 ≤ 2176)⟩)
  dsimp only [Pt.U, Pt.locs, Pt.cells, Pt.slots] at Xw17 hSw17 hgw17 hC17 l17 y17 z17 st17 hQ17
  subst l17 y17 z17
  obtain ⟨X17, hS17, hZ17, hown17⟩ := rebS hS15 (show T15.heap.size ≤ T15.heap.size by omega) Xw17 hSw17 hgw17 hZ15 hown15
  obtain ⟨c17, rfl, hc17, Nq17, Kq17⟩ := hQ17
  have N17 := Fr.app N15 Nq17
  have z18 := Kq17.1
  have K18 := K16.trans Kq17 all0
  have O18 := O16.keep Kq17 all0
  have CH18 := CH16.trans hC17
  refine own_gs st17 ?_
  show own_Fin p e below (T17.setTop (mkF m 22 #[vi p0, vi p1, vi p2, vi p3, vi p4, vi c11, vi c13, vi c15, uu, uu, uu, uu, uu, uu, uu] [(.int c17)])) _
  refine own_gs (cur' := T17.setTop (mkF m 32 #[vi p0, vi p1, vi p2, vi p3, vi p4, vi c11, vi c13, vi c15, vi c17, uu, uu, uu, uu, uu, uu] [(.int ((1 : Int32) + (((p4.toUInt32 >>> ((1 : Int32) &&& 31).toUInt32).toInt32) % (3 : Int32))))])) ?_ ?_
  · refine XS.istore X17.here hx rfl (hb hby at_22) rfl (l' := #[vi p0, vi p1, vi p2, vi p3, vi p4, vi c11, vi c13, vi c15, vi c17, uu, uu, uu, uu, uu, uu]) rfl ?_
    refine XS.iconst X17.here hx rfl (hb hby at_24) ?_
    refine XS.iload X17.here hx rfl (hb hby at_25) rfl ?_
    refine XS.iconst X17.here hx rfl (hb hby at_27) ?_
    refine XS.iushr X17.here hx rfl (hb hby at_28) rfl ?_
    refine XS.iconst X17.here hx rfl (hb hby at_29) ?_
    refine iremM X17 hx rfl (hb hby at_30) rfl (by decide) ?_
    refine XS.iadd X17.here hx rfl (hb hby at_31) rfl ?_
    exact Steps.refl _
  rcases own_len3 p4 with hn | hn | hn
  · rw [hn]
    show own_Fin p e below (T17.setTop (mkF m 32 #[vi p0, vi p1, vi p2, vi p3, vi p4, vi c11, vi c13, vi c15, vi c17, uu, uu, uu, uu, uu, uu] [(.int (1 : Int32))])) _
    refine own_gs (cur' := T17.setTop (mkF m 42 #[vi p0, vi p1, vi p2, vi p3, vi p4, vi c11, vi c13, vi c15, vi c17, vi (1 : Int32), uu, uu, uu, uu, uu] [(.int (1 : Int32)), (.int c15), (.int c13), (.int c11)])) ?_ ?_
    · refine XS.istore X17.here hx rfl (hb hby at_32) rfl (l' := #[vi p0, vi p1, vi p2, vi p3, vi p4, vi c11, vi c13, vi c15, vi c17, vi (1 : Int32), uu, uu, uu, uu, uu]) rfl ?_
      refine XS.iload X17.here hx rfl (hb hby at_34) rfl ?_
      refine XS.iload X17.here hx rfl (hb hby at_36) rfl ?_
      refine XS.iload X17.here hx rfl (hb hby at_38) rfl ?_
      refine XS.iload X17.here hx rfl (hb hby at_40) rfl ?_
      exact Steps.refl _
    obtain ⟨_, _, ⟨T19, L19, k19, n19⟩, -, X19, ⟨Lc19, hQ19, l19, y19, z19⟩, st19⟩ := Jvm.LawKit.callS X17 hx (y := own_n2) hown17 (mvT hZ17 (own_tw hw 37 rfl)) (mvT hZ17 (own_tw hw 38 rfl)) (mvT hZ17 (own_tw hw 2 rfl)) (mvT hZ17 (own_tw hw 39 rfl)) (by decide) (backOf (W := 0) (own_make1 l Z a0 hW c11 c13 c15 T17.heap n0 (by omega) O18 hc11 hc13 hc15) hZ17 (own_tw hw 39 rfl) (own_tw hw 2 rfl) (by decide) (by decide)) (g := (mkF m 42 #[vi p0, vi p1, vi p2, vi p3, vi p4, vi c11, vi c13, vi c15, vi c17, vi (1 : Int32), uu, uu, uu, uu, uu] [(.int (1 : Int32)), (.int c15), (.int c13), (.int c11)])) rfl (by rw [hml]; rfl) (argsL := [(.int c11), (.int c13), (.int c15), (.int (1 : Int32))]) (rest := []) (lenOf pd_14 rfl) rfl (own_le rfl) (hb hby at_42) (fun _ _ => ⟨rfl, rfl, (by decide : 8 + 3 ≤ 32), (by decide : 112 + 6 ≤ 2176)⟩)
    dsimp only [Pt.U, Pt.locs, Pt.cells, Pt.slots] at X19 l19 y19 z19 st19 hQ19
    subst l19 y19 z19
    obtain ⟨a19, t19, rfl, Nq19, Kq19, S19, Fh19, Fz19, Eb19, ga19, gt19⟩ := hQ19
    have N19 := Fr.app N17 Nq19
    have Sf19 := Safe.keep Kq19 all0 CH18.1 (Safe.new (by omega : T17.heap.size ≤ a19))
    have z20 := Kq19.1
    have K20 := K18.trans Kq19 all0
    have O20 := O18.keep Kq19 all0
    have CH20 := CH18.trans (CHr.keep Kq19 all0 CH18.1)
    have lt19 := S19.lt
    have Ex19 := S19.exa
    refine own_go st19 ?_
    show own_Fin p e below (T19.setTop (mkF m 45 #[vi p0, vi p1, vi p2, vi p3, vi p4, vi c11, vi c13, vi c15, vi c17, vi (1 : Int32), uu, uu, uu, uu, uu] [(.ref a19)])) _
    refine own_gs (cur' := T19.setTop (mkF m 55 #[vi p0, vi p1, vi p2, vi p3, vi p4, vi c11, vi c13, vi c15, vi c17, vi (1 : Int32), vr a19, uu, uu, uu, uu] [(.int (1 : Int32)), (.int c15), (.int c13), (.int c17)])) ?_ ?_
    · refine XS.astore X19.here hx rfl (hb hby at_45) rfl rfl (l' := #[vi p0, vi p1, vi p2, vi p3, vi p4, vi c11, vi c13, vi c15, vi c17, vi (1 : Int32), vr a19, uu, uu, uu, uu]) rfl ?_
      refine XS.iload X19.here hx rfl (hb hby at_47) rfl ?_
      refine XS.iload X19.here hx rfl (hb hby at_49) rfl ?_
      refine XS.iload X19.here hx rfl (hb hby at_51) rfl ?_
      refine XS.iload X19.here hx rfl (hb hby at_53) rfl ?_
      exact Steps.refl _
    obtain ⟨_, _, ⟨T21, L21, k21, n21⟩, -, X21, ⟨Lc21, hQ21, l21, y21, z21⟩, st21⟩ := Jvm.LawKit.callS X19 hx (y := own_n2) hown17 (mvT hZ17 (own_tw hw 37 rfl)) (mvT hZ17 (own_tw hw 38 rfl)) (mvT hZ17 (own_tw hw 2 rfl)) (mvT hZ17 (own_tw hw 39 rfl)) (by decide) (backOf (W := 0) (own_make1 l Z a0 hW c17 c13 c15 T19.heap n0 (by omega) O20 hc17 hc13 hc15) hZ17 (own_tw hw 39 rfl) (own_tw hw 2 rfl) (by decide) (by decide)) (g := (mkF m 55 #[vi p0, vi p1, vi p2, vi p3, vi p4, vi c11, vi c13, vi c15, vi c17, vi (1 : Int32), vr a19, uu, uu, uu, uu] [(.int (1 : Int32)), (.int c15), (.int c13), (.int c17)])) rfl (by rw [hml]; rfl) (argsL := [(.int c17), (.int c13), (.int c15), (.int (1 : Int32))]) (rest := []) (lenOf pd_14 rfl) rfl (own_le rfl) (hb hby at_55) (fun _ _ => ⟨rfl, rfl, (by decide : 11 + 3 ≤ 32), (by decide : 118 + 6 ≤ 2176)⟩)
    dsimp only [Pt.U, Pt.locs, Pt.cells, Pt.slots] at X21 l21 y21 z21 st21 hQ21
    subst l21 y21 z21
    obtain ⟨a21, t21, rfl, Nq21, Kq21, S21, Fh21, Fz21, Eb21, ga21, gt21⟩ := hQ21
    have N21 := Fr.app N19 Nq21
    have Sf21 := Safe.keep Kq21 all0 CH20.1 (Safe.new (by omega : T19.heap.size ≤ a21))
    have z22 := Kq21.1
    have K22 := K20.trans Kq21 all0
    have O22 := O20.keep Kq21 all0
    have CH22 := CH20.trans (CHr.keep Kq21 all0 CH20.1)
    have lt21 := S21.lt
    have Ex21 := S21.exa
    refine own_go st21 ?_
    show own_Fin p e below (T21.setTop (mkF m 58 #[vi p0, vi p1, vi p2, vi p3, vi p4, vi c11, vi c13, vi c15, vi c17, vi (1 : Int32), vr a19, uu, uu, uu, uu] [(.ref a21)])) _
    have f23 := (S19.keep Kq21 nin0 nin0)
    refine own_gs (cur' := T21.setTop (mkF m 62 #[vi p0, vi p1, vi p2, vi p3, vi p4, vi c11, vi c13, vi c15, vi c17, vi (1 : Int32), vr a19, vr a21, uu, uu, uu] [(.ref a19)])) ?_ ?_
    · refine XS.astore X21.here hx rfl (hb hby at_58) rfl rfl (l' := #[vi p0, vi p1, vi p2, vi p3, vi p4, vi c11, vi c13, vi c15, vi c17, vi (1 : Int32), vr a19, vr a21, uu, uu, uu]) rfl ?_
      refine XS.aload X21.here hx rfl (hb hby at_60) rfl rfl ?_
      exact Steps.refl _
    obtain ⟨_, _, ⟨T24, L24, k24, n24⟩, -, Xw24, hSw24, hgw24, ⟨Lc24, hQ24, l24, y24, z24, hC24⟩, st24⟩ := callSS X21 hx (y := own_n15) hown17 (mvT hZ17 (own_tw hw 62 rfl)) (mvT hZ17 (own_tw hw 63 rfl)) (mvT hZ17 (own_tw hw 64 rfl)) (mvT hZ17 (own_tw hw 65 rfl)) (by decide) (own_backS (W := 0) (own_of1 l Z a0 hW a19 t19 c11 T21.heap n0 (by omega) O22 f23 hc11) hZ17 (own_tw hw 65 rfl) (own_tw hw 64 rfl) (by decide) (by decide) hEL CH22.1 all0) (g := (mkF m 62 #[vi p0, vi p1, vi p2, vi p3, vi p4, vi c11, vi c13, vi c15, vi c17, vi (1 : Int32), vr a19, vr a21, uu, uu, uu] [(.ref a19)])) rfl (by rw [hml]; rfl) (argsL := [(.ref a19)]) (rest := []) (lenOf pd_15 rfl) rfl (own_le rfl) (hb hby at_62) (fun _ _ => ⟨rfl, rfl, (by decide : 14 + 3 ≤ 32), (by decide : 124 + 29 ≤ 2176)⟩)
    dsimp only [Pt.U, Pt.locs, Pt.cells, Pt.slots] at Xw24 hSw24 hgw24 hC24 l24 y24 z24 st24 hQ24
    subst l24 y24 z24
    obtain ⟨X24, hS24, hZ24, hown24⟩ := rebS hS17 (show T17.heap.size ≤ T21.heap.size by omega) Xw24 hSw24 hgw24 hZ17 hown17
    obtain ⟨b24, rfl, Nq24, Kq24, E24, F24, gb24⟩ := hQ24
    have N24 := Fr.app N21 Nq24
    have z25 := Kq24.1
    have K25 := K22.trans Kq24 all0
    have O25 := O22.keep Kq24 all0
    have CH25 := CH22.trans hC24
    have lt24 := own_lt E24.lt
    refine own_gs st24 ?_
    show own_Fin p e below (T24.setTop (mkF m 65 #[vi p0, vi p1, vi p2, vi p3, vi p4, vi c11, vi c13, vi c15, vi c17, vi (1 : Int32), vr a19, vr a21, uu, uu, uu] [(.ref b24)])) _
    have f26 := (S21.keep Kq24 nin0 nin0)
    refine own_gs (cur' := T24.setTop (mkF m 69 #[vi p0, vi p1, vi p2, vi p3, vi p4, vi c11, vi c13, vi c15, vi c17, vi (1 : Int32), vr a19, vr a21, vr b24, uu, uu] [(.ref a21)])) ?_ ?_
    · refine XS.astore X24.here hx rfl (hb hby at_65) rfl rfl (l' := #[vi p0, vi p1, vi p2, vi p3, vi p4, vi c11, vi c13, vi c15, vi c17, vi (1 : Int32), vr a19, vr a21, vr b24, uu, uu]) rfl ?_
      refine XS.aload X24.here hx rfl (hb hby at_67) rfl rfl ?_
      exact Steps.refl _
    obtain ⟨_, _, ⟨T27, L27, k27, n27⟩, -, Xw27, hSw27, hgw27, ⟨Lc27, hQ27, l27, y27, z27, hC27⟩, st27⟩ := callSS X24 hx (y := own_n15) hown24 (mvT hZ24 (own_tw hw 62 rfl)) (mvT hZ24 (own_tw hw 63 rfl)) (mvT hZ24 (own_tw hw 64 rfl)) (mvT hZ24 (own_tw hw 65 rfl)) (by decide) (own_backS (W := 0) (own_of1 l Z a0 hW a21 t21 c17 T24.heap n0 (by omega) O25 f26 hc17) hZ24 (own_tw hw 65 rfl) (own_tw hw 64 rfl) (by decide) (by decide) hEL CH25.1 all0) (g := (mkF m 69 #[vi p0, vi p1, vi p2, vi p3, vi p4, vi c11, vi c13, vi c15, vi c17, vi (1 : Int32), vr a19, vr a21, vr b24, uu, uu] [(.ref a21)])) rfl (by rw [hml]; rfl) (argsL := [(.ref a21)]) (rest := []) (lenOf pd_15 rfl) rfl (own_le rfl) (hb hby at_69) (fun _ _ => ⟨rfl, rfl, (by decide : 17 + 3 ≤ 32), (by decide : 153 + 29 ≤ 2176)⟩)
    dsimp only [Pt.U, Pt.locs, Pt.cells, Pt.slots] at Xw27 hSw27 hgw27 hC27 l27 y27 z27 st27 hQ27
    subst l27 y27 z27
    obtain ⟨X27, hS27, hZ27, hown27⟩ := rebS hS24 (show T24.heap.size ≤ T24.heap.size by omega) Xw27 hSw27 hgw27 hZ24 hown24
    obtain ⟨b27, rfl, Nq27, Kq27, E27, F27, gb27⟩ := hQ27
    have N27 := Fr.app N24 Nq27
    have z28 := Kq27.1
    have K28 := K25.trans Kq27 all0
    have O28 := O25.keep Kq27 all0
    have CH28 := CH25.trans hC27
    have lt27 := own_lt E27.lt
    refine own_gs st27 ?_
    show own_Fin p e below (T27.setTop (mkF m 72 #[vi p0, vi p1, vi p2, vi p3, vi p4, vi c11, vi c13, vi c15, vi c17, vi (1 : Int32), vr a19, vr a21, vr b24, uu, uu] [(.ref b27)])) _
    have f29 := ((f23.keep Kq24 nin0 nin0).keep Kq27 nin0 nin0)
    have f30 := (f26.keep Kq27 nin0 nin0)
    refine own_gs (cur' := T27.setTop (mkF m 78 #[vi p0, vi p1, vi p2, vi p3, vi p4, vi c11, vi c13, vi c15, vi c17, vi (1 : Int32), vr a19, vr a21, vr b24, vr b27, uu] [(.ref a21), (.ref a19)])) ?_ ?_
    · refine XS.astore X27.here hx rfl (hb hby at_72) rfl rfl (l' := #[vi p0, vi p1, vi p2, vi p3, vi p4, vi c11, vi c13, vi c15, vi c17, vi (1 : Int32), vr a19, vr a21, vr b24, vr b27, uu]) rfl ?_
      refine XS.aload X27.here hx rfl (hb hby at_74) rfl rfl ?_
      refine XS.aload X27.here hx rfl (hb hby at_76) rfl rfl ?_
      exact Steps.refl _
    have f32 := (((Ex19.keep Kq21).keep Kq24).keep Kq27)
    obtain ⟨cq31, kq31, q31a, q31b, q31c⟩ := isOf hZ27 rfl f32
    obtain ⟨_, _, ⟨T31, L31, k31, n31⟩, -, X31, ⟨Lc31, hQ31, l31, y31, z31⟩, st31⟩ := X27.virtualBack hx (y := own_n20) (z := own_n20) hown27 (mvT hZ27 (own_tw hw 93 rfl)) (mvT hZ27 (own_tw hw 94 rfl)) (notFace_of_selects (args := #[]) (mvT hZ27 (own_tw hw 96 rfl))) (mvT hZ27 (own_tw hw 96 rfl)) (mvT hZ27 (own_tw hw 95 rfl)) (by decide) (own_eqB (W := 0) hZ27 hw f29 f30 (O2.ext O28.2) P5 (by decide) (by decide)) q31a q31c (g := (mkF m 78 #[vi p0, vi p1, vi p2, vi p3, vi p4, vi c11, vi c13, vi c15, vi c17, vi (1 : Int32), vr a19, vr a21, vr b24, vr b27, uu] [(.ref a21), (.ref a19)])) rfl (by rw [hml]; rfl) (Steps.refl _) (argsL := [(.ref a21)]) (rest := []) (lenOf pd_10 rfl) rfl (own_le rfl) (hb hby at_78) (fun _ _ => ⟨rfl, rfl, (by decide : 20 + 0 ≤ 32), (by decide : 182 + 0 ≤ 2176)⟩)
    dsimp only [Pt.U, Pt.locs, Pt.cells, Pt.slots] at X31 l31 y31 z31 st31 hQ31
    subst l31 y31 z31
    obtain ⟨rfl, rfl, eh31⟩ := hQ31
    have N31 := Fr.app N27 (Fr.nil n0)
    refine own_gs st31 ?_
    show own_Fin p e below (T31.setTop (mkF m 81 #[vi p0, vi p1, vi p2, vi p3, vi p4, vi c11, vi c13, vi c15, vi c17, vi (1 : Int32), vr a19, vr a21, vr b24, vr b27, uu] [(.int (if ([c11] : List Int32) = [c17] then 1 else 0))])) _
    by_cases hq : ([c11] : List Int32) = [c17]
    · rw [if_pos hq]
      show own_Fin p e below (T31.setTop (mkF m 81 #[vi p0, vi p1, vi p2, vi p3, vi p4, vi c11, vi c13, vi c15, vi c17, vi (1 : Int32), vr a19, vr a21, vr b24, vr b27, uu] [(.int (1 : Int32))])) _
      have f33 := (F24.keep Kq27 nin0)
      refine own_gs (cur' := T31.setTop (mkF m 85 #[vi p0, vi p1, vi p2, vi p3, vi p4, vi c11, vi c13, vi c15, vi c17, vi (1 : Int32), vr a19, vr a21, vr b24, vr b27, vi (1 : Int32)] [(.ref b24)])) ?_ ?_
      · refine XS.istore X31.here hx rfl (hb hby at_81) rfl (l' := #[vi p0, vi p1, vi p2, vi p3, vi p4, vi c11, vi c13, vi c15, vi c17, vi (1 : Int32), vr a19, vr a21, vr b24, vr b27, vi (1 : Int32)]) rfl ?_
        refine XS.aload X31.here hx rfl (hb hby at_83) rfl rfl ?_
        exact Steps.refl _
      have f35 := (E24.keep Kq27)
      obtain ⟨cq34, kq34, q34a, q34b, q34c⟩ := isOf hZ27 eh31 f35
      obtain ⟨_, _, ⟨T34, L34, k34, n34⟩, -, X34, ⟨Lc34, hQ34, l34, y34, z34⟩, st34⟩ := X31.virtualBack hx (y := own_n17) (z := own_n17) hown27 (mvT hZ27 (own_tw hw 102 rfl)) (mvT hZ27 (own_tw hw 103 rfl)) (notFace_of_selects (args := #[]) (mvT hZ27 (own_tw hw 105 rfl))) (mvT hZ27 (own_tw hw 105 rfl)) (mvT hZ27 (own_tw hw 104 rfl)) (by decide) (backOf (W := 0) (own_val l Z a0 hW b24 a19 T27.heap n0 (by omega) O28 f33) hZ27 (own_tw hw 106 rfl) (own_tw hw 64 rfl) (by decide) (by decide)) q34a q34c (g := (mkF m 85 #[vi p0, vi p1, vi p2, vi p3, vi p4, vi c11, vi c13, vi c15, vi c17, vi (1 : Int32), vr a19, vr a21, vr b24, vr b27, vi (1 : Int32)] [(.ref b24)])) rfl (by rw [hml]; rfl) (Steps.refl _) (argsL := []) (rest := []) (lenOf pd_16 rfl) rfl (own_le rfl) (hb hby at_85) (fun _ _ => ⟨rfl, eh31, (by decide : 20 + 0 ≤ 32), (by decide : 182 + 0 ≤ 2176)⟩)
      dsimp only [Pt.U, Pt.locs, Pt.cells, Pt.slots] at X34 l34 y34 z34 st34 hQ34
      subst l34 y34 z34
      obtain ⟨rfl, Nq34, eh34⟩ := hQ34
      have N34 := Fr.app N31 Nq34
      refine own_gs st34 ?_
      show own_Fin p e below (T34.setTop (mkF m 88 #[vi p0, vi p1, vi p2, vi p3, vi p4, vi c11, vi c13, vi c15, vi c17, vi (1 : Int32), vr a19, vr a21, vr b24, vr b27, vi (1 : Int32)] [(.ref a19)])) _
      refine own_gs (cur' := T34.setTop (mkF m 90 #[vi p0, vi p1, vi p2, vi p3, vi p4, vi c11, vi c13, vi c15, vi c17, vi (1 : Int32), vr a19, vr a21, vr b24, vr b27, vi (1 : Int32)] [(.ref a19), (.ref a19)])) ?_ ?_
      · refine XS.aload X34.here hx rfl (hb hby at_88) rfl rfl ?_
        exact Steps.refl _
      obtain ⟨cq36, kq36, q36a, q36b, q36c⟩ := isOf hZ27 eh34 f32
      obtain ⟨_, _, ⟨T36, L36, k36, n36⟩, -, X36, ⟨Lc36, hQ36, l36, y36, z36⟩, st36⟩ := X34.virtualBack hx (y := own_n20) (z := own_n20) hown27 (mvT hZ27 (own_tw hw 93 rfl)) (mvT hZ27 (own_tw hw 94 rfl)) (notFace_of_selects (args := #[]) (mvT hZ27 (own_tw hw 96 rfl))) (mvT hZ27 (own_tw hw 96 rfl)) (mvT hZ27 (own_tw hw 95 rfl)) (by decide) (own_eqB (W := 0) hZ27 hw f29 f29 (O2.ext O28.2) P5 (by decide) (by decide)) q36a q36c (g := (mkF m 90 #[vi p0, vi p1, vi p2, vi p3, vi p4, vi c11, vi c13, vi c15, vi c17, vi (1 : Int32), vr a19, vr a21, vr b24, vr b27, vi (1 : Int32)] [(.ref a19), (.ref a19)])) rfl (by rw [hml]; rfl) (Steps.refl _) (argsL := [(.ref a19)]) (rest := []) (lenOf pd_10 rfl) rfl (own_le rfl) (hb hby at_90) (fun _ _ => ⟨rfl, eh34, (by decide : 20 + 0 ≤ 32), (by decide : 182 + 0 ≤ 2176)⟩)
      dsimp only [Pt.U, Pt.locs, Pt.cells, Pt.slots] at X36 l36 y36 z36 st36 hQ36
      subst l36 y36 z36
      obtain ⟨rfl, rfl, eh36⟩ := hQ36
      have N36 := Fr.app N34 (Fr.nil n0)
      refine own_gs st36 ?_
      show own_Fin p e below (T36.setTop (mkF m 93 #[vi p0, vi p1, vi p2, vi p3, vi p4, vi c11, vi c13, vi c15, vi c17, vi (1 : Int32), vr a19, vr a21, vr b24, vr b27, vi (1 : Int32)] [(.int (if ([c11] : List Int32) = [c11] then 1 else 0))])) _
      rw [if_pos rfl]
      show own_Fin p e below (T36.setTop (mkF m 93 #[vi p0, vi p1, vi p2, vi p3, vi p4, vi c11, vi c13, vi c15, vi c17, vi (1 : Int32), vr a19, vr a21, vr b24, vr b27, vi (1 : Int32)] [(.int (1 : Int32))])) _
      refine own_gs (cur' := T36.setTop (mkF m 100 #[vi p0, vi p1, vi p2, vi p3, vi p4, vi c11, vi c13, vi c15, vi c17, vi (1 : Int32), vr a19, vr a21, vr b24, vr b27, vi (1 : Int32)] [(.ref b24)])) ?_ ?_
      · refine XS.ifYes X36.here hx rfl (pc0 := 93) (pc' := 98) rfl (hb hby at_93) rfl ((if0 _ _).trans (feq ((by decide) : ¬ ((1 : Int32) = (0 : Int32)))).2) (by decide) (by decide) ?_
        refine XS.aload X36.here hx rfl (hb hby at_98) rfl rfl ?_
        exact Steps.refl _
      obtain ⟨cq37, kq37, q37a, q37b, q37c⟩ := isOf hZ27 eh36 f35
      obtain ⟨_, _, ⟨T37, L37, k37, n37⟩, -, X37, ⟨Lc37, hQ37, l37, y37, z37⟩, st37⟩ := X36.virtualBack hx (y := own_n18) (z := own_n18) hown27 (mvT hZ27 (own_tw hw 107 rfl)) (mvT hZ27 (own_tw hw 108 rfl)) (notFace_of_selects (args := #[]) (mvT hZ27 (own_tw hw 110 rfl))) (mvT hZ27 (own_tw hw 110 rfl)) (mvT hZ27 (own_tw hw 109 rfl)) (by decide) (backOf (W := 0) (own_tos l Z a0 hW b24 a19 T27.heap n0 (by omega) O28 f33) hZ27 (own_tw hw 111 rfl) (own_tw hw 64 rfl) (by decide) (by decide)) q37a q37c (g := (mkF m 100 #[vi p0, vi p1, vi p2, vi p3, vi p4, vi c11, vi c13, vi c15, vi c17, vi (1 : Int32), vr a19, vr a21, vr b24, vr b27, vi (1 : Int32)] [(.ref b24)])) rfl (by rw [hml]; rfl) (Steps.refl _) (argsL := []) (rest := []) (lenOf pd_16 rfl) rfl (own_le rfl) (hb hby at_100) (fun _ _ => ⟨rfl, eh36, (by decide : 20 + 0 ≤ 32), (by decide : 182 + 0 ≤ 2176)⟩)
      dsimp only [Pt.U, Pt.locs, Pt.cells, Pt.slots] at X37 l37 y37 z37 st37 hQ37
      subst l37 y37 z37
      obtain ⟨rfl, Nq37, eh37⟩ := hQ37
      have N37 := Fr.app N36 Nq37
      refine own_gs st37 ?_
      show own_Fin p e below (T37.setTop (mkF m 103 #[vi p0, vi p1, vi p2, vi p3, vi p4, vi c11, vi c13, vi c15, vi c17, vi (1 : Int32), vr a19, vr a21, vr b24, vr b27, vi (1 : Int32)] [(.ref a19)])) _
      refine own_gs (cur' := T37.setTop (mkF m 105 #[vi p0, vi p1, vi p2, vi p3, vi p4, vi c11, vi c13, vi c15, vi c17, vi (1 : Int32), vr a19, vr a21, vr b24, vr b27, vi (1 : Int32)] [(.ref a19), (.ref a19)])) ?_ ?_
      · refine XS.aload X37.here hx rfl (hb hby at_103) rfl rfl ?_
        exact Steps.refl _
      obtain ⟨cq38, kq38, q38a, q38b, q38c⟩ := isOf hZ27 eh37 f32
      obtain ⟨_, _, ⟨T38, L38, k38, n38⟩, -, X38, ⟨Lc38, hQ38, l38, y38, z38⟩, st38⟩ := X37.virtualBack hx (y := own_n20) (z := own_n20) hown27 (mvT hZ27 (own_tw hw 93 rfl)) (mvT hZ27 (own_tw hw 94 rfl)) (notFace_of_selects (args := #[]) (mvT hZ27 (own_tw hw 96 rfl))) (mvT hZ27 (own_tw hw 96 rfl)) (mvT hZ27 (own_tw hw 95 rfl)) (by decide) (own_eqB (W := 0) hZ27 hw f29 f29 (O2.ext O28.2) P5 (by decide) (by decide)) q38a q38c (g := (mkF m 105 #[vi p0, vi p1, vi p2, vi p3, vi p4, vi c11, vi c13, vi c15, vi c17, vi (1 : Int32), vr a19, vr a21, vr b24, vr b27, vi (1 : Int32)] [(.ref a19), (.ref a19)])) rfl (by rw [hml]; rfl) (Steps.refl _) (argsL := [(.ref a19)]) (rest := []) (lenOf pd_10 rfl) rfl (own_le rfl) (hb hby at_105) (fun _ _ => ⟨rfl, eh37, (by decide : 20 + 0 ≤ 32), (by decide : 182 + 0 ≤ 2176)⟩)
      dsimp only [Pt.U, Pt.locs, Pt.cells, Pt.slots] at X38 l38 y38 z38 st38 hQ38
      subst l38 y38 z38
      obtain ⟨rfl, rfl, eh38⟩ := hQ38
      have N38 := Fr.app N37 (Fr.nil n0)
      refine own_gs st38 ?_
      show own_Fin p e below (T38.setTop (mkF m 108 #[vi p0, vi p1, vi p2, vi p3, vi p4, vi c11, vi c13, vi c15, vi c17, vi (1 : Int32), vr a19, vr a21, vr b24, vr b27, vi (1 : Int32)] [(.int (if ([c11] : List Int32) = [c11] then 1 else 0))])) _
      rw [if_pos rfl]
      show own_Fin p e below (T38.setTop (mkF m 108 #[vi p0, vi p1, vi p2, vi p3, vi p4, vi c11, vi c13, vi c15, vi c17, vi (1 : Int32), vr a19, vr a21, vr b24, vr b27, vi (1 : Int32)] [(.int (1 : Int32))])) _
      refine own_gs (cur' := T38.setTop (mkF m 115 #[vi p0, vi p1, vi p2, vi p3, vi p4, vi c11, vi c13, vi c15, vi c17, vi (1 : Int32), vr a19, vr a21, vr b24, vr b27, vi (1 : Int32)] [(.ref b27)])) ?_ ?_
      · refine XS.ifYes X38.here hx rfl (pc0 := 108) (pc' := 113) rfl (hb hby at_108) rfl ((if0 _ _).trans (feq ((by decide) : ¬ ((1 : Int32) = (0 : Int32)))).2) (by decide) (by decide) ?_
        refine XS.aload X38.here hx rfl (hb hby at_113) rfl rfl ?_
        exact Steps.refl _
      obtain ⟨cq39, kq39, q39a, q39b, q39c⟩ := isOf hZ27 eh38 E27
      obtain ⟨_, _, ⟨T39, L39, k39, n39⟩, -, X39, ⟨Lc39, hQ39, l39, y39, z39⟩, st39⟩ := X38.virtualBack hx (y := own_n17) (z := own_n17) hown27 (mvT hZ27 (own_tw hw 102 rfl)) (mvT hZ27 (own_tw hw 103 rfl)) (notFace_of_selects (args := #[]) (mvT hZ27 (own_tw hw 105 rfl))) (mvT hZ27 (own_tw hw 105 rfl)) (mvT hZ27 (own_tw hw 104 rfl)) (by decide) (backOf (W := 0) (own_val l Z a0 hW b27 a21 T27.heap n0 (by omega) O28 F27) hZ27 (own_tw hw 106 rfl) (own_tw hw 64 rfl) (by decide) (by decide)) q39a q39c (g := (mkF m 115 #[vi p0, vi p1, vi p2, vi p3, vi p4, vi c11, vi c13, vi c15, vi c17, vi (1 : Int32), vr a19, vr a21, vr b24, vr b27, vi (1 : Int32)] [(.ref b27)])) rfl (by rw [hml]; rfl) (Steps.refl _) (argsL := []) (rest := []) (lenOf pd_16 rfl) rfl (own_le rfl) (hb hby at_115) (fun _ _ => ⟨rfl, eh38, (by decide : 20 + 0 ≤ 32), (by decide : 182 + 0 ≤ 2176)⟩)
      dsimp only [Pt.U, Pt.locs, Pt.cells, Pt.slots] at X39 l39 y39 z39 st39 hQ39
      subst l39 y39 z39
      obtain ⟨rfl, Nq39, eh39⟩ := hQ39
      have N39 := Fr.app N38 Nq39
      refine own_gs st39 ?_
      show own_Fin p e below (T39.setTop (mkF m 118 #[vi p0, vi p1, vi p2, vi p3, vi p4, vi c11, vi c13, vi c15, vi c17, vi (1 : Int32), vr a19, vr a21, vr b24, vr b27, vi (1 : Int32)] [(.ref a21)])) _
      refine own_gs (cur' := T39.setTop (mkF m 120 #[vi p0, vi p1, vi p2, vi p3, vi p4, vi c11, vi c13, vi c15, vi c17, vi (1 : Int32), vr a19, vr a21, vr b24, vr b27, vi (1 : Int32)] [(.ref a21), (.ref a21)])) ?_ ?_
      · refine XS.aload X39.here hx rfl (hb hby at_118) rfl rfl ?_
        exact Steps.refl _
      have f41 := ((Ex21.keep Kq24).keep Kq27)
      obtain ⟨cq40, kq40, q40a, q40b, q40c⟩ := isOf hZ27 eh39 f41
      obtain ⟨_, _, ⟨T40, L40, k40, n40⟩, -, X40, ⟨Lc40, hQ40, l40, y40, z40⟩, st40⟩ := X39.virtualBack hx (y := own_n20) (z := own_n20) hown27 (mvT hZ27 (own_tw hw 93 rfl)) (mvT hZ27 (own_tw hw 94 rfl)) (notFace_of_selects (args := #[]) (mvT hZ27 (own_tw hw 96 rfl))) (mvT hZ27 (own_tw hw 96 rfl)) (mvT hZ27 (own_tw hw 95 rfl)) (by decide) (own_eqB (W := 0) hZ27 hw f30 f30 (O2.ext O28.2) P5 (by decide) (by decide)) q40a q40c (g := (mkF m 120 #[vi p0, vi p1, vi p2, vi p3, vi p4, vi c11, vi c13, vi c15, vi c17, vi (1 : Int32), vr a19, vr a21, vr b24, vr b27, vi (1 : Int32)] [(.ref a21), (.ref a21)])) rfl (by rw [hml]; rfl) (Steps.refl _) (argsL := [(.ref a21)]) (rest := []) (lenOf pd_10 rfl) rfl (own_le rfl) (hb hby at_120) (fun _ _ => ⟨rfl, eh39, (by decide : 20 + 0 ≤ 32), (by decide : 182 + 0 ≤ 2176)⟩)
      dsimp only [Pt.U, Pt.locs, Pt.cells, Pt.slots] at X40 l40 y40 z40 st40 hQ40
      subst l40 y40 z40
      obtain ⟨rfl, rfl, eh40⟩ := hQ40
      have N40 := Fr.app N39 (Fr.nil n0)
      refine own_gs st40 ?_
      show own_Fin p e below (T40.setTop (mkF m 123 #[vi p0, vi p1, vi p2, vi p3, vi p4, vi c11, vi c13, vi c15, vi c17, vi (1 : Int32), vr a19, vr a21, vr b24, vr b27, vi (1 : Int32)] [(.int (if ([c17] : List Int32) = [c17] then 1 else 0))])) _
      rw [if_pos rfl]
      show own_Fin p e below (T40.setTop (mkF m 123 #[vi p0, vi p1, vi p2, vi p3, vi p4, vi c11, vi c13, vi c15, vi c17, vi (1 : Int32), vr a19, vr a21, vr b24, vr b27, vi (1 : Int32)] [(.int (1 : Int32))])) _
      refine own_gs (cur' := T40.setTop (mkF m 132 #[vi p0, vi p1, vi p2, vi p3, vi p4, vi c11, vi c13, vi c15, vi c17, vi (1 : Int32), vr a19, vr a21, vr b24, vr b27, vi (1 : Int32)] [(.ref b27), (.ref b24)])) ?_ ?_
      · refine XS.ifYes X40.here hx rfl (pc0 := 123) (pc' := 128) rfl (hb hby at_123) rfl ((if0 _ _).trans (feq ((by decide) : ¬ ((1 : Int32) = (0 : Int32)))).2) (by decide) (by decide) ?_
        refine XS.aload X40.here hx rfl (hb hby at_128) rfl rfl ?_
        refine XS.aload X40.here hx rfl (hb hby at_130) rfl rfl ?_
        exact Steps.refl _
      obtain ⟨cq42, kq42, q42a, q42b, q42c⟩ := isOf hZ27 eh40 f35
      obtain ⟨_, _, ⟨T42, L42, k42, n42⟩, -, X42, ⟨Lc42, hQ42, l42, y42, z42⟩, st42⟩ := X40.virtualBack hx (y := own_n19) (z := own_n19) hown27 (mvT hZ27 (own_tw hw 112 rfl)) (mvT hZ27 (own_tw hw 113 rfl)) (notFace_of_selects (args := #[]) (mvT hZ27 (own_tw hw 115 rfl))) (mvT hZ27 (own_tw hw 115 rfl)) (mvT hZ27 (own_tw hw 114 rfl)) (by decide) (backOf (W := 0) (own_leq l Z a0 hW b24 b27 a19 a21 t19 t21 [c11] [c17] T27.heap n0 (by omega) O28 f35 f33 f29 E27 F27 f30) hZ27 (own_tw hw 116 rfl) (own_tw hw 64 rfl) (by decide) (by decide)) q42a q42c (g := (mkF m 132 #[vi p0, vi p1, vi p2, vi p3, vi p4, vi c11, vi c13, vi c15, vi c17, vi (1 : Int32), vr a19, vr a21, vr b24, vr b27, vi (1 : Int32)] [(.ref b27), (.ref b24)])) rfl (by rw [hml]; rfl) (Steps.refl _) (argsL := [(.ref b27)]) (rest := []) (lenOf pd_10 rfl) rfl (own_le rfl) (hb hby at_132) (fun _ _ => ⟨rfl, eh40, (by decide : 20 + 0 ≤ 32), (by decide : 182 + 0 ≤ 2176)⟩)
      dsimp only [Pt.U, Pt.locs, Pt.cells, Pt.slots] at X42 l42 y42 z42 st42 hQ42
      subst l42 y42 z42
      obtain ⟨rfl, Nq42, eh42⟩ := hQ42
      have N42 := Fr.app N40 Nq42
      refine own_gs st42 ?_
      show own_Fin p e below (T42.setTop (mkF m 135 #[vi p0, vi p1, vi p2, vi p3, vi p4, vi c11, vi c13, vi c15, vi c17, vi (1 : Int32), vr a19, vr a21, vr b24, vr b27, vi (1 : Int32)] [(.int (if ([c11] : List Int32) = [c17] then 1 else 0))])) _
      rw [if_pos hq]
      show own_Fin p e below (T42.setTop (mkF m 135 #[vi p0, vi p1, vi p2, vi p3, vi p4, vi c11, vi c13, vi c15, vi c17, vi (1 : Int32), vr a19, vr a21, vr b24, vr b27, vi (1 : Int32)] [(.int (1 : Int32))])) _
      have f43 := (((Fh19.keep Kq21 nin0).keep Kq24 nin0).keep Kq27 nin0)
      have f44 := (((Fz19.keep Kq21 nin0).keep Kq24 nin0).keep Kq27 nin0)
      have f45 := (((Eb19.keep Kq21).keep Kq24).keep Kq27)
      refine own_gs (cur' := T42.setTop (mkF m 149 #[vi p0, vi p1, vi p2, vi p3, vi p4, vi c11, vi c13, vi c15, vi c17, vi (1 : Int32), vr a19, vr a21, vr b24, vr b27, vi (1 : Int32)] [(.ref b24)])) ?_ ?_
      · refine XS.iload X42.here hx rfl (hb hby at_135) rfl ?_
        refine XS.icmpYes X42.here hx rfl (pc0 := 137) (pc' := 142) rfl (hb hby at_137) rfl (teq ((by decide) : (1 : Int32) = (1 : Int32))).1 (by decide) (by decide) ?_
        refine XS.iload X42.here hx rfl (hb hby at_142) rfl ?_
        refine XS.ifNo X42.here hx rfl (hb hby at_144) rfl ((if0 _ _).trans (feq ((by decide) : ¬ ((1 : Int32) = (0 : Int32)))).1) ?_
        refine XS.aload X42.here hx rfl (hb hby at_147) rfl rfl ?_
        exact Steps.refl _
      have f47 := (CHr.safe hC27 (own_lt (by omega)) (CHr.safe hC24 (own_lt (by omega)) (Safe.keep Kq21 all0 CH20.1 Sf19)))
      obtain ⟨cq46, kq46, q46a, q46b, q46c⟩ := isOf hZ27 eh42 f35
      obtain ⟨_, _, ⟨T46, L46, k46, n46⟩, -, X46, ⟨Lc46, hQ46, l46, y46, z46⟩, st46⟩ := X42.virtualBack hx (y := own_n25) (z := own_n25) hown27 (mvT hZ27 (own_tw hw 147 rfl)) (mvT hZ27 (own_tw hw 148 rfl)) (notFace_of_selects (args := #[]) (mvT hZ27 (own_tw hw 150 rfl))) (mvT hZ27 (own_tw hw 150 rfl)) (mvT hZ27 (own_tw hw 149 rfl)) (by decide) (backOf (W := 0) (own_lhc_k1 l Z a0 hW b24 a19 t19 c11 T27.heap n0 (by omega) O28 f33 f29 f43 f44 f45 (by omega) hc11) hZ27 (own_tw hw 151 rfl) (own_tw hw 64 rfl) (by decide) (by decide)) q46a q46c (g := (mkF m 149 #[vi p0, vi p1, vi p2, vi p3, vi p4, vi c11, vi c13, vi c15, vi c17, vi (1 : Int32), vr a19, vr a21, vr b24, vr b27, vi (1 : Int32)] [(.ref b24)])) rfl (by rw [hml]; rfl) (Steps.refl _) (argsL := []) (rest := []) (lenOf pd_6 rfl) rfl (own_le rfl) (hb hby at_149) (fun _ _ => ⟨rfl, eh42, (by decide : 20 + 0 ≤ 32), (by decide : 182 + 0 ≤ 2176)⟩)
      dsimp only [Pt.U, Pt.locs, Pt.cells, Pt.slots] at X46 l46 y46 z46 st46 hQ46
      subst l46 y46 z46
      obtain ⟨rfl, Nq46, Kq46⟩ := hQ46
      have N46 := Fr.app N42 Nq46
      have z48 := Kq46.1
      have K48 := K28.trans Kq46 (allS (Or.inr (by omega)) all0)
      have O48 := O28.keep Kq46 (allS (by omega) all0)
      have CH48 := CH28.trans (CHr.keep Kq46 (allS f47 all0) CH28.1)
      refine own_gs st46 ?_
      show own_Fin p e below (T46.setTop (mkF m 152 #[vi p0, vi p1, vi p2, vi p3, vi p4, vi c11, vi c13, vi c15, vi c17, vi (1 : Int32), vr a19, vr a21, vr b24, vr b27, vi (1 : Int32)] [(.int (own_hash [c11]))])) _
      have f49 := (F27.keep Kq46 (ninS (own_ne (a := b27) (b := a19) (by omega)) nin0))
      have f50 := (f30.keep Kq46 (ninS (own_ne (a := a21) (b := a19) (by omega)) nin0) (ninS (own_ne (a := t21) (b := a19) (by omega)) nin0))
      have f51 := (((Fh21.keep Kq24 nin0).keep Kq27 nin0).keep Kq46 (ninS (own_ne (a := a21) (b := a19) (by omega)) nin0))
      have f52 := (((Fz21.keep Kq24 nin0).keep Kq27 nin0).keep Kq46 (ninS (own_ne (a := a21) (b := a19) (by omega)) nin0))
      have f53 := (((Eb21.keep Kq24).keep Kq27).keep Kq46)
      refine own_gs (cur' := T46.setTop (mkF m 154 #[vi p0, vi p1, vi p2, vi p3, vi p4, vi c11, vi c13, vi c15, vi c17, vi (1 : Int32), vr a19, vr a21, vr b24, vr b27, vi (1 : Int32)] [(.ref b27), (.int (own_hash [c11]))])) ?_ ?_
      · refine XS.aload X46.here hx rfl (hb hby at_152) rfl rfl ?_
        exact Steps.refl _
      have f55 := (Safe.keep Kq46 (allS f47 all0) CH28.1 (CHr.safe hC27 (own_lt (by omega)) (CHr.safe hC24 (own_lt (by omega)) Sf21)))
      have f56 := (E27.keep Kq46)
      obtain ⟨cq54, kq54, q54a, q54b, q54c⟩ := isOf hZ27 rfl f56
      obtain ⟨_, _, ⟨T54, L54, k54, n54⟩, -, X54, ⟨Lc54, hQ54, l54, y54, z54⟩, st54⟩ := X46.virtualBack hx (y := own_n25) (z := own_n25) hown27 (mvT hZ27 (own_tw hw 147 rfl)) (mvT hZ27 (own_tw hw 148 rfl)) (notFace_of_selects (args := #[]) (mvT hZ27 (own_tw hw 150 rfl))) (mvT hZ27 (own_tw hw 150 rfl)) (mvT hZ27 (own_tw hw 149 rfl)) (by decide) (backOf (W := 1) (own_lhc_k1 l Z a0 hW b27 a21 t21 c17 T46.heap n0 (by omega) O48 f49 f50 f51 f52 f53 (by omega) hc17) hZ27 (own_tw hw 151 rfl) (own_tw hw 64 rfl) (by decide) (by decide)) q54a q54c (g := (mkF m 154 #[vi p0, vi p1, vi p2, vi p3, vi p4, vi c11, vi c13, vi c15, vi c17, vi (1 : Int32), vr a19, vr a21, vr b24, vr b27, vi (1 : Int32)] [(.ref b27), (.int (own_hash [c11]))])) rfl (by rw [hml]; rfl) (Steps.refl _) (argsL := []) (rest := [(.int (own_hash [c11]))]) (lenOf pd_6 rfl) rfl (own_le rfl) (hb hby at_154) (fun _ _ => ⟨rfl, rfl, (by decide : 20 + 0 ≤ 32), (by decide : 182 + 0 ≤ 2176)⟩)
      dsimp only [Pt.U, Pt.locs, Pt.cells, Pt.slots] at X54 l54 y54 z54 st54 hQ54
      subst l54 y54 z54
      obtain ⟨rfl, Nq54, Kq54⟩ := hQ54
      have N54 := Fr.app N46 Nq54
      have z57 := Kq54.1
      have K57 := K48.trans Kq54 (allS (Or.inr (by omega)) all0)
      have O57 := O48.keep Kq54 (allS (by omega) all0)
      have CH57 := CH48.trans (CHr.keep Kq54 (allS f55 all0) CH48.1)
      refine own_gs st54 ?_
      show own_Fin p e below (T54.setTop (mkF m 157 #[vi p0, vi p1, vi p2, vi p3, vi p4, vi c11, vi c13, vi c15, vi c17, vi (1 : Int32), vr a19, vr a21, vr b24, vr b27, vi (1 : Int32)] [(.int (own_hash [c17])), (.int (own_hash [c11]))])) _
      refine own_gs (cur' := T54.setTop (mkF m 163 #[vi p0, vi p1, vi p2, vi p3, vi p4, vi c11, vi c13, vi c15, vi c17, vi (1 : Int32), vr a19, vr a21, vr b24, vr b27, vi (1 : Int32)] [(.int (1 : Int32))])) ?_ ?_
      · refine XS.icmpYes X54.here hx rfl (pc0 := 157) (pc' := 162) rfl (hb hby at_157) rfl (teq ((congrArg own_hash hq) : (own_hash [c11]) = (own_hash [c17]))).1 (by decide) (by decide) ?_
        refine XS.iconst X54.here hx rfl (hb hby at_162) ?_
        exact Steps.refl _
      obtain ⟨fs, hr, hrun, hended, hRE⟩ := X54.leaveW hS27 (show T27.heap.size ≤ T54.heap.size by omega) (v := (some (.int (1 : Int32)))) (fun h => by rw [Bd.returns] at h; cases h)
      refine ⟨_, _, retN X54 hx (t := .boolean) Bd.returns (by simp) (hb hby at_163) hr, hrun, hended, _, _, rfl, ?_, ?_, hRE.1, hRE.2.1, hRE.2.2.1, hRE.2.2.2.mono (own_le rfl) (own_le rfl)⟩
      · show own_law_Q Z p0 p1 p2 p3 p4 h0 n0 (some (.int (1 : Int32))) T54.heap _
        exact ⟨rfl, N54⟩
      · have hfin := CH57.trans (CHv.at X54 hZ27 hEL CH57.1)
        rw [hh]
        show CHr Z own_EL s.vm h0 T54.vm T54.heap
        exact hfin
    · rw [if_neg hq]
      show own_Fin p e below (T31.setTop (mkF m 81 #[vi p0, vi p1, vi p2, vi p3, vi p4, vi c11, vi c13, vi c15, vi c17, vi (1 : Int32), vr a19, vr a21, vr b24, vr b27, uu] [(.int (0 : Int32))])) _
      have f58 := (F24.keep Kq27 nin0)
      refine own_gs (cur' := T31.setTop (mkF m 85 #[vi p0, vi p1, vi p2, vi p3, vi p4, vi c11, vi c13, vi c15, vi c17, vi (1 : Int32), vr a19, vr a21, vr b24, vr b27, vi (0 : Int32)] [(.ref b24)])) ?_ ?_
      · refine XS.istore X31.here hx rfl (hb hby at_81) rfl (l' := #[vi p0, vi p1, vi p2, vi p3, vi p4, vi c11, vi c13, vi c15, vi c17, vi (1 : Int32), vr a19, vr a21, vr b24, vr b27, vi (0 : Int32)]) rfl ?_
        refine XS.aload X31.here hx rfl (hb hby at_83) rfl rfl ?_
        exact Steps.refl _
      have f60 := (E24.keep Kq27)
      obtain ⟨cq59, kq59, q59a, q59b, q59c⟩ := isOf hZ27 eh31 f60
      obtain ⟨_, _, ⟨T59, L59, k59, n59⟩, -, X59, ⟨Lc59, hQ59, l59, y59, z59⟩, st59⟩ := X31.virtualBack hx (y := own_n17) (z := own_n17) hown27 (mvT hZ27 (own_tw hw 102 rfl)) (mvT hZ27 (own_tw hw 103 rfl)) (notFace_of_selects (args := #[]) (mvT hZ27 (own_tw hw 105 rfl))) (mvT hZ27 (own_tw hw 105 rfl)) (mvT hZ27 (own_tw hw 104 rfl)) (by decide) (backOf (W := 0) (own_val l Z a0 hW b24 a19 T27.heap n0 (by omega) O28 f58) hZ27 (own_tw hw 106 rfl) (own_tw hw 64 rfl) (by decide) (by decide)) q59a q59c (g := (mkF m 85 #[vi p0, vi p1, vi p2, vi p3, vi p4, vi c11, vi c13, vi c15, vi c17, vi (1 : Int32), vr a19, vr a21, vr b24, vr b27, vi (0 : Int32)] [(.ref b24)])) rfl (by rw [hml]; rfl) (Steps.refl _) (argsL := []) (rest := []) (lenOf pd_16 rfl) rfl (own_le rfl) (hb hby at_85) (fun _ _ => ⟨rfl, eh31, (by decide : 20 + 0 ≤ 32), (by decide : 182 + 0 ≤ 2176)⟩)
      dsimp only [Pt.U, Pt.locs, Pt.cells, Pt.slots] at X59 l59 y59 z59 st59 hQ59
      subst l59 y59 z59
      obtain ⟨rfl, Nq59, eh59⟩ := hQ59
      have N59 := Fr.app N31 Nq59
      refine own_gs st59 ?_
      show own_Fin p e below (T59.setTop (mkF m 88 #[vi p0, vi p1, vi p2, vi p3, vi p4, vi c11, vi c13, vi c15, vi c17, vi (1 : Int32), vr a19, vr a21, vr b24, vr b27, vi (0 : Int32)] [(.ref a19)])) _
      refine own_gs (cur' := T59.setTop (mkF m 90 #[vi p0, vi p1, vi p2, vi p3, vi p4, vi c11, vi c13, vi c15, vi c17, vi (1 : Int32), vr a19, vr a21, vr b24, vr b27, vi (0 : Int32)] [(.ref a19), (.ref a19)])) ?_ ?_
      · refine XS.aload X59.here hx rfl (hb hby at_88) rfl rfl ?_
        exact Steps.refl _
      obtain ⟨cq61, kq61, q61a, q61b, q61c⟩ := isOf hZ27 eh59 f32
      obtain ⟨_, _, ⟨T61, L61, k61, n61⟩, -, X61, ⟨Lc61, hQ61, l61, y61, z61⟩, st61⟩ := X59.virtualBack hx (y := own_n20) (z := own_n20) hown27 (mvT hZ27 (own_tw hw 93 rfl)) (mvT hZ27 (own_tw hw 94 rfl)) (notFace_of_selects (args := #[]) (mvT hZ27 (own_tw hw 96 rfl))) (mvT hZ27 (own_tw hw 96 rfl)) (mvT hZ27 (own_tw hw 95 rfl)) (by decide) (own_eqB (W := 0) hZ27 hw f29 f29 (O2.ext O28.2) P5 (by decide) (by decide)) q61a q61c (g := (mkF m 90 #[vi p0, vi p1, vi p2, vi p3, vi p4, vi c11, vi c13, vi c15, vi c17, vi (1 : Int32), vr a19, vr a21, vr b24, vr b27, vi (0 : Int32)] [(.ref a19), (.ref a19)])) rfl (by rw [hml]; rfl) (Steps.refl _) (argsL := [(.ref a19)]) (rest := []) (lenOf pd_10 rfl) rfl (own_le rfl) (hb hby at_90) (fun _ _ => ⟨rfl, eh59, (by decide : 20 + 0 ≤ 32), (by decide : 182 + 0 ≤ 2176)⟩)
      dsimp only [Pt.U, Pt.locs, Pt.cells, Pt.slots] at X61 l61 y61 z61 st61 hQ61
      subst l61 y61 z61
      obtain ⟨rfl, rfl, eh61⟩ := hQ61
      have N61 := Fr.app N59 (Fr.nil n0)
      refine own_gs st61 ?_
      show own_Fin p e below (T61.setTop (mkF m 93 #[vi p0, vi p1, vi p2, vi p3, vi p4, vi c11, vi c13, vi c15, vi c17, vi (1 : Int32), vr a19, vr a21, vr b24, vr b27, vi (0 : Int32)] [(.int (if ([c11] : List Int32) = [c11] then 1 else 0))])) _
      rw [if_pos rfl]
      show own_Fin p e below (T61.setTop (mkF m 93 #[vi p0, vi p1, vi p2, vi p3, vi p4, vi c11, vi c13, vi c15, vi c17, vi (1 : Int32), vr a19, vr a21, vr b24, vr b27, vi (0 : Int32)] [(.int (1 : Int32))])) _
      refine own_gs (cur' := T61.setTop (mkF m 100 #[vi p0, vi p1, vi p2, vi p3, vi p4, vi c11, vi c13, vi c15, vi c17, vi (1 : Int32), vr a19, vr a21, vr b24, vr b27, vi (0 : Int32)] [(.ref b24)])) ?_ ?_
      · refine XS.ifYes X61.here hx rfl (pc0 := 93) (pc' := 98) rfl (hb hby at_93) rfl ((if0 _ _).trans (feq ((by decide) : ¬ ((1 : Int32) = (0 : Int32)))).2) (by decide) (by decide) ?_
        refine XS.aload X61.here hx rfl (hb hby at_98) rfl rfl ?_
        exact Steps.refl _
      obtain ⟨cq62, kq62, q62a, q62b, q62c⟩ := isOf hZ27 eh61 f60
      obtain ⟨_, _, ⟨T62, L62, k62, n62⟩, -, X62, ⟨Lc62, hQ62, l62, y62, z62⟩, st62⟩ := X61.virtualBack hx (y := own_n18) (z := own_n18) hown27 (mvT hZ27 (own_tw hw 107 rfl)) (mvT hZ27 (own_tw hw 108 rfl)) (notFace_of_selects (args := #[]) (mvT hZ27 (own_tw hw 110 rfl))) (mvT hZ27 (own_tw hw 110 rfl)) (mvT hZ27 (own_tw hw 109 rfl)) (by decide) (backOf (W := 0) (own_tos l Z a0 hW b24 a19 T27.heap n0 (by omega) O28 f58) hZ27 (own_tw hw 111 rfl) (own_tw hw 64 rfl) (by decide) (by decide)) q62a q62c (g := (mkF m 100 #[vi p0, vi p1, vi p2, vi p3, vi p4, vi c11, vi c13, vi c15, vi c17, vi (1 : Int32), vr a19, vr a21, vr b24, vr b27, vi (0 : Int32)] [(.ref b24)])) rfl (by rw [hml]; rfl) (Steps.refl _) (argsL := []) (rest := []) (lenOf pd_16 rfl) rfl (own_le rfl) (hb hby at_100) (fun _ _ => ⟨rfl, eh61, (by decide : 20 + 0 ≤ 32), (by decide : 182 + 0 ≤ 2176)⟩)
      dsimp only [Pt.U, Pt.locs, Pt.cells, Pt.slots] at X62 l62 y62 z62 st62 hQ62
      subst l62 y62 z62
      obtain ⟨rfl, Nq62, eh62⟩ := hQ62
      have N62 := Fr.app N61 Nq62
      refine own_gs st62 ?_
      show own_Fin p e below (T62.setTop (mkF m 103 #[vi p0, vi p1, vi p2, vi p3, vi p4, vi c11, vi c13, vi c15, vi c17, vi (1 : Int32), vr a19, vr a21, vr b24, vr b27, vi (0 : Int32)] [(.ref a19)])) _
      refine own_gs (cur' := T62.setTop (mkF m 105 #[vi p0, vi p1, vi p2, vi p3, vi p4, vi c11, vi c13, vi c15, vi c17, vi (1 : Int32), vr a19, vr a21, vr b24, vr b27, vi (0 : Int32)] [(.ref a19), (.ref a19)])) ?_ ?_
      · refine XS.aload X62.here hx rfl (hb hby at_103) rfl rfl ?_
        exact Steps.refl _
      obtain ⟨cq63, kq63, q63a, q63b, q63c⟩ := isOf hZ27 eh62 f32
      obtain ⟨_, _, ⟨T63, L63, k63, n63⟩, -, X63, ⟨Lc63, hQ63, l63, y63, z63⟩, st63⟩ := X62.virtualBack hx (y := own_n20) (z := own_n20) hown27 (mvT hZ27 (own_tw hw 93 rfl)) (mvT hZ27 (own_tw hw 94 rfl)) (notFace_of_selects (args := #[]) (mvT hZ27 (own_tw hw 96 rfl))) (mvT hZ27 (own_tw hw 96 rfl)) (mvT hZ27 (own_tw hw 95 rfl)) (by decide) (own_eqB (W := 0) hZ27 hw f29 f29 (O2.ext O28.2) P5 (by decide) (by decide)) q63a q63c (g := (mkF m 105 #[vi p0, vi p1, vi p2, vi p3, vi p4, vi c11, vi c13, vi c15, vi c17, vi (1 : Int32), vr a19, vr a21, vr b24, vr b27, vi (0 : Int32)] [(.ref a19), (.ref a19)])) rfl (by rw [hml]; rfl) (Steps.refl _) (argsL := [(.ref a19)]) (rest := []) (lenOf pd_10 rfl) rfl (own_le rfl) (hb hby at_105) (fun _ _ => ⟨rfl, eh62, (by decide : 20 + 0 ≤ 32), (by decide : 182 + 0 ≤ 2176)⟩)
      dsimp only [Pt.U, Pt.locs, Pt.cells, Pt.slots] at X63 l63 y63 z63 st63 hQ63
      subst l63 y63 z63
      obtain ⟨rfl, rfl, eh63⟩ := hQ63
      have N63 := Fr.app N62 (Fr.nil n0)
      refine own_gs st63 ?_
      show own_Fin p e below (T63.setTop (mkF m 108 #[vi p0, vi p1, vi p2, vi p3, vi p4, vi c11, vi c13, vi c15, vi c17, vi (1 : Int32), vr a19, vr a21, vr b24, vr b27, vi (0 : Int32)] [(.int (if ([c11] : List Int32) = [c11] then 1 else 0))])) _
      rw [if_pos rfl]
      show own_Fin p e below (T63.setTop (mkF m 108 #[vi p0, vi p1, vi p2, vi p3, vi p4, vi c11, vi c13, vi c15, vi c17, vi (1 : Int32), vr a19, vr a21, vr b24, vr b27, vi (0 : Int32)] [(.int (1 : Int32))])) _
      refine own_gs (cur' := T63.setTop (mkF m 115 #[vi p0, vi p1, vi p2, vi p3, vi p4, vi c11, vi c13, vi c15, vi c17, vi (1 : Int32), vr a19, vr a21, vr b24, vr b27, vi (0 : Int32)] [(.ref b27)])) ?_ ?_
      · refine XS.ifYes X63.here hx rfl (pc0 := 108) (pc' := 113) rfl (hb hby at_108) rfl ((if0 _ _).trans (feq ((by decide) : ¬ ((1 : Int32) = (0 : Int32)))).2) (by decide) (by decide) ?_
        refine XS.aload X63.here hx rfl (hb hby at_113) rfl rfl ?_
        exact Steps.refl _
      obtain ⟨cq64, kq64, q64a, q64b, q64c⟩ := isOf hZ27 eh63 E27
      obtain ⟨_, _, ⟨T64, L64, k64, n64⟩, -, X64, ⟨Lc64, hQ64, l64, y64, z64⟩, st64⟩ := X63.virtualBack hx (y := own_n17) (z := own_n17) hown27 (mvT hZ27 (own_tw hw 102 rfl)) (mvT hZ27 (own_tw hw 103 rfl)) (notFace_of_selects (args := #[]) (mvT hZ27 (own_tw hw 105 rfl))) (mvT hZ27 (own_tw hw 105 rfl)) (mvT hZ27 (own_tw hw 104 rfl)) (by decide) (backOf (W := 0) (own_val l Z a0 hW b27 a21 T27.heap n0 (by omega) O28 F27) hZ27 (own_tw hw 106 rfl) (own_tw hw 64 rfl) (by decide) (by decide)) q64a q64c (g := (mkF m 115 #[vi p0, vi p1, vi p2, vi p3, vi p4, vi c11, vi c13, vi c15, vi c17, vi (1 : Int32), vr a19, vr a21, vr b24, vr b27, vi (0 : Int32)] [(.ref b27)])) rfl (by rw [hml]; rfl) (Steps.refl _) (argsL := []) (rest := []) (lenOf pd_16 rfl) rfl (own_le rfl) (hb hby at_115) (fun _ _ => ⟨rfl, eh63, (by decide : 20 + 0 ≤ 32), (by decide : 182 + 0 ≤ 2176)⟩)
      dsimp only [Pt.U, Pt.locs, Pt.cells, Pt.slots] at X64 l64 y64 z64 st64 hQ64
      subst l64 y64 z64
      obtain ⟨rfl, Nq64, eh64⟩ := hQ64
      have N64 := Fr.app N63 Nq64
      refine own_gs st64 ?_
      show own_Fin p e below (T64.setTop (mkF m 118 #[vi p0, vi p1, vi p2, vi p3, vi p4, vi c11, vi c13, vi c15, vi c17, vi (1 : Int32), vr a19, vr a21, vr b24, vr b27, vi (0 : Int32)] [(.ref a21)])) _
      refine own_gs (cur' := T64.setTop (mkF m 120 #[vi p0, vi p1, vi p2, vi p3, vi p4, vi c11, vi c13, vi c15, vi c17, vi (1 : Int32), vr a19, vr a21, vr b24, vr b27, vi (0 : Int32)] [(.ref a21), (.ref a21)])) ?_ ?_
      · refine XS.aload X64.here hx rfl (hb hby at_118) rfl rfl ?_
        exact Steps.refl _
      have f66 := ((Ex21.keep Kq24).keep Kq27)
      obtain ⟨cq65, kq65, q65a, q65b, q65c⟩ := isOf hZ27 eh64 f66
      obtain ⟨_, _, ⟨T65, L65, k65, n65⟩, -, X65, ⟨Lc65, hQ65, l65, y65, z65⟩, st65⟩ := X64.virtualBack hx (y := own_n20) (z := own_n20) hown27 (mvT hZ27 (own_tw hw 93 rfl)) (mvT hZ27 (own_tw hw 94 rfl)) (notFace_of_selects (args := #[]) (mvT hZ27 (own_tw hw 96 rfl))) (mvT hZ27 (own_tw hw 96 rfl)) (mvT hZ27 (own_tw hw 95 rfl)) (by decide) (own_eqB (W := 0) hZ27 hw f30 f30 (O2.ext O28.2) P5 (by decide) (by decide)) q65a q65c (g := (mkF m 120 #[vi p0, vi p1, vi p2, vi p3, vi p4, vi c11, vi c13, vi c15, vi c17, vi (1 : Int32), vr a19, vr a21, vr b24, vr b27, vi (0 : Int32)] [(.ref a21), (.ref a21)])) rfl (by rw [hml]; rfl) (Steps.refl _) (argsL := [(.ref a21)]) (rest := []) (lenOf pd_10 rfl) rfl (own_le rfl) (hb hby at_120) (fun _ _ => ⟨rfl, eh64, (by decide : 20 + 0 ≤ 32), (by decide : 182 + 0 ≤ 2176)⟩)
      dsimp only [Pt.U, Pt.locs, Pt.cells, Pt.slots] at X65 l65 y65 z65 st65 hQ65
      subst l65 y65 z65
      obtain ⟨rfl, rfl, eh65⟩ := hQ65
      have N65 := Fr.app N64 (Fr.nil n0)
      refine own_gs st65 ?_
      show own_Fin p e below (T65.setTop (mkF m 123 #[vi p0, vi p1, vi p2, vi p3, vi p4, vi c11, vi c13, vi c15, vi c17, vi (1 : Int32), vr a19, vr a21, vr b24, vr b27, vi (0 : Int32)] [(.int (if ([c17] : List Int32) = [c17] then 1 else 0))])) _
      rw [if_pos rfl]
      show own_Fin p e below (T65.setTop (mkF m 123 #[vi p0, vi p1, vi p2, vi p3, vi p4, vi c11, vi c13, vi c15, vi c17, vi (1 : Int32), vr a19, vr a21, vr b24, vr b27, vi (0 : Int32)] [(.int (1 : Int32))])) _
      refine own_gs (cur' := T65.setTop (mkF m 132 #[vi p0, vi p1, vi p2, vi p3, vi p4, vi c11, vi c13, vi c15, vi c17, vi (1 : Int32), vr a19, vr a21, vr b24, vr b27, vi (0 : Int32)] [(.ref b27), (.ref b24)])) ?_ ?_
      · refine XS.ifYes X65.here hx rfl (pc0 := 123) (pc' := 128) rfl (hb hby at_123) rfl ((if0 _ _).trans (feq ((by decide) : ¬ ((1 : Int32) = (0 : Int32)))).2) (by decide) (by decide) ?_
        refine XS.aload X65.here hx rfl (hb hby at_128) rfl rfl ?_
        refine XS.aload X65.here hx rfl (hb hby at_130) rfl rfl ?_
        exact Steps.refl _
      obtain ⟨cq67, kq67, q67a, q67b, q67c⟩ := isOf hZ27 eh65 f60
      obtain ⟨_, _, ⟨T67, L67, k67, n67⟩, -, X67, ⟨Lc67, hQ67, l67, y67, z67⟩, st67⟩ := X65.virtualBack hx (y := own_n19) (z := own_n19) hown27 (mvT hZ27 (own_tw hw 112 rfl)) (mvT hZ27 (own_tw hw 113 rfl)) (notFace_of_selects (args := #[]) (mvT hZ27 (own_tw hw 115 rfl))) (mvT hZ27 (own_tw hw 115 rfl)) (mvT hZ27 (own_tw hw 114 rfl)) (by decide) (backOf (W := 0) (own_leq l Z a0 hW b24 b27 a19 a21 t19 t21 [c11] [c17] T27.heap n0 (by omega) O28 f60 f58 f29 E27 F27 f30) hZ27 (own_tw hw 116 rfl) (own_tw hw 64 rfl) (by decide) (by decide)) q67a q67c (g := (mkF m 132 #[vi p0, vi p1, vi p2, vi p3, vi p4, vi c11, vi c13, vi c15, vi c17, vi (1 : Int32), vr a19, vr a21, vr b24, vr b27, vi (0 : Int32)] [(.ref b27), (.ref b24)])) rfl (by rw [hml]; rfl) (Steps.refl _) (argsL := [(.ref b27)]) (rest := []) (lenOf pd_10 rfl) rfl (own_le rfl) (hb hby at_132) (fun _ _ => ⟨rfl, eh65, (by decide : 20 + 0 ≤ 32), (by decide : 182 + 0 ≤ 2176)⟩)
      dsimp only [Pt.U, Pt.locs, Pt.cells, Pt.slots] at X67 l67 y67 z67 st67 hQ67
      subst l67 y67 z67
      obtain ⟨rfl, Nq67, eh67⟩ := hQ67
      have N67 := Fr.app N65 Nq67
      refine own_gs st67 ?_
      show own_Fin p e below (T67.setTop (mkF m 135 #[vi p0, vi p1, vi p2, vi p3, vi p4, vi c11, vi c13, vi c15, vi c17, vi (1 : Int32), vr a19, vr a21, vr b24, vr b27, vi (0 : Int32)] [(.int (if ([c11] : List Int32) = [c17] then 1 else 0))])) _
      rw [if_neg hq]
      show own_Fin p e below (T67.setTop (mkF m 135 #[vi p0, vi p1, vi p2, vi p3, vi p4, vi c11, vi c13, vi c15, vi c17, vi (1 : Int32), vr a19, vr a21, vr b24, vr b27, vi (0 : Int32)] [(.int (0 : Int32))])) _
      refine own_gs (cur' := T67.setTop (mkF m 163 #[vi p0, vi p1, vi p2, vi p3, vi p4, vi c11, vi c13, vi c15, vi c17, vi (1 : Int32), vr a19, vr a21, vr b24, vr b27, vi (0 : Int32)] [(.int (1 : Int32))])) ?_ ?_
      · refine XS.iload X67.here hx rfl (hb hby at_135) rfl ?_
        refine XS.icmpYes X67.here hx rfl (pc0 := 137) (pc' := 142) rfl (hb hby at_137) rfl (teq ((by decide) : (0 : Int32) = (0 : Int32))).1 (by decide) (by decide) ?_
        refine XS.iload X67.here hx rfl (hb hby at_142) rfl ?_
        refine XS.ifYes X67.here hx rfl (pc0 := 144) (pc' := 162) rfl (hb hby at_144) rfl ((if0 _ _).trans (teq ((by decide) : (0 : Int32) = (0 : Int32))).1) (by decide) (by decide) ?_
        refine XS.iconst X67.here hx rfl (hb hby at_162) ?_
        exact Steps.refl _
      obtain ⟨fs, hr, hrun, hended, hRE⟩ := X67.leaveW hS27 (show T27.heap.size ≤ T67.heap.size by rw [eh67]; omega) (v := (some (.int (1 : Int32)))) (fun h => by rw [Bd.returns] at h; cases h)
      refine ⟨_, _, retN X67 hx (t := .boolean) Bd.returns (by simp) (hb hby at_163) hr, hrun, hended, _, _, rfl, ?_, ?_, hRE.1, hRE.2.1, hRE.2.2.1, hRE.2.2.2.mono (own_le rfl) (own_le rfl)⟩
      · show own_law_Q Z p0 p1 p2 p3 p4 h0 n0 (some (.int (1 : Int32))) T67.heap _
        rw [eh67]
        exact ⟨rfl, N67⟩
      · have hfin := CH28.trans (CHv.at X67 hZ27 hEL CH28.1)
        rw [hh]
        show CHr Z own_EL s.vm h0 T67.vm T67.heap
        rw [eh67]
        exact hfin
  · rw [hn]
    show own_Fin p e below (T17.setTop (mkF m 32 #[vi p0, vi p1, vi p2, vi p3, vi p4, vi c11, vi c13, vi c15, vi c17, uu, uu, uu, uu, uu, uu] [(.int (2 : Int32))])) _
    refine own_gs (cur' := T17.setTop (mkF m 42 #[vi p0, vi p1, vi p2, vi p3, vi p4, vi c11, vi c13, vi c15, vi c17, vi (2 : Int32), uu, uu, uu, uu, uu] [(.int (2 : Int32)), (.int c15), (.int c13), (.int c11)])) ?_ ?_
    · refine XS.istore X17.here hx rfl (hb hby at_32) rfl (l' := #[vi p0, vi p1, vi p2, vi p3, vi p4, vi c11, vi c13, vi c15, vi c17, vi (2 : Int32), uu, uu, uu, uu, uu]) rfl ?_
      refine XS.iload X17.here hx rfl (hb hby at_34) rfl ?_
      refine XS.iload X17.here hx rfl (hb hby at_36) rfl ?_
      refine XS.iload X17.here hx rfl (hb hby at_38) rfl ?_
      refine XS.iload X17.here hx rfl (hb hby at_40) rfl ?_
      exact Steps.refl _
    obtain ⟨_, _, ⟨T68, L68, k68, n68⟩, -, X68, ⟨Lc68, hQ68, l68, y68, z68⟩, st68⟩ := Jvm.LawKit.callS X17 hx (y := own_n2) hown17 (mvT hZ17 (own_tw hw 37 rfl)) (mvT hZ17 (own_tw hw 38 rfl)) (mvT hZ17 (own_tw hw 2 rfl)) (mvT hZ17 (own_tw hw 39 rfl)) (by decide) (backOf (W := 0) (own_make2 l Z a0 hW c11 c13 c15 T17.heap n0 (by omega) O18 hc11 hc13 hc15) hZ17 (own_tw hw 39 rfl) (own_tw hw 2 rfl) (by decide) (by decide)) (g := (mkF m 42 #[vi p0, vi p1, vi p2, vi p3, vi p4, vi c11, vi c13, vi c15, vi c17, vi (2 : Int32), uu, uu, uu, uu, uu] [(.int (2 : Int32)), (.int c15), (.int c13), (.int c11)])) rfl (by rw [hml]; rfl) (argsL := [(.int c11), (.int c13), (.int c15), (.int (2 : Int32))]) (rest := []) (lenOf pd_14 rfl) rfl (own_le rfl) (hb hby at_42) (fun _ _ => ⟨rfl, rfl, (by decide : 8 + 3 ≤ 32), (by decide : 112 + 8 ≤ 2176)⟩)
    dsimp only [Pt.U, Pt.locs, Pt.cells, Pt.slots] at X68 l68 y68 z68 st68 hQ68
    subst l68 y68 z68
    obtain ⟨a68, t68, rfl, Nq68, Kq68, S68, Fh68, Fz68, Eb68, ga68, gt68⟩ := hQ68
    have N68 := Fr.app N17 Nq68
    have Sf68 := Safe.keep Kq68 all0 CH18.1 (Safe.new (by omega : T17.heap.size ≤ a68))
    have z69 := Kq68.1
    have K69 := K18.trans Kq68 all0
    have O69 := O18.keep Kq68 all0
    have CH69 := CH18.trans (CHr.keep Kq68 all0 CH18.1)
    have lt68 := S68.lt
    have Ex68 := S68.exa
    refine own_go st68 ?_
    show own_Fin p e below (T68.setTop (mkF m 45 #[vi p0, vi p1, vi p2, vi p3, vi p4, vi c11, vi c13, vi c15, vi c17, vi (2 : Int32), uu, uu, uu, uu, uu] [(.ref a68)])) _
    refine own_gs (cur' := T68.setTop (mkF m 55 #[vi p0, vi p1, vi p2, vi p3, vi p4, vi c11, vi c13, vi c15, vi c17, vi (2 : Int32), vr a68, uu, uu, uu, uu] [(.int (2 : Int32)), (.int c15), (.int c13), (.int c17)])) ?_ ?_
    · refine XS.astore X68.here hx rfl (hb hby at_45) rfl rfl (l' := #[vi p0, vi p1, vi p2, vi p3, vi p4, vi c11, vi c13, vi c15, vi c17, vi (2 : Int32), vr a68, uu, uu, uu, uu]) rfl ?_
      refine XS.iload X68.here hx rfl (hb hby at_47) rfl ?_
      refine XS.iload X68.here hx rfl (hb hby at_49) rfl ?_
      refine XS.iload X68.here hx rfl (hb hby at_51) rfl ?_
      refine XS.iload X68.here hx rfl (hb hby at_53) rfl ?_
      exact Steps.refl _
    obtain ⟨_, _, ⟨T70, L70, k70, n70⟩, -, X70, ⟨Lc70, hQ70, l70, y70, z70⟩, st70⟩ := Jvm.LawKit.callS X68 hx (y := own_n2) hown17 (mvT hZ17 (own_tw hw 37 rfl)) (mvT hZ17 (own_tw hw 38 rfl)) (mvT hZ17 (own_tw hw 2 rfl)) (mvT hZ17 (own_tw hw 39 rfl)) (by decide) (backOf (W := 0) (own_make2 l Z a0 hW c17 c13 c15 T68.heap n0 (by omega) O69 hc17 hc13 hc15) hZ17 (own_tw hw 39 rfl) (own_tw hw 2 rfl) (by decide) (by decide)) (g := (mkF m 55 #[vi p0, vi p1, vi p2, vi p3, vi p4, vi c11, vi c13, vi c15, vi c17, vi (2 : Int32), vr a68, uu, uu, uu, uu] [(.int (2 : Int32)), (.int c15), (.int c13), (.int c17)])) rfl (by rw [hml]; rfl) (argsL := [(.int c17), (.int c13), (.int c15), (.int (2 : Int32))]) (rest := []) (lenOf pd_14 rfl) rfl (own_le rfl) (hb hby at_55) (fun _ _ => ⟨rfl, rfl, (by decide : 11 + 3 ≤ 32), (by decide : 120 + 8 ≤ 2176)⟩)
    dsimp only [Pt.U, Pt.locs, Pt.cells, Pt.slots] at X70 l70 y70 z70 st70 hQ70
    subst l70 y70 z70
    obtain ⟨a70, t70, rfl, Nq70, Kq70, S70, Fh70, Fz70, Eb70, ga70, gt70⟩ := hQ70
    have N70 := Fr.app N68 Nq70
    have Sf70 := Safe.keep Kq70 all0 CH69.1 (Safe.new (by omega : T68.heap.size ≤ a70))
    have z71 := Kq70.1
    have K71 := K69.trans Kq70 all0
    have O71 := O69.keep Kq70 all0
    have CH71 := CH69.trans (CHr.keep Kq70 all0 CH69.1)
    have lt70 := S70.lt
    have Ex70 := S70.exa
    refine own_go st70 ?_
    show own_Fin p e below (T70.setTop (mkF m 58 #[vi p0, vi p1, vi p2, vi p3, vi p4, vi c11, vi c13, vi c15, vi c17, vi (2 : Int32), vr a68, uu, uu, uu, uu] [(.ref a70)])) _
    have f72 := (S68.keep Kq70 nin0 nin0)
    refine own_gs (cur' := T70.setTop (mkF m 62 #[vi p0, vi p1, vi p2, vi p3, vi p4, vi c11, vi c13, vi c15, vi c17, vi (2 : Int32), vr a68, vr a70, uu, uu, uu] [(.ref a68)])) ?_ ?_
    · refine XS.astore X70.here hx rfl (hb hby at_58) rfl rfl (l' := #[vi p0, vi p1, vi p2, vi p3, vi p4, vi c11, vi c13, vi c15, vi c17, vi (2 : Int32), vr a68, vr a70, uu, uu, uu]) rfl ?_
      refine XS.aload X70.here hx rfl (hb hby at_60) rfl rfl ?_
      exact Steps.refl _
    obtain ⟨_, _, ⟨T73, L73, k73, n73⟩, -, Xw73, hSw73, hgw73, ⟨Lc73, hQ73, l73, y73, z73, hC73⟩, st73⟩ := callSS X70 hx (y := own_n15) hown17 (mvT hZ17 (own_tw hw 62 rfl)) (mvT hZ17 (own_tw hw 63 rfl)) (mvT hZ17 (own_tw hw 64 rfl)) (mvT hZ17 (own_tw hw 65 rfl)) (by decide) (own_backS (W := 0) (own_of2 l Z a0 hW a68 t68 c11 c13 T70.heap n0 (by omega) O71 f72 hc11 hc13) hZ17 (own_tw hw 65 rfl) (own_tw hw 64 rfl) (by decide) (by decide) hEL CH71.1 all0) (g := (mkF m 62 #[vi p0, vi p1, vi p2, vi p3, vi p4, vi c11, vi c13, vi c15, vi c17, vi (2 : Int32), vr a68, vr a70, uu, uu, uu] [(.ref a68)])) rfl (by rw [hml]; rfl) (argsL := [(.ref a68)]) (rest := []) (lenOf pd_15 rfl) rfl (own_le rfl) (hb hby at_62) (fun _ _ => ⟨rfl, rfl, (by decide : 14 + 5 ≤ 32), (by decide : 128 + 57 ≤ 2176)⟩)
    dsimp only [Pt.U, Pt.locs, Pt.cells, Pt.slots] at Xw73 hSw73 hgw73 hC73 l73 y73 z73 st73 hQ73
    subst l73 y73 z73
    obtain ⟨X73, hS73, hZ73, hown73⟩ := rebS hS17 (show T17.heap.size ≤ T70.heap.size by omega) Xw73 hSw73 hgw73 hZ17 hown17
    obtain ⟨b73, rfl, Nq73, Kq73, E73, F73, gb73⟩ := hQ73
    have N73 := Fr.app N70 Nq73
    have z74 := Kq73.1
    have K74 := K71.trans Kq73 all0
    have O74 := O71.keep Kq73 all0
    have CH74 := CH71.trans hC73
    have lt73 := own_lt E73.lt
    refine own_gs st73 ?_
    show own_Fin p e below (T73.setTop (mkF m 65 #[vi p0, vi p1, vi p2, vi p3, vi p4, vi c11, vi c13, vi c15, vi c17, vi (2 : Int32), vr a68, vr a70, uu, uu, uu] [(.ref b73)])) _
    have f75 := (S70.keep Kq73 nin0 nin0)
    refine own_gs (cur' := T73.setTop (mkF m 69 #[vi p0, vi p1, vi p2, vi p3, vi p4, vi c11, vi c13, vi c15, vi c17, vi (2 : Int32), vr a68, vr a70, vr b73, uu, uu] [(.ref a70)])) ?_ ?_
    · refine XS.astore X73.here hx rfl (hb hby at_65) rfl rfl (l' := #[vi p0, vi p1, vi p2, vi p3, vi p4, vi c11, vi c13, vi c15, vi c17, vi (2 : Int32), vr a68, vr a70, vr b73, uu, uu]) rfl ?_
      refine XS.aload X73.here hx rfl (hb hby at_67) rfl rfl ?_
      exact Steps.refl _
    obtain ⟨_, _, ⟨T76, L76, k76, n76⟩, -, Xw76, hSw76, hgw76, ⟨Lc76, hQ76, l76, y76, z76, hC76⟩, st76⟩ := callSS X73 hx (y := own_n15) hown73 (mvT hZ73 (own_tw hw 62 rfl)) (mvT hZ73 (own_tw hw 63 rfl)) (mvT hZ73 (own_tw hw 64 rfl)) (mvT hZ73 (own_tw hw 65 rfl)) (by decide) (own_backS (W := 0) (own_of2 l Z a0 hW a70 t70 c17 c13 T73.heap n0 (by omega) O74 f75 hc17 hc13) hZ73 (own_tw hw 65 rfl) (own_tw hw 64 rfl) (by decide) (by decide) hEL CH74.1 all0) (g := (mkF m 69 #[vi p0, vi p1, vi p2, vi p3, vi p4, vi c11, vi c13, vi c15, vi c17, vi (2 : Int32), vr a68, vr a70, vr b73, uu, uu] [(.ref a70)])) rfl (by rw [hml]; rfl) (argsL := [(.ref a70)]) (rest := []) (lenOf pd_15 rfl) rfl (own_le rfl) (hb hby at_69) (fun _ _ => ⟨rfl, rfl, (by decide : 19 + 5 ≤ 32), (by decide : 185 + 57 ≤ 2176)⟩)
    dsimp only [Pt.U, Pt.locs, Pt.cells, Pt.slots] at Xw76 hSw76 hgw76 hC76 l76 y76 z76 st76 hQ76
    subst l76 y76 z76
    obtain ⟨X76, hS76, hZ76, hown76⟩ := rebS hS73 (show T73.heap.size ≤ T73.heap.size by omega) Xw76 hSw76 hgw76 hZ73 hown73
    obtain ⟨b76, rfl, Nq76, Kq76, E76, F76, gb76⟩ := hQ76
    have N76 := Fr.app N73 Nq76
    have z77 := Kq76.1
    have K77 := K74.trans Kq76 all0
    have O77 := O74.keep Kq76 all0
    have CH77 := CH74.trans hC76
    have lt76 := own_lt E76.lt
    refine own_gs st76 ?_
    show own_Fin p e below (T76.setTop (mkF m 72 #[vi p0, vi p1, vi p2, vi p3, vi p4, vi c11, vi c13, vi c15, vi c17, vi (2 : Int32), vr a68, vr a70, vr b73, uu, uu] [(.ref b76)])) _
    have f78 := ((f72.keep Kq73 nin0 nin0).keep Kq76 nin0 nin0)
    have f79 := (f75.keep Kq76 nin0 nin0)
    refine own_gs (cur' := T76.setTop (mkF m 78 #[vi p0, vi p1, vi p2, vi p3, vi p4, vi c11, vi c13, vi c15, vi c17, vi (2 : Int32), vr a68, vr a70, vr b73, vr b76, uu] [(.ref a70), (.ref a68)])) ?_ ?_
    · refine XS.astore X76.here hx rfl (hb hby at_72) rfl rfl (l' := #[vi p0, vi p1, vi p2, vi p3, vi p4, vi c11, vi c13, vi c15, vi c17, vi (2 : Int32), vr a68, vr a70, vr b73, vr b76, uu]) rfl ?_
      refine XS.aload X76.here hx rfl (hb hby at_74) rfl rfl ?_
      refine XS.aload X76.here hx rfl (hb hby at_76) rfl rfl ?_
      exact Steps.refl _
    have f81 := (((Ex68.keep Kq70).keep Kq73).keep Kq76)
    obtain ⟨cq80, kq80, q80a, q80b, q80c⟩ := isOf hZ76 rfl f81
    obtain ⟨_, _, ⟨T80, L80, k80, n80⟩, -, X80, ⟨Lc80, hQ80, l80, y80, z80⟩, st80⟩ := X76.virtualBack hx (y := own_n20) (z := own_n20) hown76 (mvT hZ76 (own_tw hw 93 rfl)) (mvT hZ76 (own_tw hw 94 rfl)) (notFace_of_selects (args := #[]) (mvT hZ76 (own_tw hw 96 rfl))) (mvT hZ76 (own_tw hw 96 rfl)) (mvT hZ76 (own_tw hw 95 rfl)) (by decide) (own_eqB (W := 0) hZ76 hw f78 f79 (O2.ext O77.2) P5 (by decide) (by decide)) q80a q80c (g := (mkF m 78 #[vi p0, vi p1, vi p2, vi p3, vi p4, vi c11, vi c13, vi c15, vi c17, vi (2 : Int32), vr a68, vr a70, vr b73, vr b76, uu] [(.ref a70), (.ref a68)])) rfl (by rw [hml]; rfl) (Steps.refl _) (argsL := [(.ref a70)]) (rest := []) (lenOf pd_10 rfl) rfl (own_le rfl) (hb hby at_78) (fun _ _ => ⟨rfl, rfl, (by decide : 24 + 0 ≤ 32), (by decide : 242 + 0 ≤ 2176)⟩)
    dsimp only [Pt.U, Pt.locs, Pt.cells, Pt.slots] at X80 l80 y80 z80 st80 hQ80
    subst l80 y80 z80
    obtain ⟨rfl, rfl, eh80⟩ := hQ80
    have N80 := Fr.app N76 (Fr.nil n0)
    refine own_gs st80 ?_
    show own_Fin p e below (T80.setTop (mkF m 81 #[vi p0, vi p1, vi p2, vi p3, vi p4, vi c11, vi c13, vi c15, vi c17, vi (2 : Int32), vr a68, vr a70, vr b73, vr b76, uu] [(.int (if ([c11, c13] : List Int32) = [c17, c13] then 1 else 0))])) _
    by_cases hq : ([c11, c13] : List Int32) = [c17, c13]
    · rw [if_pos hq]
      show own_Fin p e below (T80.setTop (mkF m 81 #[vi p0, vi p1, vi p2, vi p3, vi p4, vi c11, vi c13, vi c15, vi c17, vi (2 : Int32), vr a68, vr a70, vr b73, vr b76, uu] [(.int (1 : Int32))])) _
      have f82 := (F73.keep Kq76 nin0)
      refine own_gs (cur' := T80.setTop (mkF m 85 #[vi p0, vi p1, vi p2, vi p3, vi p4, vi c11, vi c13, vi c15, vi c17, vi (2 : Int32), vr a68, vr a70, vr b73, vr b76, vi (1 : Int32)] [(.ref b73)])) ?_ ?_
      · refine XS.istore X80.here hx rfl (hb hby at_81) rfl (l' := #[vi p0, vi p1, vi p2, vi p3, vi p4, vi c11, vi c13, vi c15, vi c17, vi (2 : Int32), vr a68, vr a70, vr b73, vr b76, vi (1 : Int32)]) rfl ?_
        refine XS.aload X80.here hx rfl (hb hby at_83) rfl rfl ?_
        exact Steps.refl _
      have f84 := (E73.keep Kq76)
      obtain ⟨cq83, kq83, q83a, q83b, q83c⟩ := isOf hZ76 eh80 f84
      obtain ⟨_, _, ⟨T83, L83, k83, n83⟩, -, X83, ⟨Lc83, hQ83, l83, y83, z83⟩, st83⟩ := X80.virtualBack hx (y := own_n17) (z := own_n17) hown76 (mvT hZ76 (own_tw hw 102 rfl)) (mvT hZ76 (own_tw hw 103 rfl)) (notFace_of_selects (args := #[]) (mvT hZ76 (own_tw hw 105 rfl))) (mvT hZ76 (own_tw hw 105 rfl)) (mvT hZ76 (own_tw hw 104 rfl)) (by decide) (backOf (W := 0) (own_val l Z a0 hW b73 a68 T76.heap n0 (by omega) O77 f82) hZ76 (own_tw hw 106 rfl) (own_tw hw 64 rfl) (by decide) (by decide)) q83a q83c (g := (mkF m 85 #[vi p0, vi p1, vi p2, vi p3, vi p4, vi c11, vi c13, vi c15, vi c17, vi (2 : Int32), vr a68, vr a70, vr b73, vr b76, vi (1 : Int32)] [(.ref b73)])) rfl (by rw [hml]; rfl) (Steps.refl _) (argsL := []) (rest := []) (lenOf pd_16 rfl) rfl (own_le rfl) (hb hby at_85) (fun _ _ => ⟨rfl, eh80, (by decide : 24 + 0 ≤ 32), (by decide : 242 + 0 ≤ 2176)⟩)
      dsimp only [Pt.U, Pt.locs, Pt.cells, Pt.slots] at X83 l83 y83 z83 st83 hQ83
      subst l83 y83 z83
      obtain ⟨rfl, Nq83, eh83⟩ := hQ83
      have N83 := Fr.app N80 Nq83
      refine own_gs st83 ?_
      show own_Fin p e below (T83.setTop (mkF m 88 #[vi p0, vi p1, vi p2, vi p3, vi p4, vi c11, vi c13, vi c15, vi c17, vi (2 : Int32), vr a68, vr a70, vr b73, vr b76, vi (1 : Int32)] [(.ref a68)])) _
      refine own_gs (cur' := T83.setTop (mkF m 90 #[vi p0, vi p1, vi p2, vi p3, vi p4, vi c11, vi c13, vi c15, vi c17, vi (2 : Int32), vr a68, vr a70, vr b73, vr b76, vi (1 : Int32)] [(.ref a68), (.ref a68)])) ?_ ?_
      · refine XS.aload X83.here hx rfl (hb hby at_88) rfl rfl ?_
        exact Steps.refl _
      obtain ⟨cq85, kq85, q85a, q85b, q85c⟩ := isOf hZ76 eh83 f81
      obtain ⟨_, _, ⟨T85, L85, k85, n85⟩, -, X85, ⟨Lc85, hQ85, l85, y85, z85⟩, st85⟩ := X83.virtualBack hx (y := own_n20) (z := own_n20) hown76 (mvT hZ76 (own_tw hw 93 rfl)) (mvT hZ76 (own_tw hw 94 rfl)) (notFace_of_selects (args := #[]) (mvT hZ76 (own_tw hw 96 rfl))) (mvT hZ76 (own_tw hw 96 rfl)) (mvT hZ76 (own_tw hw 95 rfl)) (by decide) (own_eqB (W := 0) hZ76 hw f78 f78 (O2.ext O77.2) P5 (by decide) (by decide)) q85a q85c (g := (mkF m 90 #[vi p0, vi p1, vi p2, vi p3, vi p4, vi c11, vi c13, vi c15, vi c17, vi (2 : Int32), vr a68, vr a70, vr b73, vr b76, vi (1 : Int32)] [(.ref a68), (.ref a68)])) rfl (by rw [hml]; rfl) (Steps.refl _) (argsL := [(.ref a68)]) (rest := []) (lenOf pd_10 rfl) rfl (own_le rfl) (hb hby at_90) (fun _ _ => ⟨rfl, eh83, (by decide : 24 + 0 ≤ 32), (by decide : 242 + 0 ≤ 2176)⟩)
      dsimp only [Pt.U, Pt.locs, Pt.cells, Pt.slots] at X85 l85 y85 z85 st85 hQ85
      subst l85 y85 z85
      obtain ⟨rfl, rfl, eh85⟩ := hQ85
      have N85 := Fr.app N83 (Fr.nil n0)
      refine own_gs st85 ?_
      show own_Fin p e below (T85.setTop (mkF m 93 #[vi p0, vi p1, vi p2, vi p3, vi p4, vi c11, vi c13, vi c15, vi c17, vi (2 : Int32), vr a68, vr a70, vr b73, vr b76, vi (1 : Int32)] [(.int (if ([c11, c13] : List Int32) = [c11, c13] then 1 else 0))])) _
      rw [if_pos rfl]
      show own_Fin p e below (T85.setTop (mkF m 93 #[vi p0, vi p1, vi p2, vi p3, vi p4, vi c11, vi c13, vi c15, vi c17, vi (2 : Int32), vr a68, vr a70, vr b73, vr b76, vi (1 : Int32)] [(.int (1 : Int32))])) _
      refine own_gs (cur' := T85.setTop (mkF m 100 #[vi p0, vi p1, vi p2, vi p3, vi p4, vi c11, vi c13, vi c15, vi c17, vi (2 : Int32), vr a68, vr a70, vr b73, vr b76, vi (1 : Int32)] [(.ref b73)])) ?_ ?_
      · refine XS.ifYes X85.here hx rfl (pc0 := 93) (pc' := 98) rfl (hb hby at_93) rfl ((if0 _ _).trans (feq ((by decide) : ¬ ((1 : Int32) = (0 : Int32)))).2) (by decide) (by decide) ?_
        refine XS.aload X85.here hx rfl (hb hby at_98) rfl rfl ?_
        exact Steps.refl _
      obtain ⟨cq86, kq86, q86a, q86b, q86c⟩ := isOf hZ76 eh85 f84
      obtain ⟨_, _, ⟨T86, L86, k86, n86⟩, -, X86, ⟨Lc86, hQ86, l86, y86, z86⟩, st86⟩ := X85.virtualBack hx (y := own_n18) (z := own_n18) hown76 (mvT hZ76 (own_tw hw 107 rfl)) (mvT hZ76 (own_tw hw 108 rfl)) (notFace_of_selects (args := #[]) (mvT hZ76 (own_tw hw 110 rfl))) (mvT hZ76 (own_tw hw 110 rfl)) (mvT hZ76 (own_tw hw 109 rfl)) (by decide) (backOf (W := 0) (own_tos l Z a0 hW b73 a68 T76.heap n0 (by omega) O77 f82) hZ76 (own_tw hw 111 rfl) (own_tw hw 64 rfl) (by decide) (by decide)) q86a q86c (g := (mkF m 100 #[vi p0, vi p1, vi p2, vi p3, vi p4, vi c11, vi c13, vi c15, vi c17, vi (2 : Int32), vr a68, vr a70, vr b73, vr b76, vi (1 : Int32)] [(.ref b73)])) rfl (by rw [hml]; rfl) (Steps.refl _) (argsL := []) (rest := []) (lenOf pd_16 rfl) rfl (own_le rfl) (hb hby at_100) (fun _ _ => ⟨rfl, eh85, (by decide : 24 + 0 ≤ 32), (by decide : 242 + 0 ≤ 2176)⟩)
      dsimp only [Pt.U, Pt.locs, Pt.cells, Pt.slots] at X86 l86 y86 z86 st86 hQ86
      subst l86 y86 z86
      obtain ⟨rfl, Nq86, eh86⟩ := hQ86
      have N86 := Fr.app N85 Nq86
      refine own_gs st86 ?_
      show own_Fin p e below (T86.setTop (mkF m 103 #[vi p0, vi p1, vi p2, vi p3, vi p4, vi c11, vi c13, vi c15, vi c17, vi (2 : Int32), vr a68, vr a70, vr b73, vr b76, vi (1 : Int32)] [(.ref a68)])) _
      refine own_gs (cur' := T86.setTop (mkF m 105 #[vi p0, vi p1, vi p2, vi p3, vi p4, vi c11, vi c13, vi c15, vi c17, vi (2 : Int32), vr a68, vr a70, vr b73, vr b76, vi (1 : Int32)] [(.ref a68), (.ref a68)])) ?_ ?_
      · refine XS.aload X86.here hx rfl (hb hby at_103) rfl rfl ?_
        exact Steps.refl _
      obtain ⟨cq87, kq87, q87a, q87b, q87c⟩ := isOf hZ76 eh86 f81
      obtain ⟨_, _, ⟨T87, L87, k87, n87⟩, -, X87, ⟨Lc87, hQ87, l87, y87, z87⟩, st87⟩ := X86.virtualBack hx (y := own_n20) (z := own_n20) hown76 (mvT hZ76 (own_tw hw 93 rfl)) (mvT hZ76 (own_tw hw 94 rfl)) (notFace_of_selects (args := #[]) (mvT hZ76 (own_tw hw 96 rfl))) (mvT hZ76 (own_tw hw 96 rfl)) (mvT hZ76 (own_tw hw 95 rfl)) (by decide) (own_eqB (W := 0) hZ76 hw f78 f78 (O2.ext O77.2) P5 (by decide) (by decide)) q87a q87c (g := (mkF m 105 #[vi p0, vi p1, vi p2, vi p3, vi p4, vi c11, vi c13, vi c15, vi c17, vi (2 : Int32), vr a68, vr a70, vr b73, vr b76, vi (1 : Int32)] [(.ref a68), (.ref a68)])) rfl (by rw [hml]; rfl) (Steps.refl _) (argsL := [(.ref a68)]) (rest := []) (lenOf pd_10 rfl) rfl (own_le rfl) (hb hby at_105) (fun _ _ => ⟨rfl, eh86, (by decide : 24 + 0 ≤ 32), (by decide : 242 + 0 ≤ 2176)⟩)
      dsimp only [Pt.U, Pt.locs, Pt.cells, Pt.slots] at X87 l87 y87 z87 st87 hQ87
      subst l87 y87 z87
      obtain ⟨rfl, rfl, eh87⟩ := hQ87
      have N87 := Fr.app N86 (Fr.nil n0)
      refine own_gs st87 ?_
      show own_Fin p e below (T87.setTop (mkF m 108 #[vi p0, vi p1, vi p2, vi p3, vi p4, vi c11, vi c13, vi c15, vi c17, vi (2 : Int32), vr a68, vr a70, vr b73, vr b76, vi (1 : Int32)] [(.int (if ([c11, c13] : List Int32) = [c11, c13] then 1 else 0))])) _
      rw [if_pos rfl]
      show own_Fin p e below (T87.setTop (mkF m 108 #[vi p0, vi p1, vi p2, vi p3, vi p4, vi c11, vi c13, vi c15, vi c17, vi (2 : Int32), vr a68, vr a70, vr b73, vr b76, vi (1 : Int32)] [(.int (1 : Int32))])) _
      refine own_gs (cur' := T87.setTop (mkF m 115 #[vi p0, vi p1, vi p2, vi p3, vi p4, vi c11, vi c13, vi c15, vi c17, vi (2 : Int32), vr a68, vr a70, vr b73, vr b76, vi (1 : Int32)] [(.ref b76)])) ?_ ?_
      · refine XS.ifYes X87.here hx rfl (pc0 := 108) (pc' := 113) rfl (hb hby at_108) rfl ((if0 _ _).trans (feq ((by decide) : ¬ ((1 : Int32) = (0 : Int32)))).2) (by decide) (by decide) ?_
        refine XS.aload X87.here hx rfl (hb hby at_113) rfl rfl ?_
        exact Steps.refl _
      obtain ⟨cq88, kq88, q88a, q88b, q88c⟩ := isOf hZ76 eh87 E76
      obtain ⟨_, _, ⟨T88, L88, k88, n88⟩, -, X88, ⟨Lc88, hQ88, l88, y88, z88⟩, st88⟩ := X87.virtualBack hx (y := own_n17) (z := own_n17) hown76 (mvT hZ76 (own_tw hw 102 rfl)) (mvT hZ76 (own_tw hw 103 rfl)) (notFace_of_selects (args := #[]) (mvT hZ76 (own_tw hw 105 rfl))) (mvT hZ76 (own_tw hw 105 rfl)) (mvT hZ76 (own_tw hw 104 rfl)) (by decide) (backOf (W := 0) (own_val l Z a0 hW b76 a70 T76.heap n0 (by omega) O77 F76) hZ76 (own_tw hw 106 rfl) (own_tw hw 64 rfl) (by decide) (by decide)) q88a q88c (g := (mkF m 115 #[vi p0, vi p1, vi p2, vi p3, vi p4, vi c11, vi c13, vi c15, vi c17, vi (2 : Int32), vr a68, vr a70, vr b73, vr b76, vi (1 : Int32)] [(.ref b76)])) rfl (by rw [hml]; rfl) (Steps.refl _) (argsL := []) (rest := []) (lenOf pd_16 rfl) rfl (own_le rfl) (hb hby at_115) (fun _ _ => ⟨rfl, eh87, (by decide : 24 + 0 ≤ 32), (by decide : 242 + 0 ≤ 2176)⟩)
      dsimp only [Pt.U, Pt.locs, Pt.cells, Pt.slots] at X88 l88 y88 z88 st88 hQ88
      subst l88 y88 z88
      obtain ⟨rfl, Nq88, eh88⟩ := hQ88
      have N88 := Fr.app N87 Nq88
      refine own_gs st88 ?_
      show own_Fin p e below (T88.setTop (mkF m 118 #[vi p0, vi p1, vi p2, vi p3, vi p4, vi c11, vi c13, vi c15, vi c17, vi (2 : Int32), vr a68, vr a70, vr b73, vr b76, vi (1 : Int32)] [(.ref a70)])) _
      refine own_gs (cur' := T88.setTop (mkF m 120 #[vi p0, vi p1, vi p2, vi p3, vi p4, vi c11, vi c13, vi c15, vi c17, vi (2 : Int32), vr a68, vr a70, vr b73, vr b76, vi (1 : Int32)] [(.ref a70), (.ref a70)])) ?_ ?_
      · refine XS.aload X88.here hx rfl (hb hby at_118) rfl rfl ?_
        exact Steps.refl _
      have f90 := ((Ex70.keep Kq73).keep Kq76)
      obtain ⟨cq89, kq89, q89a, q89b, q89c⟩ := isOf hZ76 eh88 f90
      obtain ⟨_, _, ⟨T89, L89, k89, n89⟩, -, X89, ⟨Lc89, hQ89, l89, y89, z89⟩, st89⟩ := X88.virtualBack hx (y := own_n20) (z := own_n20) hown76 (mvT hZ76 (own_tw hw 93 rfl)) (mvT hZ76 (own_tw hw 94 rfl)) (notFace_of_selects (args := #[]) (mvT hZ76 (own_tw hw 96 rfl))) (mvT hZ76 (own_tw hw 96 rfl)) (mvT hZ76 (own_tw hw 95 rfl)) (by decide) (own_eqB (W := 0) hZ76 hw f79 f79 (O2.ext O77.2) P5 (by decide) (by decide)) q89a q89c (g := (mkF m 120 #[vi p0, vi p1, vi p2, vi p3, vi p4, vi c11, vi c13, vi c15, vi c17, vi (2 : Int32), vr a68, vr a70, vr b73, vr b76, vi (1 : Int32)] [(.ref a70), (.ref a70)])) rfl (by rw [hml]; rfl) (Steps.refl _) (argsL := [(.ref a70)]) (rest := []) (lenOf pd_10 rfl) rfl (own_le rfl) (hb hby at_120) (fun _ _ => ⟨rfl, eh88, (by decide : 24 + 0 ≤ 32), (by decide : 242 + 0 ≤ 2176)⟩)
      dsimp only [Pt.U, Pt.locs, Pt.cells, Pt.slots] at X89 l89 y89 z89 st89 hQ89
      subst l89 y89 z89
      obtain ⟨rfl, rfl, eh89⟩ := hQ89
      have N89 := Fr.app N88 (Fr.nil n0)
      refine own_gs st89 ?_
      show own_Fin p e below (T89.setTop (mkF m 123 #[vi p0, vi p1, vi p2, vi p3, vi p4, vi c11, vi c13, vi c15, vi c17, vi (2 : Int32), vr a68, vr a70, vr b73, vr b76, vi (1 : Int32)] [(.int (if ([c17, c13] : List Int32) = [c17, c13] then 1 else 0))])) _
      rw [if_pos rfl]
      show own_Fin p e below (T89.setTop (mkF m 123 #[vi p0, vi p1, vi p2, vi p3, vi p4, vi c11, vi c13, vi c15, vi c17, vi (2 : Int32), vr a68, vr a70, vr b73, vr b76, vi (1 : Int32)] [(.int (1 : Int32))])) _
      refine own_gs (cur' := T89.setTop (mkF m 132 #[vi p0, vi p1, vi p2, vi p3, vi p4, vi c11, vi c13, vi c15, vi c17, vi (2 : Int32), vr a68, vr a70, vr b73, vr b76, vi (1 : Int32)] [(.ref b76), (.ref b73)])) ?_ ?_
      · refine XS.ifYes X89.here hx rfl (pc0 := 123) (pc' := 128) rfl (hb hby at_123) rfl ((if0 _ _).trans (feq ((by decide) : ¬ ((1 : Int32) = (0 : Int32)))).2) (by decide) (by decide) ?_
        refine XS.aload X89.here hx rfl (hb hby at_128) rfl rfl ?_
        refine XS.aload X89.here hx rfl (hb hby at_130) rfl rfl ?_
        exact Steps.refl _
      obtain ⟨cq91, kq91, q91a, q91b, q91c⟩ := isOf hZ76 eh89 f84
      obtain ⟨_, _, ⟨T91, L91, k91, n91⟩, -, X91, ⟨Lc91, hQ91, l91, y91, z91⟩, st91⟩ := X89.virtualBack hx (y := own_n19) (z := own_n19) hown76 (mvT hZ76 (own_tw hw 112 rfl)) (mvT hZ76 (own_tw hw 113 rfl)) (notFace_of_selects (args := #[]) (mvT hZ76 (own_tw hw 115 rfl))) (mvT hZ76 (own_tw hw 115 rfl)) (mvT hZ76 (own_tw hw 114 rfl)) (by decide) (backOf (W := 0) (own_leq l Z a0 hW b73 b76 a68 a70 t68 t70 [c11, c13] [c17, c13] T76.heap n0 (by omega) O77 f84 f82 f78 E76 F76 f79) hZ76 (own_tw hw 116 rfl) (own_tw hw 64 rfl) (by decide) (by decide)) q91a q91c (g := (mkF m 132 #[vi p0, vi p1, vi p2, vi p3, vi p4, vi c11, vi c13, vi c15, vi c17, vi (2 : Int32), vr a68, vr a70, vr b73, vr b76, vi (1 : Int32)] [(.ref b76), (.ref b73)])) rfl (by rw [hml]; rfl) (Steps.refl _) (argsL := [(.ref b76)]) (rest := []) (lenOf pd_10 rfl) rfl (own_le rfl) (hb hby at_132) (fun _ _ => ⟨rfl, eh89, (by decide : 24 + 0 ≤ 32), (by decide : 242 + 0 ≤ 2176)⟩)
      dsimp only [Pt.U, Pt.locs, Pt.cells, Pt.slots] at X91 l91 y91 z91 st91 hQ91
      subst l91 y91 z91
      obtain ⟨rfl, Nq91, eh91⟩ := hQ91
      have N91 := Fr.app N89 Nq91
      refine own_gs st91 ?_
      show own_Fin p e below (T91.setTop (mkF m 135 #[vi p0, vi p1, vi p2, vi p3, vi p4, vi c11, vi c13, vi c15, vi c17, vi (2 : Int32), vr a68, vr a70, vr b73, vr b76, vi (1 : Int32)] [(.int (if ([c11, c13] : List Int32) = [c17, c13] then 1 else 0))])) _
      rw [if_pos hq]
      show own_Fin p e below (T91.setTop (mkF m 135 #[vi p0, vi p1, vi p2, vi p3, vi p4, vi c11, vi c13, vi c15, vi c17, vi (2 : Int32), vr a68, vr a70, vr b73, vr b76, vi (1 : Int32)] [(.int (1 : Int32))])) _
      have f92 := (((Fh68.keep Kq70 nin0).keep Kq73 nin0).keep Kq76 nin0)
      have f93 := (((Fz68.keep Kq70 nin0).keep Kq73 nin0).keep Kq76 nin0)
      have f94 := (((Eb68.keep Kq70).keep Kq73).keep Kq76)
      refine own_gs (cur' := T91.setTop (mkF m 149 #[vi p0, vi p1, vi p2, vi p3, vi p4, vi c11, vi c13, vi c15, vi c17, vi (2 : Int32), vr a68, vr a70, vr b73, vr b76, vi (1 : Int32)] [(.ref b73)])) ?_ ?_
      · refine XS.iload X91.here hx rfl (hb hby at_135) rfl ?_
        refine XS.icmpYes X91.here hx rfl (pc0 := 137) (pc' := 142) rfl (hb hby at_137) rfl (teq ((by decide) : (1 : Int32) = (1 : Int32))).1 (by decide) (by decide) ?_
        refine XS.iload X91.here hx rfl (hb hby at_142) rfl ?_
        refine XS.ifNo X91.here hx rfl (hb hby at_144) rfl ((if0 _ _).trans (feq ((by decide) : ¬ ((1 : Int32) = (0 : Int32)))).1) ?_
        refine XS.aload X91.here hx rfl (hb hby at_147) rfl rfl ?_
        exact Steps.refl _
      have f96 := (CHr.safe hC76 (own_lt (by omega)) (CHr.safe hC73 (own_lt (by omega)) (Safe.keep Kq70 all0 CH69.1 Sf68)))
      obtain ⟨cq95, kq95, q95a, q95b, q95c⟩ := isOf hZ76 eh91 f84
      obtain ⟨_, _, ⟨T95, L95, k95, n95⟩, -, X95, ⟨Lc95, hQ95, l95, y95, z95⟩, st95⟩ := X91.virtualBack hx (y := own_n25) (z := own_n25) hown76 (mvT hZ76 (own_tw hw 147 rfl)) (mvT hZ76 (own_tw hw 148 rfl)) (notFace_of_selects (args := #[]) (mvT hZ76 (own_tw hw 150 rfl))) (mvT hZ76 (own_tw hw 150 rfl)) (mvT hZ76 (own_tw hw 149 rfl)) (by decide) (backOf (W := 0) (own_lhc_k2 l Z a0 hW b73 a68 t68 c11 c13 T76.heap n0 (by omega) O77 f82 f78 f92 f93 f94 (by omega) hc11 hc13) hZ76 (own_tw hw 151 rfl) (own_tw hw 64 rfl) (by decide) (by decide)) q95a q95c (g := (mkF m 149 #[vi p0, vi p1, vi p2, vi p3, vi p4, vi c11, vi c13, vi c15, vi c17, vi (2 : Int32), vr a68, vr a70, vr b73, vr b76, vi (1 : Int32)] [(.ref b73)])) rfl (by rw [hml]; rfl) (Steps.refl _) (argsL := []) (rest := []) (lenOf pd_6 rfl) rfl (own_le rfl) (hb hby at_149) (fun _ _ => ⟨rfl, eh91, (by decide : 24 + 0 ≤ 32), (by decide : 242 + 0 ≤ 2176)⟩)
      dsimp only [Pt.U, Pt.locs, Pt.cells, Pt.slots] at X95 l95 y95 z95 st95 hQ95
      subst l95 y95 z95
      obtain ⟨rfl, Nq95, Kq95⟩ := hQ95
      have N95 := Fr.app N91 Nq95
      have z97 := Kq95.1
      have K97 := K77.trans Kq95 (allS (Or.inr (by omega)) all0)
      have O97 := O77.keep Kq95 (allS (by omega) all0)
      have CH97 := CH77.trans (CHr.keep Kq95 (allS f96 all0) CH77.1)
      refine own_gs st95 ?_
      show own_Fin p e below (T95.setTop (mkF m 152 #[vi p0, vi p1, vi p2, vi p3, vi p4, vi c11, vi c13, vi c15, vi c17, vi (2 : Int32), vr a68, vr a70, vr b73, vr b76, vi (1 : Int32)] [(.int (own_hash [c11, c13]))])) _
      have f98 := (F76.keep Kq95 (ninS (own_ne (a := b76) (b := a68) (by omega)) nin0))
      have f99 := (f79.keep Kq95 (ninS (own_ne (a := a70) (b := a68) (by omega)) nin0) (ninS (own_ne (a := t70) (b := a68) (by omega)) nin0))
      have f100 := (((Fh70.keep Kq73 nin0).keep Kq76 nin0).keep Kq95 (ninS (own_ne (a := a70) (b := a68) (by omega)) nin0))
      have f101 := (((Fz70.keep Kq73 nin0).keep Kq76 nin0).keep Kq95 (ninS (own_ne (a := a70) (b := a68) (by omega)) nin0))
      have f102 := (((Eb70.keep Kq73).keep Kq76).keep Kq95)
      refine own_gs (cur' := T95.setTop (mkF m 154 #[vi p0, vi p1, vi p2, vi p3, vi p4, vi c11, vi c13, vi c15, vi c17, vi (2 : Int32), vr a68, vr a70, vr b73, vr b76, vi (1 : Int32)] [(.ref b76), (.int (own_hash [c11, c13]))])) ?_ ?_
      · refine XS.aload X95.here hx rfl (hb hby at_152) rfl rfl ?_
        exact Steps.refl _
      have f104 := (Safe.keep Kq95 (allS f96 all0) CH77.1 (CHr.safe hC76 (own_lt (by omega)) (CHr.safe hC73 (own_lt (by omega)) Sf70)))
      have f105 := (E76.keep Kq95)
      obtain ⟨cq103, kq103, q103a, q103b, q103c⟩ := isOf hZ76 rfl f105
      obtain ⟨_, _, ⟨T103, L103, k103, n103⟩, -, X103, ⟨Lc103, hQ103, l103, y103, z103⟩, st103⟩ := X95.virtualBack hx (y := own_n25) (z := own_n25) hown76 (mvT hZ76 (own_tw hw 147 rfl)) (mvT hZ76 (own_tw hw 148 rfl)) (notFace_of_selects (args := #[]) (mvT hZ76 (own_tw hw 150 rfl))) (mvT hZ76 (own_tw hw 150 rfl)) (mvT hZ76 (own_tw hw 149 rfl)) (by decide) (backOf (W := 1) (own_lhc_k2 l Z a0 hW b76 a70 t70 c17 c13 T95.heap n0 (by omega) O97 f98 f99 f100 f101 f102 (by omega) hc17 hc13) hZ76 (own_tw hw 151 rfl) (own_tw hw 64 rfl) (by decide) (by decide)) q103a q103c (g := (mkF m 154 #[vi p0, vi p1, vi p2, vi p3, vi p4, vi c11, vi c13, vi c15, vi c17, vi (2 : Int32), vr a68, vr a70, vr b73, vr b76, vi (1 : Int32)] [(.ref b76), (.int (own_hash [c11, c13]))])) rfl (by rw [hml]; rfl) (Steps.refl _) (argsL := []) (rest := [(.int (own_hash [c11, c13]))]) (lenOf pd_6 rfl) rfl (own_le rfl) (hb hby at_154) (fun _ _ => ⟨rfl, rfl, (by decide : 24 + 0 ≤ 32), (by decide : 242 + 0 ≤ 2176)⟩)
      dsimp only [Pt.U, Pt.locs, Pt.cells, Pt.slots] at X103 l103 y103 z103 st103 hQ103
      subst l103 y103 z103
      obtain ⟨rfl, Nq103, Kq103⟩ := hQ103
      have N103 := Fr.app N95 Nq103
      have z106 := Kq103.1
      have K106 := K97.trans Kq103 (allS (Or.inr (by omega)) all0)
      have O106 := O97.keep Kq103 (allS (by omega) all0)
      have CH106 := CH97.trans (CHr.keep Kq103 (allS f104 all0) CH97.1)
      refine own_gs st103 ?_
      show own_Fin p e below (T103.setTop (mkF m 157 #[vi p0, vi p1, vi p2, vi p3, vi p4, vi c11, vi c13, vi c15, vi c17, vi (2 : Int32), vr a68, vr a70, vr b73, vr b76, vi (1 : Int32)] [(.int (own_hash [c17, c13])), (.int (own_hash [c11, c13]))])) _
      refine own_gs (cur' := T103.setTop (mkF m 163 #[vi p0, vi p1, vi p2, vi p3, vi p4, vi c11, vi c13, vi c15, vi c17, vi (2 : Int32), vr a68, vr a70, vr b73, vr b76, vi (1 : Int32)] [(.int (1 : Int32))])) ?_ ?_
      · refine XS.icmpYes X103.here hx rfl (pc0 := 157) (pc' := 162) rfl (hb hby at_157) rfl (teq ((congrArg own_hash hq) : (own_hash [c11, c13]) = (own_hash [c17, c13]))).1 (by decide) (by decide) ?_
        refine XS.iconst X103.here hx rfl (hb hby at_162) ?_
        exact Steps.refl _
      obtain ⟨fs, hr, hrun, hended, hRE⟩ := X103.leaveW hS76 (show T76.heap.size ≤ T103.heap.size by omega) (v := (some (.int (1 : Int32)))) (fun h => by rw [Bd.returns] at h; cases h)
      refine ⟨_, _, retN X103 hx (t := .boolean) Bd.returns (by simp) (hb hby at_163) hr, hrun, hended, _, _, rfl, ?_, ?_, hRE.1, hRE.2.1, hRE.2.2.1, hRE.2.2.2.mono (own_le rfl) (own_le rfl)⟩
      · show own_law_Q Z p0 p1 p2 p3 p4 h0 n0 (some (.int (1 : Int32))) T103.heap _
        exact ⟨rfl, N103⟩
      · have hfin := CH106.trans (CHv.at X103 hZ76 hEL CH106.1)
        rw [hh]
        show CHr Z own_EL s.vm h0 T103.vm T103.heap
        exact hfin
    · rw [if_neg hq]
      show own_Fin p e below (T80.setTop (mkF m 81 #[vi p0, vi p1, vi p2, vi p3, vi p4, vi c11, vi c13, vi c15, vi c17, vi (2 : Int32), vr a68, vr a70, vr b73, vr b76, uu] [(.int (0 : Int32))])) _
      have f107 := (F73.keep Kq76 nin0)
      refine own_gs (cur' := T80.setTop (mkF m 85 #[vi p0, vi p1, vi p2, vi p3, vi p4, vi c11, vi c13, vi c15, vi c17, vi (2 : Int32), vr a68, vr a70, vr b73, vr b76, vi (0 : Int32)] [(.ref b73)])) ?_ ?_
      · refine XS.istore X80.here hx rfl (hb hby at_81) rfl (l' := #[vi p0, vi p1, vi p2, vi p3, vi p4, vi c11, vi c13, vi c15, vi c17, vi (2 : Int32), vr a68, vr a70, vr b73, vr b76, vi (0 : Int32)]) rfl ?_
        refine XS.aload X80.here hx rfl (hb hby at_83) rfl rfl ?_
        exact Steps.refl _
      have f109 := (E73.keep Kq76)
      obtain ⟨cq108, kq108, q108a, q108b, q108c⟩ := isOf hZ76 eh80 f109
      obtain ⟨_, _, ⟨T108, L108, k108, n108⟩, -, X108, ⟨Lc108, hQ108, l108, y108, z108⟩, st108⟩ := X80.virtualBack hx (y := own_n17) (z := own_n17) hown76 (mvT hZ76 (own_tw hw 102 rfl)) (mvT hZ76 (own_tw hw 103 rfl)) (notFace_of_selects (args := #[]) (mvT hZ76 (own_tw hw 105 rfl))) (mvT hZ76 (own_tw hw 105 rfl)) (mvT hZ76 (own_tw hw 104 rfl)) (by decide) (backOf (W := 0) (own_val l Z a0 hW b73 a68 T76.heap n0 (by omega) O77 f107) hZ76 (own_tw hw 106 rfl) (own_tw hw 64 rfl) (by decide) (by decide)) q108a q108c (g := (mkF m 85 #[vi p0, vi p1, vi p2, vi p3, vi p4, vi c11, vi c13, vi c15, vi c17, vi (2 : Int32), vr a68, vr a70, vr b73, vr b76, vi (0 : Int32)] [(.ref b73)])) rfl (by rw [hml]; rfl) (Steps.refl _) (argsL := []) (rest := []) (lenOf pd_16 rfl) rfl (own_le rfl) (hb hby at_85) (fun _ _ => ⟨rfl, eh80, (by decide : 24 + 0 ≤ 32), (by decide : 242 + 0 ≤ 2176)⟩)
      dsimp only [Pt.U, Pt.locs, Pt.cells, Pt.slots] at X108 l108 y108 z108 st108 hQ108
      subst l108 y108 z108
      obtain ⟨rfl, Nq108, eh108⟩ := hQ108
      have N108 := Fr.app N80 Nq108
      refine own_gs st108 ?_
      show own_Fin p e below (T108.setTop (mkF m 88 #[vi p0, vi p1, vi p2, vi p3, vi p4, vi c11, vi c13, vi c15, vi c17, vi (2 : Int32), vr a68, vr a70, vr b73, vr b76, vi (0 : Int32)] [(.ref a68)])) _
      refine own_gs (cur' := T108.setTop (mkF m 90 #[vi p0, vi p1, vi p2, vi p3, vi p4, vi c11, vi c13, vi c15, vi c17, vi (2 : Int32), vr a68, vr a70, vr b73, vr b76, vi (0 : Int32)] [(.ref a68), (.ref a68)])) ?_ ?_
      · refine XS.aload X108.here hx rfl (hb hby at_88) rfl rfl ?_
        exact Steps.refl _
      obtain ⟨cq110, kq110, q110a, q110b, q110c⟩ := isOf hZ76 eh108 f81
      obtain ⟨_, _, ⟨T110, L110, k110, n110⟩, -, X110, ⟨Lc110, hQ110, l110, y110, z110⟩, st110⟩ := X108.virtualBack hx (y := own_n20) (z := own_n20) hown76 (mvT hZ76 (own_tw hw 93 rfl)) (mvT hZ76 (own_tw hw 94 rfl)) (notFace_of_selects (args := #[]) (mvT hZ76 (own_tw hw 96 rfl))) (mvT hZ76 (own_tw hw 96 rfl)) (mvT hZ76 (own_tw hw 95 rfl)) (by decide) (own_eqB (W := 0) hZ76 hw f78 f78 (O2.ext O77.2) P5 (by decide) (by decide)) q110a q110c (g := (mkF m 90 #[vi p0, vi p1, vi p2, vi p3, vi p4, vi c11, vi c13, vi c15, vi c17, vi (2 : Int32), vr a68, vr a70, vr b73, vr b76, vi (0 : Int32)] [(.ref a68), (.ref a68)])) rfl (by rw [hml]; rfl) (Steps.refl _) (argsL := [(.ref a68)]) (rest := []) (lenOf pd_10 rfl) rfl (own_le rfl) (hb hby at_90) (fun _ _ => ⟨rfl, eh108, (by decide : 24 + 0 ≤ 32), (by decide : 242 + 0 ≤ 2176)⟩)
      dsimp only [Pt.U, Pt.locs, Pt.cells, Pt.slots] at X110 l110 y110 z110 st110 hQ110
      subst l110 y110 z110
      obtain ⟨rfl, rfl, eh110⟩ := hQ110
      have N110 := Fr.app N108 (Fr.nil n0)
      refine own_gs st110 ?_
      show own_Fin p e below (T110.setTop (mkF m 93 #[vi p0, vi p1, vi p2, vi p3, vi p4, vi c11, vi c13, vi c15, vi c17, vi (2 : Int32), vr a68, vr a70, vr b73, vr b76, vi (0 : Int32)] [(.int (if ([c11, c13] : List Int32) = [c11, c13] then 1 else 0))])) _
      rw [if_pos rfl]
      show own_Fin p e below (T110.setTop (mkF m 93 #[vi p0, vi p1, vi p2, vi p3, vi p4, vi c11, vi c13, vi c15, vi c17, vi (2 : Int32), vr a68, vr a70, vr b73, vr b76, vi (0 : Int32)] [(.int (1 : Int32))])) _
      refine own_gs (cur' := T110.setTop (mkF m 100 #[vi p0, vi p1, vi p2, vi p3, vi p4, vi c11, vi c13, vi c15, vi c17, vi (2 : Int32), vr a68, vr a70, vr b73, vr b76, vi (0 : Int32)] [(.ref b73)])) ?_ ?_
      · refine XS.ifYes X110.here hx rfl (pc0 := 93) (pc' := 98) rfl (hb hby at_93) rfl ((if0 _ _).trans (feq ((by decide) : ¬ ((1 : Int32) = (0 : Int32)))).2) (by decide) (by decide) ?_
        refine XS.aload X110.here hx rfl (hb hby at_98) rfl rfl ?_
        exact Steps.refl _
      obtain ⟨cq111, kq111, q111a, q111b, q111c⟩ := isOf hZ76 eh110 f109
      obtain ⟨_, _, ⟨T111, L111, k111, n111⟩, -, X111, ⟨Lc111, hQ111, l111, y111, z111⟩, st111⟩ := X110.virtualBack hx (y := own_n18) (z := own_n18) hown76 (mvT hZ76 (own_tw hw 107 rfl)) (mvT hZ76 (own_tw hw 108 rfl)) (notFace_of_selects (args := #[]) (mvT hZ76 (own_tw hw 110 rfl))) (mvT hZ76 (own_tw hw 110 rfl)) (mvT hZ76 (own_tw hw 109 rfl)) (by decide) (backOf (W := 0) (own_tos l Z a0 hW b73 a68 T76.heap n0 (by omega) O77 f107) hZ76 (own_tw hw 111 rfl) (own_tw hw 64 rfl) (by decide) (by decide)) q111a q111c (g := (mkF m 100 #[vi p0, vi p1, vi p2, vi p3, vi p4, vi c11, vi c13, vi c15, vi c17, vi (2 : Int32), vr a68, vr a70, vr b73, vr b76, vi (0 : Int32)] [(.ref b73)])) rfl (by rw [hml]; rfl) (Steps.refl _) (argsL := []) (rest := []) (lenOf pd_16 rfl) rfl (own_le rfl) (hb hby at_100) (fun _ _ => ⟨rfl, eh110, (by decide : 24 + 0 ≤ 32), (by decide : 242 + 0 ≤ 2176)⟩)
      dsimp only [Pt.U, Pt.locs, Pt.cells, Pt.slots] at X111 l111 y111 z111 st111 hQ111
      subst l111 y111 z111
      obtain ⟨rfl, Nq111, eh111⟩ := hQ111
      have N111 := Fr.app N110 Nq111
      refine own_gs st111 ?_
      show own_Fin p e below (T111.setTop (mkF m 103 #[vi p0, vi p1, vi p2, vi p3, vi p4, vi c11, vi c13, vi c15, vi c17, vi (2 : Int32), vr a68, vr a70, vr b73, vr b76, vi (0 : Int32)] [(.ref a68)])) _
      refine own_gs (cur' := T111.setTop (mkF m 105 #[vi p0, vi p1, vi p2, vi p3, vi p4, vi c11, vi c13, vi c15, vi c17, vi (2 : Int32), vr a68, vr a70, vr b73, vr b76, vi (0 : Int32)] [(.ref a68), (.ref a68)])) ?_ ?_
      · refine XS.aload X111.here hx rfl (hb hby at_103) rfl rfl ?_
        exact Steps.refl _
      obtain ⟨cq112, kq112, q112a, q112b, q112c⟩ := isOf hZ76 eh111 f81
      obtain ⟨_, _, ⟨T112, L112, k112, n112⟩, -, X112, ⟨Lc112, hQ112, l112, y112, z112⟩, st112⟩ := X111.virtualBack hx (y := own_n20) (z := own_n20) hown76 (mvT hZ76 (own_tw hw 93 rfl)) (mvT hZ76 (own_tw hw 94 rfl)) (notFace_of_selects (args := #[]) (mvT hZ76 (own_tw hw 96 rfl))) (mvT hZ76 (own_tw hw 96 rfl)) (mvT hZ76 (own_tw hw 95 rfl)) (by decide) (own_eqB (W := 0) hZ76 hw f78 f78 (O2.ext O77.2) P5 (by decide) (by decide)) q112a q112c (g := (mkF m 105 #[vi p0, vi p1, vi p2, vi p3, vi p4, vi c11, vi c13, vi c15, vi c17, vi (2 : Int32), vr a68, vr a70, vr b73, vr b76, vi (0 : Int32)] [(.ref a68), (.ref a68)])) rfl (by rw [hml]; rfl) (Steps.refl _) (argsL := [(.ref a68)]) (rest := []) (lenOf pd_10 rfl) rfl (own_le rfl) (hb hby at_105) (fun _ _ => ⟨rfl, eh111, (by decide : 24 + 0 ≤ 32), (by decide : 242 + 0 ≤ 2176)⟩)
      dsimp only [Pt.U, Pt.locs, Pt.cells, Pt.slots] at X112 l112 y112 z112 st112 hQ112
      subst l112 y112 z112
      obtain ⟨rfl, rfl, eh112⟩ := hQ112
      have N112 := Fr.app N111 (Fr.nil n0)
      refine own_gs st112 ?_
      show own_Fin p e below (T112.setTop (mkF m 108 #[vi p0, vi p1, vi p2, vi p3, vi p4, vi c11, vi c13, vi c15, vi c17, vi (2 : Int32), vr a68, vr a70, vr b73, vr b76, vi (0 : Int32)] [(.int (if ([c11, c13] : List Int32) = [c11, c13] then 1 else 0))])) _
      rw [if_pos rfl]
      show own_Fin p e below (T112.setTop (mkF m 108 #[vi p0, vi p1, vi p2, vi p3, vi p4, vi c11, vi c13, vi c15, vi c17, vi (2 : Int32), vr a68, vr a70, vr b73, vr b76, vi (0 : Int32)] [(.int (1 : Int32))])) _
      refine own_gs (cur' := T112.setTop (mkF m 115 #[vi p0, vi p1, vi p2, vi p3, vi p4, vi c11, vi c13, vi c15, vi c17, vi (2 : Int32), vr a68, vr a70, vr b73, vr b76, vi (0 : Int32)] [(.ref b76)])) ?_ ?_
      · refine XS.ifYes X112.here hx rfl (pc0 := 108) (pc' := 113) rfl (hb hby at_108) rfl ((if0 _ _).trans (feq ((by decide) : ¬ ((1 : Int32) = (0 : Int32)))).2) (by decide) (by decide) ?_
        refine XS.aload X112.here hx rfl (hb hby at_113) rfl rfl ?_
        exact Steps.refl _
      obtain ⟨cq113, kq113, q113a, q113b, q113c⟩ := isOf hZ76 eh112 E76
      obtain ⟨_, _, ⟨T113, L113, k113, n113⟩, -, X113, ⟨Lc113, hQ113, l113, y113, z113⟩, st113⟩ := X112.virtualBack hx (y := own_n17) (z := own_n17) hown76 (mvT hZ76 (own_tw hw 102 rfl)) (mvT hZ76 (own_tw hw 103 rfl)) (notFace_of_selects (args := #[]) (mvT hZ76 (own_tw hw 105 rfl))) (mvT hZ76 (own_tw hw 105 rfl)) (mvT hZ76 (own_tw hw 104 rfl)) (by decide) (backOf (W := 0) (own_val l Z a0 hW b76 a70 T76.heap n0 (by omega) O77 F76) hZ76 (own_tw hw 106 rfl) (own_tw hw 64 rfl) (by decide) (by decide)) q113a q113c (g := (mkF m 115 #[vi p0, vi p1, vi p2, vi p3, vi p4, vi c11, vi c13, vi c15, vi c17, vi (2 : Int32), vr a68, vr a70, vr b73, vr b76, vi (0 : Int32)] [(.ref b76)])) rfl (by rw [hml]; rfl) (Steps.refl _) (argsL := []) (rest := []) (lenOf pd_16 rfl) rfl (own_le rfl) (hb hby at_115) (fun _ _ => ⟨rfl, eh112, (by decide : 24 + 0 ≤ 32), (by decide : 242 + 0 ≤ 2176)⟩)
      dsimp only [Pt.U, Pt.locs, Pt.cells, Pt.slots] at X113 l113 y113 z113 st113 hQ113
      subst l113 y113 z113
      obtain ⟨rfl, Nq113, eh113⟩ := hQ113
      have N113 := Fr.app N112 Nq113
      refine own_gs st113 ?_
      show own_Fin p e below (T113.setTop (mkF m 118 #[vi p0, vi p1, vi p2, vi p3, vi p4, vi c11, vi c13, vi c15, vi c17, vi (2 : Int32), vr a68, vr a70, vr b73, vr b76, vi (0 : Int32)] [(.ref a70)])) _
      refine own_gs (cur' := T113.setTop (mkF m 120 #[vi p0, vi p1, vi p2, vi p3, vi p4, vi c11, vi c13, vi c15, vi c17, vi (2 : Int32), vr a68, vr a70, vr b73, vr b76, vi (0 : Int32)] [(.ref a70), (.ref a70)])) ?_ ?_
      · refine XS.aload X113.here hx rfl (hb hby at_118) rfl rfl ?_
        exact Steps.refl _
      have f115 := ((Ex70.keep Kq73).keep Kq76)
      obtain ⟨cq114, kq114, q114a, q114b, q114c⟩ := isOf hZ76 eh113 f115
      obtain ⟨_, _, ⟨T114, L114, k114, n114⟩, -, X114, ⟨Lc114, hQ114, l114, y114, z114⟩, st114⟩ := X113.virtualBack hx (y := own_n20) (z := own_n20) hown76 (mvT hZ76 (own_tw hw 93 rfl)) (mvT hZ76 (own_tw hw 94 rfl)) (notFace_of_selects (args := #[]) (mvT hZ76 (own_tw hw 96 rfl))) (mvT hZ76 (own_tw hw 96 rfl)) (mvT hZ76 (own_tw hw 95 rfl)) (by decide) (own_eqB (W := 0) hZ76 hw f79 f79 (O2.ext O77.2) P5 (by decide) (by decide)) q114a q114c (g := (mkF m 120 #[vi p0, vi p1, vi p2, vi p3, vi p4, vi c11, vi c13, vi c15, vi c17, vi (2 : Int32), vr a68, vr a70, vr b73, vr b76, vi (0 : Int32)] [(.ref a70), (.ref a70)])) rfl (by rw [hml]; rfl) (Steps.refl _) (argsL := [(.ref a70)]) (rest := []) (lenOf pd_10 rfl) rfl (own_le rfl) (hb hby at_120) (fun _ _ => ⟨rfl, eh113, (by decide : 24 + 0 ≤ 32), (by decide : 242 + 0 ≤ 2176)⟩)
      dsimp only [Pt.U, Pt.locs, Pt.cells, Pt.slots] at X114 l114 y114 z114 st114 hQ114
      subst l114 y114 z114
      obtain ⟨rfl, rfl, eh114⟩ := hQ114
      have N114 := Fr.app N113 (Fr.nil n0)
      refine own_gs st114 ?_
      show own_Fin p e below (T114.setTop (mkF m 123 #[vi p0, vi p1, vi p2, vi p3, vi p4, vi c11, vi c13, vi c15, vi c17, vi (2 : Int32), vr a68, vr a70, vr b73, vr b76, vi (0 : Int32)] [(.int (if ([c17, c13] : List Int32) = [c17, c13] then 1 else 0))])) _
      rw [if_pos rfl]
      show own_Fin p e below (T114.setTop (mkF m 123 #[vi p0, vi p1, vi p2, vi p3, vi p4, vi c11, vi c13, vi c15, vi c17, vi (2 : Int32), vr a68, vr a70, vr b73, vr b76, vi (0 : Int32)] [(.int (1 : Int32))])) _
      refine own_gs (cur' := T114.setTop (mkF m 132 #[vi p0, vi p1, vi p2, vi p3, vi p4, vi c11, vi c13, vi c15, vi c17, vi (2 : Int32), vr a68, vr a70, vr b73, vr b76, vi (0 : Int32)] [(.ref b76), (.ref b73)])) ?_ ?_
      · refine XS.ifYes X114.here hx rfl (pc0 := 123) (pc' := 128) rfl (hb hby at_123) rfl ((if0 _ _).trans (feq ((by decide) : ¬ ((1 : Int32) = (0 : Int32)))).2) (by decide) (by decide) ?_
        refine XS.aload X114.here hx rfl (hb hby at_128) rfl rfl ?_
        refine XS.aload X114.here hx rfl (hb hby at_130) rfl rfl ?_
        exact Steps.refl _
      obtain ⟨cq116, kq116, q116a, q116b, q116c⟩ := isOf hZ76 eh114 f109
      obtain ⟨_, _, ⟨T116, L116, k116, n116⟩, -, X116, ⟨Lc116, hQ116, l116, y116, z116⟩, st116⟩ := X114.virtualBack hx (y := own_n19) (z := own_n19) hown76 (mvT hZ76 (own_tw hw 112 rfl)) (mvT hZ76 (own_tw hw 113 rfl)) (notFace_of_selects (args := #[]) (mvT hZ76 (own_tw hw 115 rfl))) (mvT hZ76 (own_tw hw 115 rfl)) (mvT hZ76 (own_tw hw 114 rfl)) (by decide) (backOf (W := 0) (own_leq l Z a0 hW b73 b76 a68 a70 t68 t70 [c11, c13] [c17, c13] T76.heap n0 (by omega) O77 f109 f107 f78 E76 F76 f79) hZ76 (own_tw hw 116 rfl) (own_tw hw 64 rfl) (by decide) (by decide)) q116a q116c (g := (mkF m 132 #[vi p0, vi p1, vi p2, vi p3, vi p4, vi c11, vi c13, vi c15, vi c17, vi (2 : Int32), vr a68, vr a70, vr b73, vr b76, vi (0 : Int32)] [(.ref b76), (.ref b73)])) rfl (by rw [hml]; rfl) (Steps.refl _) (argsL := [(.ref b76)]) (rest := []) (lenOf pd_10 rfl) rfl (own_le rfl) (hb hby at_132) (fun _ _ => ⟨rfl, eh114, (by decide : 24 + 0 ≤ 32), (by decide : 242 + 0 ≤ 2176)⟩)
      dsimp only [Pt.U, Pt.locs, Pt.cells, Pt.slots] at X116 l116 y116 z116 st116 hQ116
      subst l116 y116 z116
      obtain ⟨rfl, Nq116, eh116⟩ := hQ116
      have N116 := Fr.app N114 Nq116
      refine own_gs st116 ?_
      show own_Fin p e below (T116.setTop (mkF m 135 #[vi p0, vi p1, vi p2, vi p3, vi p4, vi c11, vi c13, vi c15, vi c17, vi (2 : Int32), vr a68, vr a70, vr b73, vr b76, vi (0 : Int32)] [(.int (if ([c11, c13] : List Int32) = [c17, c13] then 1 else 0))])) _
      rw [if_neg hq]
      show own_Fin p e below (T116.setTop (mkF m 135 #[vi p0, vi p1, vi p2, vi p3, vi p4, vi c11, vi c13, vi c15, vi c17, vi (2 : Int32), vr a68, vr a70, vr b73, vr b76, vi (0 : Int32)] [(.int (0 : Int32))])) _
      refine own_gs (cur' := T116.setTop (mkF m 163 #[vi p0, vi p1, vi p2, vi p3, vi p4, vi c11, vi c13, vi c15, vi c17, vi (2 : Int32), vr a68, vr a70, vr b73, vr b76, vi (0 : Int32)] [(.int (1 : Int32))])) ?_ ?_
      · refine XS.iload X116.here hx rfl (hb hby at_135) rfl ?_
        refine XS.icmpYes X116.here hx rfl (pc0 := 137) (pc' := 142) rfl (hb hby at_137) rfl (teq ((by decide) : (0 : Int32) = (0 : Int32))).1 (by decide) (by decide) ?_
        refine XS.iload X116.here hx rfl (hb hby at_142) rfl ?_
        refine XS.ifYes X116.here hx rfl (pc0 := 144) (pc' := 162) rfl (hb hby at_144) rfl ((if0 _ _).trans (teq ((by decide) : (0 : Int32) = (0 : Int32))).1) (by decide) (by decide) ?_
        refine XS.iconst X116.here hx rfl (hb hby at_162) ?_
        exact Steps.refl _
      obtain ⟨fs, hr, hrun, hended, hRE⟩ := X116.leaveW hS76 (show T76.heap.size ≤ T116.heap.size by rw [eh116]; omega) (v := (some (.int (1 : Int32)))) (fun h => by rw [Bd.returns] at h; cases h)
      refine ⟨_, _, retN X116 hx (t := .boolean) Bd.returns (by simp) (hb hby at_163) hr, hrun, hended, _, _, rfl, ?_, ?_, hRE.1, hRE.2.1, hRE.2.2.1, hRE.2.2.2.mono (own_le rfl) (own_le rfl)⟩
      · show own_law_Q Z p0 p1 p2 p3 p4 h0 n0 (some (.int (1 : Int32))) T116.heap _
        rw [eh116]
        exact ⟨rfl, N116⟩
      · have hfin := CH77.trans (CHv.at X116 hZ76 hEL CH77.1)
        rw [hh]
        show CHr Z own_EL s.vm h0 T116.vm T116.heap
        rw [eh116]
        exact hfin
  · rw [hn]
    show own_Fin p e below (T17.setTop (mkF m 32 #[vi p0, vi p1, vi p2, vi p3, vi p4, vi c11, vi c13, vi c15, vi c17, uu, uu, uu, uu, uu, uu] [(.int (3 : Int32))])) _
    refine own_gs (cur' := T17.setTop (mkF m 42 #[vi p0, vi p1, vi p2, vi p3, vi p4, vi c11, vi c13, vi c15, vi c17, vi (3 : Int32), uu, uu, uu, uu, uu] [(.int (3 : Int32)), (.int c15), (.int c13), (.int c11)])) ?_ ?_
    · refine XS.istore X17.here hx rfl (hb hby at_32) rfl (l' := #[vi p0, vi p1, vi p2, vi p3, vi p4, vi c11, vi c13, vi c15, vi c17, vi (3 : Int32), uu, uu, uu, uu, uu]) rfl ?_
      refine XS.iload X17.here hx rfl (hb hby at_34) rfl ?_
      refine XS.iload X17.here hx rfl (hb hby at_36) rfl ?_
      refine XS.iload X17.here hx rfl (hb hby at_38) rfl ?_
      refine XS.iload X17.here hx rfl (hb hby at_40) rfl ?_
      exact Steps.refl _
    obtain ⟨_, _, ⟨T117, L117, k117, n117⟩, -, X117, ⟨Lc117, hQ117, l117, y117, z117⟩, st117⟩ := Jvm.LawKit.callS X17 hx (y := own_n2) hown17 (mvT hZ17 (own_tw hw 37 rfl)) (mvT hZ17 (own_tw hw 38 rfl)) (mvT hZ17 (own_tw hw 2 rfl)) (mvT hZ17 (own_tw hw 39 rfl)) (by decide) (backOf (W := 0) (own_make3 l Z a0 hW c11 c13 c15 T17.heap n0 (by omega) O18 hc11 hc13 hc15) hZ17 (own_tw hw 39 rfl) (own_tw hw 2 rfl) (by decide) (by decide)) (g := (mkF m 42 #[vi p0, vi p1, vi p2, vi p3, vi p4, vi c11, vi c13, vi c15, vi c17, vi (3 : Int32), uu, uu, uu, uu, uu] [(.int (3 : Int32)), (.int c15), (.int c13), (.int c11)])) rfl (by rw [hml]; rfl) (argsL := [(.int c11), (.int c13), (.int c15), (.int (3 : Int32))]) (rest := []) (lenOf pd_14 rfl) rfl (own_le rfl) (hb hby at_42) (fun _ _ => ⟨rfl, rfl, (by decide : 8 + 3 ≤ 32), (by decide : 112 + 10 ≤ 2176)⟩)
    dsimp only [Pt.U, Pt.locs, Pt.cells, Pt.slots] at X117 l117 y117 z117 st117 hQ117
    subst l117 y117 z117
    obtain ⟨a117, t117, rfl, Nq117, Kq117, S117, Fh117, Fz117, Eb117, ga117, gt117⟩ := hQ117
    have N117 := Fr.app N17 Nq117
    have Sf117 := Safe.keep Kq117 all0 CH18.1 (Safe.new (by omega : T17.heap.size ≤ a117))
    have z118 := Kq117.1
    have K118 := K18.trans Kq117 all0
    have O118 := O18.keep Kq117 all0
    have CH118 := CH18.trans (CHr.keep Kq117 all0 CH18.1)
    have lt117 := S117.lt
    have Ex117 := S117.exa
    refine own_go st117 ?_
    show own_Fin p e below (T117.setTop (mkF m 45 #[vi p0, vi p1, vi p2, vi p3, vi p4, vi c11, vi c13, vi c15, vi c17, vi (3 : Int32), uu, uu, uu, uu, uu] [(.ref a117)])) _
    refine own_gs (cur' := T117.setTop (mkF m 55 #[vi p0, vi p1, vi p2, vi p3, vi p4, vi c11, vi c13, vi c15, vi c17, vi (3 : Int32), vr a117, uu, uu, uu, uu] [(.int (3 : Int32)), (.int c15), (.int c13), (.int c17)])) ?_ ?_
    · refine XS.astore X117.here hx rfl (hb hby at_45) rfl rfl (l' := #[vi p0, vi p1, vi p2, vi p3, vi p4, vi c11, vi c13, vi c15, vi c17, vi (3 : Int32), vr a117, uu, uu, uu, uu]) rfl ?_
      refine XS.iload X117.here hx rfl (hb hby at_47) rfl ?_
      refine XS.iload X117.here hx rfl (hb hby at_49) rfl ?_
      refine XS.iload X117.here hx rfl (hb hby at_51) rfl ?_
      refine XS.iload X117.here hx rfl (hb hby at_53) rfl ?_
      exact Steps.refl _
    obtain ⟨_, _, ⟨T119, L119, k119, n119⟩, -, X119, ⟨Lc119, hQ119, l119, y119, z119⟩, st119⟩ := Jvm.LawKit.callS X117 hx (y := own_n2) hown17 (mvT hZ17 (own_tw hw 37 rfl)) (mvT hZ17 (own_tw hw 38 rfl)) (mvT hZ17 (own_tw hw 2 rfl)) (mvT hZ17 (own_tw hw 39 rfl)) (by decide) (backOf (W := 0) (own_make3 l Z a0 hW c17 c13 c15 T117.heap n0 (by omega) O118 hc17 hc13 hc15) hZ17 (own_tw hw 39 rfl) (own_tw hw 2 rfl) (by decide) (by decide)) (g := (mkF m 55 #[vi p0, vi p1, vi p2, vi p3, vi p4, vi c11, vi c13, vi c15, vi c17, vi (3 : Int32), vr a117, uu, uu, uu, uu] [(.int (3 : Int32)), (.int c15), (.int c13), (.int c17)])) rfl (by rw [hml]; rfl) (argsL := [(.int c17), (.int c13), (.int c15), (.int (3 : Int32))]) (rest := []) (lenOf pd_14 rfl) rfl (own_le rfl) (hb hby at_55) (fun _ _ => ⟨rfl, rfl, (by decide : 11 + 3 ≤ 32), (by decide : 122 + 10 ≤ 2176)⟩)
    dsimp only [Pt.U, Pt.locs, Pt.cells, Pt.slots] at X119 l119 y119 z119 st119 hQ119
    subst l119 y119 z119
    obtain ⟨a119, t119, rfl, Nq119, Kq119, S119, Fh119, Fz119, Eb119, ga119, gt119⟩ := hQ119
    have N119 := Fr.app N117 Nq119
    have Sf119 := Safe.keep Kq119 all0 CH118.1 (Safe.new (by omega : T117.heap.size ≤ a119))
    have z120 := Kq119.1
    have K120 := K118.trans Kq119 all0
    have O120 := O118.keep Kq119 all0
    have CH120 := CH118.trans (CHr.keep Kq119 all0 CH118.1)
    have lt119 := S119.lt
    have Ex119 := S119.exa
    refine own_go st119 ?_
    show own_Fin p e below (T119.setTop (mkF m 58 #[vi p0, vi p1, vi p2, vi p3, vi p4, vi c11, vi c13, vi c15, vi c17, vi (3 : Int32), vr a117, uu, uu, uu, uu] [(.ref a119)])) _
    have f121 := (S117.keep Kq119 nin0 nin0)
    refine own_gs (cur' := T119.setTop (mkF m 62 #[vi p0, vi p1, vi p2, vi p3, vi p4, vi c11, vi c13, vi c15, vi c17, vi (3 : Int32), vr a117, vr a119, uu, uu, uu] [(.ref a117)])) ?_ ?_
    · refine XS.astore X119.here hx rfl (hb hby at_58) rfl rfl (l' := #[vi p0, vi p1, vi p2, vi p3, vi p4, vi c11, vi c13, vi c15, vi c17, vi (3 : Int32), vr a117, vr a119, uu, uu, uu]) rfl ?_
      refine XS.aload X119.here hx rfl (hb hby at_60) rfl rfl ?_
      exact Steps.refl _
    obtain ⟨_, _, ⟨T122, L122, k122, n122⟩, -, Xw122, hSw122, hgw122, ⟨Lc122, hQ122, l122, y122, z122, hC122⟩, st122⟩ := callSS X119 hx (y := own_n15) hown17 (mvT hZ17 (own_tw hw 62 rfl)) (mvT hZ17 (own_tw hw 63 rfl)) (mvT hZ17 (own_tw hw 64 rfl)) (mvT hZ17 (own_tw hw 65 rfl)) (by decide) (own_backS (W := 0) (own_of3 l Z a0 hW a117 t117 c11 c13 c15 T119.heap n0 (by omega) O120 f121 hc11 hc13 hc15) hZ17 (own_tw hw 65 rfl) (own_tw hw 64 rfl) (by decide) (by decide) hEL CH120.1 all0) (g := (mkF m 62 #[vi p0, vi p1, vi p2, vi p3, vi p4, vi c11, vi c13, vi c15, vi c17, vi (3 : Int32), vr a117, vr a119, uu, uu, uu] [(.ref a117)])) rfl (by rw [hml]; rfl) (argsL := [(.ref a117)]) (rest := []) (lenOf pd_15 rfl) rfl (own_le rfl) (hb hby at_62) (fun _ _ => ⟨rfl, rfl, (by decide : 14 + 7 ≤ 32), (by decide : 132 + 85 ≤ 2176)⟩)
    dsimp only [Pt.U, Pt.locs, Pt.cells, Pt.slots] at Xw122 hSw122 hgw122 hC122 l122 y122 z122 st122 hQ122
    subst l122 y122 z122
    obtain ⟨X122, hS122, hZ122, hown122⟩ := rebS hS17 (show T17.heap.size ≤ T119.heap.size by omega) Xw122 hSw122 hgw122 hZ17 hown17
    obtain ⟨b122, rfl, Nq122, Kq122, E122, F122, gb122⟩ := hQ122
    have N122 := Fr.app N119 Nq122
    have z123 := Kq122.1
    have K123 := K120.trans Kq122 all0
    have O123 := O120.keep Kq122 all0
    have CH123 := CH120.trans hC122
    have lt122 := own_lt E122.lt
    refine own_gs st122 ?_
    show own_Fin p e below (T122.setTop (mkF m 65 #[vi p0, vi p1, vi p2, vi p3, vi p4, vi c11, vi c13, vi c15, vi c17, vi (3 : Int32), vr a117, vr a119, uu, uu, uu] [(.ref b122)])) _
    have f124 := (S119.keep Kq122 nin0 nin0)
    refine own_gs (cur' := T122.setTop (mkF m 69 #[vi p0, vi p1, vi p2, vi p3, vi p4, vi c11, vi c13, vi c15, vi c17, vi (3 : Int32), vr a117, vr a119, vr b122, uu, uu] [(.ref a119)])) ?_ ?_
    · refine XS.astore X122.here hx rfl (hb hby at_65) rfl rfl (l' := #[vi p0, vi p1, vi p2, vi p3, vi p4, vi c11, vi c13, vi c15, vi c17, vi (3 : Int32), vr a117, vr a119, vr b122, uu, uu]) rfl ?_
      refine XS.aload X122.here hx rfl (hb hby at_67) rfl rfl ?_
      exact Steps.refl _
    obtain ⟨_, _, ⟨T125, L125, k125, n125⟩, -, Xw125, hSw125, hgw125, ⟨Lc125, hQ125, l125, y125, z125, hC125⟩, st125⟩ := callSS X122 hx (y := own_n15) hown122 (mvT hZ122 (own_tw hw 62 rfl)) (mvT hZ122 (own_tw hw 63 rfl)) (mvT hZ122 (own_tw hw 64 rfl)) (mvT hZ122 (own_tw hw 65 rfl)) (by decide) (own_backS (W := 0) (own_of3 l Z a0 hW a119 t119 c17 c13 c15 T122.heap n0 (by omega) O123 f124 hc17 hc13 hc15) hZ122 (own_tw hw 65 rfl) (own_tw hw 64 rfl) (by decide) (by decide) hEL CH123.1 all0) (g := (mkF m 69 #[vi p0, vi p1, vi p2, vi p3, vi p4, vi c11, vi c13, vi c15, vi c17, vi (3 : Int32), vr a117, vr a119, vr b122, uu, uu] [(.ref a119)])) rfl (by rw [hml]; rfl) (argsL := [(.ref a119)]) (rest := []) (lenOf pd_15 rfl) rfl (own_le rfl) (hb hby at_69) (fun _ _ => ⟨rfl, rfl, (by decide : 21 + 7 ≤ 32), (by decide : 217 + 85 ≤ 2176)⟩)
    dsimp only [Pt.U, Pt.locs, Pt.cells, Pt.slots] at Xw125 hSw125 hgw125 hC125 l125 y125 z125 st125 hQ125
    subst l125 y125 z125
    obtain ⟨X125, hS125, hZ125, hown125⟩ := rebS hS122 (show T122.heap.size ≤ T122.heap.size by omega) Xw125 hSw125 hgw125 hZ122 hown122
    obtain ⟨b125, rfl, Nq125, Kq125, E125, F125, gb125⟩ := hQ125
    have N125 := Fr.app N122 Nq125
    have z126 := Kq125.1
    have K126 := K123.trans Kq125 all0
    have O126 := O123.keep Kq125 all0
    have CH126 := CH123.trans hC125
    have lt125 := own_lt E125.lt
    refine own_gs st125 ?_
    show own_Fin p e below (T125.setTop (mkF m 72 #[vi p0, vi p1, vi p2, vi p3, vi p4, vi c11, vi c13, vi c15, vi c17, vi (3 : Int32), vr a117, vr a119, vr b122, uu, uu] [(.ref b125)])) _
    have f127 := ((f121.keep Kq122 nin0 nin0).keep Kq125 nin0 nin0)
    have f128 := (f124.keep Kq125 nin0 nin0)
    refine own_gs (cur' := T125.setTop (mkF m 78 #[vi p0, vi p1, vi p2, vi p3, vi p4, vi c11, vi c13, vi c15, vi c17, vi (3 : Int32), vr a117, vr a119, vr b122, vr b125, uu] [(.ref a119), (.ref a117)])) ?_ ?_
    · refine XS.astore X125.here hx rfl (hb hby at_72) rfl rfl (l' := #[vi p0, vi p1, vi p2, vi p3, vi p4, vi c11, vi c13, vi c15, vi c17, vi (3 : Int32), vr a117, vr a119, vr b122, vr b125, uu]) rfl ?_
      refine XS.aload X125.here hx rfl (hb hby at_74) rfl rfl ?_
      refine XS.aload X125.here hx rfl (hb hby at_76) rfl rfl ?_
      exact Steps.refl _
    have f130 := (((Ex117.keep Kq119).keep Kq122).keep Kq125)
    obtain ⟨cq129, kq129, q129a, q129b, q129c⟩ := isOf hZ125 rfl f130
    obtain ⟨_, _, ⟨T129, L129, k129, n129⟩, -, X129, ⟨Lc129, hQ129, l129, y129, z129⟩, st129⟩ := X125.virtualBack hx (y := own_n20) (z := own_n20) hown125 (mvT hZ125 (own_tw hw 93 rfl)) (mvT hZ125 (own_tw hw 94 rfl)) (notFace_of_selects (args := #[]) (mvT hZ125 (own_tw hw 96 rfl))) (mvT hZ125 (own_tw hw 96 rfl)) (mvT hZ125 (own_tw hw 95 rfl)) (by decide) (own_eqB (W := 0) hZ125 hw f127 f128 (O2.ext O126.2) P5 (by decide) (by decide)) q129a q129c (g := (mkF m 78 #[vi p0, vi p1, vi p2, vi p3, vi p4, vi c11, vi c13, vi c15, vi c17, vi (3 : Int32), vr a117, vr a119, vr b122, vr b125, uu] [(.ref a119), (.ref a117)])) rfl (by rw [hml]; rfl) (Steps.refl _) (argsL := [(.ref a119)]) (rest := []) (lenOf pd_10 rfl) rfl (own_le rfl) (hb hby at_78) (fun _ _ => ⟨rfl, rfl, (by decide : 28 + 0 ≤ 32), (by decide : 302 + 0 ≤ 2176)⟩)
    dsimp only [Pt.U, Pt.locs, Pt.cells, Pt.slots] at X129 l129 y129 z129 st129 hQ129
    subst l129 y129 z129
    obtain ⟨rfl, rfl, eh129⟩ := hQ129
    have N129 := Fr.app N125 (Fr.nil n0)
    refine own_gs st129 ?_
    show own_Fin p e below (T129.setTop (mkF m 81 #[vi p0, vi p1, vi p2, vi p3, vi p4, vi c11, vi c13, vi c15, vi c17, vi (3 : Int32), vr a117, vr a119, vr b122, vr b125, uu] [(.int (if ([c11, c13, c15] : List Int32) = [c17, c13, c15] then 1 else 0))])) _
    by_cases hq : ([c11, c13, c15] : List Int32) = [c17, c13, c15]
    · rw [if_pos hq]
      show own_Fin p e below (T129.setTop (mkF m 81 #[vi p0, vi p1, vi p2, vi p3, vi p4, vi c11, vi c13, vi c15, vi c17, vi (3 : Int32), vr a117, vr a119, vr b122, vr b125, uu] [(.int (1 : Int32))])) _
      have f131 := (F122.keep Kq125 nin0)
      refine own_gs (cur' := T129.setTop (mkF m 85 #[vi p0, vi p1, vi p2, vi p3, vi p4, vi c11, vi c13, vi c15, vi c17, vi (3 : Int32), vr a117, vr a119, vr b122, vr b125, vi (1 : Int32)] [(.ref b122)])) ?_ ?_
      · refine XS.istore X129.here hx rfl (hb hby at_81) rfl (l' := #[vi p0, vi p1, vi p2, vi p3, vi p4, vi c11, vi c13, vi c15, vi c17, vi (3 : Int32), vr a117, vr a119, vr b122, vr b125, vi (1 : Int32)]) rfl ?_
        refine XS.aload X129.here hx rfl (hb hby at_83) rfl rfl ?_
        exact Steps.refl _
      have f133 := (E122.keep Kq125)
      obtain ⟨cq132, kq132, q132a, q132b, q132c⟩ := isOf hZ125 eh129 f133
      obtain ⟨_, _, ⟨T132, L132, k132, n132⟩, -, X132, ⟨Lc132, hQ132, l132, y132, z132⟩, st132⟩ := X129.virtualBack hx (y := own_n17) (z := own_n17) hown125 (mvT hZ125 (own_tw hw 102 rfl)) (mvT hZ125 (own_tw hw 103 rfl)) (notFace_of_selects (args := #[]) (mvT hZ125 (own_tw hw 105 rfl))) (mvT hZ125 (own_tw hw 105 rfl)) (mvT hZ125 (own_tw hw 104 rfl)) (by decide) (backOf (W := 0) (own_val l Z a0 hW b122 a117 T125.heap n0 (by omega) O126 f131) hZ125 (own_tw hw 106 rfl) (own_tw hw 64 rfl) (by decide) (by decide)) q132a q132c (g := (mkF m 85 #[vi p0, vi p1, vi p2, vi p3, vi p4, vi c11, vi c13, vi c15, vi c17, vi (3 : Int32), vr a117, vr a119, vr b122, vr b125, vi (1 : Int32)] [(.ref b122)])) rfl (by rw [hml]; rfl) (Steps.refl _) (argsL := []) (rest := []) (lenOf pd_16 rfl) rfl (own_le rfl) (hb hby at_85) (fun _ _ => ⟨rfl, eh129, (by decide : 28 + 0 ≤ 32), (by decide : 302 + 0 ≤ 2176)⟩)
      dsimp only [Pt.U, Pt.locs, Pt.cells, Pt.slots] at X132 l132 y132 z132 st132 hQ132
      subst l132 y132 z132
      obtain ⟨rfl, Nq132, eh132⟩ := hQ132
      have N132 := Fr.app N129 Nq132
      refine own_gs st132 ?_
      show own_Fin p e below (T132.setTop (mkF m 88 #[vi p0, vi p1, vi p2, vi p3, vi p4, vi c11, vi c13, vi c15, vi c17, vi (3 : Int32), vr a117, vr a119, vr b122, vr b125, vi (1 : Int32)] [(.ref a117)])) _
      refine own_gs (cur' := T132.setTop (mkF m 90 #[vi p0, vi p1, vi p2, vi p3, vi p4, vi c11, vi c13, vi c15, vi c17, vi (3 : Int32), vr a117, vr a119, vr b122, vr b125, vi (1 : Int32)] [(.ref a117), (.ref a117)])) ?_ ?_
      · refine XS.aload X132.here hx rfl (hb hby at_88) rfl rfl ?_
        exact Steps.refl _
      obtain ⟨cq134, kq134, q134a, q134b, q134c⟩ := isOf hZ125 eh132 f130
      obtain ⟨_, _, ⟨T134, L134, k134, n134⟩, -, X134, ⟨Lc134, hQ134, l134, y134, z134⟩, st134⟩ := X132.virtualBack hx (y := own_n20) (z := own_n20) hown125 (mvT hZ125 (own_tw hw 93 rfl)) (mvT hZ125 (own_tw hw 94 rfl)) (notFace_of_selects (args := #[]) (mvT hZ125 (own_tw hw 96 rfl))) (mvT hZ125 (own_tw hw 96 rfl)) (mvT hZ125 (own_tw hw 95 rfl)) (by decide) (own_eqB (W := 0) hZ125 hw f127 f127 (O2.ext O126.2) P5 (by decide) (by decide)) q134a q134c (g := (mkF m 90 #[vi p0, vi p1, vi p2, vi p3, vi p4, vi c11, vi c13, vi c15, vi c17, vi (3 : Int32), vr a117, vr a119, vr b122, vr b125, vi (1 : Int32)] [(.ref a117), (.ref a117)])) rfl (by rw [hml]; rfl) (Steps.refl _) (argsL := [(.ref a117)]) (rest := []) (lenOf pd_10 rfl) rfl (own_le rfl) (hb hby at_90) (fun _ _ => ⟨rfl, eh132, (by decide : 28 + 0 ≤ 32), (by decide : 302 + 0 ≤ 2176)⟩)
      dsimp only [Pt.U, Pt.locs, Pt.cells, Pt.slots] at X134 l134 y134 z134 st134 hQ134
      subst l134 y134 z134
      obtain ⟨rfl, rfl, eh134⟩ := hQ134
      have N134 := Fr.app N132 (Fr.nil n0)
      refine own_gs st134 ?_
      show own_Fin p e below (T134.setTop (mkF m 93 #[vi p0, vi p1, vi p2, vi p3, vi p4, vi c11, vi c13, vi c15, vi c17, vi (3 : Int32), vr a117, vr a119, vr b122, vr b125, vi (1 : Int32)] [(.int (if ([c11, c13, c15] : List Int32) = [c11, c13, c15] then 1 else 0))])) _
      rw [if_pos rfl]
      show own_Fin p e below (T134.setTop (mkF m 93 #[vi p0, vi p1, vi p2, vi p3, vi p4, vi c11, vi c13, vi c15, vi c17, vi (3 : Int32), vr a117, vr a119, vr b122, vr b125, vi (1 : Int32)] [(.int (1 : Int32))])) _
      refine own_gs (cur' := T134.setTop (mkF m 100 #[vi p0, vi p1, vi p2, vi p3, vi p4, vi c11, vi c13, vi c15, vi c17, vi (3 : Int32), vr a117, vr a119, vr b122, vr b125, vi (1 : Int32)] [(.ref b122)])) ?_ ?_
      · refine XS.ifYes X134.here hx rfl (pc0 := 93) (pc' := 98) rfl (hb hby at_93) rfl ((if0 _ _).trans (feq ((by decide) : ¬ ((1 : Int32) = (0 : Int32)))).2) (by decide) (by decide) ?_
        refine XS.aload X134.here hx rfl (hb hby at_98) rfl rfl ?_
        exact Steps.refl _
      obtain ⟨cq135, kq135, q135a, q135b, q135c⟩ := isOf hZ125 eh134 f133
      obtain ⟨_, _, ⟨T135, L135, k135, n135⟩, -, X135, ⟨Lc135, hQ135, l135, y135, z135⟩, st135⟩ := X134.virtualBack hx (y := own_n18) (z := own_n18) hown125 (mvT hZ125 (own_tw hw 107 rfl)) (mvT hZ125 (own_tw hw 108 rfl)) (notFace_of_selects (args := #[]) (mvT hZ125 (own_tw hw 110 rfl))) (mvT hZ125 (own_tw hw 110 rfl)) (mvT hZ125 (own_tw hw 109 rfl)) (by decide) (backOf (W := 0) (own_tos l Z a0 hW b122 a117 T125.heap n0 (by omega) O126 f131) hZ125 (own_tw hw 111 rfl) (own_tw hw 64 rfl) (by decide) (by decide)) q135a q135c (g := (mkF m 100 #[vi p0, vi p1, vi p2, vi p3, vi p4, vi c11, vi c13, vi c15, vi c17, vi (3 : Int32), vr a117, vr a119, vr b122, vr b125, vi (1 : Int32)] [(.ref b122)])) rfl (by rw [hml]; rfl) (Steps.refl _) (argsL := []) (rest := []) (lenOf pd_16 rfl) rfl (own_le rfl) (hb hby at_100) (fun _ _ => ⟨rfl, eh134, (by decide : 28 + 0 ≤ 32), (by decide : 302 + 0 ≤ 2176)⟩)
      dsimp only [Pt.U, Pt.locs, Pt.cells, Pt.slots] at X135 l135 y135 z135 st135 hQ135
      subst l135 y135 z135
      obtain ⟨rfl, Nq135, eh135⟩ := hQ135
      have N135 := Fr.app N134 Nq135
      refine own_gs st135 ?_
      show own_Fin p e below (T135.setTop (mkF m 103 #[vi p0, vi p1, vi p2, vi p3, vi p4, vi c11, vi c13, vi c15, vi c17, vi (3 : Int32), vr a117, vr a119, vr b122, vr b125, vi (1 : Int32)] [(.ref a117)])) _
      refine own_gs (cur' := T135.setTop (mkF m 105 #[vi p0, vi p1, vi p2, vi p3, vi p4, vi c11, vi c13, vi c15, vi c17, vi (3 : Int32), vr a117, vr a119, vr b122, vr b125, vi (1 : Int32)] [(.ref a117), (.ref a117)])) ?_ ?_
      · refine XS.aload X135.here hx rfl (hb hby at_103) rfl rfl ?_
        exact Steps.refl _
      obtain ⟨cq136, kq136, q136a, q136b, q136c⟩ := isOf hZ125 eh135 f130
      obtain ⟨_, _, ⟨T136, L136, k136, n136⟩, -, X136, ⟨Lc136, hQ136, l136, y136, z136⟩, st136⟩ := X135.virtualBack hx (y := own_n20) (z := own_n20) hown125 (mvT hZ125 (own_tw hw 93 rfl)) (mvT hZ125 (own_tw hw 94 rfl)) (notFace_of_selects (args := #[]) (mvT hZ125 (own_tw hw 96 rfl))) (mvT hZ125 (own_tw hw 96 rfl)) (mvT hZ125 (own_tw hw 95 rfl)) (by decide) (own_eqB (W := 0) hZ125 hw f127 f127 (O2.ext O126.2) P5 (by decide) (by decide)) q136a q136c (g := (mkF m 105 #[vi p0, vi p1, vi p2, vi p3, vi p4, vi c11, vi c13, vi c15, vi c17, vi (3 : Int32), vr a117, vr a119, vr b122, vr b125, vi (1 : Int32)] [(.ref a117), (.ref a117)])) rfl (by rw [hml]; rfl) (Steps.refl _) (argsL := [(.ref a117)]) (rest := []) (lenOf pd_10 rfl) rfl (own_le rfl) (hb hby at_105) (fun _ _ => ⟨rfl, eh135, (by decide : 28 + 0 ≤ 32), (by decide : 302 + 0 ≤ 2176)⟩)
      dsimp only [Pt.U, Pt.locs, Pt.cells, Pt.slots] at X136 l136 y136 z136 st136 hQ136
      subst l136 y136 z136
      obtain ⟨rfl, rfl, eh136⟩ := hQ136
      have N136 := Fr.app N135 (Fr.nil n0)
      refine own_gs st136 ?_
      show own_Fin p e below (T136.setTop (mkF m 108 #[vi p0, vi p1, vi p2, vi p3, vi p4, vi c11, vi c13, vi c15, vi c17, vi (3 : Int32), vr a117, vr a119, vr b122, vr b125, vi (1 : Int32)] [(.int (if ([c11, c13, c15] : List Int32) = [c11, c13, c15] then 1 else 0))])) _
      rw [if_pos rfl]
      show own_Fin p e below (T136.setTop (mkF m 108 #[vi p0, vi p1, vi p2, vi p3, vi p4, vi c11, vi c13, vi c15, vi c17, vi (3 : Int32), vr a117, vr a119, vr b122, vr b125, vi (1 : Int32)] [(.int (1 : Int32))])) _
      refine own_gs (cur' := T136.setTop (mkF m 115 #[vi p0, vi p1, vi p2, vi p3, vi p4, vi c11, vi c13, vi c15, vi c17, vi (3 : Int32), vr a117, vr a119, vr b122, vr b125, vi (1 : Int32)] [(.ref b125)])) ?_ ?_
      · refine XS.ifYes X136.here hx rfl (pc0 := 108) (pc' := 113) rfl (hb hby at_108) rfl ((if0 _ _).trans (feq ((by decide) : ¬ ((1 : Int32) = (0 : Int32)))).2) (by decide) (by decide) ?_
        refine XS.aload X136.here hx rfl (hb hby at_113) rfl rfl ?_
        exact Steps.refl _
      obtain ⟨cq137, kq137, q137a, q137b, q137c⟩ := isOf hZ125 eh136 E125
      obtain ⟨_, _, ⟨T137, L137, k137, n137⟩, -, X137, ⟨Lc137, hQ137, l137, y137, z137⟩, st137⟩ := X136.virtualBack hx (y := own_n17) (z := own_n17) hown125 (mvT hZ125 (own_tw hw 102 rfl)) (mvT hZ125 (own_tw hw 103 rfl)) (notFace_of_selects (args := #[]) (mvT hZ125 (own_tw hw 105 rfl))) (mvT hZ125 (own_tw hw 105 rfl)) (mvT hZ125 (own_tw hw 104 rfl)) (by decide) (backOf (W := 0) (own_val l Z a0 hW b125 a119 T125.heap n0 (by omega) O126 F125) hZ125 (own_tw hw 106 rfl) (own_tw hw 64 rfl) (by decide) (by decide)) q137a q137c (g := (mkF m 115 #[vi p0, vi p1, vi p2, vi p3, vi p4, vi c11, vi c13, vi c15, vi c17, vi (3 : Int32), vr a117, vr a119, vr b122, vr b125, vi (1 : Int32)] [(.ref b125)])) rfl (by rw [hml]; rfl) (Steps.refl _) (argsL := []) (rest := []) (lenOf pd_16 rfl) rfl (own_le rfl) (hb hby at_115) (fun _ _ => ⟨rfl, eh136, (by decide : 28 + 0 ≤ 32), (by decide : 302 + 0 ≤ 2176)⟩)
      dsimp only [Pt.U, Pt.locs, Pt.cells, Pt.slots] at X137 l137 y137 z137 st137 hQ137
      subst l137 y137 z137
      obtain ⟨rfl, Nq137, eh137⟩ := hQ137
      have N137 := Fr.app N136 Nq137
      refine own_gs st137 ?_
      show own_Fin p e below (T137.setTop (mkF m 118 #[vi p0, vi p1, vi p2, vi p3, vi p4, vi c11, vi c13, vi c15, vi c17, vi (3 : Int32), vr a117, vr a119, vr b122, vr b125, vi (1 : Int32)] [(.ref a119)])) _
      refine own_gs (cur' := T137.setTop (mkF m 120 #[vi p0, vi p1, vi p2, vi p3, vi p4, vi c11, vi c13, vi c15, vi c17, vi (3 : Int32), vr a117, vr a119, vr b122, vr b125, vi (1 : Int32)] [(.ref a119), (.ref a119)])) ?_ ?_
      · refine XS.aload X137.here hx rfl (hb hby at_118) rfl rfl ?_
        exact Steps.refl _
      have f139 := ((Ex119.keep Kq122).keep Kq125)
      obtain ⟨cq138, kq138, q138a, q138b, q138c⟩ := isOf hZ125 eh137 f139
      obtain ⟨_, _, ⟨T138, L138, k138, n138⟩, -, X138, ⟨Lc138, hQ138, l138, y138, z138⟩, st138⟩ := X137.virtualBack hx (y := own_n20) (z := own_n20) hown125 (mvT hZ125 (own_tw hw 93 rfl)) (mvT hZ125 (own_tw hw 94 rfl)) (notFace_of_selects (args := #[]) (mvT hZ125 (own_tw hw 96 rfl))) (mvT hZ125 (own_tw hw 96 rfl)) (mvT hZ125 (own_tw hw 95 rfl)) (by decide) (own_eqB (W := 0) hZ125 hw f128 f128 (O2.ext O126.2) P5 (by decide) (by decide)) q138a q138c (g := (mkF m 120 #[vi p0, vi p1, vi p2, vi p3, vi p4, vi c11, vi c13, vi c15, vi c17, vi (3 : Int32), vr a117, vr a119, vr b122, vr b125, vi (1 : Int32)] [(.ref a119), (.ref a119)])) rfl (by rw [hml]; rfl) (Steps.refl _) (argsL := [(.ref a119)]) (rest := []) (lenOf pd_10 rfl) rfl (own_le rfl) (hb hby at_120) (fun _ _ => ⟨rfl, eh137, (by decide : 28 + 0 ≤ 32), (by decide : 302 + 0 ≤ 2176)⟩)
      dsimp only [Pt.U, Pt.locs, Pt.cells, Pt.slots] at X138 l138 y138 z138 st138 hQ138
      subst l138 y138 z138
      obtain ⟨rfl, rfl, eh138⟩ := hQ138
      have N138 := Fr.app N137 (Fr.nil n0)
      refine own_gs st138 ?_
      show own_Fin p e below (T138.setTop (mkF m 123 #[vi p0, vi p1, vi p2, vi p3, vi p4, vi c11, vi c13, vi c15, vi c17, vi (3 : Int32), vr a117, vr a119, vr b122, vr b125, vi (1 : Int32)] [(.int (if ([c17, c13, c15] : List Int32) = [c17, c13, c15] then 1 else 0))])) _
      rw [if_pos rfl]
      show own_Fin p e below (T138.setTop (mkF m 123 #[vi p0, vi p1, vi p2, vi p3, vi p4, vi c11, vi c13, vi c15, vi c17, vi (3 : Int32), vr a117, vr a119, vr b122, vr b125, vi (1 : Int32)] [(.int (1 : Int32))])) _
      refine own_gs (cur' := T138.setTop (mkF m 132 #[vi p0, vi p1, vi p2, vi p3, vi p4, vi c11, vi c13, vi c15, vi c17, vi (3 : Int32), vr a117, vr a119, vr b122, vr b125, vi (1 : Int32)] [(.ref b125), (.ref b122)])) ?_ ?_
      · refine XS.ifYes X138.here hx rfl (pc0 := 123) (pc' := 128) rfl (hb hby at_123) rfl ((if0 _ _).trans (feq ((by decide) : ¬ ((1 : Int32) = (0 : Int32)))).2) (by decide) (by decide) ?_
        refine XS.aload X138.here hx rfl (hb hby at_128) rfl rfl ?_
        refine XS.aload X138.here hx rfl (hb hby at_130) rfl rfl ?_
        exact Steps.refl _
      obtain ⟨cq140, kq140, q140a, q140b, q140c⟩ := isOf hZ125 eh138 f133
      obtain ⟨_, _, ⟨T140, L140, k140, n140⟩, -, X140, ⟨Lc140, hQ140, l140, y140, z140⟩, st140⟩ := X138.virtualBack hx (y := own_n19) (z := own_n19) hown125 (mvT hZ125 (own_tw hw 112 rfl)) (mvT hZ125 (own_tw hw 113 rfl)) (notFace_of_selects (args := #[]) (mvT hZ125 (own_tw hw 115 rfl))) (mvT hZ125 (own_tw hw 115 rfl)) (mvT hZ125 (own_tw hw 114 rfl)) (by decide) (backOf (W := 0) (own_leq l Z a0 hW b122 b125 a117 a119 t117 t119 [c11, c13, c15] [c17, c13, c15] T125.heap n0 (by omega) O126 f133 f131 f127 E125 F125 f128) hZ125 (own_tw hw 116 rfl) (own_tw hw 64 rfl) (by decide) (by decide)) q140a q140c (g := (mkF m 132 #[vi p0, vi p1, vi p2, vi p3, vi p4, vi c11, vi c13, vi c15, vi c17, vi (3 : Int32), vr a117, vr a119, vr b122, vr b125, vi (1 : Int32)] [(.ref b125), (.ref b122)])) rfl (by rw [hml]; rfl) (Steps.refl _) (argsL := [(.ref b125)]) (rest := []) (lenOf pd_10 rfl) rfl (own_le rfl) (hb hby at_132) (fun _ _ => ⟨rfl, eh138, (by decide : 28 + 0 ≤ 32), (by decide : 302 + 0 ≤ 2176)⟩)
      dsimp only [Pt.U, Pt.locs, Pt.cells, Pt.slots] at X140 l140 y140 z140 st140 hQ140
      subst l140 y140 z140
      obtain ⟨rfl, Nq140, eh140⟩ := hQ140
      have N140 := Fr.app N138 Nq140
      refine own_gs st140 ?_
      show own_Fin p e below (T140.setTop (mkF m 135 #[vi p0, vi p1, vi p2, vi p3, vi p4, vi c11, vi c13, vi c15, vi c17, vi (3 : Int32), vr a117, vr a119, vr b122, vr b125, vi (1 : Int32)] [(.int (if ([c11, c13, c15] : List Int32) = [c17, c13, c15] then 1 else 0))])) _
      rw [if_pos hq]
      show own_Fin p e below (T140.setTop (mkF m 135 #[vi p0, vi p1, vi p2, vi p3, vi p4, vi c11, vi c13, vi c15, vi c17, vi (3 : Int32), vr a117, vr a119, vr b122, vr b125, vi (1 : Int32)] [(.int (1 : Int32))])) _
      have f141 := (((Fh117.keep Kq119 nin0).keep Kq122 nin0).keep Kq125 nin0)
      have f142 := (((Fz117.keep Kq119 nin0).keep Kq122 nin0).keep Kq125 nin0)
      have f143 := (((Eb117.keep Kq119).keep Kq122).keep Kq125)
      refine own_gs (cur' := T140.setTop (mkF m 149 #[vi p0, vi p1, vi p2, vi p3, vi p4, vi c11, vi c13, vi c15, vi c17, vi (3 : Int32), vr a117, vr a119, vr b122, vr b125, vi (1 : Int32)] [(.ref b122)])) ?_ ?_
      · refine XS.iload X140.here hx rfl (hb hby at_135) rfl ?_
        refine XS.icmpYes X140.here hx rfl (pc0 := 137) (pc' := 142) rfl (hb hby at_137) rfl (teq ((by decide) : (1 : Int32) = (1 : Int32))).1 (by decide) (by decide) ?_
        refine XS.iload X140.here hx rfl (hb hby at_142) rfl ?_
        refine XS.ifNo X140.here hx rfl (hb hby at_144) rfl ((if0 _ _).trans (feq ((by decide) : ¬ ((1 : Int32) = (0 : Int32)))).1) ?_
        refine XS.aload X140.here hx rfl (hb hby at_147) rfl rfl ?_
        exact Steps.refl _
      have f145 := (CHr.safe hC125 (own_lt (by omega)) (CHr.safe hC122 (own_lt (by omega)) (Safe.keep Kq119 all0 CH118.1 Sf117)))
      obtain ⟨cq144, kq144, q144a, q144b, q144c⟩ := isOf hZ125 eh140 f133
      obtain ⟨_, _, ⟨T144, L144, k144, n144⟩, -, X144, ⟨Lc144, hQ144, l144, y144, z144⟩, st144⟩ := X140.virtualBack hx (y := own_n25) (z := own_n25) hown125 (mvT hZ125 (own_tw hw 147 rfl)) (mvT hZ125 (own_tw hw 148 rfl)) (notFace_of_selects (args := #[]) (mvT hZ125 (own_tw hw 150 rfl))) (mvT hZ125 (own_tw hw 150 rfl)) (mvT hZ125 (own_tw hw 149 rfl)) (by decide) (backOf (W := 0) (own_lhc_k3 l Z a0 hW b122 a117 t117 c11 c13 c15 T125.heap n0 (by omega) O126 f131 f127 f141 f142 f143 (by omega) hc11 hc13 hc15) hZ125 (own_tw hw 151 rfl) (own_tw hw 64 rfl) (by decide) (by decide)) q144a q144c (g := (mkF m 149 #[vi p0, vi p1, vi p2, vi p3, vi p4, vi c11, vi c13, vi c15, vi c17, vi (3 : Int32), vr a117, vr a119, vr b122, vr b125, vi (1 : Int32)] [(.ref b122)])) rfl (by rw [hml]; rfl) (Steps.refl _) (argsL := []) (rest := []) (lenOf pd_6 rfl) rfl (own_le rfl) (hb hby at_149) (fun _ _ => ⟨rfl, eh140, (by decide : 28 + 0 ≤ 32), (by decide : 302 + 0 ≤ 2176)⟩)
      dsimp only [Pt.U, Pt.locs, Pt.cells, Pt.slots] at X144 l144 y144 z144 st144 hQ144
      subst l144 y144 z144
      obtain ⟨rfl, Nq144, Kq144⟩ := hQ144
      have N144 := Fr.app N140 Nq144
      have z146 := Kq144.1
      have K146 := K126.trans Kq144 (allS (Or.inr (by omega)) all0)
      have O146 := O126.keep Kq144 (allS (by omega) all0)
      have CH146 := CH126.trans (CHr.keep Kq144 (allS f145 all0) CH126.1)
      refine own_gs st144 ?_
      show own_Fin p e below (T144.setTop (mkF m 152 #[vi p0, vi p1, vi p2, vi p3, vi p4, vi c11, vi c13, vi c15, vi c17, vi (3 : Int32), vr a117, vr a119, vr b122, vr b125, vi (1 : Int32)] [(.int (own_hash [c11, c13, c15]))])) _
      have f147 := (F125.keep Kq144 (ninS (own_ne (a := b125) (b := a117) (by omega)) nin0))
      have f148 := (f128.keep Kq144 (ninS (own_ne (a := a119) (b := a117) (by omega)) nin0) (ninS (own_ne (a := t119) (b := a117) (by omega)) nin0))
      have f149 := (((Fh119.keep Kq122 nin0).keep Kq125 nin0).keep Kq144 (ninS (own_ne (a := a119) (b := a117) (by omega)) nin0))
      have f150 := (((Fz119.keep Kq122 nin0).keep Kq125 nin0).keep Kq144 (ninS (own_ne (a := a119) (b := a117) (by omega)) nin0))
      have f151 := (((Eb119.keep Kq122).keep Kq125).keep Kq144)
      refine own_gs (cur' := T144.setTop (mkF m 154 #[vi p0, vi p1, vi p2, vi p3, vi p4, vi c11, vi c13, vi c15, vi c17, vi (3 : Int32), vr a117, vr a119, vr b122, vr b125, vi (1 : Int32)] [(.ref b125), (.int (own_hash [c11, c13, c15]))])) ?_ ?_
      · refine XS.aload X144.here hx rfl (hb hby at_152) rfl rfl ?_
        exact Steps.refl _
      have f153 := (Safe.keep Kq144 (allS f145 all0) CH126.1 (CHr.safe hC125 (own_lt (by omega)) (CHr.safe hC122 (own_lt (by omega)) Sf119)))
      have f154 := (E125.keep Kq144)
      obtain ⟨cq152, kq152, q152a, q152b, q152c⟩ := isOf hZ125 rfl f154
      obtain ⟨_, _, ⟨T152, L152, k152, n152⟩, -, X152, ⟨Lc152, hQ152, l152, y152, z152⟩, st152⟩ := X144.virtualBack hx (y := own_n25) (z := own_n25) hown125 (mvT hZ125 (own_tw hw 147 rfl)) (mvT hZ125 (own_tw hw 148 rfl)) (notFace_of_selects (args := #[]) (mvT hZ125 (own_tw hw 150 rfl))) (mvT hZ125 (own_tw hw 150 rfl)) (mvT hZ125 (own_tw hw 149 rfl)) (by decide) (backOf (W := 1) (own_lhc_k3 l Z a0 hW b125 a119 t119 c17 c13 c15 T144.heap n0 (by omega) O146 f147 f148 f149 f150 f151 (by omega) hc17 hc13 hc15) hZ125 (own_tw hw 151 rfl) (own_tw hw 64 rfl) (by decide) (by decide)) q152a q152c (g := (mkF m 154 #[vi p0, vi p1, vi p2, vi p3, vi p4, vi c11, vi c13, vi c15, vi c17, vi (3 : Int32), vr a117, vr a119, vr b122, vr b125, vi (1 : Int32)] [(.ref b125), (.int (own_hash [c11, c13, c15]))])) rfl (by rw [hml]; rfl) (Steps.refl _) (argsL := []) (rest := [(.int (own_hash [c11, c13, c15]))]) (lenOf pd_6 rfl) rfl (own_le rfl) (hb hby at_154) (fun _ _ => ⟨rfl, rfl, (by decide : 28 + 0 ≤ 32), (by decide : 302 + 0 ≤ 2176)⟩)
      dsimp only [Pt.U, Pt.locs, Pt.cells, Pt.slots] at X152 l152 y152 z152 st152 hQ152
      subst l152 y152 z152
      obtain ⟨rfl, Nq152, Kq152⟩ := hQ152
      have N152 := Fr.app N144 Nq152
      have z155 := Kq152.1
      have K155 := K146.trans Kq152 (allS (Or.inr (by omega)) all0)
      have O155 := O146.keep Kq152 (allS (by omega) all0)
      have CH155 := CH146.trans (CHr.keep Kq152 (allS f153 all0) CH146.1)
      refine own_gs st152 ?_
      show own_Fin p e below (T152.setTop (mkF m 157 #[vi p0, vi p1, vi p2, vi p3, vi p4, vi c11, vi c13, vi c15, vi c17, vi (3 : Int32), vr a117, vr a119, vr b122, vr b125, vi (1 : Int32)] [(.int (own_hash [c17, c13, c15])), (.int (own_hash [c11, c13, c15]))])) _
      refine own_gs (cur' := T152.setTop (mkF m 163 #[vi p0, vi p1, vi p2, vi p3, vi p4, vi c11, vi c13, vi c15, vi c17, vi (3 : Int32), vr a117, vr a119, vr b122, vr b125, vi (1 : Int32)] [(.int (1 : Int32))])) ?_ ?_
      · refine XS.icmpYes X152.here hx rfl (pc0 := 157) (pc' := 162) rfl (hb hby at_157) rfl (teq ((congrArg own_hash hq) : (own_hash [c11, c13, c15]) = (own_hash [c17, c13, c15]))).1 (by decide) (by decide) ?_
        refine XS.iconst X152.here hx rfl (hb hby at_162) ?_
        exact Steps.refl _
      obtain ⟨fs, hr, hrun, hended, hRE⟩ := X152.leaveW hS125 (show T125.heap.size ≤ T152.heap.size by omega) (v := (some (.int (1 : Int32)))) (fun h => by rw [Bd.returns] at h; cases h)
      refine ⟨_, _, retN X152 hx (t := .boolean) Bd.returns (by simp) (hb hby at_163) hr, hrun, hended, _, _, rfl, ?_, ?_, hRE.1, hRE.2.1, hRE.2.2.1, hRE.2.2.2.mono (own_le rfl) (own_le rfl)⟩
      · show own_law_Q Z p0 p1 p2 p3 p4 h0 n0 (some (.int (1 : Int32))) T152.heap _
        exact ⟨rfl, N152⟩
      · have hfin := CH155.trans (CHv.at X152 hZ125 hEL CH155.1)
        rw [hh]
        show CHr Z own_EL s.vm h0 T152.vm T152.heap
        exact hfin
    · rw [if_neg hq]
      show own_Fin p e below (T129.setTop (mkF m 81 #[vi p0, vi p1, vi p2, vi p3, vi p4, vi c11, vi c13, vi c15, vi c17, vi (3 : Int32), vr a117, vr a119, vr b122, vr b125, uu] [(.int (0 : Int32))])) _
      have f156 := (F122.keep Kq125 nin0)
      refine own_gs (cur' := T129.setTop (mkF m 85 #[vi p0, vi p1, vi p2, vi p3, vi p4, vi c11, vi c13, vi c15, vi c17, vi (3 : Int32), vr a117, vr a119, vr b122, vr b125, vi (0 : Int32)] [(.ref b122)])) ?_ ?_
      · refine XS.istore X129.here hx rfl (hb hby at_81) rfl (l' := #[vi p0, vi p1, vi p2, vi p3, vi p4, vi c11, vi c13, vi c15, vi c17, vi (3 : Int32), vr a117, vr a119, vr b122, vr b125, vi (0 : Int32)]) rfl ?_
        refine XS.aload X129.here hx rfl (hb hby at_83) rfl rfl ?_
        exact Steps.refl _
      have f158 := (E122.keep Kq125)
      obtain ⟨cq157, kq157, q157a, q157b, q157c⟩ := isOf hZ125 eh129 f158
      obtain ⟨_, _, ⟨T157, L157, k157, n157⟩, -, X157, ⟨Lc157, hQ157, l157, y157, z157⟩, st157⟩ := X129.virtualBack hx (y := own_n17) (z := own_n17) hown125 (mvT hZ125 (own_tw hw 102 rfl)) (mvT hZ125 (own_tw hw 103 rfl)) (notFace_of_selects (args := #[]) (mvT hZ125 (own_tw hw 105 rfl))) (mvT hZ125 (own_tw hw 105 rfl)) (mvT hZ125 (own_tw hw 104 rfl)) (by decide) (backOf (W := 0) (own_val l Z a0 hW b122 a117 T125.heap n0 (by omega) O126 f156) hZ125 (own_tw hw 106 rfl) (own_tw hw 64 rfl) (by decide) (by decide)) q157a q157c (g := (mkF m 85 #[vi p0, vi p1, vi p2, vi p3, vi p4, vi c11, vi c13, vi c15, vi c17, vi (3 : Int32), vr a117, vr a119, vr b122, vr b125, vi (0 : Int32)] [(.ref b122)])) rfl (by rw [hml]; rfl) (Steps.refl _) (argsL := []) (rest := []) (lenOf pd_16 rfl) rfl (own_le rfl) (hb hby at_85) (fun _ _ => ⟨rfl, eh129, (by decide : 28 + 0 ≤ 32), (by decide : 302 + 0 ≤ 2176)⟩)
      dsimp only [Pt.U, Pt.locs, Pt.cells, Pt.slots] at X157 l157 y157 z157 st157 hQ157
      subst l157 y157 z157
      obtain ⟨rfl, Nq157, eh157⟩ := hQ157
      have N157 := Fr.app N129 Nq157
      refine own_gs st157 ?_
      show own_Fin p e below (T157.setTop (mkF m 88 #[vi p0, vi p1, vi p2, vi p3, vi p4, vi c11, vi c13, vi c15, vi c17, vi (3 : Int32), vr a117, vr a119, vr b122, vr b125, vi (0 : Int32)] [(.ref a117)])) _
      refine own_gs (cur' := T157.setTop (mkF m 90 #[vi p0, vi p1, vi p2, vi p3, vi p4, vi c11, vi c13, vi c15, vi c17, vi (3 : Int32), vr a117, vr a119, vr b122, vr b125, vi (0 : Int32)] [(.ref a117), (.ref a117)])) ?_ ?_
      · refine XS.aload X157.here hx rfl (hb hby at_88) rfl rfl ?_
        exact Steps.refl _
      obtain ⟨cq159, kq159, q159a, q159b, q159c⟩ := isOf hZ125 eh157 f130
      obtain ⟨_, _, ⟨T159, L159, k159, n159⟩, -, X159, ⟨Lc159, hQ159, l159, y159, z159⟩, st159⟩ := X157.virtualBack hx (y := own_n20) (z := own_n20) hown125 (mvT hZ125 (own_tw hw 93 rfl)) (mvT hZ125 (own_tw hw 94 rfl)) (notFace_of_selects (args := #[]) (mvT hZ125 (own_tw hw 96 rfl))) (mvT hZ125 (own_tw hw 96 rfl)) (mvT hZ125 (own_tw hw 95 rfl)) (by decide) (own_eqB (W := 0) hZ125 hw f127 f127 (O2.ext O126.2) P5 (by decide) (by decide)) q159a q159c (g := (mkF m 90 #[vi p0, vi p1, vi p2, vi p3, vi p4, vi c11, vi c13, vi c15, vi c17, vi (3 : Int32), vr a117, vr a119, vr b122, vr b125, vi (0 : Int32)] [(.ref a117), (.ref a117)])) rfl (by rw [hml]; rfl) (Steps.refl _) (argsL := [(.ref a117)]) (rest := []) (lenOf pd_10 rfl) rfl (own_le rfl) (hb hby at_90) (fun _ _ => ⟨rfl, eh157, (by decide : 28 + 0 ≤ 32), (by decide : 302 + 0 ≤ 2176)⟩)
      dsimp only [Pt.U, Pt.locs, Pt.cells, Pt.slots] at X159 l159 y159 z159 st159 hQ159
      subst l159 y159 z159
      obtain ⟨rfl, rfl, eh159⟩ := hQ159
      have N159 := Fr.app N157 (Fr.nil n0)
      refine own_gs st159 ?_
      show own_Fin p e below (T159.setTop (mkF m 93 #[vi p0, vi p1, vi p2, vi p3, vi p4, vi c11, vi c13, vi c15, vi c17, vi (3 : Int32), vr a117, vr a119, vr b122, vr b125, vi (0 : Int32)] [(.int (if ([c11, c13, c15] : List Int32) = [c11, c13, c15] then 1 else 0))])) _
      rw [if_pos rfl]
      show own_Fin p e below (T159.setTop (mkF m 93 #[vi p0, vi p1, vi p2, vi p3, vi p4, vi c11, vi c13, vi c15, vi c17, vi (3 : Int32), vr a117, vr a119, vr b122, vr b125, vi (0 : Int32)] [(.int (1 : Int32))])) _
      refine own_gs (cur' := T159.setTop (mkF m 100 #[vi p0, vi p1, vi p2, vi p3, vi p4, vi c11, vi c13, vi c15, vi c17, vi (3 : Int32), vr a117, vr a119, vr b122, vr b125, vi (0 : Int32)] [(.ref b122)])) ?_ ?_
      · refine XS.ifYes X159.here hx rfl (pc0 := 93) (pc' := 98) rfl (hb hby at_93) rfl ((if0 _ _).trans (feq ((by decide) : ¬ ((1 : Int32) = (0 : Int32)))).2) (by decide) (by decide) ?_
        refine XS.aload X159.here hx rfl (hb hby at_98) rfl rfl ?_
        exact Steps.refl _
      obtain ⟨cq160, kq160, q160a, q160b, q160c⟩ := isOf hZ125 eh159 f158
      obtain ⟨_, _, ⟨T160, L160, k160, n160⟩, -, X160, ⟨Lc160, hQ160, l160, y160, z160⟩, st160⟩ := X159.virtualBack hx (y := own_n18) (z := own_n18) hown125 (mvT hZ125 (own_tw hw 107 rfl)) (mvT hZ125 (own_tw hw 108 rfl)) (notFace_of_selects (args := #[]) (mvT hZ125 (own_tw hw 110 rfl))) (mvT hZ125 (own_tw hw 110 rfl)) (mvT hZ125 (own_tw hw 109 rfl)) (by decide) (backOf (W := 0) (own_tos l Z a0 hW b122 a117 T125.heap n0 (by omega) O126 f156) hZ125 (own_tw hw 111 rfl) (own_tw hw 64 rfl) (by decide) (by decide)) q160a q160c (g := (mkF m 100 #[vi p0, vi p1, vi p2, vi p3, vi p4, vi c11, vi c13, vi c15, vi c17, vi (3 : Int32), vr a117, vr a119, vr b122, vr b125, vi (0 : Int32)] [(.ref b122)])) rfl (by rw [hml]; rfl) (Steps.refl _) (argsL := []) (rest := []) (lenOf pd_16 rfl) rfl (own_le rfl) (hb hby at_100) (fun _ _ => ⟨rfl, eh159, (by decide : 28 + 0 ≤ 32), (by decide : 302 + 0 ≤ 2176)⟩)
      dsimp only [Pt.U, Pt.locs, Pt.cells, Pt.slots] at X160 l160 y160 z160 st160 hQ160
      subst l160 y160 z160
      obtain ⟨rfl, Nq160, eh160⟩ := hQ160
      have N160 := Fr.app N159 Nq160
      refine own_gs st160 ?_
      show own_Fin p e below (T160.setTop (mkF m 103 #[vi p0, vi p1, vi p2, vi p3, vi p4, vi c11, vi c13, vi c15, vi c17, vi (3 : Int32), vr a117, vr a119, vr b122, vr b125, vi (0 : Int32)] [(.ref a117)])) _
      refine own_gs (cur' := T160.setTop (mkF m 105 #[vi p0, vi p1, vi p2, vi p3, vi p4, vi c11, vi c13, vi c15, vi c17, vi (3 : Int32), vr a117, vr a119, vr b122, vr b125, vi (0 : Int32)] [(.ref a117), (.ref a117)])) ?_ ?_
      · refine XS.aload X160.here hx rfl (hb hby at_103) rfl rfl ?_
        exact Steps.refl _
      obtain ⟨cq161, kq161, q161a, q161b, q161c⟩ := isOf hZ125 eh160 f130
      obtain ⟨_, _, ⟨T161, L161, k161, n161⟩, -, X161, ⟨Lc161, hQ161, l161, y161, z161⟩, st161⟩ := X160.virtualBack hx (y := own_n20) (z := own_n20) hown125 (mvT hZ125 (own_tw hw 93 rfl)) (mvT hZ125 (own_tw hw 94 rfl)) (notFace_of_selects (args := #[]) (mvT hZ125 (own_tw hw 96 rfl))) (mvT hZ125 (own_tw hw 96 rfl)) (mvT hZ125 (own_tw hw 95 rfl)) (by decide) (own_eqB (W := 0) hZ125 hw f127 f127 (O2.ext O126.2) P5 (by decide) (by decide)) q161a q161c (g := (mkF m 105 #[vi p0, vi p1, vi p2, vi p3, vi p4, vi c11, vi c13, vi c15, vi c17, vi (3 : Int32), vr a117, vr a119, vr b122, vr b125, vi (0 : Int32)] [(.ref a117), (.ref a117)])) rfl (by rw [hml]; rfl) (Steps.refl _) (argsL := [(.ref a117)]) (rest := []) (lenOf pd_10 rfl) rfl (own_le rfl) (hb hby at_105) (fun _ _ => ⟨rfl, eh160, (by decide : 28 + 0 ≤ 32), (by decide : 302 + 0 ≤ 2176)⟩)
      dsimp only [Pt.U, Pt.locs, Pt.cells, Pt.slots] at X161 l161 y161 z161 st161 hQ161
      subst l161 y161 z161
      obtain ⟨rfl, rfl, eh161⟩ := hQ161
      have N161 := Fr.app N160 (Fr.nil n0)
      refine own_gs st161 ?_
      show own_Fin p e below (T161.setTop (mkF m 108 #[vi p0, vi p1, vi p2, vi p3, vi p4, vi c11, vi c13, vi c15, vi c17, vi (3 : Int32), vr a117, vr a119, vr b122, vr b125, vi (0 : Int32)] [(.int (if ([c11, c13, c15] : List Int32) = [c11, c13, c15] then 1 else 0))])) _
      rw [if_pos rfl]
      show own_Fin p e below (T161.setTop (mkF m 108 #[vi p0, vi p1, vi p2, vi p3, vi p4, vi c11, vi c13, vi c15, vi c17, vi (3 : Int32), vr a117, vr a119, vr b122, vr b125, vi (0 : Int32)] [(.int (1 : Int32))])) _
      refine own_gs (cur' := T161.setTop (mkF m 115 #[vi p0, vi p1, vi p2, vi p3, vi p4, vi c11, vi c13, vi c15, vi c17, vi (3 : Int32), vr a117, vr a119, vr b122, vr b125, vi (0 : Int32)] [(.ref b125)])) ?_ ?_
      · refine XS.ifYes X161.here hx rfl (pc0 := 108) (pc' := 113) rfl (hb hby at_108) rfl ((if0 _ _).trans (feq ((by decide) : ¬ ((1 : Int32) = (0 : Int32)))).2) (by decide) (by decide) ?_
        refine XS.aload X161.here hx rfl (hb hby at_113) rfl rfl ?_
        exact Steps.refl _
      obtain ⟨cq162, kq162, q162a, q162b, q162c⟩ := isOf hZ125 eh161 E125
      obtain ⟨_, _, ⟨T162, L162, k162, n162⟩, -, X162, ⟨Lc162, hQ162, l162, y162, z162⟩, st162⟩ := X161.virtualBack hx (y := own_n17) (z := own_n17) hown125 (mvT hZ125 (own_tw hw 102 rfl)) (mvT hZ125 (own_tw hw 103 rfl)) (notFace_of_selects (args := #[]) (mvT hZ125 (own_tw hw 105 rfl))) (mvT hZ125 (own_tw hw 105 rfl)) (mvT hZ125 (own_tw hw 104 rfl)) (by decide) (backOf (W := 0) (own_val l Z a0 hW b125 a119 T125.heap n0 (by omega) O126 F125) hZ125 (own_tw hw 106 rfl) (own_tw hw 64 rfl) (by decide) (by decide)) q162a q162c (g := (mkF m 115 #[vi p0, vi p1, vi p2, vi p3, vi p4, vi c11, vi c13, vi c15, vi c17, vi (3 : Int32), vr a117, vr a119, vr b122, vr b125, vi (0 : Int32)] [(.ref b125)])) rfl (by rw [hml]; rfl) (Steps.refl _) (argsL := []) (rest := []) (lenOf pd_16 rfl) rfl (own_le rfl) (hb hby at_115) (fun _ _ => ⟨rfl, eh161, (by decide : 28 + 0 ≤ 32), (by decide : 302 + 0 ≤ 2176)⟩)
      dsimp only [Pt.U, Pt.locs, Pt.cells, Pt.slots] at X162 l162 y162 z162 st162 hQ162
      subst l162 y162 z162
      obtain ⟨rfl, Nq162, eh162⟩ := hQ162
      have N162 := Fr.app N161 Nq162
      refine own_gs st162 ?_
      show own_Fin p e below (T162.setTop (mkF m 118 #[vi p0, vi p1, vi p2, vi p3, vi p4, vi c11, vi c13, vi c15, vi c17, vi (3 : Int32), vr a117, vr a119, vr b122, vr b125, vi (0 : Int32)] [(.ref a119)])) _
      refine own_gs (cur' := T162.setTop (mkF m 120 #[vi p0, vi p1, vi p2, vi p3, vi p4, vi c11, vi c13, vi c15, vi c17, vi (3 : Int32), vr a117, vr a119, vr b122, vr b125, vi (0 : Int32)] [(.ref a119), (.ref a119)])) ?_ ?_
      · refine XS.aload X162.here hx rfl (hb hby at_118) rfl rfl ?_
        exact Steps.refl _
      have f164 := ((Ex119.keep Kq122).keep Kq125)
      obtain ⟨cq163, kq163, q163a, q163b, q163c⟩ := isOf hZ125 eh162 f164
      obtain ⟨_, _, ⟨T163, L163, k163, n163⟩, -, X163, ⟨Lc163, hQ163, l163, y163, z163⟩, st163⟩ := X162.virtualBack hx (y := own_n20) (z := own_n20) hown125 (mvT hZ125 (own_tw hw 93 rfl)) (mvT hZ125 (own_tw hw 94 rfl)) (notFace_of_selects (args := #[]) (mvT hZ125 (own_tw hw 96 rfl))) (mvT hZ125 (own_tw hw 96 rfl)) (mvT hZ125 (own_tw hw 95 rfl)) (by decide) (own_eqB (W := 0) hZ125 hw f128 f128 (O2.ext O126.2) P5 (by decide) (by decide)) q163a q163c (g := (mkF m 120 #[vi p0, vi p1, vi p2, vi p3, vi p4, vi c11, vi c13, vi c15, vi c17, vi (3 : Int32), vr a117, vr a119, vr b122, vr b125, vi (0 : Int32)] [(.ref a119), (.ref a119)])) rfl (by rw [hml]; rfl) (Steps.refl _) (argsL := [(.ref a119)]) (rest := []) (lenOf pd_10 rfl) rfl (own_le rfl) (hb hby at_120) (fun _ _ => ⟨rfl, eh162, (by decide : 28 + 0 ≤ 32), (by decide : 302 + 0 ≤ 2176)⟩)
      dsimp only [Pt.U, Pt.locs, Pt.cells, Pt.slots] at X163 l163 y163 z163 st163 hQ163
      subst l163 y163 z163
      obtain ⟨rfl, rfl, eh163⟩ := hQ163
      have N163 := Fr.app N162 (Fr.nil n0)
      refine own_gs st163 ?_
      show own_Fin p e below (T163.setTop (mkF m 123 #[vi p0, vi p1, vi p2, vi p3, vi p4, vi c11, vi c13, vi c15, vi c17, vi (3 : Int32), vr a117, vr a119, vr b122, vr b125, vi (0 : Int32)] [(.int (if ([c17, c13, c15] : List Int32) = [c17, c13, c15] then 1 else 0))])) _
      rw [if_pos rfl]
      show own_Fin p e below (T163.setTop (mkF m 123 #[vi p0, vi p1, vi p2, vi p3, vi p4, vi c11, vi c13, vi c15, vi c17, vi (3 : Int32), vr a117, vr a119, vr b122, vr b125, vi (0 : Int32)] [(.int (1 : Int32))])) _
      refine own_gs (cur' := T163.setTop (mkF m 132 #[vi p0, vi p1, vi p2, vi p3, vi p4, vi c11, vi c13, vi c15, vi c17, vi (3 : Int32), vr a117, vr a119, vr b122, vr b125, vi (0 : Int32)] [(.ref b125), (.ref b122)])) ?_ ?_
      · refine XS.ifYes X163.here hx rfl (pc0 := 123) (pc' := 128) rfl (hb hby at_123) rfl ((if0 _ _).trans (feq ((by decide) : ¬ ((1 : Int32) = (0 : Int32)))).2) (by decide) (by decide) ?_
        refine XS.aload X163.here hx rfl (hb hby at_128) rfl rfl ?_
        refine XS.aload X163.here hx rfl (hb hby at_130) rfl rfl ?_
        exact Steps.refl _
      obtain ⟨cq165, kq165, q165a, q165b, q165c⟩ := isOf hZ125 eh163 f158
      obtain ⟨_, _, ⟨T165, L165, k165, n165⟩, -, X165, ⟨Lc165, hQ165, l165, y165, z165⟩, st165⟩ := X163.virtualBack hx (y := own_n19) (z := own_n19) hown125 (mvT hZ125 (own_tw hw 112 rfl)) (mvT hZ125 (own_tw hw 113 rfl)) (notFace_of_selects (args := #[]) (mvT hZ125 (own_tw hw 115 rfl))) (mvT hZ125 (own_tw hw 115 rfl)) (mvT hZ125 (own_tw hw 114 rfl)) (by decide) (backOf (W := 0) (own_leq l Z a0 hW b122 b125 a117 a119 t117 t119 [c11, c13, c15] [c17, c13, c15] T125.heap n0 (by omega) O126 f158 f156 f127 E125 F125 f128) hZ125 (own_tw hw 116 rfl) (own_tw hw 64 rfl) (by decide) (by decide)) q165a q165c (g := (mkF m 132 #[vi p0, vi p1, vi p2, vi p3, vi p4, vi c11, vi c13, vi c15, vi c17, vi (3 : Int32), vr a117, vr a119, vr b122, vr b125, vi (0 : Int32)] [(.ref b125), (.ref b122)])) rfl (by rw [hml]; rfl) (Steps.refl _) (argsL := [(.ref b125)]) (rest := []) (lenOf pd_10 rfl) rfl (own_le rfl) (hb hby at_132) (fun _ _ => ⟨rfl, eh163, (by decide : 28 + 0 ≤ 32), (by decide : 302 + 0 ≤ 2176)⟩)
      dsimp only [Pt.U, Pt.locs, Pt.cells, Pt.slots] at X165 l165 y165 z165 st165 hQ165
      subst l165 y165 z165
      obtain ⟨rfl, Nq165, eh165⟩ := hQ165
      have N165 := Fr.app N163 Nq165
      refine own_gs st165 ?_
      show own_Fin p e below (T165.setTop (mkF m 135 #[vi p0, vi p1, vi p2, vi p3, vi p4, vi c11, vi c13, vi c15, vi c17, vi (3 : Int32), vr a117, vr a119, vr b122, vr b125, vi (0 : Int32)] [(.int (if ([c11, c13, c15] : List Int32) = [c17, c13, c15] then 1 else 0))])) _
      rw [if_neg hq]
      show own_Fin p e below (T165.setTop (mkF m 135 #[vi p0, vi p1, vi p2, vi p3, vi p4, vi c11, vi c13, vi c15, vi c17, vi (3 : Int32), vr a117, vr a119, vr b122, vr b125, vi (0 : Int32)] [(.int (0 : Int32))])) _
      refine own_gs (cur' := T165.setTop (mkF m 163 #[vi p0, vi p1, vi p2, vi p3, vi p4, vi c11, vi c13, vi c15, vi c17, vi (3 : Int32), vr a117, vr a119, vr b122, vr b125, vi (0 : Int32)] [(.int (1 : Int32))])) ?_ ?_
      · refine XS.iload X165.here hx rfl (hb hby at_135) rfl ?_
        refine XS.icmpYes X165.here hx rfl (pc0 := 137) (pc' := 142) rfl (hb hby at_137) rfl (teq ((by decide) : (0 : Int32) = (0 : Int32))).1 (by decide) (by decide) ?_
        refine XS.iload X165.here hx rfl (hb hby at_142) rfl ?_
        refine XS.ifYes X165.here hx rfl (pc0 := 144) (pc' := 162) rfl (hb hby at_144) rfl ((if0 _ _).trans (teq ((by decide) : (0 : Int32) = (0 : Int32))).1) (by decide) (by decide) ?_
        refine XS.iconst X165.here hx rfl (hb hby at_162) ?_
        exact Steps.refl _
      obtain ⟨fs, hr, hrun, hended, hRE⟩ := X165.leaveW hS125 (show T125.heap.size ≤ T165.heap.size by rw [eh165]; omega) (v := (some (.int (1 : Int32)))) (fun h => by rw [Bd.returns] at h; cases h)
      refine ⟨_, _, retN X165 hx (t := .boolean) Bd.returns (by simp) (hb hby at_163) hr, hrun, hended, _, _, rfl, ?_, ?_, hRE.1, hRE.2.1, hRE.2.2.1, hRE.2.2.2.mono (own_le rfl) (own_le rfl)⟩
      · show own_law_Q Z p0 p1 p2 p3 p4 h0 n0 (some (.int (1 : Int32))) T165.heap _
        rw [eh165]
        exact ⟨rfl, N165⟩
      · have hfin := CH126.trans (CHv.at X165 hZ125 hEL CH126.1)
        rw [hh]
        show CHr Z own_EL s.vm h0 T165.vm T165.heap
        rw [eh165]
        exact hfin
set_option maxRecDepth 65536 in
set_option maxHeartbeats 40000000 in
theorem comes_1 {Post : Tables → Env → Array Value → State → Outcome → State → Prop} (hpost : ∀ tb e args s v u, (limb_1_1.after args s (.returned v) u = true ∧ limb_1_2.after args s (.returned v) u = true ∧ True) → ReturnedEndW s (.returned v) u (Jvm.fieldLocs frame_1_writes args s ++ Jvm.arrayLocs frame_1_arrays args s ++ Jvm.staticLocs frame_1_statics s) 32 2176 → Post tb e args s (.returned v) u) :
    ArmFor flags0 classFile x code maxLocals ret World_1 tables_1 room_1 Calls_1 rest_1 Pre_1 Post := by
  intro l hfl _ _ p e ha hc hk s m args below hf hA hF happ hP
  obtain ⟨hcalls, hrest, hpre⟩ := hP
  obtain ⟨-, -, -, hnamed, -, -, -, hat⟩ := (Spec.applies_iff hf).mp happ
  obtain ⟨hg, hn⟩ := and_e (Cond.before_iff.mp (show (Jvm.Cond.and given_1 narrow_1).before args s = true from hpre))
  obtain ⟨ga0, gb0⟩ := and_e hg
  obtain ⟨ga1, gb1⟩ := and_e gb0
  obtain ⟨ga2, gb2⟩ := and_e gb1
  obtain ⟨ga3, gb3⟩ := and_e gb2
  obtain ⟨ga4, gb4⟩ := and_e gb3
  obtain ⟨w0, w1, w2, w3, w4, rfl⟩ : ∃ w0 w1 w2 w3 w4 : Value, args = #[w0, w1, w2, w3, w4] := by
    have hs : args.size = 5 := by simpa [Cond.value, given_1] using ga0
    obtain ⟨L⟩ := args
    match L, hs with
    | [w0, w1, w2, w3, w4], _ => exact ⟨w0, w1, w2, w3, w4, rfl⟩
  have hw := fun d (hd : d ∈ tables_1) => atoms_spec (ws := Jvm.Cond.code x code maxLocals ret :: tables_1) hat d (List.mem_cons_of_mem _ hd)
  obtain ⟨hsets, hown0⟩ := atoms_of _ (rest_1_c_eq ▸ (show rest_1_c.before _ s = true from hrest))
  obtain ⟨i0, ei0⟩ := is_v ga1
  obtain rfl : w0 = (.int i0) := Option.some.inj ei0
  obtain ⟨i1, ei1⟩ := is_v ga2
  obtain rfl : w1 = (.int i1) := Option.some.inj ei1
  obtain ⟨i2, ei2⟩ := is_v ga3
  obtain rfl : w2 = (.int i2) := Option.some.inj ei2
  obtain ⟨i3, ei3⟩ := is_v ga4
  obtain rfl : w3 = (.int i3) := Option.some.inj ei3
  obtain ⟨i4, ei4⟩ := is_v gb4
  obtain rfl : w4 = (.int i4) := Option.some.inj ei4
  have n5 := not_v (Cond.before_iff.mp (hsets _ (List.mem_of_getElem? (i := 2) rfl)))
  obtain ⟨g11, e10⟩ := is_v (Cond.before_iff.mp (hsets _ (List.mem_of_getElem? (i := 1) rfl)))
  have S12 : Sta s s.heap "java/lang/String" "COMPACT_STRINGS" "Z" (.int g11) := Sta.start e10 (Or.inl (hsets _ (List.mem_of_getElem? (i := 0) rfl)))
  have c17 : ¬ (g11 = (0 : Int32)) := gotF (Cond.eq_ints e10 (Term.int_eval (0))) n5
  obtain ⟨v13, e14, r15⟩ := isR_v (Cond.before_iff.mp (hsets _ (List.mem_of_getElem? (i := 8) rfl)))
  have S16 : Sta s s.heap "jdk/internal/util/Preconditions" "SIOOBE_FORMATTER" "Ljava/util/function/BiFunction;" v13 := Sta.start e14 (Or.inl (hsets _ (List.mem_of_getElem? (i := 7) rfl)))
  have hW : own_W s _ := ⟨hw, ⟨g11, S12, c17⟩, ⟨v13, S16, r15⟩⟩
  have hcw := hsets _ (List.mem_of_getElem? (i := 2) rfl)
  have hCH : CHv s own_EL s.vm s.heap := CHv.start (own_EW hw) (fun q hq => hcalls.1 q (by simpa [own_EL, consts_1] using hq)) hcw (own_tw hw 7 rfl) (own_tw hw 6 rfl)
  obtain ⟨n, o, h1, h2, h3, _, L, rfl, ⟨rfl, N⟩, -, hq⟩ := own_law l s _ hW tables_1 i0 i1 i2 i3 i4 s.heap s.heap.size (Nat.le_refl _) (Old.start s) p e ha hc hk s m _ below hf ((Spec.applies_iff_loose hf).mp happ).1 ⟨rfl, State.Warmed39.refl s, rfl, hCH, all0⟩ trivial
  refine ⟨n, _, h1, h2, h3, hpost _ _ _ _ _ _ ⟨Cond.after_iff.mpr rfl, Cond.after_iff.mpr (eq_i res_at (Term.int_eval (1)) rfl), trivial⟩ ⟨hq.1, hq.2.1, hq.2.2.1, (hq.2.2.2.sift fun y hy => Or.inr (N y hy)).mono (by decide) (by decide)⟩⟩
theorem main_1_1 : Claimed_1_1 := comes_1 fun _ _ _ _ _ _ h hF => ⟨h.1, hF⟩
theorem main_1_2 : Claimed_1_2 := comes_1 fun _ _ _ _ _ _ h hF => ⟨h.2.1, hF⟩
end Jvm.Pilot.@@N@@
namespace Jvm.Pilot.@@N@@
open Jvm Jvm.ClassFile Sem Op Lib Jvm.Free Jvm.Stand Jvm.Pilot.@@N@@.Jvm.D
/-! MADE BY PROGRAM (witnessworld.py) out of the Statement's table words and the real class files: 21 classes; the members and pool entries that the words name. The judged class is class 1, her method 1. -/
namespace start1
open Jvm.ClassFile
def u (s : String) : CpInfo := .utf8 (stringToUtf16 s)
/-- a pool by its gaps: so many unusable entries, then the entry; so many at the end -/
def gap : Nat → List CpInfo → List CpInfo
  | 0, r => r
  | n + 1, r => .unusable :: gap n r
def poolList (es : List (Nat × CpInfo)) (last : Nat) : List CpInfo := es.foldr (fun e r => gap e.1 (e.2 :: r)) (gap last [])
def pool (es : List (Nat × CpInfo)) (last : Nat) : Array CpInfo := ⟨poolList es last⟩
def fileOf (pool : Array CpInfo) (this : Nat) (attrs : Array Attribute := #[]) (ms : Array MethodInfo := #[]) (fl : Nat := 33) (sup : Nat := 0) (ifs : Array Nat := #[]) (fds : Array FieldInfo := #[]) : ClassFile where
  minorVersion := 0
  majorVersion := 65
  constantPool := pool
  accessFlags := fl
  thisClass := this
  superClass := sup
  interfaces := ifs
  fields := fds
  methods := ms
  attributes := attrs
def plain (name : String) (sup : Option ClassId) : Class where
  name := name
  kind := .ordinary
  loader := none
  accessFlags := 33
  super := sup
  interfaces := #[]
  cf := none
  fields := #[]
  methods := #[]
  instanceTypes := #[]
  staticTypes := #[]
  resolved := #[]
  callSites := []
  init := .initialized
  statics := none
  mirror := none

def pool0 : Array CpInfo := pool [(5, u "<init>"), (0, u "()V"), (1, .class_ 10), (1, u "java/lang/Object")] 113

def k0c0 : Code := { maxStack := 0, maxLocals := 1, code := object_method_1_code, exceptionTable := #[], attributes := #[] }
def k0m0 : Method := { name := "<init>", desc := "()V", sig := { parameters := [], returnType := none }, accessFlags := 1, code := some k0c0 }
/-- java/lang/Object -/
def k0 : Class := { plain "java/lang/Object" none with
  accessFlags := 33
  interfaces := #[]
  cf := some (fileOf pool0 8 #[] #[{ accessFlags := 1, nameIndex := 5, descriptorIndex := 6, attributes := #[] }] 33 0 #[] #[])
  fields := #[]
  methods := #[k0m0]
  instanceTypes := #[]
  staticTypes := #[]
  resolved := Array.replicate 124 none
  statics := none }

def pool1 : Array CpInfo := pool [(2, .class_ 4), (1, u "java/lang/Object"), (0, u "<init>"), (0, u "()V"), (0, .methodref 8 9), (0, .class_ 10), (0, .nameAndType 11 12), (0, u "com/example/lease_lock/leaselock/LockNameOfPinLaw"), (0, u "pick"), (0, u "(I)C"), (0, .methodref 8 14), (0, .nameAndType 15 16), (0, u "make"), (0, u "(CCCI)Ljava/lang/String;"), (0, .methodref 18 19), (0, .class_ 20), (0, .nameAndType 21 22), (0, u "com/example/lease_lock/leaselock/LockName"), (0, u "of"), (0, u "(Ljava/lang/String;)Lcom/example/lease_lock/leaselock/LockName;"), (0, .methodref 24 25), (0, .class_ 26), (0, .nameAndType 27 28), (0, u "java/lang/String"), (0, u "equals"), (0, u "(Ljava/lang/Object;)Z"), (0, .methodref 18 30), (0, .nameAndType 31 32), (0, u "value"), (0, u "()Ljava/lang/String;"), (0, .methodref 18 34), (0, .nameAndType 35 32), (0, u "toString"), (0, .methodref 18 25), (0, .methodref 18 38), (0, .nameAndType 39 40), (0, u "hashCode"), (0, u "()I"), (0, .string 42), (0, u "._:-/@"), (0, .methodref 24 44), (0, .nameAndType 45 12), (0, u "charAt"), (0, .methodref 24 47), (0, .nameAndType 5 48), (0, u "([C)V"), (2, u "law"), (0, u "(IIIII)Z")] 3

def k1m0 : Method := { name := "<init>", desc := "()V", sig := { parameters := [], returnType := none }, accessFlags := 1, code := none }
def k1c1 : Code := { maxStack := 4, maxLocals := 15, code := code, exceptionTable := #[], attributes := #[] }
def k1m1 : Method := { name := "law", desc := "(IIIII)Z", sig := { parameters := [.int, .int, .int, .int, .int], returnType := some .boolean }, accessFlags := 9, code := some k1c1 }
def k1c2 : Code := { maxStack := 3, maxLocals := 3, code := method_3_code, exceptionTable := #[], attributes := #[] }
def k1m2 : Method := { name := "pick", desc := "(I)C", sig := { parameters := [.int], returnType := some .char }, accessFlags := 10, code := some k1c2 }
def k1c3 : Code := { maxStack := 6, maxLocals := 4, code := method_4_code, exceptionTable := #[], attributes := #[] }
def k1m3 : Method := { name := "make", desc := "(CCCI)Ljava/lang/String;", sig := { parameters := [.char, .char, .char, .int], returnType := some (.object "java/lang/String") }, accessFlags := 10, code := some k1c3 }
/-- com/example/lease_lock/leaselock/LockNameOfPinLaw -/
def k1 : Class := { plain "com/example/lease_lock/leaselock/LockNameOfPinLaw" (some 0) with
  accessFlags := 49
  interfaces := #[]
  cf := some (fileOf pool1 8 #[] #[{ accessFlags := 1, nameIndex := 5, descriptorIndex := 6, attributes := #[] }, { accessFlags := 9, nameIndex := 51, descriptorIndex := 52, attributes := #[] }, { accessFlags := 10, nameIndex := 11, descriptorIndex := 12, attributes := #[] }, { accessFlags := 10, nameIndex := 15, descriptorIndex := 16, attributes := #[] }] 49 2 #[] #[])
  fields := #[]
  methods := #[k1m0, k1m1, k1m2, k1m3]
  instanceTypes := #[]
  staticTypes := #[]
  resolved := Array.replicate 56 none
  statics := none }

def pool2 : Array CpInfo := pool [(1, .class_ 2), (0, u "java/io/Serializable"), (0, .class_ 4), (0, u "java/lang/Object")] 2

/-- java/io/Serializable -/
def k2 : Class := { plain "java/io/Serializable" (some 0) with
  accessFlags := 1537
  interfaces := #[]
  cf := some (fileOf pool2 1 #[] #[] 1537 3 #[] #[])
  fields := #[]
  methods := #[]
  instanceTypes := #[]
  staticTypes := #[]
  resolved := Array.replicate 7 none
  statics := none }

def pool3 : Array CpInfo := pool [(1, .class_ 2), (0, u "java/lang/Comparable"), (0, .class_ 4), (0, u "java/lang/Object")] 7

/-- java/lang/Comparable -/
def k3 : Class := { plain "java/lang/Comparable" (some 0) with
  accessFlags := 1537
  interfaces := #[]
  cf := some (fileOf pool3 1 #[] #[] 1537 3 #[] #[])
  fields := #[]
  methods := #[]
  instanceTypes := #[]
  staticTypes := #[]
  resolved := Array.replicate 12 none
  statics := none }

def pool4 : Array CpInfo := pool [(2, .class_ 4), (1, u "java/lang/CharSequence"), (42, .class_ 48), (0, u "java/lang/CharSequence$1CodePointIterator"), (10, .class_ 60), (0, u "java/lang/CharSequence$1CharIterator"), (5, .class_ 67), (0, u "java/lang/Object")] 63

/-- java/lang/CharSequence -/
def k4 : Class := { plain "java/lang/CharSequence" (some 0) with
  accessFlags := 1537
  interfaces := #[]
  cf := some (fileOf pool4 2 #[.nestMembers #[47, 59]] #[] 1537 66 #[] #[])
  fields := #[]
  methods := #[]
  instanceTypes := #[]
  staticTypes := #[]
  resolved := Array.replicate 131 none
  statics := none }

def pool5 : Array CpInfo := pool [(1, .class_ 2), (0, u "java/lang/constant/Constable"), (0, .class_ 4), (0, u "java/lang/Object")] 6

/-- java/lang/constant/Constable -/
def k5 : Class := { plain "java/lang/constant/Constable" (some 0) with
  accessFlags := 1537
  interfaces := #[]
  cf := some (fileOf pool5 1 #[] #[] 1537 3 #[] #[])
  fields := #[]
  methods := #[]
  instanceTypes := #[]
  staticTypes := #[]
  resolved := Array.replicate 11 none
  statics := none }

def pool6 : Array CpInfo := pool [(1, .class_ 2), (0, u "java/lang/constant/ConstantDesc"), (0, .class_ 4), (0, u "java/lang/Object")] 32

/-- java/lang/constant/ConstantDesc -/
def k6 : Class := { plain "java/lang/constant/ConstantDesc" (some 0) with
  accessFlags := 1537
  interfaces := #[]
  cf := some (fileOf pool6 1 #[] #[] 1537 3 #[] #[])
  fields := #[]
  methods := #[]
  instanceTypes := #[]
  staticTypes := #[]
  resolved := Array.replicate 37 none
  statics := none }

def pool7 : Array CpInfo := pool [(1, .methodref 2 3), (0, .class_ 4), (0, .nameAndType 5 6), (0, u "java/lang/Object"), (0, u "<init>"), (0, u "()V"), (2, .fieldref 10 11), (0, .class_ 12), (0, .nameAndType 13 14), (0, u "java/lang/String"), (0, u "value"), (0, u "[B"), (0, .fieldref 10 16), (0, .nameAndType 17 18), (0, u "coder"), (0, u "B"), (0, .fieldref 10 20), (0, .nameAndType 21 22), (0, u "hash"), (0, u "I"), (0, .fieldref 10 24), (0, .nameAndType 25 26), (0, u "hashIsZero"), (0, u "Z"), (0, .methodref 10 28), (0, .nameAndType 5 29), (0, u "([CIILjava/lang/Void;)V"), (8, .fieldref 10 39), (0, .nameAndType 40 26), (0, u "COMPACT_STRINGS"), (1, .class_ 44), (1, u "java/lang/StringUTF16"), (0, u "compress"), (1, .methodref 42 48), (0, .nameAndType 49 50), (0, u "coderFromArrayLen"), (0, u "([BI)B"), (56, .class_ 109), (1, u "java/lang/StringLatin1"), (32, u "()Z"), (34, .methodref 42 178), (0, .nameAndType 45 179), (0, u "([CII)[B"), (154, u "()I"), (0, .methodref 10 336), (0, .nameAndType 17 337), (0, u "()B"), (25, u "([BI)C"), (27, u "(II)V"), (35, u "(I)C"), (64, .methodref 10 493), (0, .nameAndType 494 142), (0, u "isLatin1"), (0, .methodref 107 496), (0, .nameAndType 497 363), (0, u "charAt"), (3, u "checkIndex"), (3, .methodref 10 506), (0, .nameAndType 507 334), (0, u "length"), (33, .methodref 107 542), (0, .nameAndType 543 544), (0, u "equals"), (0, u "([B[B)Z"), (28, u "(Ljava/lang/Object;)Z"), (1, .class_ 576), (0, u "java/lang/CharSequence"), (22, u "CASE_INSENSITIVE_ORDER"), (0, u "Ljava/util/Comparator;"), (27, .methodref 107 629), (0, .nameAndType 630 631), (0, u "hashCode"), (0, u "([B)I"), (1, .methodref 10 634), (0, .nameAndType 635 636), (0, u "indexOf"), (0, u "(II)I"), (0, .methodref 107 638), (0, .nameAndType 635 639), (0, u "([BIII)I"), (52, u "isEmpty"), (72, u "(I)I"), (244, u "([C)V"), (42, .fieldref 1054 1055), (0, .class_ 1056), (0, .nameAndType 1057 1058), (0, u "jdk/internal/util/Preconditions"), (0, u "SIOOBE_FORMATTER"), (0, u "Ljava/util/function/BiFunction;"), (0, .methodref 1054 1060), (0, .nameAndType 501 1061), (0, u "(IILjava/util/function/BiFunction;)I"), (39, u "serialPersistentFields"), (0, u "[Ljava/io/ObjectStreamField;"), (0, .class_ 1104), (0, u "java/lang/String$CaseInsensitiveComparator"), (1, .class_ 1107), (0, u "java/io/Serializable"), (0, .class_ 1109), (0, u "java/lang/Comparable"), (0, .class_ 1111), (0, u "java/lang/constant/Constable"), (0, .class_ 1113), (0, u "java/lang/constant/ConstantDesc"), (2, u "serialVersionUID"), (0, u "J"), (3, u "REPL"), (0, u "C"), (2, u "LATIN1"), (1, u "UTF16")] 323

def k7m0 : Method := { name := "<init>", desc := "()V", sig := { parameters := [], returnType := none }, accessFlags := 1, code := none }
def k7c1 : Code := { maxStack := 5, maxLocals := 2, code := jdk_42_method_3_code, exceptionTable := #[], attributes := #[] }
def k7m1 : Method := { name := "<init>", desc := "([C)V", sig := { parameters := [(.array .char)], returnType := none }, accessFlags := 1, code := some k7c1 }
def k7c2 : Code := { maxStack := 2, maxLocals := 1, code := jdk_42_method_54_code, exceptionTable := #[], attributes := #[] }
def k7m2 : Method := { name := "length", desc := "()I", sig := { parameters := [], returnType := some .int }, accessFlags := 1, code := some k7c2 }
def k7c3 : Code := { maxStack := 1, maxLocals := 1, code := jdk_42_method_55_code, exceptionTable := #[], attributes := #[] }
def k7m3 : Method := { name := "isEmpty", desc := "()Z", sig := { parameters := [], returnType := some .boolean }, accessFlags := 1, code := some k7c3 }
def k7c4 : Code := { maxStack := 2, maxLocals := 2, code := jdk_42_method_56_code, exceptionTable := #[], attributes := #[] }
def k7m4 : Method := { name := "charAt", desc := "(I)C", sig := { parameters := [.int], returnType := some .char }, accessFlags := 1, code := some k7c4 }
def k7c5 : Code := { maxStack := 2, maxLocals := 3, code := jdk_42_method_66_code, exceptionTable := #[], attributes := #[] }
def k7m5 : Method := { name := "equals", desc := "(Ljava/lang/Object;)Z", sig := { parameters := [(.object "java/lang/Object")], returnType := some .boolean }, accessFlags := 1, code := some k7c5 }
def k7c6 : Code := { maxStack := 2, maxLocals := 2, code := jdk_42_method_78_code, exceptionTable := #[], attributes := #[] }
def k7m6 : Method := { name := "hashCode", desc := "()I", sig := { parameters := [], returnType := some .int }, accessFlags := 1, code := some k7c6 }
def k7c7 : Code := { maxStack := 3, maxLocals := 2, code := jdk_42_method_79_code, exceptionTable := #[], attributes := #[] }
def k7m7 : Method := { name := "indexOf", desc := "(I)I", sig := { parameters := [.int], returnType := some .int }, accessFlags := 1, code := some k7c7 }
def k7c8 : Code := { maxStack := 4, maxLocals := 3, code := jdk_42_method_80_code, exceptionTable := #[], attributes := #[] }
def k7m8 : Method := { name := "indexOf", desc := "(II)I", sig := { parameters := [.int, .int], returnType := some .int }, accessFlags := 1, code := some k7c8 }
def k7c9 : Code := { maxStack := 4, maxLocals := 6, code := jdk_42_method_149_code, exceptionTable := #[], attributes := #[] }
def k7m9 : Method := { name := "<init>", desc := "([CIILjava/lang/Void;)V", sig := { parameters := [(.array .char), .int, .int, (.object "java/lang/Void")], returnType := none }, accessFlags := 2, code := some k7c9 }
def k7c10 : Code := { maxStack := 1, maxLocals := 1, code := jdk_42_method_152_code, exceptionTable := #[], attributes := #[] }
def k7m10 : Method := { name := "coder", desc := "()B", sig := { parameters := [], returnType := some .byte }, accessFlags := 0, code := some k7c10 }
def k7c11 : Code := { maxStack := 1, maxLocals := 1, code := jdk_42_method_154_code, exceptionTable := #[], attributes := #[] }
def k7m11 : Method := { name := "isLatin1", desc := "()Z", sig := { parameters := [], returnType := some .boolean }, accessFlags := 0, code := some k7c11 }
def k7c12 : Code := { maxStack := 3, maxLocals := 2, code := jdk_42_method_155_code, exceptionTable := #[], attributes := #[] }
def k7m12 : Method := { name := "checkIndex", desc := "(II)V", sig := { parameters := [.int, .int], returnType := none }, accessFlags := 8, code := some k7c12 }
/-- java/lang/String -/
def k7 : Class := { plain "java/lang/String" (some 0) with
  accessFlags := 49
  interfaces := #[2, 3, 4, 5, 6]
  cf := some (fileOf pool7 10 #[.nestMembers #[1103]] #[{ accessFlags := 1, nameIndex := 5, descriptorIndex := 6, attributes := #[] }, { accessFlags := 1, nameIndex := 5, descriptorIndex := 1010, attributes := #[] }, { accessFlags := 1, nameIndex := 507, descriptorIndex := 334, attributes := #[] }, { accessFlags := 1, nameIndex := 692, descriptorIndex := 142, attributes := #[] }, { accessFlags := 1, nameIndex := 497, descriptorIndex := 427, attributes := #[] }, { accessFlags := 1, nameIndex := 543, descriptorIndex := 573, attributes := #[] }, { accessFlags := 1, nameIndex := 630, descriptorIndex := 334, attributes := #[] }, { accessFlags := 1, nameIndex := 635, descriptorIndex := 765, attributes := #[] }, { accessFlags := 1, nameIndex := 635, descriptorIndex := 636, attributes := #[] }, { accessFlags := 2, nameIndex := 5, descriptorIndex := 29, attributes := #[] }, { accessFlags := 0, nameIndex := 17, descriptorIndex := 337, attributes := #[] }, { accessFlags := 0, nameIndex := 494, descriptorIndex := 142, attributes := #[] }, { accessFlags := 8, nameIndex := 501, descriptorIndex := 391, attributes := #[] }] 49 2 #[1106, 1108, 575, 1110, 1112] #[{ accessFlags := 18, nameIndex := 13, descriptorIndex := 14, attributes := #[] }, { accessFlags := 18, nameIndex := 17, descriptorIndex := 18, attributes := #[] }, { accessFlags := 2, nameIndex := 21, descriptorIndex := 22, attributes := #[] }, { accessFlags := 2, nameIndex := 25, descriptorIndex := 26, attributes := #[] }, { accessFlags := 26, nameIndex := 1116, descriptorIndex := 1117, attributes := #[] }, { accessFlags := 24, nameIndex := 40, descriptorIndex := 26, attributes := #[] }, { accessFlags := 26, nameIndex := 1101, descriptorIndex := 1102, attributes := #[] }, { accessFlags := 26, nameIndex := 1121, descriptorIndex := 1122, attributes := #[] }, { accessFlags := 25, nameIndex := 599, descriptorIndex := 600, attributes := #[] }, { accessFlags := 24, nameIndex := 1125, descriptorIndex := 18, attributes := #[] }, { accessFlags := 24, nameIndex := 1127, descriptorIndex := 18, attributes := #[] }])
  fields := #[{ name := "value", type := (.array .byte), accessFlags := 18, slot := 0, constantValue := 0 }, { name := "coder", type := .byte, accessFlags := 18, slot := 1, constantValue := 0 }, { name := "hash", type := .int, accessFlags := 2, slot := 2, constantValue := 0 }, { name := "hashIsZero", type := .boolean, accessFlags := 2, slot := 3, constantValue := 0 }, { name := "serialVersionUID", type := .long, accessFlags := 26, slot := 0, constantValue := 0 }, { name := "COMPACT_STRINGS", type := .boolean, accessFlags := 24, slot := 1, constantValue := 0 }, { name := "serialPersistentFields", type := (.array (.object "java/io/ObjectStreamField")), accessFlags := 26, slot := 2, constantValue := 0 }, { name := "REPL", type := .char, accessFlags := 26, slot := 3, constantValue := 0 }, { name := "CASE_INSENSITIVE_ORDER", type := (.object "java/util/Comparator"), accessFlags := 25, slot := 4, constantValue := 0 }, { name := "LATIN1", type := .byte, accessFlags := 24, slot := 5, constantValue := 0 }, { name := "UTF16", type := .byte, accessFlags := 24, slot := 6, constantValue := 0 }]
  methods := #[k7m0, k7m1, k7m2, k7m3, k7m4, k7m5, k7m6, k7m7, k7m8, k7m9, k7m10, k7m11, k7m12]
  instanceTypes := #[(.array .byte), .byte, .int, .boolean]
  staticTypes := #[.long, .boolean, (.array (.object "java/io/ObjectStreamField")), .char, (.object "java/util/Comparator"), .byte, .byte]
  resolved := Array.replicate 1451 none
  statics := some 0 }

def pool8 : Array CpInfo := pool [(1, .class_ 2), (0, u "java/lang/String"), (1, .class_ 6), (1, u "java/lang/Object"), (0, u "<init>"), (0, u "()V"), (0, .methodref 1 10), (0, .nameAndType 11 12), (0, u "checkIndex"), (0, u "(II)V"), (1, .class_ 16), (1, u "java/lang/StringLatin1"), (21, .methodref 39 40), (0, .class_ 41), (0, .nameAndType 42 43), (0, u "java/lang/Math"), (0, u "min"), (0, u "(II)I"), (1, .class_ 47), (1, u "jdk/internal/util/ArraysSupport"), (5, u "([BI)C"), (3, u "([B)I"), (26, .methodref 45 85), (0, .nameAndType 86 87), (0, u "vectorizedHashCode"), (0, u "(Ljava/lang/Object;IIII)I"), (0, .methodref 14 89), (0, .nameAndType 90 91), (0, u "canEncode"), (0, u "(I)Z"), (0, .methodref 39 93), (0, .nameAndType 94 43), (0, u "max"), (0, .methodref 14 96), (0, .nameAndType 97 98), (0, u "indexOfChar"), (0, u "([BIII)I"), (2, u "indexOf"), (19, u "$assertionsDisabled"), (0, u "Z"), (98, .class_ 223), (1, u "java/lang/StringLatin1$LinesSpliterator"), (28, u "charAt"), (28, u "equals"), (0, u "([B[B)Z"), (15, u "hashCode"), (91, .class_ 391), (0, u "java/lang/StringLatin1$CharsSpliterator")] 3

def k8m0 : Method := { name := "<init>", desc := "()V", sig := { parameters := [], returnType := none }, accessFlags := 0, code := none }
def k8c1 : Code := { maxStack := 2, maxLocals := 2, code := jdk_43_method_2_code, exceptionTable := #[], attributes := #[] }
def k8m1 : Method := { name := "charAt", desc := "([BI)C", sig := { parameters := [(.array .byte), .int], returnType := some .char }, accessFlags := 9, code := some k8c1 }
def k8c2 : Code := { maxStack := 2, maxLocals := 1, code := jdk_43_method_4_code, exceptionTable := #[], attributes := #[] }
def k8m2 : Method := { name := "canEncode", desc := "(I)Z", sig := { parameters := [.int], returnType := some .boolean }, accessFlags := 9, code := some k8c2 }
def k8c3 : Code := { maxStack := 3, maxLocals := 3, code := jdk_43_method_13_code, exceptionTable := #[], attributes := #[] }
def k8m3 : Method := { name := "equals", desc := "([B[B)Z", sig := { parameters := [(.array .byte), (.array .byte)], returnType := some .boolean }, accessFlags := 9, code := some k8c3 }
def k8c4 : Code := { maxStack := 5, maxLocals := 1, code := jdk_43_method_21_code, exceptionTable := #[], attributes := #[] }
def k8m4 : Method := { name := "hashCode", desc := "([B)I", sig := { parameters := [(.array .byte)], returnType := some .int }, accessFlags := 9, code := some k8c4 }
def k8c5 : Code := { maxStack := 4, maxLocals := 4, code := jdk_43_method_22_code, exceptionTable := #[], attributes := #[] }
def k8m5 : Method := { name := "indexOf", desc := "([BIII)I", sig := { parameters := [(.array .byte), .int, .int, .int], returnType := some .int }, accessFlags := 9, code := some k8c5 }
def k8c6 : Code := { maxStack := 2, maxLocals := 6, code := jdk_43_method_23_code, exceptionTable := #[], attributes := #[] }
def k8m6 : Method := { name := "indexOfChar", desc := "([BIII)I", sig := { parameters := [(.array .byte), .int, .int, .int], returnType := some .int }, accessFlags := 10, code := some k8c6 }
/-- java/lang/StringLatin1 -/
def k8 : Class := { plain "java/lang/StringLatin1" (some 0) with
  accessFlags := 48
  interfaces := #[]
  cf := some (fileOf pool8 14 #[.nestMembers #[390, 221]] #[{ accessFlags := 0, nameIndex := 7, descriptorIndex := 8, attributes := #[] }, { accessFlags := 9, nameIndex := 252, descriptorIndex := 53, attributes := #[] }, { accessFlags := 9, nameIndex := 90, descriptorIndex := 91, attributes := #[] }, { accessFlags := 9, nameIndex := 281, descriptorIndex := 282, attributes := #[] }, { accessFlags := 9, nameIndex := 298, descriptorIndex := 57, attributes := #[] }, { accessFlags := 9, nameIndex := 101, descriptorIndex := 98, attributes := #[] }, { accessFlags := 10, nameIndex := 97, descriptorIndex := 98, attributes := #[] }] 48 4 #[] #[{ accessFlags := 4120, nameIndex := 121, descriptorIndex := 122, attributes := #[] }])
  fields := #[{ name := "$assertionsDisabled", type := .boolean, accessFlags := 4120, slot := 0, constantValue := 0 }]
  methods := #[k8m0, k8m1, k8m2, k8m3, k8m4, k8m5, k8m6]
  instanceTypes := #[]
  staticTypes := #[.boolean]
  resolved := Array.replicate 395 none
  statics := none }

def pool9 : Array CpInfo := pool [(2, .class_ 4), (1, u "java/lang/Object"), (0, u "<init>"), (0, u "()V"), (17, .class_ 26), (1, u "jdk/internal/util/Preconditions"), (6, u "checkIndex"), (21, .class_ 56), (0, u "jdk/internal/util/Preconditions$4"), (57, .class_ 115), (0, u "jdk/internal/util/Preconditions$1"), (7, u "SIOOBE_FORMATTER"), (0, u "Ljava/util/function/BiFunction;"), (0, .class_ 126), (0, u "jdk/internal/util/Preconditions$2"), (3, u "AIOOBE_FORMATTER"), (0, .class_ 132), (0, u "jdk/internal/util/Preconditions$3"), (3, u "IOOBE_FORMATTER"), (41, u "(IILjava/util/function/BiFunction;)I")] 15

def k9m0 : Method := { name := "<init>", desc := "()V", sig := { parameters := [], returnType := none }, accessFlags := 1, code := none }
def k9c1 : Code := { maxStack := 3, maxLocals := 3, code := jdk_41_method_11_code, exceptionTable := #[], attributes := #[] }
def k9m1 : Method := { name := "checkIndex", desc := "(IILjava/util/function/BiFunction;)I", sig := { parameters := [.int, .int, (.object "java/util/function/BiFunction")], returnType := some .int }, accessFlags := 9, code := some k9c1 }
/-- jdk/internal/util/Preconditions -/
def k9 : Class := { plain "jdk/internal/util/Preconditions" (some 0) with
  accessFlags := 33
  interfaces := #[]
  cf := some (fileOf pool9 24 #[.nestMembers #[55, 131, 125, 114]] #[{ accessFlags := 1, nameIndex := 5, descriptorIndex := 6, attributes := #[] }, { accessFlags := 9, nameIndex := 33, descriptorIndex := 178, attributes := #[] }] 33 2 #[] #[{ accessFlags := 25, nameIndex := 123, descriptorIndex := 124, attributes := #[] }, { accessFlags := 25, nameIndex := 130, descriptorIndex := 124, attributes := #[] }, { accessFlags := 25, nameIndex := 136, descriptorIndex := 124, attributes := #[] }])
  fields := #[{ name := "SIOOBE_FORMATTER", type := (.object "java/util/function/BiFunction"), accessFlags := 25, slot := 0, constantValue := 0 }, { name := "AIOOBE_FORMATTER", type := (.object "java/util/function/BiFunction"), accessFlags := 25, slot := 1, constantValue := 0 }, { name := "IOOBE_FORMATTER", type := (.object "java/util/function/BiFunction"), accessFlags := 25, slot := 2, constantValue := 0 }]
  methods := #[k9m0, k9m1]
  instanceTypes := #[]
  staticTypes := #[(.object "java/util/function/BiFunction"), (.object "java/util/function/BiFunction"), (.object "java/util/function/BiFunction")]
  resolved := Array.replicate 194 none
  statics := some 1 }

def pool10 : Array CpInfo := pool [(6, .class_ 8), (1, u "java/lang/Object"), (0, u "<init>"), (0, u "()V"), (1, .class_ 14), (1, u "java/lang/StringUTF16"), (31, u "$assertionsDisabled"), (0, u "Z"), (13, u "HI_BYTE_SHIFT"), (0, u "I"), (2, u "LO_BYTE_SHIFT"), (49, .methodref 12 116), (0, .nameAndType 117 118), (0, u "compress"), (0, u "([CI[BII)I"), (3, u "([CII)[B"), (138, u "coderFromArrayLen"), (0, u "([BI)B"), (106, .class_ 371), (1, u "java/lang/StringUTF16$LinesSpliterator"), (58, u "MAX_LENGTH"), (196, .class_ 628), (0, u "java/lang/StringUTF16$CodePointsSpliterator"), (0, .class_ 630), (0, u "java/lang/StringUTF16$CharsSpliterator")] 4

def k10m0 : Method := { name := "<init>", desc := "()V", sig := { parameters := [], returnType := none }, accessFlags := 0, code := none }
def k10c1 : Code := { maxStack := 2, maxLocals := 2, code := jdk_52_method_15_code, exceptionTable := #[], attributes := #[] }
def k10m1 : Method := { name := "coderFromArrayLen", desc := "([BI)B", sig := { parameters := [(.array .byte), .int], returnType := some .byte }, accessFlags := 8, code := some k10c1 }
def k10c2 : Code := { maxStack := 5, maxLocals := 6, code := jdk_52_method_16_code, exceptionTable := #[], attributes := #[] }
def k10m2 : Method := { name := "compress", desc := "([CII)[B", sig := { parameters := [(.array .char), .int, .int], returnType := some (.array .byte) }, accessFlags := 9, code := some k10c2 }
def k10c3 : Code := { maxStack := 3, maxLocals := 7, code := jdk_52_method_21_code, exceptionTable := #[], attributes := #[] }
def k10m3 : Method := { name := "compress", desc := "([CI[BII)I", sig := { parameters := [(.array .char), .int, (.array .byte), .int, .int], returnType := some .int }, accessFlags := 9, code := some k10c3 }
/-- java/lang/StringUTF16 -/
def k10 : Class := { plain "java/lang/StringUTF16" (some 0) with
  accessFlags := 48
  interfaces := #[]
  cf := some (fileOf pool10 12 #[.nestMembers #[627, 629, 369]] #[{ accessFlags := 0, nameIndex := 9, descriptorIndex := 10, attributes := #[] }, { accessFlags := 8, nameIndex := 261, descriptorIndex := 262, attributes := #[] }, { accessFlags := 9, nameIndex := 117, descriptorIndex := 122, attributes := #[] }, { accessFlags := 9, nameIndex := 117, descriptorIndex := 118, attributes := #[] }] 48 6 #[] #[{ accessFlags := 26, nameIndex := 61, descriptorIndex := 62, attributes := #[] }, { accessFlags := 26, nameIndex := 65, descriptorIndex := 62, attributes := #[] }, { accessFlags := 24, nameIndex := 430, descriptorIndex := 62, attributes := #[] }, { accessFlags := 4120, nameIndex := 46, descriptorIndex := 47, attributes := #[] }])
  fields := #[{ name := "HI_BYTE_SHIFT", type := .int, accessFlags := 26, slot := 0, constantValue := 0 }, { name := "LO_BYTE_SHIFT", type := .int, accessFlags := 26, slot := 1, constantValue := 0 }, { name := "MAX_LENGTH", type := .int, accessFlags := 24, slot := 2, constantValue := 0 }, { name := "$assertionsDisabled", type := .boolean, accessFlags := 4120, slot := 3, constantValue := 0 }]
  methods := #[k10m0, k10m1, k10m2, k10m3]
  instanceTypes := #[]
  staticTypes := #[.int, .int, .int, .boolean]
  resolved := Array.replicate 635 none
  statics := none }

def pool11 : Array CpInfo := pool [(1, .methodref 2 3), (0, .class_ 4), (0, .nameAndType 5 6), (0, u "java/lang/Object"), (0, u "<init>"), (0, u "()V"), (0, .fieldref 8 9), (0, .class_ 10), (0, .nameAndType 11 12), (0, u "com/example/lease_lock/leaselock/LockName"), (0, u "value"), (0, u "Ljava/lang/String;"), (5, .nameAndType 5 19), (0, u "(Ljava/lang/String;)V"), (0, .methodref 21 22), (0, .class_ 23), (0, .nameAndType 24 25), (0, u "java/lang/String"), (0, u "isEmpty"), (0, u "()Z"), (2, .methodref 21 29), (0, .nameAndType 30 31), (0, u "length"), (0, u "()I"), (4, .methodref 21 37), (0, .nameAndType 38 39), (0, u "charAt"), (0, u "(I)C"), (0, .methodref 8 41), (0, .nameAndType 42 43), (0, u "isAllowed"), (0, u "(C)Z"), (4, .methodref 8 18), (0, .methodref 21 50), (0, .nameAndType 51 52), (0, u "equals"), (0, u "(Ljava/lang/Object;)Z"), (0, .methodref 21 54), (0, .nameAndType 55 31), (0, u "hashCode"), (0, .string 57), (0, u "._:-/@"), (0, .methodref 21 59), (0, .nameAndType 60 61), (0, u "indexOf"), (0, u "(I)I"), (27, u "MAX_LENGTH"), (0, u "I"), (2, u "PUNCTUATION"), (2, u "of"), (0, u "(Ljava/lang/String;)Lcom/example/lease_lock/leaselock/LockName;"), (1, u "()Ljava/lang/String;"), (0, u "toString")] 17

def k11c0 : Code := { maxStack := 2, maxLocals := 2, code := prog_2_method_1_code, exceptionTable := #[], attributes := #[] }
def k11m0 : Method := { name := "<init>", desc := "(Ljava/lang/String;)V", sig := { parameters := [(.object "java/lang/String")], returnType := none }, accessFlags := 2, code := some k11c0 }
def k11c1 : Code := { maxStack := 4, maxLocals := 2, code := prog_2_method_2_code, exceptionTable := #[], attributes := #[] }
def k11m1 : Method := { name := "of", desc := "(Ljava/lang/String;)Lcom/example/lease_lock/leaselock/LockName;", sig := { parameters := [(.object "java/lang/String")], returnType := some (.object "com/example/lease_lock/leaselock/LockName") }, accessFlags := 9, code := some k11c1 }
def k11c2 : Code := { maxStack := 1, maxLocals := 1, code := prog_2_method_3_code, exceptionTable := #[], attributes := #[] }
def k11m2 : Method := { name := "value", desc := "()Ljava/lang/String;", sig := { parameters := [], returnType := some (.object "java/lang/String") }, accessFlags := 1, code := some k11c2 }
def k11c3 : Code := { maxStack := 2, maxLocals := 3, code := prog_2_method_4_code, exceptionTable := #[], attributes := #[] }
def k11m3 : Method := { name := "equals", desc := "(Ljava/lang/Object;)Z", sig := { parameters := [(.object "java/lang/Object")], returnType := some .boolean }, accessFlags := 1, code := some k11c3 }
def k11c4 : Code := { maxStack := 1, maxLocals := 1, code := prog_2_method_5_code, exceptionTable := #[], attributes := #[] }
def k11m4 : Method := { name := "hashCode", desc := "()I", sig := { parameters := [], returnType := some .int }, accessFlags := 1, code := some k11c4 }
def k11c5 : Code := { maxStack := 1, maxLocals := 1, code := prog_2_method_6_code, exceptionTable := #[], attributes := #[] }
def k11m5 : Method := { name := "toString", desc := "()Ljava/lang/String;", sig := { parameters := [], returnType := some (.object "java/lang/String") }, accessFlags := 1, code := some k11c5 }
def k11c6 : Code := { maxStack := 2, maxLocals := 1, code := prog_2_method_7_code, exceptionTable := #[], attributes := #[] }
def k11m6 : Method := { name := "isAllowed", desc := "(C)Z", sig := { parameters := [.char], returnType := some .boolean }, accessFlags := 10, code := some k11c6 }
/-- com/example/lease_lock/leaselock/LockName -/
def k11 : Class := { plain "com/example/lease_lock/leaselock/LockName" (some 0) with
  accessFlags := 49
  interfaces := #[]
  cf := some (fileOf pool11 8 #[] #[{ accessFlags := 2, nameIndex := 5, descriptorIndex := 19, attributes := #[] }, { accessFlags := 9, nameIndex := 96, descriptorIndex := 97, attributes := #[] }, { accessFlags := 1, nameIndex := 11, descriptorIndex := 99, attributes := #[] }, { accessFlags := 1, nameIndex := 51, descriptorIndex := 52, attributes := #[] }, { accessFlags := 1, nameIndex := 55, descriptorIndex := 31, attributes := #[] }, { accessFlags := 1, nameIndex := 100, descriptorIndex := 99, attributes := #[] }, { accessFlags := 10, nameIndex := 42, descriptorIndex := 43, attributes := #[] }] 49 2 #[] #[{ accessFlags := 25, nameIndex := 89, descriptorIndex := 90, attributes := #[] }, { accessFlags := 26, nameIndex := 93, descriptorIndex := 12, attributes := #[] }, { accessFlags := 18, nameIndex := 11, descriptorIndex := 12, attributes := #[] }])
  fields := #[{ name := "MAX_LENGTH", type := .int, accessFlags := 25, slot := 0, constantValue := 0 }, { name := "PUNCTUATION", type := (.object "java/lang/String"), accessFlags := 26, slot := 1, constantValue := 0 }, { name := "value", type := (.object "java/lang/String"), accessFlags := 18, slot := 0, constantValue := 0 }]
  methods := #[k11m0, k11m1, k11m2, k11m3, k11m4, k11m5, k11m6]
  instanceTypes := #[(.object "java/lang/String")]
  staticTypes := #[.int, (.object "java/lang/String")]
  resolved := Array.replicate 118 none
  statics := none }

def pool12 : Array CpInfo := pool [(1, .class_ 2), (0, u "java/lang/Math"), (1, .class_ 6), (1, u "java/lang/Object"), (0, u "<init>"), (0, u "()V"), (89, .class_ 100), (1, u "java/lang/Math$RandomNumberGeneratorHolder"), (71, u "negativeZeroFloatBits"), (0, u "J"), (2, u "negativeZeroDoubleBits"), (21, u "max"), (2, u "min"), (43, u "$assertionsDisabled"), (0, u "Z"), (88, u "(II)I"), (2, u "twoToTheDoubleScaleDown"), (0, u "D"), (4, u "twoToTheDoubleScaleUp"), (9, u "E"), (3, u "PI"), (2, u "TAU"), (2, u "DEGREES_TO_RADIANS"), (0, u "RADIANS_TO_DEGREES")] 94

def k12m0 : Method := { name := "<init>", desc := "()V", sig := { parameters := [], returnType := none }, accessFlags := 2, code := none }
def k12c1 : Code := { maxStack := 2, maxLocals := 2, code := jdk_29_method_65_code, exceptionTable := #[], attributes := #[] }
def k12m1 : Method := { name := "max", desc := "(II)I", sig := { parameters := [.int, .int], returnType := some .int }, accessFlags := 9, code := some k12c1 }
def k12c2 : Code := { maxStack := 2, maxLocals := 2, code := jdk_29_method_69_code, exceptionTable := #[], attributes := #[] }
def k12m2 : Method := { name := "min", desc := "(II)I", sig := { parameters := [.int, .int], returnType := some .int }, accessFlags := 9, code := some k12c2 }
/-- java/lang/Math -/
def k12 : Class := { plain "java/lang/Math" (some 0) with
  accessFlags := 49
  interfaces := #[]
  cf := some (fileOf pool12 1 #[.nestMembers #[98]] #[{ accessFlags := 2, nameIndex := 7, descriptorIndex := 8, attributes := #[] }, { accessFlags := 9, nameIndex := 198, descriptorIndex := 335, attributes := #[] }, { accessFlags := 9, nameIndex := 201, descriptorIndex := 335, attributes := #[] }] 49 4 #[] #[{ accessFlags := 25, nameIndex := 354, descriptorIndex := 339, attributes := #[] }, { accessFlags := 25, nameIndex := 358, descriptorIndex := 339, attributes := #[] }, { accessFlags := 25, nameIndex := 361, descriptorIndex := 339, attributes := #[] }, { accessFlags := 26, nameIndex := 364, descriptorIndex := 339, attributes := #[] }, { accessFlags := 26, nameIndex := 365, descriptorIndex := 339, attributes := #[] }, { accessFlags := 26, nameIndex := 172, descriptorIndex := 173, attributes := #[] }, { accessFlags := 26, nameIndex := 176, descriptorIndex := 173, attributes := #[] }, { accessFlags := 8, nameIndex := 344, descriptorIndex := 339, attributes := #[] }, { accessFlags := 8, nameIndex := 338, descriptorIndex := 339, attributes := #[] }, { accessFlags := 4120, nameIndex := 245, descriptorIndex := 246, attributes := #[] }])
  fields := #[{ name := "E", type := .double, accessFlags := 25, slot := 0, constantValue := 0 }, { name := "PI", type := .double, accessFlags := 25, slot := 1, constantValue := 0 }, { name := "TAU", type := .double, accessFlags := 25, slot := 2, constantValue := 0 }, { name := "DEGREES_TO_RADIANS", type := .double, accessFlags := 26, slot := 3, constantValue := 0 }, { name := "RADIANS_TO_DEGREES", type := .double, accessFlags := 26, slot := 4, constantValue := 0 }, { name := "negativeZeroFloatBits", type := .long, accessFlags := 26, slot := 5, constantValue := 0 }, { name := "negativeZeroDoubleBits", type := .long, accessFlags := 26, slot := 6, constantValue := 0 }, { name := "twoToTheDoubleScaleUp", type := .double, accessFlags := 8, slot := 7, constantValue := 0 }, { name := "twoToTheDoubleScaleDown", type := .double, accessFlags := 8, slot := 8, constantValue := 0 }, { name := "$assertionsDisabled", type := .boolean, accessFlags := 4120, slot := 9, constantValue := 0 }]
  methods := #[k12m0, k12m1, k12m2]
  instanceTypes := #[]
  staticTypes := #[.double, .double, .double, .double, .double, .long, .long, .double, .double, .boolean]
  resolved := Array.replicate 460 none
  statics := none }

def pool13 : Array CpInfo := pool [(9, u "<init>"), (6, .class_ 18), (1, u "java/lang/Object"), (0, u "()V"), (1, .class_ 23), (1, u "jdk/internal/util/ArraysSupport"), (0, u "LOG2_ARRAY_LONG_INDEX_SCALE"), (0, u "I"), (2, u "U"), (0, u "Ljdk/internal/misc/Unsafe;"), (8, u "BIG_ENDIAN"), (0, u "Z"), (8, u "LOG2_BYTE_BIT_SIZE"), (4, u "LOG2_ARRAY_INT_INDEX_SCALE"), (6, .class_ 61), (0, u "[B"), (0, .methodref 21 63), (0, .nameAndType 64 65), (0, u "signedHashCode"), (0, u "(I[BII)I"), (42, u "JLA"), (0, u "Ljdk/internal/access/JavaLangAccess;"), (11, u "LOG2_ARRAY_BOOLEAN_INDEX_SCALE"), (9, u "LOG2_ARRAY_BYTE_INDEX_SCALE"), (5, u "LOG2_ARRAY_CHAR_INDEX_SCALE"), (5, u "LOG2_ARRAY_SHORT_INDEX_SCALE"), (18, u "LOG2_ARRAY_FLOAT_INDEX_SCALE"), (24, u "LOG2_ARRAY_DOUBLE_INDEX_SCALE"), (89, u "T_BOOLEAN"), (2, u "T_CHAR"), (1, u "T_FLOAT"), (1, u "T_DOUBLE"), (1, u "T_BYTE"), (1, u "T_SHORT"), (1, u "T_INT"), (1, u "T_LONG"), (1, u "SOFT_MAX_ARRAY_LENGTH"), (26, u "vectorizedHashCode"), (0, u "(Ljava/lang/Object;IIII)I")] 55

def k13m0 : Method := { name := "<init>", desc := "()V", sig := { parameters := [], returnType := none }, accessFlags := 2, code := none }
def k13c1 : Code := { maxStack := 4, maxLocals := 5, code := jdk_48_method_4_code, exceptionTable := #[], attributes := #[] }
def k13m1 : Method := { name := "vectorizedHashCode", desc := "(Ljava/lang/Object;IIII)I", sig := { parameters := [(.object "java/lang/Object"), .int, .int, .int, .int], returnType := some .int }, accessFlags := 9, code := some k13c1 }
def k13c2 : Code := { maxStack := 3, maxLocals := 6, code := jdk_48_method_5_code, exceptionTable := #[], attributes := #[] }
def k13m2 : Method := { name := "signedHashCode", desc := "(I[BII)I", sig := { parameters := [.int, (.array .byte), .int, .int], returnType := some .int }, accessFlags := 10, code := some k13c2 }
/-- jdk/internal/util/ArraysSupport -/
def k13 : Class := { plain "jdk/internal/util/ArraysSupport" (some 0) with
  accessFlags := 33
  interfaces := #[]
  cf := some (fileOf pool13 21 #[] #[{ accessFlags := 2, nameIndex := 9, descriptorIndex := 19, attributes := #[] }, { accessFlags := 9, nameIndex := 321, descriptorIndex := 322, attributes := #[] }, { accessFlags := 10, nameIndex := 64, descriptorIndex := 65, attributes := #[] }] 33 16 #[] #[{ accessFlags := 24, nameIndex := 28, descriptorIndex := 29, attributes := #[] }, { accessFlags := 26, nameIndex := 38, descriptorIndex := 39, attributes := #[] }, { accessFlags := 25, nameIndex := 121, descriptorIndex := 25, attributes := #[] }, { accessFlags := 25, nameIndex := 131, descriptorIndex := 25, attributes := #[] }, { accessFlags := 25, nameIndex := 137, descriptorIndex := 25, attributes := #[] }, { accessFlags := 25, nameIndex := 143, descriptorIndex := 25, attributes := #[] }, { accessFlags := 25, nameIndex := 53, descriptorIndex := 25, attributes := #[] }, { accessFlags := 25, nameIndex := 24, descriptorIndex := 25, attributes := #[] }, { accessFlags := 25, nameIndex := 162, descriptorIndex := 25, attributes := #[] }, { accessFlags := 25, nameIndex := 187, descriptorIndex := 25, attributes := #[] }, { accessFlags := 26, nameIndex := 48, descriptorIndex := 25, attributes := #[] }, { accessFlags := 25, nameIndex := 277, descriptorIndex := 25, attributes := #[] }, { accessFlags := 25, nameIndex := 280, descriptorIndex := 25, attributes := #[] }, { accessFlags := 25, nameIndex := 282, descriptorIndex := 25, attributes := #[] }, { accessFlags := 25, nameIndex := 284, descriptorIndex := 25, attributes := #[] }, { accessFlags := 25, nameIndex := 286, descriptorIndex := 25, attributes := #[] }, { accessFlags := 25, nameIndex := 288, descriptorIndex := 25, attributes := #[] }, { accessFlags := 25, nameIndex := 290, descriptorIndex := 25, attributes := #[] }, { accessFlags := 25, nameIndex := 292, descriptorIndex := 25, attributes := #[] }, { accessFlags := 26, nameIndex := 108, descriptorIndex := 109, attributes := #[] }, { accessFlags := 25, nameIndex := 294, descriptorIndex := 25, attributes := #[] }])
  fields := #[{ name := "U", type := (.object "jdk/internal/misc/Unsafe"), accessFlags := 24, slot := 0, constantValue := 0 }, { name := "BIG_ENDIAN", type := .boolean, accessFlags := 26, slot := 1, constantValue := 0 }, { name := "LOG2_ARRAY_BOOLEAN_INDEX_SCALE", type := .int, accessFlags := 25, slot := 2, constantValue := 0 }, { name := "LOG2_ARRAY_BYTE_INDEX_SCALE", type := .int, accessFlags := 25, slot := 3, constantValue := 0 }, { name := "LOG2_ARRAY_CHAR_INDEX_SCALE", type := .int, accessFlags := 25, slot := 4, constantValue := 0 }, { name := "LOG2_ARRAY_SHORT_INDEX_SCALE", type := .int, accessFlags := 25, slot := 5, constantValue := 0 }, { name := "LOG2_ARRAY_INT_INDEX_SCALE", type := .int, accessFlags := 25, slot := 6, constantValue := 0 }, { name := "LOG2_ARRAY_LONG_INDEX_SCALE", type := .int, accessFlags := 25, slot := 7, constantValue := 0 }, { name := "LOG2_ARRAY_FLOAT_INDEX_SCALE", type := .int, accessFlags := 25, slot := 8, constantValue := 0 }, { name := "LOG2_ARRAY_DOUBLE_INDEX_SCALE", type := .int, accessFlags := 25, slot := 9, constantValue := 0 }, { name := "LOG2_BYTE_BIT_SIZE", type := .int, accessFlags := 26, slot := 10, constantValue := 0 }, { name := "T_BOOLEAN", type := .int, accessFlags := 25, slot := 11, constantValue := 0 }, { name := "T_CHAR", type := .int, accessFlags := 25, slot := 12, constantValue := 0 }, { name := "T_FLOAT", type := .int, accessFlags := 25, slot := 13, constantValue := 0 }, { name := "T_DOUBLE", type := .int, accessFlags := 25, slot := 14, constantValue := 0 }, { name := "T_BYTE", type := .int, accessFlags := 25, slot := 15, constantValue := 0 }, { name := "T_SHORT", type := .int, accessFlags := 25, slot := 16, constantValue := 0 }, { name := "T_INT", type := .int, accessFlags := 25, slot := 17, constantValue := 0 }, { name := "T_LONG", type := .int, accessFlags := 25, slot := 18, constantValue := 0 }, { name := "JLA", type := (.object "jdk/internal/access/JavaLangAccess"), accessFlags := 26, slot := 19, constantValue := 0 }, { name := "SOFT_MAX_ARRAY_LENGTH", type := .int, accessFlags := 25, slot := 20, constantValue := 0 }]
  methods := #[k13m0, k13m1, k13m2]
  instanceTypes := #[]
  staticTypes := #[(.object "jdk/internal/misc/Unsafe"), .boolean, .int, .int, .int, .int, .int, .int, .int, .int, .int, .int, .int, .int, .int, .int, .int, .int, .int, (.object "jdk/internal/access/JavaLangAccess"), .int]
  resolved := Array.replicate 378 none
  statics := none }

def pool14 : Array CpInfo := pool [(1, u "java/lang/Cloneable"), (0, .class_ 1), (0, u "java/lang/Object"), (0, .class_ 3)] 3

/-- java/lang/Cloneable -/
def k14 : Class := { plain "java/lang/Cloneable" (some 0) with
  accessFlags := 1537
  interfaces := #[]
  cf := some (fileOf pool14 2 #[] #[] 1537 4 #[] #[])
  fields := #[]
  methods := #[]
  instanceTypes := #[]
  staticTypes := #[]
  resolved := Array.replicate 8 none
  statics := none }

/-- the primitive byte -/
def k15 : Class := { plain "byte" none with kind := .primitive 'B', accessFlags := 0x411 }
/-- [B -/
def k16 : Class := { plain "[B" (some 0) with kind := .array 15 .byte, interfaces := #[14, 2], accessFlags := 1041 }

/-- the primitive char -/
def k17 : Class := { plain "char" none with kind := .primitive 'C', accessFlags := 0x411 }
/-- [C -/
def k18 : Class := { plain "[C" (some 0) with kind := .array 17 .char, interfaces := #[14, 2], accessFlags := 1041 }

/-- the primitive int -/
def k19 : Class := { plain "int" none with kind := .primitive 'I', accessFlags := 0x411 }
/-- [I -/
def k20 : Class := { plain "[I" (some 0) with kind := .array 19 .int, interfaces := #[14, 2], accessFlags := 1041 }

def heap : Heap := #[{ cls := 7, slots := #[.long 0, .int 1, .null, .int 0, .null, .int 0, .int 0], vm := .statics 7 },
  { cls := 9, slots := #[.null, .null, .null], vm := .statics 9 }]
def classes : Array Class := #[k0, k1, k2, k3, k4, k5, k6, k7, k8, k9, k10, k11, k12, k13, k14, k15, k16, k17, k18, k19, k20]
def interned : List (Array UInt16 × Addr) := []
def slotsUsed : Nat := 10
def theMethod : MethodId := ⟨1, 1⟩
def args0 : Array Value := #[.int 5, .int 6, .int 7, .int 8, .int 2]
def aboutOver (below : List Frame) : State where
  vm := { classes := classes, interned := interned.toArray }
  heap := heap
  slotsUsed := slotsUsed
  threads := #[{ frames := .invoking theMethod args0 :: below }]
def below0 : List Frame := [.native { method := ⟨0, 0⟩, args := #[] }]
def about1 : State := aboutOver below0
def p0 : Program := .bare "" "" ""
def e0 : Env := launch0.env 0 0 0
theorem w_frames : about1.frames = Frame.invoking theMethod args0 :: below0 := rfl
set_option maxRecDepth 65536 in
theorem w_args : argsFit about1.vm theMethod args0 = true := by decide +kernel
set_option maxRecDepth 65536 in
theorem w_heap : heapFits about1 = true := by decide +kernel
set_option maxRecDepth 65536 in
theorem w_runnable : about1.curStatus? = some .runnable := by decide +kernel
set_option maxRecDepth 65536 in
theorem w_alone : about1.alone = true := by decide +kernel
set_option maxRecDepth 65536 in
theorem w_named : about1.methodNamed? x = some theMethod := by decide +kernel
set_option maxRecDepth 65536 in
theorem w_hears : about1.hears theMethod below0 = true := by decide +kernel
set_option maxRecDepth 65536 in
theorem w_ripe : about1.ripe theMethod args0 below0 = true := by decide +kernel
theorem w_running : about1.status = .running := rfl
set_option maxRecDepth 65536 in
theorem w_room : about1.hasRoom e0.platform room_1 = true :=
  launch0.hasRoom_least _ room_1 (by decide +kernel) (by decide +kernel) (by decide +kernel) (by decide +kernel) (by decide +kernel) (by decide +kernel)
theorem allAtoms_all (ts : List Jvm.Cond) (a : Array Jvm.Value) (st : Jvm.State) : (allAtoms ts).before a st = ts.all (fun c => c.before a st) := by
  induction ts with
  | nil => rfl
  | cons c t ih =>
    show (Jvm.Cond.and c (allAtoms t)).before a st = _
    rw [Jvm.Cond.before_and, ih, List.all_cons]
def words1 : List Jvm.Cond := Jvm.Cond.code x code maxLocals ret :: tables_1
/-- a 'code' word, met by the world's own term for the bytes: nothing is compared byte by byte -/
theorem code_word {y : MethodName} {bytes : ByteArray} {mx : Nat} {rt : Option FieldType} {a : Array Value} {s : State} {m : MethodId} {meth : Method} {c : Code} (h1 : s.methodNamed? y = some m) (h2 : s.vm.method? m = some meth) (h3 : meth.code = some c) (h4 : c.code = bytes)
    (h5 : (c.maxLocals == mx && c.exceptionTable.isEmpty && decide (c.maxStack ≤ mostOperands) && decide (meth.sig.returnType = rt) && !meth.locks && decide (parseMethodDescriptor y.desc = some meth.sig)) = true) : (Jvm.Cond.code y bytes mx rt).before a s = true := by
  simp only [Bool.and_eq_true, beq_iff_eq, Bool.not_eq_true', decide_eq_true_eq] at h5
  obtain ⟨⟨⟨⟨⟨g1, g2⟩, g3⟩, g4⟩, g5⟩, g6⟩ := h5
  simp [Cond.before, Cond.holds, Cond.value, h1, h2, h3, h4, g1, g2, g3, g4, g5, g6]
def isCode : Jvm.Cond → Bool
  | .code _ _ _ _ => true
  | _ => false
theorem all_split {L : List Jvm.Cond} {P : Jvm.Cond → Bool} (h1 : L.all (fun c => isCode c || P c) = true) (h2 : ∀ c ∈ L.filter isCode, P c = true) : L.all P = true := by
  refine List.all_eq_true.mpr fun c hc => ?_
  have h := List.all_eq_true.mp h1 c hc
  rcases Bool.eq_false_or_eq_true (isCode c) with hi | hi
  · exact h2 c (List.mem_filter.mpr ⟨hc, hi⟩)
  · simpa [hi] using h
set_option maxRecDepth 65536 in
theorem w_c0 : (Jvm.Cond.code x code maxLocals ret).before args0 about1 = true := code_word (m := ⟨1, 1⟩) (meth := k1m1) (c := k1c1) (by decide +kernel) rfl rfl rfl (by decide +kernel)
set_option maxRecDepth 65536 in
theorem w_c1 : (Jvm.Cond.code ({ cls := "com/example/lease_lock/leaselock/LockNameOfPinLaw", name := "pick", desc := "(I)C" } : Jvm.MethodName) method_3_code (3 : Nat) (Option.some Jvm.ClassFile.FieldType.char)).before args0 about1 = true := code_word (m := ⟨1, 2⟩) (meth := k1m2) (c := k1c2) (by decide +kernel) rfl rfl rfl (by decide +kernel)
set_option maxRecDepth 65536 in
theorem w_c2 : (Jvm.Cond.code ({ cls := "java/lang/String", name := "charAt", desc := "(I)C" } : Jvm.MethodName) jdk_42_method_56_code (2 : Nat) (Option.some Jvm.ClassFile.FieldType.char)).before args0 about1 = true := code_word (m := ⟨7, 4⟩) (meth := k7m4) (c := k7c4) (by decide +kernel) rfl rfl rfl (by decide +kernel)
set_option maxRecDepth 65536 in
theorem w_c3 : (Jvm.Cond.code ({ cls := "java/lang/String", name := "isLatin1", desc := "()Z" } : Jvm.MethodName) jdk_42_method_154_code (1 : Nat) (Option.some Jvm.ClassFile.FieldType.boolean)).before args0 about1 = true := code_word (m := ⟨7, 11⟩) (meth := k7m11) (c := k7c11) (by decide +kernel) rfl rfl rfl (by decide +kernel)
set_option maxRecDepth 65536 in
theorem w_c4 : (Jvm.Cond.code ({ cls := "java/lang/StringLatin1", name := "charAt", desc := "([BI)C" } : Jvm.MethodName) jdk_43_method_2_code (2 : Nat) (Option.some Jvm.ClassFile.FieldType.char)).before args0 about1 = true := code_word (m := ⟨8, 1⟩) (meth := k8m1) (c := k8c1) (by decide +kernel) rfl rfl rfl (by decide +kernel)
set_option maxRecDepth 65536 in
theorem w_c5 : (Jvm.Cond.code ({ cls := "java/lang/String", name := "checkIndex", desc := "(II)V" } : Jvm.MethodName) jdk_42_method_155_code (2 : Nat) (Option.none : Option Jvm.ClassFile.FieldType)).before args0 about1 = true := code_word (m := ⟨7, 12⟩) (meth := k7m12) (c := k7c12) (by decide +kernel) rfl rfl rfl (by decide +kernel)
set_option maxRecDepth 65536 in
theorem w_c6 : (Jvm.Cond.code ({ cls := "jdk/internal/util/Preconditions", name := "checkIndex", desc := "(IILjava/util/function/BiFunction;)I" } : Jvm.MethodName) jdk_41_method_11_code (3 : Nat) (Option.some Jvm.ClassFile.FieldType.int)).before args0 about1 = true := code_word (m := ⟨9, 1⟩) (meth := k9m1) (c := k9c1) (by decide +kernel) rfl rfl rfl (by decide +kernel)
set_option maxRecDepth 65536 in
theorem w_c7 : (Jvm.Cond.code ({ cls := "com/example/lease_lock/leaselock/LockNameOfPinLaw", name := "make", desc := "(CCCI)Ljava/lang/String;" } : Jvm.MethodName) method_4_code (4 : Nat) (Option.some (Jvm.ClassFile.FieldType.object "java/lang/String"))).before args0 about1 = true := code_word (m := ⟨1, 3⟩) (meth := k1m3) (c := k1c3) (by decide +kernel) rfl rfl rfl (by decide +kernel)
set_option maxRecDepth 65536 in
theorem w_c8 : (Jvm.Cond.code ({ cls := "java/lang/String", name := "<init>", desc := "([C)V" } : Jvm.MethodName) jdk_42_method_3_code (2 : Nat) (Option.none : Option Jvm.ClassFile.FieldType)).before args0 about1 = true := code_word (m := ⟨7, 1⟩) (meth := k7m1) (c := k7c1) (by decide +kernel) rfl rfl rfl (by decide +kernel)
set_option maxRecDepth 65536 in
theorem w_c9 : (Jvm.Cond.code ({ cls := "java/lang/String", name := "<init>", desc := "([CIILjava/lang/Void;)V" } : Jvm.MethodName) jdk_42_method_149_code (6 : Nat) (Option.none : Option Jvm.ClassFile.FieldType)).before args0 about1 = true := code_word (m := ⟨7, 9⟩) (meth := k7m9) (c := k7c9) (by decide +kernel) rfl rfl rfl (by decide +kernel)
set_option maxRecDepth 65536 in
theorem w_c10 : (Jvm.Cond.code ({ cls := "java/lang/Object", name := "<init>", desc := "()V" } : Jvm.MethodName) object_method_1_code (1 : Nat) (Option.none : Option Jvm.ClassFile.FieldType)).before args0 about1 = true := code_word (m := ⟨0, 0⟩) (meth := k0m0) (c := k0c0) (by decide +kernel) rfl rfl rfl (by decide +kernel)
set_option maxRecDepth 65536 in
theorem w_c11 : (Jvm.Cond.code ({ cls := "java/lang/StringUTF16", name := "compress", desc := "([CII)[B" } : Jvm.MethodName) jdk_52_method_16_code (6 : Nat) (Option.some (Jvm.ClassFile.FieldType.array Jvm.ClassFile.FieldType.byte))).before args0 about1 = true := code_word (m := ⟨10, 2⟩) (meth := k10m2) (c := k10c2) (by decide +kernel) rfl rfl rfl (by decide +kernel)
set_option maxRecDepth 65536 in
theorem w_c12 : (Jvm.Cond.code ({ cls := "java/lang/StringUTF16", name := "compress", desc := "([CI[BII)I" } : Jvm.MethodName) jdk_52_method_21_code (7 : Nat) (Option.some Jvm.ClassFile.FieldType.int)).before args0 about1 = true := code_word (m := ⟨10, 3⟩) (meth := k10m3) (c := k10c3) (by decide +kernel) rfl rfl rfl (by decide +kernel)
set_option maxRecDepth 65536 in
theorem w_c13 : (Jvm.Cond.code ({ cls := "java/lang/StringUTF16", name := "coderFromArrayLen", desc := "([BI)B" } : Jvm.MethodName) jdk_52_method_15_code (2 : Nat) (Option.some Jvm.ClassFile.FieldType.byte)).before args0 about1 = true := code_word (m := ⟨10, 1⟩) (meth := k10m1) (c := k10c1) (by decide +kernel) rfl rfl rfl (by decide +kernel)
set_option maxRecDepth 65536 in
theorem w_c14 : (Jvm.Cond.code ({ cls := "com/example/lease_lock/leaselock/LockName", name := "of", desc := "(Ljava/lang/String;)Lcom/example/lease_lock/leaselock/LockName;" } : Jvm.MethodName) prog_2_method_2_code (2 : Nat) (Option.some (Jvm.ClassFile.FieldType.object "com/example/lease_lock/leaselock/LockName"))).before args0 about1 = true := code_word (m := ⟨11, 1⟩) (meth := k11m1) (c := k11c1) (by decide +kernel) rfl rfl rfl (by decide +kernel)
set_option maxRecDepth 65536 in
theorem w_c15 : (Jvm.Cond.code ({ cls := "java/lang/String", name := "isEmpty", desc := "()Z" } : Jvm.MethodName) jdk_42_method_55_code (1 : Nat) (Option.some Jvm.ClassFile.FieldType.boolean)).before args0 about1 = true := code_word (m := ⟨7, 3⟩) (meth := k7m3) (c := k7c3) (by decide +kernel) rfl rfl rfl (by decide +kernel)
set_option maxRecDepth 65536 in
theorem w_c16 : (Jvm.Cond.code ({ cls := "java/lang/String", name := "length", desc := "()I" } : Jvm.MethodName) jdk_42_method_54_code (1 : Nat) (Option.some Jvm.ClassFile.FieldType.int)).before args0 about1 = true := code_word (m := ⟨7, 2⟩) (meth := k7m2) (c := k7c2) (by decide +kernel) rfl rfl rfl (by decide +kernel)
set_option maxRecDepth 65536 in
theorem w_c17 : (Jvm.Cond.code ({ cls := "java/lang/String", name := "coder", desc := "()B" } : Jvm.MethodName) jdk_42_method_152_code (1 : Nat) (Option.some Jvm.ClassFile.FieldType.byte)).before args0 about1 = true := code_word (m := ⟨7, 10⟩) (meth := k7m10) (c := k7c10) (by decide +kernel) rfl rfl rfl (by decide +kernel)
set_option maxRecDepth 65536 in
theorem w_c18 : (Jvm.Cond.code ({ cls := "com/example/lease_lock/leaselock/LockName", name := "isAllowed", desc := "(C)Z" } : Jvm.MethodName) prog_2_method_7_code (1 : Nat) (Option.some Jvm.ClassFile.FieldType.boolean)).before args0 about1 = true := code_word (m := ⟨11, 6⟩) (meth := k11m6) (c := k11c6) (by decide +kernel) rfl rfl rfl (by decide +kernel)
set_option maxRecDepth 65536 in
theorem w_c19 : (Jvm.Cond.code ({ cls := "com/example/lease_lock/leaselock/LockName", name := "<init>", desc := "(Ljava/lang/String;)V" } : Jvm.MethodName) prog_2_method_1_code (2 : Nat) (Option.none : Option Jvm.ClassFile.FieldType)).before args0 about1 = true := code_word (m := ⟨11, 0⟩) (meth := k11m0) (c := k11c0) (by decide +kernel) rfl rfl rfl (by decide +kernel)
set_option maxRecDepth 65536 in
theorem w_c20 : (Jvm.Cond.code ({ cls := "java/lang/String", name := "equals", desc := "(Ljava/lang/Object;)Z" } : Jvm.MethodName) jdk_42_method_66_code (3 : Nat) (Option.some Jvm.ClassFile.FieldType.boolean)).before args0 about1 = true := code_word (m := ⟨7, 5⟩) (meth := k7m5) (c := k7c5) (by decide +kernel) rfl rfl rfl (by decide +kernel)
set_option maxRecDepth 65536 in
theorem w_c21 : (Jvm.Cond.code ({ cls := "java/lang/StringLatin1", name := "equals", desc := "([B[B)Z" } : Jvm.MethodName) jdk_43_method_13_code (3 : Nat) (Option.some Jvm.ClassFile.FieldType.boolean)).before args0 about1 = true := code_word (m := ⟨8, 3⟩) (meth := k8m3) (c := k8c3) (by decide +kernel) rfl rfl rfl (by decide +kernel)
set_option maxRecDepth 65536 in
theorem w_c22 : (Jvm.Cond.code ({ cls := "com/example/lease_lock/leaselock/LockName", name := "value", desc := "()Ljava/lang/String;" } : Jvm.MethodName) prog_2_method_3_code (1 : Nat) (Option.some (Jvm.ClassFile.FieldType.object "java/lang/String"))).before args0 about1 = true := code_word (m := ⟨11, 2⟩) (meth := k11m2) (c := k11c2) (by decide +kernel) rfl rfl rfl (by decide +kernel)
set_option maxRecDepth 65536 in
theorem w_c23 : (Jvm.Cond.code ({ cls := "com/example/lease_lock/leaselock/LockName", name := "toString", desc := "()Ljava/lang/String;" } : Jvm.MethodName) prog_2_method_6_code (1 : Nat) (Option.some (Jvm.ClassFile.FieldType.object "java/lang/String"))).before args0 about1 = true := code_word (m := ⟨11, 5⟩) (meth := k11m5) (c := k11c5) (by decide +kernel) rfl rfl rfl (by decide +kernel)
set_option maxRecDepth 65536 in
theorem w_c24 : (Jvm.Cond.code ({ cls := "com/example/lease_lock/leaselock/LockName", name := "equals", desc := "(Ljava/lang/Object;)Z" } : Jvm.MethodName) prog_2_method_4_code (3 : Nat) (Option.some Jvm.ClassFile.FieldType.boolean)).before args0 about1 = true := code_word (m := ⟨11, 3⟩) (meth := k11m3) (c := k11c3) (by decide +kernel) rfl rfl rfl (by decide +kernel)
set_option maxRecDepth 65536 in
theorem w_c25 : (Jvm.Cond.code ({ cls := "java/lang/String", name := "indexOf", desc := "(I)I" } : Jvm.MethodName) jdk_42_method_79_code (2 : Nat) (Option.some Jvm.ClassFile.FieldType.int)).before args0 about1 = true := code_word (m := ⟨7, 7⟩) (meth := k7m7) (c := k7c7) (by decide +kernel) rfl rfl rfl (by decide +kernel)
set_option maxRecDepth 65536 in
theorem w_c26 : (Jvm.Cond.code ({ cls := "java/lang/String", name := "indexOf", desc := "(II)I" } : Jvm.MethodName) jdk_42_method_80_code (3 : Nat) (Option.some Jvm.ClassFile.FieldType.int)).before args0 about1 = true := code_word (m := ⟨7, 8⟩) (meth := k7m8) (c := k7c8) (by decide +kernel) rfl rfl rfl (by decide +kernel)
set_option maxRecDepth 65536 in
theorem w_c27 : (Jvm.Cond.code ({ cls := "java/lang/StringLatin1", name := "indexOf", desc := "([BIII)I" } : Jvm.MethodName) jdk_43_method_22_code (4 : Nat) (Option.some Jvm.ClassFile.FieldType.int)).before args0 about1 = true := code_word (m := ⟨8, 5⟩) (meth := k8m5) (c := k8c5) (by decide +kernel) rfl rfl rfl (by decide +kernel)
set_option maxRecDepth 65536 in
theorem w_c28 : (Jvm.Cond.code ({ cls := "java/lang/StringLatin1", name := "canEncode", desc := "(I)Z" } : Jvm.MethodName) jdk_43_method_4_code (1 : Nat) (Option.some Jvm.ClassFile.FieldType.boolean)).before args0 about1 = true := code_word (m := ⟨8, 2⟩) (meth := k8m2) (c := k8c2) (by decide +kernel) rfl rfl rfl (by decide +kernel)
set_option maxRecDepth 65536 in
theorem w_c29 : (Jvm.Cond.code ({ cls := "java/lang/Math", name := "max", desc := "(II)I" } : Jvm.MethodName) jdk_29_method_65_code (2 : Nat) (Option.some Jvm.ClassFile.FieldType.int)).before args0 about1 = true := code_word (m := ⟨12, 1⟩) (meth := k12m1) (c := k12c1) (by decide +kernel) rfl rfl rfl (by decide +kernel)
set_option maxRecDepth 65536 in
theorem w_c30 : (Jvm.Cond.code ({ cls := "java/lang/Math", name := "min", desc := "(II)I" } : Jvm.MethodName) jdk_29_method_69_code (2 : Nat) (Option.some Jvm.ClassFile.FieldType.int)).before args0 about1 = true := code_word (m := ⟨12, 2⟩) (meth := k12m2) (c := k12c2) (by decide +kernel) rfl rfl rfl (by decide +kernel)
set_option maxRecDepth 65536 in
theorem w_c31 : (Jvm.Cond.code ({ cls := "java/lang/StringLatin1", name := "indexOfChar", desc := "([BIII)I" } : Jvm.MethodName) jdk_43_method_23_code (6 : Nat) (Option.some Jvm.ClassFile.FieldType.int)).before args0 about1 = true := code_word (m := ⟨8, 6⟩) (meth := k8m6) (c := k8c6) (by decide +kernel) rfl rfl rfl (by decide +kernel)
set_option maxRecDepth 65536 in
theorem w_c32 : (Jvm.Cond.code ({ cls := "com/example/lease_lock/leaselock/LockName", name := "hashCode", desc := "()I" } : Jvm.MethodName) prog_2_method_5_code (1 : Nat) (Option.some Jvm.ClassFile.FieldType.int)).before args0 about1 = true := code_word (m := ⟨11, 4⟩) (meth := k11m4) (c := k11c4) (by decide +kernel) rfl rfl rfl (by decide +kernel)
set_option maxRecDepth 65536 in
theorem w_c33 : (Jvm.Cond.code ({ cls := "java/lang/String", name := "hashCode", desc := "()I" } : Jvm.MethodName) jdk_42_method_78_code (2 : Nat) (Option.some Jvm.ClassFile.FieldType.int)).before args0 about1 = true := code_word (m := ⟨7, 6⟩) (meth := k7m6) (c := k7c6) (by decide +kernel) rfl rfl rfl (by decide +kernel)
set_option maxRecDepth 65536 in
theorem w_c34 : (Jvm.Cond.code ({ cls := "java/lang/StringLatin1", name := "hashCode", desc := "([B)I" } : Jvm.MethodName) jdk_43_method_21_code (1 : Nat) (Option.some Jvm.ClassFile.FieldType.int)).before args0 about1 = true := code_word (m := ⟨8, 4⟩) (meth := k8m4) (c := k8c4) (by decide +kernel) rfl rfl rfl (by decide +kernel)
set_option maxRecDepth 65536 in
theorem w_c35 : (Jvm.Cond.code ({ cls := "jdk/internal/util/ArraysSupport", name := "vectorizedHashCode", desc := "(Ljava/lang/Object;IIII)I" } : Jvm.MethodName) jdk_48_method_4_code (5 : Nat) (Option.some Jvm.ClassFile.FieldType.int)).before args0 about1 = true := code_word (m := ⟨13, 1⟩) (meth := k13m1) (c := k13c1) (by decide +kernel) rfl rfl rfl (by decide +kernel)
set_option maxRecDepth 65536 in
theorem w_c36 : (Jvm.Cond.code ({ cls := "jdk/internal/util/ArraysSupport", name := "signedHashCode", desc := "(I[BII)I" } : Jvm.MethodName) jdk_48_method_5_code (6 : Nat) (Option.some Jvm.ClassFile.FieldType.int)).before args0 about1 = true := code_word (m := ⟨13, 2⟩) (meth := k13m2) (c := k13c2) (by decide +kernel) rfl rfl rfl (by decide +kernel)
def codes1 : List Jvm.Cond := [Jvm.Cond.code x code maxLocals ret, Jvm.Cond.code ({ cls := "com/example/lease_lock/leaselock/LockNameOfPinLaw", name := "pick", desc := "(I)C" } : Jvm.MethodName) method_3_code (3 : Nat) (Option.some Jvm.ClassFile.FieldType.char), Jvm.Cond.code ({ cls := "java/lang/String", name := "charAt", desc := "(I)C" } : Jvm.MethodName) jdk_42_method_56_code (2 : Nat) (Option.some Jvm.ClassFile.FieldType.char), Jvm.Cond.code ({ cls := "java/lang/String", name := "isLatin1", desc := "()Z" } : Jvm.MethodName) jdk_42_method_154_code (1 : Nat) (Option.some Jvm.ClassFile.FieldType.boolean), Jvm.Cond.code ({ cls := "java/lang/StringLatin1", name := "charAt", desc := "([BI)C" } : Jvm.MethodName) jdk_43_method_2_code (2 : Nat) (Option.some Jvm.ClassFile.FieldType.char), Jvm.Cond.code ({ cls := "java/lang/String", name := "checkIndex", desc := "(II)V" } : Jvm.MethodName) jdk_42_method_155_code (2 : Nat) (Option.none : Option Jvm.ClassFile.FieldType), Jvm.Cond.code ({ cls := "jdk/internal/util/Preconditions", name := "checkIndex", desc := "(IILjava/util/function/BiFunction;)I" } : Jvm.MethodName) jdk_41_method_11_code (3 : Nat) (Option.some Jvm.ClassFile.FieldType.int), Jvm.Cond.code ({ cls := "com/example/lease_lock/leaselock/LockNameOfPinLaw", name := "make", desc := "(CCCI)Ljava/lang/String;" } : Jvm.MethodName) method_4_code (4 : Nat) (Option.some (Jvm.ClassFile.FieldType.object "java/lang/String")), Jvm.Cond.code ({ cls := "java/lang/String", name := "<init>", desc := "([C)V" } : Jvm.MethodName) jdk_42_method_3_code (2 : Nat) (Option.none : Option Jvm.ClassFile.FieldType), Jvm.Cond.code ({ cls := "java/lang/String", name := "<init>", desc := "([CIILjava/lang/Void;)V" } : Jvm.MethodName) jdk_42_method_149_code (6 : Nat) (Option.none : Option Jvm.ClassFile.FieldType), Jvm.Cond.code ({ cls := "java/lang/Object", name := "<init>", desc := "()V" } : Jvm.MethodName) object_method_1_code (1 : Nat) (Option.none : Option Jvm.ClassFile.FieldType), Jvm.Cond.code ({ cls := "java/lang/StringUTF16", name := "compress", desc := "([CII)[B" } : Jvm.MethodName) jdk_52_method_16_code (6 : Nat) (Option.some (Jvm.ClassFile.FieldType.array Jvm.ClassFile.FieldType.byte)), Jvm.Cond.code ({ cls := "java/lang/StringUTF16", name := "compress", desc := "([CI[BII)I" } : Jvm.MethodName) jdk_52_method_21_code (7 : Nat) (Option.some Jvm.ClassFile.FieldType.int), Jvm.Cond.code ({ cls := "java/lang/StringUTF16", name := "coderFromArrayLen", desc := "([BI)B" } : Jvm.MethodName) jdk_52_method_15_code (2 : Nat) (Option.some Jvm.ClassFile.FieldType.byte), Jvm.Cond.code ({ cls := "com/example/lease_lock/leaselock/LockName", name := "of", desc := "(Ljava/lang/String;)Lcom/example/lease_lock/leaselock/LockName;" } : Jvm.MethodName) prog_2_method_2_code (2 : Nat) (Option.some (Jvm.ClassFile.FieldType.object "com/example/lease_lock/leaselock/LockName")), Jvm.Cond.code ({ cls := "java/lang/String", name := "isEmpty", desc := "()Z" } : Jvm.MethodName) jdk_42_method_55_code (1 : Nat) (Option.some Jvm.ClassFile.FieldType.boolean), Jvm.Cond.code ({ cls := "java/lang/String", name := "length", desc := "()I" } : Jvm.MethodName) jdk_42_method_54_code (1 : Nat) (Option.some Jvm.ClassFile.FieldType.int), Jvm.Cond.code ({ cls := "java/lang/String", name := "coder", desc := "()B" } : Jvm.MethodName) jdk_42_method_152_code (1 : Nat) (Option.some Jvm.ClassFile.FieldType.byte), Jvm.Cond.code ({ cls := "com/example/lease_lock/leaselock/LockName", name := "isAllowed", desc := "(C)Z" } : Jvm.MethodName) prog_2_method_7_code (1 : Nat) (Option.some Jvm.ClassFile.FieldType.boolean), Jvm.Cond.code ({ cls := "com/example/lease_lock/leaselock/LockName", name := "<init>", desc := "(Ljava/lang/String;)V" } : Jvm.MethodName) prog_2_method_1_code (2 : Nat) (Option.none : Option Jvm.ClassFile.FieldType), Jvm.Cond.code ({ cls := "java/lang/String", name := "equals", desc := "(Ljava/lang/Object;)Z" } : Jvm.MethodName) jdk_42_method_66_code (3 : Nat) (Option.some Jvm.ClassFile.FieldType.boolean), Jvm.Cond.code ({ cls := "java/lang/StringLatin1", name := "equals", desc := "([B[B)Z" } : Jvm.MethodName) jdk_43_method_13_code (3 : Nat) (Option.some Jvm.ClassFile.FieldType.boolean), Jvm.Cond.code ({ cls := "com/example/lease_lock/leaselock/LockName", name := "value", desc := "()Ljava/lang/String;" } : Jvm.MethodName) prog_2_method_3_code (1 : Nat) (Option.some (Jvm.ClassFile.FieldType.object "java/lang/String")), Jvm.Cond.code ({ cls := "com/example/lease_lock/leaselock/LockName", name := "toString", desc := "()Ljava/lang/String;" } : Jvm.MethodName) prog_2_method_6_code (1 : Nat) (Option.some (Jvm.ClassFile.FieldType.object "java/lang/String")), Jvm.Cond.code ({ cls := "com/example/lease_lock/leaselock/LockName", name := "equals", desc := "(Ljava/lang/Object;)Z" } : Jvm.MethodName) prog_2_method_4_code (3 : Nat) (Option.some Jvm.ClassFile.FieldType.boolean), Jvm.Cond.code ({ cls := "java/lang/String", name := "indexOf", desc := "(I)I" } : Jvm.MethodName) jdk_42_method_79_code (2 : Nat) (Option.some Jvm.ClassFile.FieldType.int), Jvm.Cond.code ({ cls := "java/lang/String", name := "indexOf", desc := "(II)I" } : Jvm.MethodName) jdk_42_method_80_code (3 : Nat) (Option.some Jvm.ClassFile.FieldType.int), Jvm.Cond.code ({ cls := "java/lang/StringLatin1", name := "indexOf", desc := "([BIII)I" } : Jvm.MethodName) jdk_43_method_22_code (4 : Nat) (Option.some Jvm.ClassFile.FieldType.int), Jvm.Cond.code ({ cls := "java/lang/StringLatin1", name := "canEncode", desc := "(I)Z" } : Jvm.MethodName) jdk_43_method_4_code (1 : Nat) (Option.some Jvm.ClassFile.FieldType.boolean), Jvm.Cond.code ({ cls := "java/lang/Math", name := "max", desc := "(II)I" } : Jvm.MethodName) jdk_29_method_65_code (2 : Nat) (Option.some Jvm.ClassFile.FieldType.int), Jvm.Cond.code ({ cls := "java/lang/Math", name := "min", desc := "(II)I" } : Jvm.MethodName) jdk_29_method_69_code (2 : Nat) (Option.some Jvm.ClassFile.FieldType.int), Jvm.Cond.code ({ cls := "java/lang/StringLatin1", name := "indexOfChar", desc := "([BIII)I" } : Jvm.MethodName) jdk_43_method_23_code (6 : Nat) (Option.some Jvm.ClassFile.FieldType.int), Jvm.Cond.code ({ cls := "com/example/lease_lock/leaselock/LockName", name := "hashCode", desc := "()I" } : Jvm.MethodName) prog_2_method_5_code (1 : Nat) (Option.some Jvm.ClassFile.FieldType.int), Jvm.Cond.code ({ cls := "java/lang/String", name := "hashCode", desc := "()I" } : Jvm.MethodName) jdk_42_method_78_code (2 : Nat) (Option.some Jvm.ClassFile.FieldType.int), Jvm.Cond.code ({ cls := "java/lang/StringLatin1", name := "hashCode", desc := "([B)I" } : Jvm.MethodName) jdk_43_method_21_code (1 : Nat) (Option.some Jvm.ClassFile.FieldType.int), Jvm.Cond.code ({ cls := "jdk/internal/util/ArraysSupport", name := "vectorizedHashCode", desc := "(Ljava/lang/Object;IIII)I" } : Jvm.MethodName) jdk_48_method_4_code (5 : Nat) (Option.some Jvm.ClassFile.FieldType.int), Jvm.Cond.code ({ cls := "jdk/internal/util/ArraysSupport", name := "signedHashCode", desc := "(I[BII)I" } : Jvm.MethodName) jdk_48_method_5_code (6 : Nat) (Option.some Jvm.ClassFile.FieldType.int)]
set_option maxRecDepth 65536 in
theorem codes_eq : words1.filter isCode = codes1 := rfl
theorem w_codes : ∀ c ∈ words1.filter isCode, c.before args0 about1 = true := by
  rw [codes_eq]
  intro c hc
  simp only [codes1, List.mem_cons, List.not_mem_nil, or_false] at hc
  rcases hc with rfl | rfl | rfl | rfl | rfl | rfl | rfl | rfl | rfl | rfl | rfl | rfl | rfl | rfl | rfl | rfl | rfl | rfl | rfl | rfl | rfl | rfl | rfl | rfl | rfl | rfl | rfl | rfl | rfl | rfl | rfl | rfl | rfl | rfl | rfl | rfl | rfl
  · exact w_c0
  · exact w_c1
  · exact w_c2
  · exact w_c3
  · exact w_c4
  · exact w_c5
  · exact w_c6
  · exact w_c7
  · exact w_c8
  · exact w_c9
  · exact w_c10
  · exact w_c11
  · exact w_c12
  · exact w_c13
  · exact w_c14
  · exact w_c15
  · exact w_c16
  · exact w_c17
  · exact w_c18
  · exact w_c19
  · exact w_c20
  · exact w_c21
  · exact w_c22
  · exact w_c23
  · exact w_c24
  · exact w_c25
  · exact w_c26
  · exact w_c27
  · exact w_c28
  · exact w_c29
  · exact w_c30
  · exact w_c31
  · exact w_c32
  · exact w_c33
  · exact w_c34
  · exact w_c35
  · exact w_c36
set_option maxRecDepth 65536 in
theorem w_t1 : (words1.take 24).all (fun c => isCode c || c.before args0 about1) = true := by decide +kernel
set_option maxRecDepth 65536 in
theorem w_t2 : ((words1.drop 24).take 24).all (fun c => isCode c || c.before args0 about1) = true := by decide +kernel
set_option maxRecDepth 65536 in
theorem w_t3 : (((words1.drop 24).drop 24).take 24).all (fun c => isCode c || c.before args0 about1) = true := by decide +kernel
set_option maxRecDepth 65536 in
theorem w_t4 : ((((words1.drop 24).drop 24).drop 24).take 24).all (fun c => isCode c || c.before args0 about1) = true := by decide +kernel
set_option maxRecDepth 65536 in
theorem w_t5 : (((((words1.drop 24).drop 24).drop 24).drop 24).take 24).all (fun c => isCode c || c.before args0 about1) = true := by decide +kernel
set_option maxRecDepth 65536 in
theorem w_t6 : ((((((words1.drop 24).drop 24).drop 24).drop 24).drop 24).take 24).all (fun c => isCode c || c.before args0 about1) = true := by decide +kernel
set_option maxRecDepth 65536 in
theorem w_t7 : (((((((words1.drop 24).drop 24).drop 24).drop 24).drop 24).drop 24).take 24).all (fun c => isCode c || c.before args0 about1) = true := by decide +kernel
set_option maxRecDepth 65536 in
theorem w_t8 : (((((((words1.drop 24).drop 24).drop 24).drop 24).drop 24).drop 24).drop 24).all (fun c => isCode c || c.before args0 about1) = true := by decide +kernel
theorem w_tables : (allAtoms (Jvm.Cond.code x code maxLocals ret :: tables_1)).before args0 about1 = true := by
  rw [allAtoms_all]
  show words1.all (fun c => c.before args0 about1) = true
  refine all_split ?_ w_codes
  rw [← List.take_append_drop 24 words1, List.all_append, w_t1, ← List.take_append_drop 24 (words1.drop 24), List.all_append, w_t2, ← List.take_append_drop 24 ((words1.drop 24).drop 24), List.all_append, w_t3, ← List.take_append_drop 24 (((words1.drop 24).drop 24).drop 24), List.all_append, w_t4, ← List.take_append_drop 24 ((((words1.drop 24).drop 24).drop 24).drop 24), List.all_append, w_t5, ← List.take_append_drop 24 (((((words1.drop 24).drop 24).drop 24).drop 24).drop 24), List.all_append, w_t6, ← List.take_append_drop 24 ((((((words1.drop 24).drop 24).drop 24).drop 24).drop 24).drop 24), List.all_append, w_t7, w_t8]
  rfl
set_option maxRecDepth 65536 in
theorem w_rest : rest_1_c.before args0 about1 = true := by decide +kernel
set_option maxRecDepth 65536 in
theorem w_case : (Jvm.Cond.and given_1 narrow_1).before args0 about1 = true := by decide +kernel
set_option maxRecDepth 65536 in
theorem w_consts : constsHeld consts_1 about1 := Jvm.Lit.constsHeldB_iff.mp (by decide +kernel)
theorem w_applies : (headSpec (Jvm.Cond.code x code maxLocals ret :: tables_1) room_1).applies x e0.platform about1 = true :=
  (Spec.applies_iff w_frames).mpr ⟨w_running, w_runnable, w_alone, w_named, w_hears, w_ripe, w_room, w_tables⟩
theorem atStart : AtStart classFile x code maxLocals ret World_1 tables_1 room_1 Calls_1 rest_1 Pre_1 launch0 p0 e0 about1 theMethod args0 below0 :=
  ⟨lists_1, trivial, launch0.admits_env _ _ _, launch0.least_env, fairChoices_fair.cas, fairChoices_fair.clock, w_frames, w_args, w_heap, w_applies, ⟨w_consts, trivial⟩, w_rest, w_case⟩
end start1
theorem witness_1 : WitnessClaimed_1 := ⟨start1.p0, start1.e0, start1.about1, start1.theMethod, start1.args0, start1.below0, start1.atStart⟩
end Jvm.Pilot.@@N@@
