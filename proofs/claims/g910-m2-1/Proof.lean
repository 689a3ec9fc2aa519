import JvmDerived
import JvmDerived.Pilot.@@N@@Statement
import JvmDerived.Pilot.@@N@@Code
set_option linter.unusedVariables false
set_option linter.unusedSimpArgs false
@@BLOCK:LamKit.lean.txt@@
namespace Jvm.LamKit
open ClassFile Sem Op Lib Jvm.Stand Jvm.Free Jvm.LawKit Jvm.Lambda
def own_castOK (σ : Lambda.Shape) (host : String) (ci : Nat) (name : String) : Bool :=
  match σ.file host with
  | none => false
  | some D =>
    match D.constantPool[ci]? with
    | some (.class_ n) => decide (D.constantPool.string? n = some name) && decide (ci ≠ D.thisClass)
    | _ => false
theorem own_castReady {st : Setting} {vm : Vm} {d c toy : ClassId} {dk : Class} {σ : Lambda.Shape} {host name : String} {ci : Nat}
    (hok : own_castOK σ host ci name = true) (hd : vm.classes[d]? = some dk) (hname : dk.name = host) (h : isMade st vm d σ c = true) (ht : vm.findClass name = some toy) : vm.classReady c ci toy := by
  obtain ⟨dk', k, ok, tk, file, cf, object, iface, toy', lay, methods, target, found, hd', hk, hfile, hcf, -, -, -, -, hms, -, htk, hg, -, hrec, -, -, -, -, hpool, hmeth, -, -, hres, -⟩ := isMade_spec h
  cases hd.symm.trans hd'
  rw [hname] at hcf
  unfold own_castOK at hok
  rw [hcf] at hok
  dsimp only at hok
  split at hok
  · rename_i n hci
    simp only [Bool.and_eq_true, decide_eq_true_eq] at hok
    exact ⟨k, hk, hres ci _ (resolvedOf_class hci hok.2 hok.1 ht)⟩
  · cases hok
end Jvm.LamKit
namespace Jvm.LamKit
open ClassFile Sem Op Lib Jvm.Stand Jvm.Free Jvm.LawKit Jvm.Lambda Jvm.RoadKit
theorem own_made {Z s : State} {host : String} {σ : Lambda.Shape} {cK : ClassId} (hZ : Z.WarmedH s.vm) (h : Made Z host σ cK) : Made s host σ cK := by
  obtain ⟨d, dk, h1, h2, h3, h4⟩ := h
  obtain ⟨dk', h1', he⟩ := hZ.alike.2.2 _ _ h1
  refine ⟨d, dk', h1', by rw [he]; exact h2, isMade_warmer hZ h3, ?_⟩
  have hA := hZ.alike
  simp only [State.lambdaCallable, hA.findClass, hA.assignable, hA.superclasses, hA.declaredIn] at h4 ⊢
  exact h4
theorem own_fnExt {h h' : Heap} {a : Addr} {cK : ClassId} (F : FnAt h a cK) (E : Ext h h') : FnAt h' a cK := by
  obtain ⟨cell, h1, h2⟩ := F
  exact ⟨cell, E.2 _ _ h1, h2⟩
section
variable {p : Program} {l : Launch} {e : Env} {R : Room} {s : State} {m : MethodId} {args : Array Value} {below : List Frame} {meth : Method} {c : Code} {T : State} {locs : List Loc} {cells slots : Nat} {Z : State} {a0 : Array Value}
/-- the call site of a lambda that captures nothing -/
theorem own_site (X : Stand p l e R s m args below meth c T locs cells slots) (hexec : p.tables.exec = Jvm.exec) (hZ : Z.WarmedH s.vm) {x : MethodName} {pc index : Nat} {σ : Lambda.Shape} (hnamed : s.methodNamed? x = some m)
    (hsite : (Cond.lambdaSite x pc index σ).before a0 Z = true) (hcap : σ.captured = []) {g : JFrame} (hg : g.method = m) (hpc : g.pc = pc) (hsize : g.locals.size = c.maxLocals)
    (hdg : decode c.code g.pc = .ok (.invokedynamic index, 5)) (hwords : 2 * g.monitorRoom + (g.stack.map fun v => v.category).sum + 3072 ≤ R.locals) :
    ∃ (a : Addr) (cK : ClassId), Made Z x.cls σ cK ∧ FnAt Z.heap a cK ∧ ∀ target, Steps p.tables e below (T.setTop { g with pc := g.pc + 5, stack := .ref a :: g.stack }) target → Steps p.tables e below (T.setTop g) target := by
  obtain ⟨cK, one, hat⟩ := Cond.lambdaSite_spec hsite
  obtain ⟨mD, kD, cfD, i0, p0, lk, hmD, hkD, -, -, -, hfind, hmade, hcan, hl⟩ := State.lambdaAt?_spec hat
  have hmD' : s.methodNamed? x = some mD := by
    have := State.methodNamed?_setVm (s := Z) hZ.alike x
    rw [hmD] at this
    exact this
  cases hnamed.symm.trans hmD'
  obtain ⟨kD', hkD', hnameD⟩ := className_of_methodNamed hmD
  cases hkD.symm.trans hkD'
  obtain ⟨ks, hks, he⟩ := hZ.alike.2.2 _ _ hkD
  rcases hl with ⟨a, cell, rfl, -, -, hcell, hcls, hvm, -⟩ | ⟨-, -, hne⟩
  · have hw : e.platform.lambdaLinkWords = 3072 := by rw [X.admits.platform]
    refine ⟨a, cK, ⟨_, kD, hkD, hnameD, hmade, hcan⟩, ⟨cell, hcell, hcls, hvm⟩, fun target h => ?_⟩
    exact X.lambdaConstant hexec hg hsize hdg hks (by rw [hpc, he]; exact hfind) (by rw [hw]; exact hwords) h
  · exact absurd hcap hne
end
end Jvm.LamKit
namespace Jvm.LamKit
open ClassFile Sem Op Lib Jvm.Stand Jvm.Free Jvm.LawKit Jvm.Lambda Jvm.RoadKit
theorem own_castAt {tb : Tables} [Ours tb] {e : Env} {below : List Frame} {U target : State} {m : MethodId} {c : Code} {g : JFrame} (h : At U m c below) (hx : tb.exec = Jvm.exec) (hg : g.method = m) {index cT a : Nat} (hd : decode c.code g.pc = .ok (.checkcast index, 3)) {rest : List Value} (hs : g.stack = .ref a :: rest) (hr : U.vm.classReady m.cls index cT)
    {cell : Cell} (hc : U.heap[a]? = some cell) (hns : ∀ k, cell.vm ≠ .statics k) {ks kt : Class} (hks : U.vm.classes[cell.cls]? = some ks) (hkt : U.vm.classes[cT]? = some kt) (hasg : U.vm.assignable cell.cls cT = true)
    (hrest : Steps tb e below (U.setTop { g with pc := g.pc + 3 }) target) : Steps tb e below (U.setTop g) target := by
  subst hg
  have hcc : ∀ {Q : Unit → Pre} {E : CtlPost} {d : Bool} {acts : List Action}, wp (checkcast.sem index) Q E e d acts (U.setTop g) ↔ Q () d acts (U.setTop g) := by
    intro Q E d acts
    rw [checkcast.wp_ready (c := cT) (x := .ref a) (rest := rest) h.top hr hs]
    simp [hc, hns, hks, hkt, hasg]
  jvm_step h [h.top, hx, hd, hcc]
  exact hrest
/-- the forwarder's cast of its argument -/
theorem own_fcast {tb : Tables} [Ours tb] {e : Env} {below : List Frame} {Z s U target : State} {h : Heap} {cK : ClassId} {c : Code} {σ : Lambda.Shape} {host C : String} {a ci : Nat} (hA : At U ⟨cK, 1⟩ c below) (hx : tb.exec = Jvm.exec) (hmd : Made s host σ cK) (hok : own_castOK σ host ci C = true) (hZ : Z.WarmedH s.vm) (hW : s.WarmedH U.vm) (hh : U.heap = h) (E : Exa Z h a C)
    {g : JFrame} (hg : g.method = ⟨cK, 1⟩) (hd : decode c.code g.pc = .ok (.checkcast ci, 3)) {rest : List Value} (hs : g.stack = .ref a :: rest) (hrest : Steps tb e below (U.setTop { g with pc := g.pc + 3 }) target) : Steps tb e below (U.setTop g) target := by
  obtain ⟨d, dk, h1, h2, h3, -⟩ := own_made hW hmd
  obtain ⟨cell, k, e1, e2, e3, e4, -⟩ := E
  have hA2 := (State.WarmedH.trans hZ hW).alike
  have hf : U.vm.findClass C = some cell.cls := by rw [hA2.findClass]; exact e2
  obtain ⟨k', q, -⟩ := hA2.2.2 _ _ e3
  refine own_castAt hA hx hg hd hs (own_castReady hok h1 h2 h3 hf) (by rw [hh]; exact e1) ?_ q q (Vm.assignable_self _ _) hrest
  intro z hz
  rw [hz] at e4
  cases e4
end Jvm.LamKit
namespace Jvm.RoadKit
open Sem ClassFile Op Lib Jvm.Stand Jvm.Free Jvm.LawKit
section New
variable {p : Program} {l : Launch} {e : Env} {R : Room} {s : State} {m : MethodId} {args : Array Value} {below : List Frame} {meth : Method} {c : Code} {T : State} {locs : List Loc} {cells slots : Nat}
theorem retI (X : Stand p l e R s m args below meth c T locs cells slots) (hx : p.tables.exec = Jvm.exec) {pc : Nat} {Ls : Array Slot} {z : Int32} {rest : List Value} (hret : meth.sig.returnType = some .int) (hd : decode c.code pc = .ok (.ireturn, 1)) {fs : List Frame}
    (hl : ∀ (f : JFrame) (acts : List Action), f.method = m → f.locked = none → f.entered = [] → (doReturn e (T.setTop f) acts (some (.int z))).1 = T.setFrames fs) : Steps p.tables e below (T.setTop (mkF m pc Ls (.int z :: rest))) (T.setFrames fs) := by
  have hm' : T.vm.method? m = some meth := X.method'
  have hn : narrow .int (.int z) = .int z := rfl
  show Steps p.tables e below (T.setTop { method := m, pc := pc, locals := Ls, stack := _ :: rest, locked := none }) _
  jvm_step X.here [X.here.top, hx, hd, hm', hret, hn]
  first | (intro acts; rw [hl _ acts rfl rfl rfl]) | rw [hl _ _ rfl rfl rfl]
  exact Steps.refl _
end New
end Jvm.RoadKit
namespace Jvm.RoadKit
open Sem ClassFile Op Lib Jvm.Stand Jvm.Free Jvm.LawKit
section OwnRef
variable {p : Program} {l : Launch} {e : Env} {R : Room} {s : State} {m : MethodId} {args : Array Value} {below : List Frame} {meth : Method} {c : Code} {T : State} {locs : List Loc} {cells slots : Nat} {Z : State} {a0 : Array Value} {h : Heap}
theorem own_ready (X : Stand p l e R s m args below meth c T locs cells slots) (hZ : Z.Warmed39 s.vm) {own O n d : String} {index : Nat} (hown : s.vm.findClass own = some m.cls) (w : (Cond.fieldRef own index O n d).before a0 Z = true) {cf i : Nat} {k : Class} {f : Field} (hi : Z.fieldFound? O n d = some (cf, k, i, f)) : T.vm.fieldReady m.cls index cf f := by
  have hT : Z.Warmed39 T.vm := wtrans hZ X.warmed
  have w' := Cond.fieldRef_warmed39 hT w
  have hc : (Z.setVm T.vm).vm.findClass own = some m.cls := by
    show T.vm.findClass own = some m.cls
    rw [X.warmed.alike.findClass]; exact hown
  obtain ⟨c', k', i', f', h1, h2⟩ := Cond.fieldRef_spec hc w'
  obtain ⟨k2, h3, -⟩ := State.fieldFound?_setVm (s := Z) hT.alike hi
  cases h1.symm.trans h3
  exact h2
/-- getfield by an entry that is resolved already -/
theorem own_getR (X : Stand p l e R s m args below meth c T locs cells slots) (hx : p.tables.exec = Jvm.exec) (hZ : Z.Warmed39 s.vm) {own O n d : String} {index : Nat} (hown : s.vm.findClass own = some m.cls) (w : (Cond.fieldRef own index O n d).before a0 Z = true) (eT : T.heap = h) {a : Addr} {v : Value} (F : Fld Z h a O n d v)
    {g : JFrame} (hg : g.method = m) {rest : List Value} (hs : g.stack = .ref a :: rest) (hd : decode c.code g.pc = .ok (.getfield index, 3)) : ∀ target, Steps p.tables e below (T.setTop { g with pc := g.pc + 3, stack := v :: rest }) target → Steps p.tables e below (T.setTop g) target := by
  obtain ⟨cell, cf, k, i, f, h1, h2, h3, h4, -, -, h7⟩ := F
  have hr := own_ready X hZ hown w h2
  intro target hrest
  subst hg
  jvm_step X.here [hx, hd, getfield.wp_ready (e := e) (s := T) (f := g) X.here.top hr h3 hs (by rw [eT]; exact h1) h4 h7]
  exact hrest
theorem own_putR (X : Stand p l e R s m args below meth c T locs cells slots) (hx : p.tables.exec = Jvm.exec) (hZ : Z.Warmed39 s.vm) {own O n d C : String} {index kk : Nat} {ty : FieldType} (hown : s.vm.findClass own = some m.cls) (w : (Cond.fieldRef own index O n d).before a0 Z = true) (eT : T.heap = h) {a : Addr} {v old : Value} (F : Fld Z h a O n d old) (E : Exa Z h a C)
    (L : (Cond.lays C O n d).before a0 Z = true) (wi : (Cond.instantiable C kk).before a0 Z = true) (hty : parseFieldDescriptor d = some ty) (hn : narrow ty v = v) (hf : fits ty v = true) {g : JFrame} (hg : g.method = m) {rest : List Value} (hs : g.stack = v :: .ref a :: rest) (hd : decode c.code g.pc = .ok (.putfield index, 3)) :
    ∃ T' h', Stand p l e R s m args below meth c T' (locs ++ [⟨a, slotOf Z O n d⟩]) cells slots ∧ T'.heap = h' ∧ Wr h h' a (slotOf Z O n d) v ∧ ∀ target, Steps p.tables e below (T'.setTop { g with pc := g.pc + 3, stack := rest }) target → Steps p.tables e below (T.setTop g) target := by
  obtain ⟨cell, cf, k, i, f, h1, h2, h3, h4, h5, -, h7⟩ := F
  have hr := own_ready X hZ hown w h2
  obtain ⟨cell', kc, e1, e2, e3, -⟩ := E
  cases h1.symm.trans e1
  obtain ⟨_, _, _, _, _, _, -, -, b3, -, a5, -⟩ := Cond.lays_spec L
  cases h2.symm.trans b3
  obtain ⟨c1, k1, cf1, kf1, i1, f1, a1, a2, a3, -, -, a6, -⟩ := Laid.spec (Or.inl L)
  cases h2.symm.trans a3
  cases e2.symm.trans a1
  obtain ⟨c2, k2, i1, i2, i3, -⟩ := Cond.instantiable_spec wi
  cases e2.symm.trans i1
  cases a2.symm.trans i2
  have ht := (State.fieldFound?_type h2 hty).2
  have hfit : Z.fitsSlot cell.cls cell.vm f.slot v = true := by
    have q : Z.slotType? cell.cls cell.vm f.slot = some ty := by
      simp only [State.slotType?, a2, Option.bind_eq_bind, Option.bind_some, i3]
      cases hq : cell.vm <;> first | (rw [hq] at h5; exact Bool.noConfusion h5) | (rw [a6, ht])
    simp [State.fitsSlot, q, hf]
  have hT : Z.Warmed39 T.vm := wtrans hZ X.warmed
  have hfit' : T.fitsSlot cell.cls cell.vm f.slot v = true := by
    rw [← State.fitsSlot_setVm hT.alike] at hfit
    exact hfit
  have hlt : f.slot < cell.slots.size := (Array.getElem?_eq_some_iff.mp h7).1
  obtain ⟨X', st⟩ := X.putfieldReady hx hr h3 (Or.inl a5) (by rw [eT]; exact h1) h4 hlt (by rw [ht]; exact hn) hfit' hg hs hd
  have e : slotOf Z O n d = f.slot := by simp [slotOf, h2]
  rw [e]
  exact ⟨_, _, X', rfl, ⟨cell, h1, h5, hlt, by rw [← eT]; rfl⟩, st⟩
end OwnRef
section OwnBox
variable {args : Array Value} {s : State}
theorem own_box {O d K : String} {P : Cond} (hi : (Cond.initializedFor O "cache" d).before args s = true ∨ ((Cond.initialized O).before args s = true ∧ (Cond.laysStatic O "cache" d).before args s = true)) (ha : (Cond.arrayOf (.static O "cache" d) (.object K)).before args s = true) (hl : (Cond.eq (.length (.static O "cache" d)) (.int 256)).before args s = true)
    (hall : (Cond.all (.static O "cache" d) (.and (.exactly (.elem (.static O "cache" d) (.index 0)) K) P)).before args s = true) :
    ∃ (c : Addr) (A : Cell), Sta s s.heap O "cache" d (.ref c) ∧ Arr s s.heap c A (.object K) ∧ A.slots.size = 256 ∧ ∀ i, i < 256 → ∃ x : Addr, A.slots[i]? = some (.ref x) ∧ (Term.elem (.static O "cache" d) (.index 0)).eval args s none [i] s = some (.ref x) ∧ Exa s s.heap x K ∧ P.value args s none s [i] = some true := by
  obtain ⟨c, ev⟩ := arr_v (Cond.before_iff.mp ha)
  have S := Sta.start ev hi
  obtain ⟨A, hA⟩ := Arr.start ev (Cond.before_iff.mp ha)
  have hat := IntBox.arrayAt_of hA.1 hA.2.1 hA.2.2
  obtain ⟨hsz, hsize⟩ := IntBox.length_fwd hl ev hA.1 hA.2.1 hA.2.2
  have h256 : A.slots.size = 256 := by
    have e : (A.slots.size.toInt32).toInt = A.slots.size := len_toInt hsz
    rw [hsize] at e
    have : ((256 : Int32)).toInt = 256 := by decide
    omega
  have hall' := Cond.all_elim ev hat (Cond.before_iff.mp hall)
  refine ⟨c, A, S, hA, h256, fun i hi => ?_⟩
  obtain ⟨h1, h2⟩ := and_e (hall' i (by omega))
  obtain ⟨x, ex⟩ := exa_v h1
  refine ⟨x, ?_, ex, exa_at ex h1, h2⟩
  have ev' : (Term.static O "cache" d).eval args s none [i] s = some (.ref c) := ev
  obtain ⟨hnn, hback⟩ := IntBox.place_nonneg i hi
  clear h1 hall hall' ha hl ev S
  generalize Term.static O "cache" d = tt at ex ev'
  simpa [Term.eval, ev', hnn, hat, hback] using ex
theorem own_longs (hi : (Cond.initializedFor "java/lang/Long$LongCache" "cache" "[Ljava/lang/Long;").before args s = true) (ha : (Cond.arrayOf (.static "java/lang/Long$LongCache" "cache" "[Ljava/lang/Long;") (.object "java/lang/Long")).before args s = true) (hl : (Cond.eq (.length (.static "java/lang/Long$LongCache" "cache" "[Ljava/lang/Long;")) (.int 256)).before args s = true)
    (hall : (Cond.all (.static "java/lang/Long$LongCache" "cache" "[Ljava/lang/Long;") (.and (.exactly (.elem (.static "java/lang/Long$LongCache" "cache" "[Ljava/lang/Long;") (.index 0)) "java/lang/Long") (.eq (.field (.elem (.static "java/lang/Long$LongCache" "cache" "[Ljava/lang/Long;") (.index 0)) "java/lang/Long" "value" "J") (.op1 .i2l (.sub (.index 0) (.int 128)))))).before args s = true) :
    ∃ (c : Addr) (A : Cell), Sta s s.heap "java/lang/Long$LongCache" "cache" "[Ljava/lang/Long;" (.ref c) ∧ Arr s s.heap c A (.object "java/lang/Long") ∧ A.slots.size = 256 ∧ ∀ i, i < 256 → ∃ x : Addr, A.slots[i]? = some (.ref x) ∧ Exa s s.heap x "java/lang/Long" ∧ Fld s s.heap x "java/lang/Long" "value" "J" (.long ((i.toInt32 - 128).toInt64)) := by
  obtain ⟨c, A, h1, h2, h3, h4⟩ := own_box (Or.inl hi) ha hl hall
  refine ⟨c, A, h1, h2, h3, fun i hi => ?_⟩
  obtain ⟨x, q1, q2, q3, q4⟩ := h4 i hi
  refine ⟨x, q1, q3, ?_⟩
  cases hfo : s.fieldOf? x "java/lang/Long" "value" "J" with
  | none => simp only [Cond.value] at q4; rw [show (Term.field (.elem (.static "java/lang/Long$LongCache" "cache" "[Ljava/lang/Long;") (.index 0)) "java/lang/Long" "value" "J").eval args s none [i] s = none by rw [fld_at q2]; exact hfo] at q4; simp at q4
  | some v =>
    have e1 : (Term.field (.elem (.static "java/lang/Long$LongCache" "cache" "[Ljava/lang/Long;") (.index 0)) "java/lang/Long" "value" "J").eval args s none [i] s = some v := by rw [fld_at q2]; exact hfo
    have e2 : (Term.op1 .i2l (.sub (.index 0) (.int 128))).eval args s none [i] s = some (.long ((i.toInt32 - 128).toInt64)) := rfl
    refine Fld.start ?_
    rw [hfo]
    simp only [Cond.value, e1, e2] at q4
    cases v <;> simp at q4 ⊢
    exact q4
end OwnBox
end Jvm.RoadKit
namespace Jvm.Pilot.@@N@@
open Jvm Jvm.ClassFile Sem Op Lib Jvm.Free Jvm.Stand Jvm.LawKit Jvm.RoadKit Bundle Jvm.Pilot.@@N@@.Jvm.D
abbrev vi (x : Int32) : Slot := .val (.int x)
abbrev vj (x : Int64) : Slot := .val (.long x)
abbrev vr (a : Addr) : Slot := .val (.ref a)
abbrev vn : Slot := .val .null
abbrev uu : Slot := .unset
abbrev ss : Slot := .second
theorem own_lt {a b : Nat} (h : a < b) : a < b := h
theorem own_ne {a b : Nat} (h : a ≠ b) : a ≠ b := h
/-- the run from cur comes to an end of which G holds -/
def own_Fin (p : Program) (e : Env) (below : List Frame) (cur : State) (G : State → Outcome → Prop) : Prop :=
  ∃ t o, Steps p.tables e below cur t ∧ t.status = .running ∧ Ended t below o ∧ G t o
theorem own_go {p : Program} {e : Env} {below : List Frame} {cur cur' : State} {G : State → Outcome → Prop} (st : ∀ target, Steps p.tables e below cur' target → Steps p.tables e below cur target) (k : own_Fin p e below cur' G) : own_Fin p e below cur G := by
  obtain ⟨t, o, h, r⟩ := k
  exact ⟨t, o, st _ h, r⟩
theorem own_gs {p : Program} {e : Env} {below : List Frame} {cur cur' : State} {G : State → Outcome → Prop} (st : Steps p.tables e below cur cur') (k : own_Fin p e below cur' G) : own_Fin p e below cur G := by
  obtain ⟨t, o, h, r⟩ := k
  exact ⟨t, o, st.trans h, r⟩
theorem own_le {a b : Nat} (h : Nat.ble a b = true) : a ≤ b := Nat.le_of_ble_eq_true h
theorem tw_ {Z : State} {a0 : Array Value} (hw : ∀ d ∈ tables_1, d.before a0 Z = true) (i : Nat) {d : Cond} (h : tables_1[i]? = some d) : d.before a0 Z = true := hw d (List.mem_of_getElem? h)
theorem own_merge {p : Program} {e : Env} {below : List Frame} {cur : Int32 → State} {cur0 : State} {G : State → Outcome → Prop} {d0 : Int32} (k : own_Fin p e below (cur d0) G) (h : (∀ d, d = d0 → own_Fin p e below (cur d) G) → own_Fin p e below cur0 G) : own_Fin p e below cur0 G := h fun d q => by subst q; exact k
abbrev own_r (f c s l : Nat) : Room := { frames := f, cells := c, slots := s, locals := l }
abbrev own_M (l : Launch) (y : MethodName) (by' : ByteArray) (mx : Nat) (re' : Option FieldType) (r : Room) (A : Array Value) (Z : State) (h0 : Heap) (Q : Option Value → Heap → List Loc → Prop) : Prop := MetFree l y (head1 [Jvm.Cond.code y by' mx re'] r) (fun a U => a = A ∧ Z.Warmed39 U.vm ∧ U.heap = h0) (fun _ _ _ _ _ => True) (fun _ U o U' => ∃ v L, o = .returned v ∧ Q v U'.heap L ∧ FrameEnd U o U' L r.cells r.slots)
/-! ## entering a body, and leaving it -/
def own_G (s : State) (Q : Option Value → Heap → List Loc → Prop) (r : Room) (t : State) (o : Outcome) : Prop := ∃ v L, o = .returned v ∧ Q v t.heap L ∧ FrameEnd s o t L r.cells r.slots
theorem own_enter {l : Launch} {y : MethodName} {by' : ByteArray} {mx : Nat} {re' : Option FieldType} {r : Room} {A : Array Value} {Z : State} {h0 : Heap} {Q : Option Value → Heap → List Loc → Prop} {Ls : Array Slot} {own : String} (ho : y.cls = own) (hp : plainFor y = true) (hef : ∀ m, entryFrame m A mx = mkF m 0 Ls [])
    (H : ∀ (p : Program) (e : Env) (s : State) (m : MethodId) (below : List Frame) (meth : Method) (c : Code) (s₁ : State), BodyLoose p l y (head1 [Jvm.Cond.code y by' mx re'] r) by' mx re' e s m A below meth c s₁ → Z.Warmed39 s.vm → s.heap = h0 → p.tables.exec = Jvm.exec → c.code = by' → c.maxLocals = mx → s.vm.findClass own = some m.cls → meth.name = y.name →
      Stand p l e r s m A below meth c s₁ [] 0 0 → s₁.heap = h0 → own_Fin p e below (s₁.setTop (mkF m 0 Ls [])) (own_G s Q r)) : own_M l y by' mx re' r A Z h0 Q := by
  refine MetFree.of_bodySF hp hisR ?_
  intro p e s m args below meth c s₁ Bd hml hP _
  obtain ⟨rfl, hZ, hh⟩ := hP
  have h := H p e s m below meth c s₁ Bd hZ hh Bd.exec Bd.bytes hml (ho ▸ findClass_of_methodNamed Bd.named) (name_of_methodNamed Bd.named Bd.method).1 (Stand.of_body Bd) (by rw [← hh, Bd.state]; rfl)
  rw [hef]
  exact h
section OwnRet
variable {p : Program} {l : Launch} {e : Env} {r : Room} {s : State} {m : MethodId} {A : Array Value} {below : List Frame} {meth : Method} {c : Code} {T s₁ : State} {locs : List Loc} {cells slots : Nat} {y : MethodName} {S : Spec} {by' : ByteArray} {mx : Nat} {h : Heap} {Q : Option Value → Heap → List Loc → Prop} {Ls : Array Slot} {pc : Nat} {rest : List Value}
theorem own_rV (X : Stand p l e r s m A below meth c T locs cells slots) (Bd : BodyLoose p l y S by' mx none e s m A below meth c s₁) (D : decode c.code pc = .ok (.return_, 1)) (eT : T.heap = h) (q : Q none h locs) (hc : Nat.ble cells r.cells = true) (hs : Nat.ble slots r.slots = true) : own_Fin p e below (T.setTop (mkF m pc Ls [])) (own_G s Q r) := by
  obtain ⟨fs, hr, hrun, hended, hW1, hsame⟩ := X.leave (v := none) (fun _ => rfl)
  exact ⟨_, _, X.returnOut Bd.exec Bd.returns D hr, hrun, hended, _, _, rfl, by show Q _ T.heap _; rw [eT]; exact q, ⟨_, rfl⟩, hW1, hsame.mono (own_le hc) (own_le hs)⟩
theorem own_rA {t : FieldType} (X : Stand p l e r s m A below meth c T locs cells slots) (Bd : BodyLoose p l y S by' mx (some t) e s m A below meth c s₁) (ht : t.isReference = true) {v : Value} (hv : v.isRef = true) (D : decode c.code pc = .ok (.areturn, 1)) (eT : T.heap = h) (q : Q (some v) h locs) (hc : Nat.ble cells r.cells = true) (hs : Nat.ble slots r.slots = true) : own_Fin p e below (T.setTop (mkF m pc Ls [v])) (own_G s Q r) := by
  obtain ⟨fs, hr, hrun, hended, hW1, hsame⟩ := X.leave (v := some v) (fun h => by rw [Bd.returns] at h; cases h)
  exact ⟨_, _, X.areturnOut Bd.exec hv Bd.returns ht D hr, hrun, hended, _, _, rfl, by show Q _ T.heap _; rw [eT]; exact q, ⟨_, rfl⟩, hW1, hsame.mono (own_le hc) (own_le hs)⟩
theorem own_rI (X : Stand p l e r s m A below meth c T locs cells slots) (Bd : BodyLoose p l y S by' mx (some .int) e s m A below meth c s₁) {v : Int32} (D : decode c.code pc = .ok (.ireturn, 1)) (eT : T.heap = h) (q : Q (some (.int v)) h locs) (hc : Nat.ble cells r.cells = true) (hs : Nat.ble slots r.slots = true) : own_Fin p e below (T.setTop (mkF m pc Ls (.int v :: rest))) (own_G s Q r) := by
  obtain ⟨fs, hr, hrun, hended, hW1, hsame⟩ := X.leave (v := some (.int v)) (fun h => by rw [Bd.returns] at h; cases h)
  exact ⟨_, _, retI X Bd.exec Bd.returns D hr, hrun, hended, _, _, rfl, by show Q _ T.heap _; rw [eT]; exact q, ⟨_, rfl⟩, hW1, hsame.mono (own_le hc) (own_le hs)⟩
theorem own_rJ (X : Stand p l e r s m A below meth c T locs cells slots) (Bd : BodyLoose p l y S by' mx (some .long) e s m A below meth c s₁) {v : Int64} (D : decode c.code pc = .ok (.lreturn, 1)) (eT : T.heap = h) (q : Q (some (.long v)) h locs) (hc : Nat.ble cells r.cells = true) (hs : Nat.ble slots r.slots = true) : own_Fin p e below (T.setTop (mkF m pc Ls [.long v])) (own_G s Q r) := by
  obtain ⟨fs, hr, hrun, hended, hW1, hsame⟩ := X.leave (v := some (.long v)) (fun h => by rw [Bd.returns] at h; cases h)
  exact ⟨_, _, X.lreturnOut Bd.exec Bd.returns D hr, hrun, hended, _, _, rfl, by show Q _ T.heap _; rw [eT]; exact q, ⟨_, rfl⟩, hW1, hsame.mono (own_le hc) (own_le hs)⟩
theorem own_rN {t : FieldType} (X : Stand p l e r s m A below meth c T locs cells slots) (Bd : BodyLoose p l y S by' mx (some t) e s m A below meth c s₁) (ht : t = .boolean ∨ t = .byte ∨ t = .char ∨ t = .short) {z v : Int32} (hv : nar t z = v) (D : decode c.code pc = .ok (.ireturn, 1)) (eT : T.heap = h) (q : Q (some (.int v)) h locs) (hc : Nat.ble cells r.cells = true) (hs : Nat.ble slots r.slots = true) : own_Fin p e below (T.setTop (mkF m pc Ls (.int z :: rest))) (own_G s Q r) := by
  subst hv
  obtain ⟨fs, hr, hrun, hended, hW1, hsame⟩ := X.leave (v := some (.int (nar t z))) (fun h => by rw [Bd.returns] at h; cases h)
  exact ⟨_, _, retN X Bd.exec Bd.returns ht D hr, hrun, hended, _, _, rfl, by show Q _ T.heap _; rw [eT]; exact q, ⟨_, rfl⟩, hW1, hsame.mono (own_le hc) (own_le hs)⟩
end OwnRet
theorem own_leq {a b c : Nat} (h : a ≤ b) (e : c = b) : a ≤ c := e ▸ h
abbrev own_MH (l : Launch) (y : MethodName) (by' : ByteArray) (mx : Nat) (re' : Option FieldType) (r : Room) (A : Array Value) (Z : State) (h0 : Heap) (Q : Option Value → Heap → List Loc → Prop) : Prop := MetFree l y (head1 [Jvm.Cond.code y by' mx re'] r) (fun a U => a = A ∧ Z.WarmedH U.vm ∧ U.heap = h0) (fun _ _ _ _ _ => True) (fun _ U o U' => ∃ v L, o = .returned v ∧ Q v U'.heap L ∧ FrameEnd U o U' L r.cells r.slots)
theorem own_enterH {l : Launch} {y : MethodName} {by' : ByteArray} {mx : Nat} {re' : Option FieldType} {r : Room} {A : Array Value} {Z : State} {h0 : Heap} {Q : Option Value → Heap → List Loc → Prop} {Ls : Array Slot} {own : String} (ho : y.cls = own) (hp : plainFor y = true) (hef : ∀ m, entryFrame m A mx = mkF m 0 Ls [])
    (H : ∀ (p : Program) (e : Env) (s : State) (m : MethodId) (below : List Frame) (meth : Method) (c : Code) (s₁ : State), BodyLoose p l y (head1 [Jvm.Cond.code y by' mx re'] r) by' mx re' e s m A below meth c s₁ → Z.WarmedH s.vm → s.heap = h0 → p.tables.exec = Jvm.exec → c.code = by' → c.maxLocals = mx → s.vm.findClass own = some m.cls → meth.name = y.name →
      Stand p l e r s m A below meth c s₁ [] 0 0 → s₁.heap = h0 → own_Fin p e below (s₁.setTop (mkF m 0 Ls [])) (own_G s Q r)) : own_MH l y by' mx re' r A Z h0 Q := by
  refine MetFree.of_bodySF hp hisR ?_
  intro p e s m args below meth c s₁ Bd hml hP _
  obtain ⟨rfl, hZ, hh⟩ := hP
  have h := H p e s m below meth c s₁ Bd hZ hh Bd.exec Bd.bytes hml (ho ▸ findClass_of_methodNamed Bd.named) (name_of_methodNamed Bd.named Bd.method).1 (Stand.of_body Bd) (by rw [← hh, Bd.state]; rfl)
  rw [hef]
  exact h
theorem own_enterJ {l : Launch} {ws : List Cond} {y : MethodName} {by' : ByteArray} {mx : Nat} {re' : Option FieldType} {r : Room} {A : Array Value} {Z : State} {h0 : Heap} {Q : Option Value → Heap → List Loc → Prop} {Ls : Array Slot} {own : String} (ho : y.cls = own) (hp : plainFor y = true) (hef : ∀ m, entryFrame m A mx = mkF m 0 Ls [])
    (H : ∀ (p : Program) (e : Env) (s : State) (m : MethodId) (below : List Frame) (meth : Method) (c : Code) (s₁ : State), BodyLoose p l y (head1 (Jvm.Cond.code y by' mx re' :: ws) r) by' mx re' e s m A below meth c s₁ → Z.WarmedH s.vm → s.heap = h0 → p.tables.exec = Jvm.exec → c.code = by' → c.maxLocals = mx → s.vm.findClass own = some m.cls → meth.name = y.name →
      Stand p l e r s m A below meth c s₁ [] 0 0 → s₁.heap = h0 → own_Fin p e below (s₁.setTop (mkF m 0 Ls [])) (own_G s Q r)) : MetFree l y (head1 (Jvm.Cond.code y by' mx re' :: ws) r) (fun a U => a = A ∧ Z.WarmedH U.vm ∧ U.heap = h0) (fun _ _ _ _ _ => True) (fun _ U o U' => ∃ v L, o = .returned v ∧ Q v U'.heap L ∧ FrameEnd U o U' L r.cells r.slots) := by
  refine MetFree.of_bodySF hp hisR ?_
  intro p e s m args below meth c s₁ Bd hml hP _
  obtain ⟨rfl, hZ, hh⟩ := hP
  have h := H p e s m below meth c s₁ Bd hZ hh Bd.exec Bd.bytes hml (ho ▸ findClass_of_methodNamed Bd.named) (name_of_methodNamed Bd.named Bd.method).1 (Stand.of_body Bd) (by rw [← hh, Bd.state]; rfl)
  rw [hef]
  exact h
section OwnH
variable {p : Program} {l : Launch} {e : Env} {R : Room} {s : State} {args : Array Value} {below : List Frame} {Z : State} {a0 : Array Value} {h : Heap}
theorem own_backH {y : MethodName} {bytes : ByteArray} {maxL : Nat} {ret : Option FieldType} {rm : Room} {len W : Nat} {as' : Array Value} {Q : Option Value → Heap → List Loc → Prop}
    (hM : own_MH l y bytes maxL ret rm as' Z h Q) (hZ : Z.WarmedH s.vm) (wc : (Cond.code y bytes maxL ret).before a0 Z = true) (wz : (Cond.initialized y.cls).before a0 Z = true) (hf : rm.frames + 1 ≤ R.frames) (hl : W + (maxL + 11) + rm.locals ≤ R.locals) :
    Back l R p e below s args y len W (fun A a => a = as' ∧ A.U.heap = h ∧ A.cells + rm.cells ≤ R.cells ∧ A.slots + rm.slots ≤ R.slots)
      (fun A _ v B => ∃ L, Q v B.U.heap L ∧ B.locs = A.locs ++ L ∧ B.cells = A.cells + rm.cells ∧ B.slots = A.slots + rm.slots) := by
  refine Back.of_free (bytes := bytes) (maxL := maxL) (ret := ret) (E := fun _ _ o t L k n => k = rm.cells ∧ n = rm.slots ∧ ∃ v, o = .returned v ∧ Q v t.heap L) hM hf hl ?_ ?_ (fun _ _ _ _ _ _ _ _ _ => trivial) ?_ ?_
  · intro m meth c A a Y hp
    have hU : Z.Warmed39 A.U.vm := (State.WarmedH.trans hZ Y.warmed).wide
    refine ⟨?_, mv hU wc, mv hU wz, hp.2.2.1, hp.2.2.2⟩
    show (Cond.and _ .tt).before a A.U = true
    rw [Cond.before_and, mv hU wc]
    rfl
  · intro m meth c A a g mk Y hp
    exact ⟨hp.1, State.WarmedH.trans hZ Y.warmed, hp.2.1⟩
  · rintro a first o t ⟨v, L, h1, h2, h3⟩
    exact ⟨L, _, _, h3, rfl, rfl, v, h1, h2⟩
  · rintro m meth c A a g mk v t L k n Y hp - - ⟨e1, e2, v', e3, e4⟩
    cases e3
    subst e1 e2
    exact ⟨L, e4, rfl, rfl, rfl⟩
theorem own_tidy {m : MethodId} {meth : Method} {c : Code} {T S0 : State} {locs : List Loc} {cells slots k n : Nat} {Q : Option Value → Heap → List Loc → Prop} {gr : Option Value → JFrame} (X : Stand p l e R s m args below meth c T locs cells slots)
    (H : ∃ (v : Option Value) (vm₁ : Vm) (B : Pt), s.WarmedH vm₁ ∧ Stand p l e R s m args below meth c B.U B.locs B.cells B.slots ∧ (∃ L, Q v B.U.heap L ∧ B.locs = locs ++ L ∧ B.cells = cells + k ∧ B.slots = slots + n) ∧ Steps p.tables e below S0 (B.U.setTop (gr v))) :
    ∃ (v : Option Value) (T' : State) (L : List Loc), Stand p l e R s m args below meth c T' (locs ++ L) (cells + k) (slots + n) ∧ Q v T'.heap L ∧ Steps p.tables e below S0 (T'.setTop (gr v)) := by
  obtain ⟨v, _, B, -, X', ⟨L, hQ, e1, e2, e3⟩, st⟩ := H
  refine ⟨v, B.U, L, ?_, hQ, st⟩
  rw [← e1, ← e2, ← e3]
  exact X'
theorem own_tidyS {m : MethodId} {meth : Method} {c : Code} {T S0 : State} {locs : List Loc} {cells slots k n : Nat} {Q : Option Value → Heap → List Loc → Prop} {gr : Option Value → JFrame} (X : Stand p l e R s m args below meth c T locs cells slots)
    (H : ∃ (v : Option Value) (vm₁ : Vm) (B : Pt), s.WarmedH vm₁ ∧ Stand p l e R s m args below meth c B.U B.locs B.cells B.slots ∧ (∃ L, Q v B.U.heap L ∧ B.locs = locs ++ L ∧ B.cells = cells + k ∧ B.slots = slots + n) ∧ ∀ target, Steps p.tables e below (B.U.setTop (gr v)) target → Steps p.tables e below S0 target) :
    ∃ (v : Option Value) (T' : State) (L : List Loc), Stand p l e R s m args below meth c T' (locs ++ L) (cells + k) (slots + n) ∧ Q v T'.heap L ∧ Steps p.tables e below S0 (T'.setTop (gr v)) := by
  obtain ⟨v, _, B, -, X', ⟨L, hQ, e1, e2, e3⟩, st⟩ := H
  refine ⟨v, B.U, L, ?_, hQ, st _ (Steps.refl _)⟩
  rw [← e1, ← e2, ← e3]
  exact X'
theorem own_pcall {m : MethodId} {meth : Method} {c : Code} {T : State} {locs : List Loc} {cells slots n0 : Nat} {y : MethodName} {bytes : ByteArray} {maxL : Nat} {ret : Option FieldType} {as' : Array Value} {u : Value} {own : String} {index : Nat}
    (hM : own_MH l y bytes maxL ret (own_r 0 0 0 0) as' Z h (fun v h' L => v = some u ∧ Fr n0 L ∧ h' = h)) (X : Stand p l e R s m args below meth c T locs cells slots) (hx : p.tables.exec = Jvm.exec) (hZ : Z.WarmedH s.vm) (hown : s.vm.findClass own = some m.cls)
    (w1 : (Cond.methodLink own index y).before a0 Z = true) (w2 : (Cond.static y).before a0 Z = true) (w3 : (Cond.initialized y.cls).before a0 Z = true) (w4 : (Cond.code y bytes maxL ret).before a0 Z = true) (hy : y.cls ≠ "java/lang/invoke/MethodHandle" ∧ y.cls ≠ "java/lang/invoke/VarHandle") (eT : T.heap = h)
    {g : JFrame} (hg : g.method = m) (hsize : g.locals.size = c.maxLocals) {argsL rest : List Value} (hlen : ∀ sig, parseMethodDescriptor y.desc = some sig → argsL.length = sig.parameters.length) (hstack : g.stack = argsL.reverse ++ rest) (hdg : decode c.code g.pc = .ok (.invokestatic index, 3))
    (hf : 1 ≤ R.frames) (hl : 2 * g.monitorRoom + (rest.map fun v => v.category).sum + (maxL + 11) ≤ R.locals) (ha : argsL.toArray = as' := by rfl) (hc : cells ≤ R.cells := by decide) (hs : slots ≤ R.slots := by decide) :
    ∃ (T' : State) (L' : List Loc), Stand p l e R s m args below meth c T' (locs ++ L') cells slots ∧ Fr n0 L' ∧ T'.heap = h ∧ Steps p.tables e below (T.setTop g) (T'.setTop { g with pc := g.pc + 3, stack := u :: rest }) := by
  obtain ⟨v, vm₁, ⟨T', L', k', n'⟩, -, X', ⟨Lc, ⟨rfl, hN, hh⟩, l1, y1, z1⟩, st⟩ := Jvm.LawKit.callS X hx (y := y) hown (mvT hZ.wide w1) (mvT hZ.wide w2) (mvT hZ.wide w3) (mvT hZ.wide w4) hy (own_backH (W := 2 * g.monitorRoom + (rest.map fun v => v.category).sum) hM hZ w4 w3 (by show 0 + 1 ≤ R.frames; exact hf) (by show _ + 0 ≤ R.locals; exact hl)) hg hsize hlen hstack (Nat.le_refl _) hdg (fun _ _ => ⟨ha, eT, hc, hs⟩)
  dsimp only [Pt.U, Pt.locs, Pt.cells, Pt.slots] at X' l1 y1 z1 hh st
  subst l1 y1 z1
  exact ⟨T', Lc, X', hN, hh, st _ (Steps.refl _)⟩
end OwnH
theorem own_lt64 {a b : Int64} (h : a < b) : lcmpW a b < 0 := by rw [lcW]; exact (lc_lt a b).mpr h
theorem own_nlt64 {a b : Int64} (h : ¬ a < b) : ¬ lcmpW a b < 0 := by rw [lcW]; exact fun q => h ((lc_lt a b).mp q)
theorem own_gt64 {a b : Int64} (h : b < a) : 0 < lcmpW a b := by rw [lcW]; exact (lc_gt a b).mpr h
theorem own_ngt64 {a b : Int64} (h : ¬ b < a) : ¬ 0 < lcmpW a b := by rw [lcW]; exact fun q => h ((lc_gt a b).mp q)
theorem own_eq64 {a b : Int64} (h : a = b) : lcmpW a b = 0 := by rw [lcW]; exact (lc_eq a b).mpr h
theorem own_neq64 {a b : Int64} (h : ¬ a = b) : ¬ lcmpW a b = 0 := by rw [lcW]; exact fun q => h ((lc_eq a b).mp q)
/-! ## small numbers as ints -/
theorem own_n32 {n : Nat} (h : n ≤ 100000) : (Int32.ofNat n).toInt = n := Int32.toInt_ofNat_of_lt (by omega)
theorem own_nat {n : Nat} (h : n ≤ 100000) : (Int32.ofNat n).toNatClampNeg = n := by
  have := own_n32 h
  simp only [Int32.toNatClampNeg, this]
  omega
theorem own_in {a b : Nat} (h : a < b) (hb : b ≤ 100000) : ¬ Int32.ofNat a < 0 ∧ Int32.ofNat a < Int32.ofNat b := by
  rw [Int32.lt_iff_toInt_lt, Int32.lt_iff_toInt_lt, own_n32 (by omega), own_n32 hb]
  have e0 : (0 : Int32).toInt = 0 := rfl
  omega
theorem own_shl1 {i : Nat} (h : i ≤ 40000) : (Int32.ofNat i <<< ((1 : Int32) &&& 31)) = Int32.ofNat (2 * i) := by
  have h1 := c_ishl (Int32.ofNat i) 1 1 (by decide)
  have h2 := rng32 (Int32.ofNat i <<< ((1 : Int32) &&& 31))
  rw [own_n32 (by omega)] at h1
  simp only [Nat.reducePow, Int.cast_ofNat_Int] at h1
  apply Int32.toInt_inj.mp
  rw [own_n32 (by omega)]
  omega
theorem own_shr1 {n : Nat} (h : n ≤ 40000) : (Int32.ofNat (2 * n) >>> ((1 : Int32) &&& 31)) = Int32.ofNat n := by
  have h1 := c_ishr (Int32.ofNat (2 * n)) 1 1 (by decide)
  rw [own_n32 (by omega)] at h1
  simp only [Nat.reducePow, Int.cast_ofNat_Int] at h1
  apply Int32.toInt_inj.mp
  rw [own_n32 (by omega), h1]
  omega
theorem own_p1 (m : Nat) : (Int32.ofNat m + (1 : Int32)) = Int32.ofNat (m + 1) := (Int32.ofNat_add m 1).symm
theorem own_nf {s : State} {y y' : MethodName} {args : Array Value} (h : NotFace s y) (w : (Cond.instanceMethod y).before args s = true) (hc : y.cls = y'.cls) : NotFace s y' := fun r0 h0 => by
  obtain ⟨mk, methM, hnamed, -⟩ := Cond.instanceMethod_spec w
  obtain ⟨k, h1, h2⟩ := h mk hnamed
  have e1 := findClass_of_methodNamed hnamed
  have e2 := findClass_of_methodNamed h0
  rw [hc, e2] at e1
  exact ⟨k, by rw [Option.some.inj e1]; exact h1, h2⟩
theorem own_sameM {s : State} {y : MethodName} {args : Array Value} (h : NotFace s y) (w : (Cond.instanceMethod y).before args s = true) (hy : y.cls ≠ "java/lang/invoke/MethodHandle" ∧ y.cls ≠ "java/lang/invoke/VarHandle") : (Cond.sameMethod y.cls y.cls y.name y.desc).before args s = true := by
  obtain ⟨mk, methM, hnamed, -⟩ := Cond.instanceMethod_spec w
  obtain ⟨k, h1, h2⟩ := h mk hnamed
  have hf : s.methodFound? y.cls y.name y.desc = some mk := State.methodFound?_of_named hnamed hy
  have e1 := findClass_of_methodNamed hnamed
  have e2 : s.methodNamed? ⟨y.cls, y.name, y.desc⟩ = some mk := hnamed
  simp [Cond.before, Cond.holds, Cond.value, e1, hf, e2, h1, h2]
theorem own_selP {s : State} {y : MethodName} {args : Array Value} (h : NotFace s y) (w : (Cond.instanceMethod y).before args s = true) (hp : (Cond.privateMethod y).before args s = true) (hy : y.cls ≠ "java/lang/invoke/MethodHandle" ∧ y.cls ≠ "java/lang/invoke/VarHandle") : (Cond.selects y.cls y y).before args s = true := by
  obtain ⟨mk, methM, hnamed, -⟩ := Cond.instanceMethod_spec w
  obtain ⟨k, h1, h2⟩ := h mk hnamed
  exact selects_self_of_private (findClass_of_methodNamed hnamed) h1 h2 (Cond.privateMethod_at hp) w hy
theorem own_cell {Z : State} {h : Heap} {a : Addr} {C : String} (F : Exa Z h a C) : ∃ cell, h[a]? = some cell ∧ ∀ q, cell.vm ≠ .statics q := by
  obtain ⟨cell, h1, h2⟩ := F.cell
  exact ⟨cell, h1, h2⟩
/-! ## short forms of the steps -/
theorem own_i {a : Addr} {ws : List Addr} {P : Prop} (i : Nat) (h : ws[i]? = some a) : a ∈ ws ∨ P := Or.inl (List.mem_of_getElem? h)
section OwnShort
variable {p : Program} {l : Launch} {e : Env} {R : Room} {s : State} {m : MethodId} {args : Array Value} {below : List Frame} {meth : Method} {c : Code} {T target : State} {locs : List Loc} {cells slots : Nat} {Z : State} {a0 : Array Value} {h h0 h' : Heap} {cd : ByteArray} {pc : Nat} {Ls : Array Slot} {S : List Value} {n0 : Nat} {ws ws' : List Addr}
theorem own_a (X : Stand p l e R s m args below meth c T locs cells slots) (Y : p.tables.exec = Jvm.exec ∧ c.code = cd) {k : Fin 4} {v : Value} (hd : decode cd pc = .ok (.aload_n k, 1)) (hl : Ls[k.val]? = some (.val v)) (hv : v.isRef = true) (hk : Steps p.tables e below (T.setTop (mkF m (pc + 1) Ls (v :: S))) target) : Steps p.tables e below (T.setTop (mkF m pc Ls S)) target := XS.aloadN X.here Y.1 rfl (hb Y.2 hd) hl hv hk
theorem own_al (X : Stand p l e R s m args below meth c T locs cells slots) (Y : p.tables.exec = Jvm.exec ∧ c.code = cd) {k : Nat} {v : Value} (hd : decode cd pc = .ok (.aload k, 2)) (hl : Ls[k]? = some (.val v)) (hv : v.isRef = true) (hk : Steps p.tables e below (T.setTop (mkF m (pc + 2) Ls (v :: S))) target) : Steps p.tables e below (T.setTop (mkF m pc Ls S)) target := XS.aload X.here Y.1 rfl (hb Y.2 hd) hl hv hk
theorem own_il (X : Stand p l e R s m args below meth c T locs cells slots) (Y : p.tables.exec = Jvm.exec ∧ c.code = cd) {k : Nat} {v : Int32} (hd : decode cd pc = .ok (.iload k, 2)) (hl : Ls[k]? = some (.val (.int v))) (hk : Steps p.tables e below (T.setTop (mkF m (pc + 2) Ls (.int v :: S))) target) : Steps p.tables e below (T.setTop (mkF m pc Ls S)) target := XS.iload X.here Y.1 rfl (hb Y.2 hd) hl hk
theorem own_ic (X : Stand p l e R s m args below meth c T locs cells slots) (Y : p.tables.exec = Jvm.exec ∧ c.code = cd) {i : Int} (hd : decode cd pc = .ok (.iconst i, 1)) (hk : Steps p.tables e below (T.setTop (mkF m (pc + 1) Ls (.int (Int32.ofInt i) :: S))) target) : Steps p.tables e below (T.setTop (mkF m pc Ls S)) target := XS.iconst X.here Y.1 rfl (hb Y.2 hd) hk
theorem own_du (X : Stand p l e R s m args below meth c T locs cells slots) (Y : p.tables.exec = Jvm.exec ∧ c.code = cd) {x : Value} {rest : List Value} (hd : decode cd pc = .ok (.dup, 1)) (hs : S = x :: rest) (hc : x.category = 1) (hk : Steps p.tables e below (T.setTop (mkF m (pc + 1) Ls (x :: x :: rest))) target) : Steps p.tables e below (T.setTop (mkF m pc Ls S)) target := XS.dup X.here Y.1 rfl (hb Y.2 hd) hs hc hk
theorem own_gF (X : Stand p l e R s m args below meth c T locs cells slots) (Y : p.tables.exec = Jvm.exec ∧ c.code = cd) (hZ : Z.Warmed39 s.vm) {own O n d : String} {index : Nat} (hown : s.vm.findClass own = some m.cls) (w : (Cond.fieldLink own index O n d).before a0 Z = true)
    (eT : T.heap = h) {a : Addr} {v : Value} (F : Fld Z h a O n d v) {g : JFrame} (hg : g.method = m) {rest : List Value} (hs : g.stack = .ref a :: rest) (hd : decode cd g.pc = .ok (.getfield index, 3)) : ∃ T', Stand p l e R s m args below meth c T' locs cells slots ∧ T'.heap = h ∧ ∀ target, Steps p.tables e below (T'.setTop { g with pc := g.pc + 3, stack := v :: rest }) target → Steps p.tables e below (T.setTop g) target := getF X Y.1 hZ hown (host := "") (Or.inl w) Via.refl eT F hg hs (hb Y.2 hd)
theorem own_pF (X : Stand p l e R s m args below meth c T locs cells slots) (Y : p.tables.exec = Jvm.exec ∧ c.code = cd) (hZ : Z.Warmed39 s.vm) {own O n d C : String} {index kk : Nat} {ty : FieldType} (hown : s.vm.findClass own = some m.cls) (w : (Cond.fieldLink own index O n d).before a0 Z = true)
    (eT : T.heap = h) {a : Addr} {v old : Value} (F : Fld Z h a O n d old) (E : Exa Z h a C) (L : (Cond.lays C O n d).before a0 Z = true) (wi : (Cond.instantiable C kk).before a0 Z = true)
    (hty : parseFieldDescriptor d = some ty) (hn : narrow ty v = v) (hf : fits ty v = true) {g : JFrame} (hg : g.method = m) {rest : List Value} (hs : g.stack = v :: .ref a :: rest) (hd : decode cd g.pc = .ok (.putfield index, 3)) :
    ∃ T' h', Stand p l e R s m args below meth c T' (locs ++ [⟨a, RoadKit.slotOf Z O n d⟩]) cells slots ∧ T'.heap = h' ∧ Wr h h' a (RoadKit.slotOf Z O n d) v ∧ ∀ target, Steps p.tables e below (T'.setTop { g with pc := g.pc + 3, stack := rest }) target → Steps p.tables e below (T.setTop g) target := putF X Y.1 hZ hown (host := "") (Or.inl w) Via.refl eT F E (Or.inl L) wi hty hn hf hg hs (hb Y.2 hd)
theorem own_virt {y : MethodName} {bytes : ByteArray} {maxL : Nat} {ret : Option FieldType} {rm : Room} {as' : Array Value} {Q : Option Value → Heap → List Loc → Prop} {own C : String} {index : Nat} (hM : own_MH l y bytes maxL ret rm as' Z h Q) (X : Stand p l e R s m args below meth c T locs cells slots) (Y : p.tables.exec = Jvm.exec ∧ c.code = cd) (hZ : Z.WarmedH s.vm) (hown : s.vm.findClass own = some m.cls) (w1 : (Cond.methodLink own index y).before a0 Z = true) (w2 : (Cond.declares y).before a0 Z = true) (w3 : (Cond.selects C y y).before a0 Z = true) (w4 : (Cond.instanceMethod y).before a0 Z = true) (w5 : (Cond.code y bytes maxL ret).before a0 Z = true) (w6 : (Cond.initialized y.cls).before a0 Z = true) (hy : y.cls ≠ "java/lang/invoke/MethodHandle" ∧ y.cls ≠ "java/lang/invoke/VarHandle") (eT : T.heap = h) {a : Addr} (E : Exa Z h a C) {g : JFrame} (hg : g.method = m) (hsize : g.locals.size = c.maxLocals) {argsL rest : List Value} (hlen : ∀ sig, parseMethodDescriptor y.desc = some sig → argsL.length = sig.parameters.length) (hstack : g.stack = argsL.reverse ++ .ref a :: rest) (hd : decode cd g.pc = .ok (.invokevirtual index, 3)) (hf : rm.frames + 1 ≤ R.frames := by exact own_le rfl) (hl : 2 * g.monitorRoom + (rest.map fun v => v.category).sum + (maxL + 11) + rm.locals ≤ R.locals := by exact own_le rfl) (hc : cells + rm.cells ≤ R.cells := by exact own_le rfl) (hs : slots + rm.slots ≤ R.slots := by exact own_le rfl) (ha : (.ref a :: argsL).toArray = as' := by exact rfl) :
    ∃ (v : Option Value) (T' : State) (L : List Loc), Stand p l e R s m args below meth c T' (locs ++ L) (cells + rm.cells) (slots + rm.slots) ∧ Q v T'.heap L ∧ Steps p.tables e below (T.setTop g) (T'.setTop { g with pc := g.pc + 3, stack := v.toList ++ rest }) := by
  obtain ⟨cq, kq, qa, qb, qc⟩ := isOf hZ.wide eT E
  exact own_tidy X (X.virtualBack Y.1 (y := y) (z := y) hown (mvT hZ.wide w1) (mvT hZ.wide w2) (notFace_of_selects (args := #[]) (mvT hZ.wide w3)) (mvT hZ.wide w3) (mvT hZ.wide w4) hy (own_backH hM hZ w5 w6 hf hl) qa qc hg hsize (Steps.refl _) hlen hstack (Nat.le_refl _) (hb Y.2 hd) (fun _ _ => ⟨ha, eT, hc, hs⟩))
theorem own_priv {y : MethodName} {bytes : ByteArray} {maxL : Nat} {ret : Option FieldType} {rm : Room} {as' : Array Value} {Q : Option Value → Heap → List Loc → Prop} {own C : String} {index : Nat} (hM : own_MH l y bytes maxL ret rm as' Z h Q) (X : Stand p l e R s m args below meth c T locs cells slots) (Y : p.tables.exec = Jvm.exec ∧ c.code = cd) (hZ : Z.WarmedH s.vm) (hown : s.vm.findClass own = some m.cls) (w1 : (Cond.methodLink own index y).before a0 Z = true) (w2 : (Cond.instanceMethod y).before a0 Z = true) (w3 : (Cond.privateMethod y).before a0 Z = true) (hn : NotFace Z y) (w5 : (Cond.code y bytes maxL ret).before a0 Z = true) (w6 : (Cond.initialized y.cls).before a0 Z = true) (hy : y.cls ≠ "java/lang/invoke/MethodHandle" ∧ y.cls ≠ "java/lang/invoke/VarHandle") (eT : T.heap = h) {a : Addr} (E : Exa Z h a C) {g : JFrame} (hg : g.method = m) (hsize : g.locals.size = c.maxLocals) {argsL rest : List Value} (hlen : ∀ sig, parseMethodDescriptor y.desc = some sig → argsL.length = sig.parameters.length) (hstack : g.stack = argsL.reverse ++ .ref a :: rest) (hd : decode cd g.pc = .ok (.invokevirtual index, 3)) (hf : rm.frames + 1 ≤ R.frames := by exact own_le rfl) (hl : 2 * g.monitorRoom + (rest.map fun v => v.category).sum + (maxL + 11) + rm.locals ≤ R.locals := by exact own_le rfl) (hc : cells + rm.cells ≤ R.cells := by exact own_le rfl) (hs : slots + rm.slots ≤ R.slots := by exact own_le rfl) (ha : (.ref a :: argsL).toArray = as' := by exact rfl) :
    ∃ (v : Option Value) (T' : State) (L : List Loc), Stand p l e R s m args below meth c T' (locs ++ L) (cells + rm.cells) (slots + rm.slots) ∧ Q v T'.heap L ∧ Steps p.tables e below (T.setTop g) (T'.setTop { g with pc := g.pc + 3, stack := v.toList ++ rest }) := by
  obtain ⟨cq, q, q'⟩ := own_cell E
  exact own_tidy X (X.privateBack Y.1 (y := y) hown (mvT hZ.wide w1) (mvT hZ.wide w2) (mvT hZ.wide (own_selP hn w2 w3 hy)) (Cond.privateMethod_at (mvP hZ.wide w3 (args := #[]))) (mvT hZ.wide w5) hy (own_backH hM hZ w5 w6 hf hl) hg hsize (Steps.refl _) (a := a) (by rw [eT]; exact q) q' hlen hstack (Nat.le_refl _) (hb Y.2 hd) (fun _ _ => ⟨ha, eT, hc, hs⟩))
theorem own_face {y : MethodName} {bytes : ByteArray} {maxL : Nat} {ret : Option FieldType} {rm : Room} {as' : Array Value} {Q : Option Value → Heap → List Loc → Prop} {own C : String} {index count : Nat} {xi : MethodName} (hM : own_MH l y bytes maxL ret rm as' Z h Q) (X : Stand p l e R s m args below meth c T locs cells slots) (Y : p.tables.exec = Jvm.exec ∧ c.code = cd) (hZ : Z.WarmedH s.vm) (hown : s.vm.findClass own = some m.cls) (w1 : (Cond.methodLink own index xi).before a0 Z = true) (w2 : (Cond.declares xi).before a0 Z = true) (w3 : (Cond.interfaceMethod xi.cls xi.cls xi.name xi.desc).before args s = true) (w4 : (Cond.selects C xi y).before a0 Z = true) (w7 : (Cond.instanceMethod y).before a0 Z = true) (w8 : (Cond.publicMethod y).before a0 Z = true) (w9 : (Cond.unhidden C xi.name xi.desc).before a0 Z = true) (w10 : (Cond.castable C xi.cls).before a0 Z = true) (w5 : (Cond.code y bytes maxL ret).before a0 Z = true) (w6 : (Cond.initialized y.cls).before a0 Z = true) (hy : xi.cls ≠ "java/lang/invoke/MethodHandle" ∧ xi.cls ≠ "java/lang/invoke/VarHandle") (eT : T.heap = h) {a : Addr} (E : Exa Z h a C) {g : JFrame} (hg : g.method = m) (hsize : g.locals.size = c.maxLocals) {argsL rest : List Value} (hlen : ∀ sig, parseMethodDescriptor xi.desc = some sig → argsL.length = sig.parameters.length) (hstack : g.stack = argsL.reverse ++ .ref a :: rest) (hd : decode cd g.pc = .ok (.invokeinterface index count, 5)) (hf : rm.frames + 1 ≤ R.frames := by exact own_le rfl) (hl : 2 * g.monitorRoom + (rest.map fun v => v.category).sum + (maxL + 11) + rm.locals ≤ R.locals := by exact own_le rfl) (hc : cells + rm.cells ≤ R.cells := by exact own_le rfl) (hs : slots + rm.slots ≤ R.slots := by exact own_le rfl) (ha : (.ref a :: argsL).toArray = as' := by exact rfl) :
    ∃ (v : Option Value) (T' : State) (L : List Loc), Stand p l e R s m args below meth c T' (locs ++ L) (cells + rm.cells) (slots + rm.slots) ∧ Q v T'.heap L ∧ Steps p.tables e below (T.setTop g) (T'.setTop { g with pc := g.pc + 5, stack := v.toList ++ rest }) := by
  obtain ⟨cq, kq, qa, qb, qc⟩ := isOf hZ.wide eT E
  exact own_tidy X (X.interfaceBack Y.1 (xi := xi) (y := y) hown (mvT hZ.wide w1) (mvT hZ.wide w2) w3 (mvT hZ.wide w4) (mvT hZ.wide w7) (mvT hZ.wide w8) (mvT hZ.wide w9) (mvT hZ.wide w10) hy (own_backH hM hZ w5 w6 hf hl) qa qb qc hg hsize (Steps.refl _) hlen hstack (Nat.le_refl _) (hb Y.2 hd) (fun _ _ => ⟨ha, eT, hc, hs⟩))
theorem own_make {y : MethodName} {bytes : ByteArray} {maxL : Nat} {rm : Room} {as' : Array Value} {Q : Option Value → Heap → List Loc → Prop} {own : String} {index : Nat} (hM : own_MH l y bytes maxL none rm as' Z h Q) (X : Stand p l e R s m args below meth c T locs cells slots) (Y : p.tables.exec = Jvm.exec ∧ c.code = cd) (hZ : Z.WarmedH s.vm) (hown : s.vm.findClass own = some m.cls) (w1 : (Cond.methodLink own index y).before a0 Z = true) (w2 : (Cond.instanceMethod y).before a0 Z = true) (w5 : (Cond.code y bytes maxL none).before a0 Z = true) (w6 : (Cond.initialized y.cls).before a0 Z = true) (hy : y.cls ≠ "java/lang/invoke/MethodHandle" ∧ y.cls ≠ "java/lang/invoke/VarHandle") (hi : y.name = "<init>") (eT : T.heap = h) {a : Addr} {g : JFrame} (hg : g.method = m) (hsize : g.locals.size = c.maxLocals) {argsL rest : List Value} (hlen : ∀ sig, parseMethodDescriptor y.desc = some sig → argsL.length = sig.parameters.length) (hstack : g.stack = argsL.reverse ++ .ref a :: rest) (hd : decode cd g.pc = .ok (.invokespecial index, 3)) (hf : rm.frames + 1 ≤ R.frames := by exact own_le rfl) (hl : 2 * g.monitorRoom + (rest.map fun v => v.category).sum + (maxL + 11) + rm.locals ≤ R.locals := by exact own_le rfl) (hc : cells + rm.cells ≤ R.cells := by exact own_le rfl) (hs : slots + rm.slots ≤ R.slots := by exact own_le rfl) (ha : (.ref a :: argsL).toArray = as' := by exact rfl) :
    ∃ (v : Option Value) (T' : State) (L : List Loc), Stand p l e R s m args below meth c T' (locs ++ L) (cells + rm.cells) (slots + rm.slots) ∧ Q v T'.heap L ∧ Steps p.tables e below (T.setTop g) (T'.setTop { g with pc := g.pc + 3, stack := v.toList ++ rest }) := 
  own_tidy X (X.specialBack Y.1 (y := y) hi hown (mvT hZ.wide w1) (mvT hZ.wide w2) (mvT hZ.wide w5) hy (own_backH hM hZ w5 w6 hf hl) hg hsize (Steps.refl _) (a := a) hlen hstack (Nat.le_refl _) (hb Y.2 hd) (fun _ _ => ⟨ha, eT, hc, hs⟩))
theorem own_stat {y : MethodName} {bytes : ByteArray} {maxL : Nat} {ret : Option FieldType} {rm : Room} {as' : Array Value} {Q : Option Value → Heap → List Loc → Prop} {own : String} {index : Nat} (hM : own_MH l y bytes maxL ret rm as' Z h Q) (X : Stand p l e R s m args below meth c T locs cells slots) (Y : p.tables.exec = Jvm.exec ∧ c.code = cd) (hZ : Z.WarmedH s.vm) (hown : s.vm.findClass own = some m.cls) (w1 : (Cond.methodLink own index y).before a0 Z = true) (w2 : (Cond.static y).before a0 Z = true) (w5 : (Cond.code y bytes maxL ret).before a0 Z = true) (w6 : (Cond.initialized y.cls).before a0 Z = true) (hy : y.cls ≠ "java/lang/invoke/MethodHandle" ∧ y.cls ≠ "java/lang/invoke/VarHandle") (eT : T.heap = h) {g : JFrame} (hg : g.method = m) (hsize : g.locals.size = c.maxLocals) {argsL rest : List Value} (hlen : ∀ sig, parseMethodDescriptor y.desc = some sig → argsL.length = sig.parameters.length) (hstack : g.stack = argsL.reverse ++ rest) (hd : decode cd g.pc = .ok (.invokestatic index, 3)) (hf : rm.frames + 1 ≤ R.frames := by exact own_le rfl) (hl : 2 * g.monitorRoom + (rest.map fun v => v.category).sum + (maxL + 11) + rm.locals ≤ R.locals := by exact own_le rfl) (hc : cells + rm.cells ≤ R.cells := by exact own_le rfl) (hs : slots + rm.slots ≤ R.slots := by exact own_le rfl) (ha : (argsL).toArray = as' := by exact rfl) :
    ∃ (v : Option Value) (T' : State) (L : List Loc), Stand p l e R s m args below meth c T' (locs ++ L) (cells + rm.cells) (slots + rm.slots) ∧ Q v T'.heap L ∧ Steps p.tables e below (T.setTop g) (T'.setTop { g with pc := g.pc + 3, stack := v.toList ++ rest }) := 
  own_tidyS X (Jvm.LawKit.callS X Y.1 (y := y) hown (mvT hZ.wide w1) (mvT hZ.wide w2) (mvT hZ.wide w6) (mvT hZ.wide w5) hy (own_backH hM hZ w5 w6 hf hl) hg hsize hlen hstack (Nat.le_refl _) (hb Y.2 hd) (fun _ _ => ⟨ha, eT, hc, hs⟩))
theorem own_eW0 {a : Addr} {sl : Nat} {v : Value} (W : Wr h h' a sl v) (z : n0 ≤ h.size) (O : Old Z n0 h) (N : Fr n0 locs) (g : n0 ≤ a) : h'.size = h.size ∧ n0 ≤ h'.size ∧ Old Z n0 h' ∧ Fr n0 (locs ++ [⟨a, sl⟩]) :=
  ⟨W.size, own_leq z W.size, O.wr W g, fun y hy => (List.mem_append.mp hy).elim (N y) fun q => by cases List.mem_singleton.mp q; exact g⟩
theorem own_eW {a : Addr} {sl : Nat} {v : Value} (W : Wr h h' a sl v) (z : n0 ≤ h.size) (K : Keep h0 h ws) (O : Old Z n0 h) (N : Fr n0 locs) (q : a ∈ ws ∨ h0.size ≤ a) (g : n0 ≤ a) : h'.size = h.size ∧ n0 ≤ h'.size ∧ Keep h0 h' ws ∧ Old Z n0 h' ∧ Fr n0 (locs ++ [⟨a, sl⟩]) :=
  ⟨W.size, own_leq z W.size, K.wr W q, O.wr W g, (own_eW0 W z O N g).2.2.2⟩
theorem own_eK0 (K' : Keep h h' ws') (z : n0 ≤ h.size) (O : Old Z n0 h) (g : ∀ x ∈ ws', n0 ≤ x) : h.size ≤ h'.size ∧ n0 ≤ h'.size ∧ Old Z n0 h' := ⟨K'.1, Nat.le_trans z K'.1, O.keep K' g⟩
theorem own_eK (K' : Keep h h' ws') (z : n0 ≤ h.size) (K : Keep h0 h ws) (O : Old Z n0 h) (q : ∀ x ∈ ws', x ∈ ws ∨ h0.size ≤ x) (g : ∀ x ∈ ws', n0 ≤ x) : h.size ≤ h'.size ∧ n0 ≤ h'.size ∧ Keep h0 h' ws ∧ Old Z n0 h' := ⟨K'.1, Nat.le_trans z K'.1, K.trans K' q, O.keep K' g⟩
end OwnShort
def own_Ne (a b : Nat) : Prop := a ≠ b
def own_W (Z : State) (a0 : Array Value) : Prop := (∀ d ∈ tables_1, d.before a0 Z = true) ∧ Sta Z Z.heap "java/lang/Integer$IntegerCache" "high" "I" (.int (127 : Int32)) ∧ (∃ (c : Nat) (A : Cell), Sta Z Z.heap "java/lang/Integer$IntegerCache" "cache" "[Ljava/lang/Integer;" (.ref c) ∧ Arr Z Z.heap c A (.object "java/lang/Integer") ∧ A.slots.size = 256 ∧ ∀ i, i < 256 → ∃ x : Nat, A.slots[i]? = some (.ref x)) ∧
  (∃ (c : Nat) (A : Cell), Sta Z Z.heap "java/lang/Long$LongCache" "cache" "[Ljava/lang/Long;" (.ref c) ∧ Arr Z Z.heap c A (.object "java/lang/Long") ∧ A.slots.size = 256 ∧ ∀ i, i < 256 → ∃ x : Nat, A.slots[i]? = some (.ref x) ∧ Exa Z Z.heap x "java/lang/Long" ∧ Fld Z Z.heap x "java/lang/Long" "value" "J" (.long ((i.toInt32 - 128).toInt64)))
theorem own_tri {a b : Int64} (h1 : ¬ a < b) (h2 : ¬ a = b) : b < a := by
  rw [← Int64.toInt_inj] at h2
  rw [Int64.lt_iff_toInt_lt] at h1 ⊢
  omega
theorem own_subN {a b : Nat} (h : b ≤ a) (ha : a ≤ 100000) : Int32.ofNat a - Int32.ofNat b = Int32.ofNat (a - b) := by
  have h1 := c_isub (Int32.ofNat a) (Int32.ofNat b)
  have r1 := rng32 (Int32.ofNat a - Int32.ofNat b)
  rw [own_n32 (by omega), own_n32 (by omega)] at h1
  apply Int32.toInt_inj.mp
  rw [own_n32 (by omega)]
  omega
theorem own_eqN {a b : Nat} (ha : a ≤ 100000) (hb : b ≤ 100000) (h : ¬ a = b) : ¬ Int32.ofNat a = Int32.ofNat b := fun q => h (by
  have := congrArg Int32.toInt q
  rw [own_n32 ha, own_n32 hb] at this
  omega)
theorem own_ltN {a b : Nat} (h : a < b) (hb : b ≤ 100000) : Int32.ofNat a < Int32.ofNat b := (own_in h hb).2
theorem own_nlN {a b : Nat} (h : b ≤ a) (hb : a ≤ 100000) : ¬ Int32.ofNat a < Int32.ofNat b := by
  rw [Int32.lt_iff_toInt_lt, own_n32 (by omega), own_n32 (by omega)]
  omega
abbrev own_c0 : ByteArray := jdk_35_method_42_code
def own_cmp_Q (Z : State) (x y : Int64) (h0 : Heap) (n0 : Nat) (v : Option Value) (h : Heap) (L : List Loc) : Prop := ((v = some (.int (-1 : Int32)) ∧ x < y) ∨ (v = some (.int (0 : Int32)) ∧ x = y) ∨ (v = some (.int (1 : Int32)) ∧ y < x)) ∧ Fr n0 L ∧ h = h0
theorem pn_java_lang_Long : plainName "java/lang/Long" = true := by first | (simp [plainName, overriddenIn]; done) | decide +kernel
theorem ef_own_cmp (m : MethodId) (x0 : Int64) (x1 : Int64) : entryFrame m #[(.long x0), (.long x1)] 4 = mkF m 0 #[vj x0, .second, vj x1, .second] [] := by first | (simp [entryFrame, mkF, argsToLocals, Value.category]; done) | rfl
abbrev own_y0 : MethodName := ⟨"java/lang/Long", "compare", "(JJ)I"⟩
theorem d0_0 : decode own_c0 0 = .ok (.lload_n 0, 1) := by decide +kernel
theorem d0_1 : decode own_c0 1 = .ok (.lload_n 2, 1) := by decide +kernel
theorem d0_2 : decode own_c0 2 = .ok (.lcmp, 1) := by decide +kernel
theorem d0_3 : decode own_c0 3 = .ok (.ifCond .ge 7, 3) := by decide +kernel
theorem d0_6 : decode own_c0 6 = .ok (.iconst (-1), 1) := by decide +kernel
theorem d0_7 : decode own_c0 7 = .ok (.goto 14, 3) := by decide +kernel
theorem d0_21 : decode own_c0 21 = .ok (.ireturn, 1) := by decide +kernel
theorem d0_10 : decode own_c0 10 = .ok (.lload_n 0, 1) := by decide +kernel
theorem d0_11 : decode own_c0 11 = .ok (.lload_n 2, 1) := by decide +kernel
theorem d0_12 : decode own_c0 12 = .ok (.lcmp, 1) := by decide +kernel
theorem d0_13 : decode own_c0 13 = .ok (.ifCond .ne 7, 3) := by decide +kernel
theorem d0_16 : decode own_c0 16 = .ok (.iconst 0, 1) := by decide +kernel
theorem d0_17 : decode own_c0 17 = .ok (.goto 4, 3) := by decide +kernel
theorem d0_20 : decode own_c0 20 = .ok (.iconst 1, 1) := by decide +kernel
set_option maxRecDepth 65536 in
set_option maxHeartbeats 40000000 in
theorem own_cmp (l : Launch) (Z : State) (a0 : Array Value) (hW : own_W Z a0) (x y : Int64) (h0 : Heap) (n0 : Nat) (Z0 : n0 ≤ h0.size) (O0 : Old Z n0 h0)  :
    own_MH l own_y0 own_c0 4 (some .int) (own_r 0 0 0 0) #[(.long x), (.long y)] Z h0 (own_cmp_Q Z x y h0 n0) := by
  refine own_enterH (own := "java/lang/Long") rfl (plainFor_of_name pn_java_lang_Long) (fun m => ef_own_cmp m x y) ?_
  intro p e s m below meth c s₁ Bd hZH hh hx hby hml hown hnm X0 e0
  have hZ := hZH.wide
  have Y := And.intro hx hby
  have hw := hW.1
  have N0 := Fr.nil n0
  have K0 := Keep.refl h0 []
  refine own_gs (cur' := s₁.setTop (mkF m 3 #[vj x, ss, vj y, ss] [(.int (lcmpW x y))])) ?_ ?_
  · refine XS.lloadN X0.here hx rfl (hb hby d0_0) rfl ?_
    refine XS.lloadN X0.here hx rfl (hb hby d0_1) rfl ?_
    exact XS.lcmp X0.here hx rfl (hb hby d0_2) rfl (Steps.refl _)
  by_cases hc3_11 : x < y
  · refine own_gs (cur' := s₁.setTop (mkF m 21 #[vj x, ss, vj y, ss] [(.int (-1 : Int32))])) ?_ ?_
    · refine XS.ifNo X0.here hx rfl (hb hby d0_3) rfl ((if0 _ _).trans (tlt ((own_lt64 hc3_11) : (lcmpW x y) < (0 : Int32))).2.1) ?_
      refine own_ic X0 Y d0_6 ?_
      exact XS.goto X0.here hx rfl (pc0 := 7) (pc' := 21) rfl (hb hby d0_7) (by decide) (by decide) (Steps.refl _)
    exact own_rI X0 Bd (hb hby d0_21) e0 (⟨Or.inl ⟨rfl, hc3_11⟩, N0, rfl⟩) rfl rfl
  · refine own_gs (cur' := s₁.setTop (mkF m 13 #[vj x, ss, vj y, ss] [(.int (lcmpW x y))])) ?_ ?_
    · refine XS.ifYes X0.here hx rfl (pc0 := 3) (pc' := 10) rfl (hb hby d0_3) rfl ((if0 _ _).trans (flt ((own_nlt64 hc3_11) : ¬ ((lcmpW x y) < (0 : Int32)))).2.1) (by decide) (by decide) ?_
      refine XS.lloadN X0.here hx rfl (hb hby d0_10) rfl ?_
      refine XS.lloadN X0.here hx rfl (hb hby d0_11) rfl ?_
      exact XS.lcmp X0.here hx rfl (hb hby d0_12) rfl (Steps.refl _)
    by_cases hc13_12 : x = y
    · refine own_gs (cur' := s₁.setTop (mkF m 21 #[vj x, ss, vj y, ss] [(.int (0 : Int32))])) ?_ ?_
      · refine XS.ifNo X0.here hx rfl (hb hby d0_13) rfl ((if0 _ _).trans (teq ((own_eq64 hc13_12) : (lcmpW x y) = (0 : Int32))).2) ?_
        refine own_ic X0 Y d0_16 ?_
        exact XS.goto X0.here hx rfl (pc0 := 17) (pc' := 21) rfl (hb hby d0_17) (by decide) (by decide) (Steps.refl _)
      exact own_rI X0 Bd (hb hby d0_21) e0 (⟨Or.inr (Or.inl ⟨rfl, hc13_12⟩), N0, rfl⟩) rfl rfl
    · refine own_gs (cur' := s₁.setTop (mkF m 21 #[vj x, ss, vj y, ss] [(.int (1 : Int32))])) ?_ ?_
      · refine XS.ifYes X0.here hx rfl (pc0 := 13) (pc' := 20) rfl (hb hby d0_13) rfl ((if0 _ _).trans (feq ((own_neq64 hc13_12) : ¬ ((lcmpW x y) = (0 : Int32)))).2) (by decide) (by decide) ?_
        exact own_ic X0 Y d0_20 (Steps.refl _)
      exact own_rI X0 Bd (hb hby d0_21) e0 (⟨Or.inr (Or.inr ⟨rfl, own_tri hc3_11 hc13_12⟩), N0, rfl⟩) rfl rfl
abbrev own_c1 : ByteArray := jdk_35_method_41_code
def own_ct1_Q (Z : State) (a1 a2 : Nat) (x y : Int64) (h0 : Heap) (n0 : Nat) (v : Option Value) (h : Heap) (L : List Loc) : Prop := ((v = some (.int (-1 : Int32)) ∧ x < y) ∨ (v = some (.int (0 : Int32)) ∧ x = y) ∨ (v = some (.int (1 : Int32)) ∧ y < x)) ∧ Fr n0 L ∧ h = h0
theorem ef_own_ct1 (m : MethodId) (x0 : Nat) (x1 : Nat) : entryFrame m #[(.ref x0), (.ref x1)] 2 = mkF m 0 #[vr x0, vr x1] [] := by first | (simp [entryFrame, mkF, argsToLocals, Value.category]; done) | rfl
abbrev own_y1 : MethodName := ⟨"java/lang/Long", "compareTo", "(Ljava/lang/Long;)I"⟩
theorem d1_0 : decode own_c1 0 = .ok (.aload_n 0, 1) := by decide +kernel
theorem d1_1 : decode own_c1 1 = .ok (.getfield 273, 3) := by decide +kernel
theorem d1_4 : decode own_c1 4 = .ok (.aload_n 1, 1) := by decide +kernel
theorem d1_5 : decode own_c1 5 = .ok (.getfield 273, 3) := by decide +kernel
theorem d1_8 : decode own_c1 8 = .ok (.invokestatic 302, 3) := by decide +kernel
theorem pd_0 : parseMethodDescriptor "(JJ)I" = some ⟨[.long, .long], some .int⟩ := by decide +kernel
theorem d1_11 : decode own_c1 11 = .ok (.ireturn, 1) := by decide +kernel
set_option maxRecDepth 65536 in
set_option maxHeartbeats 40000000 in
theorem own_ct1 (l : Launch) (Z : State) (a0 : Array Value) (hW : own_W Z a0) (a1 a2 : Nat) (x y : Int64) (h0 : Heap) (n0 : Nat) (Z0 : n0 ≤ h0.size) (O0 : Old Z n0 h0) (E1 : Exa Z h0 a1 "java/lang/Long") (F1 : Fld Z h0 a1 "java/lang/Long" "value" "J" (.long x)) (E2 : Exa Z h0 a2 "java/lang/Long") (F2 : Fld Z h0 a2 "java/lang/Long" "value" "J" (.long y)) :
    own_MH l own_y1 own_c1 2 (some .int) (own_r 1 0 0 21) #[(.ref a1), (.ref a2)] Z h0 (own_ct1_Q Z a1 a2 x y h0 n0) := by
  refine own_enterH (own := "java/lang/Long") rfl (plainFor_of_name pn_java_lang_Long) (fun m => ef_own_ct1 m a1 a2) ?_
  intro p e s m below meth c s₁ Bd hZH hh hx hby hml hown hnm X0 e0
  have hZ := hZH.wide
  have Y := And.intro hx hby
  have hw := hW.1
  have N0 := Fr.nil n0
  have K0 := Keep.refl h0 []
  obtain ⟨T11, X11, e11, st11⟩ := own_gF X0 Y hZ hown (tw_ hw 101 rfl) e0 F1 (g := (mkF m 1 #[vr a1, vr a2] [(.ref a1)])) rfl rfl d1_1
  refine own_gs ?_ (own_go st11 ?_)
  · exact own_a X0 Y d1_0 rfl rfl (Steps.refl _)
  obtain ⟨T12, X12, e12, st12⟩ := own_gF X11 Y hZ hown (tw_ hw 101 rfl) e11 F2 (g := (mkF m 5 #[vr a1, vr a2] [(.ref a2), (.long x)])) rfl rfl d1_5
  refine own_gs ?_ (own_go st12 ?_)
  · exact own_a X11 Y d1_4 rfl rfl (Steps.refl _)
  obtain ⟨v13, T13, Lc13, X13, hQ13, st13⟩ := own_stat (own_cmp l Z a0 hW x y h0 n0 Z0 O0) X12 Y hZH hown (tw_ hw 152 rfl) (tw_ hw 153 rfl) (tw_ hw 154 rfl) (tw_ hw 85 rfl) (by decide) e12 (g := (mkF m 8 #[vr a1, vr a2] [(.long y), (.long x)])) rfl hml.symm (argsL := [(.long x), (.long y)]) (rest := []) (lenOf pd_0 rfl) rfl d1_8
  obtain ⟨hor13, Nq13, eh13⟩ := hQ13
  have N13 := Fr.app N0 Nq13
  rcases hor13 with ⟨rfl, ho13⟩ | ⟨rfl, ho13⟩ | ⟨rfl, ho13⟩
  · refine own_gs st13 ?_
    exact own_rI X13 Bd (hb hby d1_11) eh13 (⟨Or.inl ⟨rfl, ho13⟩, N13, rfl⟩) rfl rfl
  · refine own_gs st13 ?_
    exact own_rI X13 Bd (hb hby d1_11) eh13 (⟨Or.inr (Or.inl ⟨rfl, ho13⟩), N13, rfl⟩) rfl rfl
  · refine own_gs st13 ?_
    exact own_rI X13 Bd (hb hby d1_11) eh13 (⟨Or.inr (Or.inr ⟨rfl, ho13⟩), N13, rfl⟩) rfl rfl
abbrev own_c2 : ByteArray := jdk_35_method_64_code
def own_ct_Q (Z : State) (a1 a2 : Nat) (x y : Int64) (h0 : Heap) (n0 : Nat) (v : Option Value) (h : Heap) (L : List Loc) : Prop := ((v = some (.int (-1 : Int32)) ∧ x < y) ∨ (v = some (.int (0 : Int32)) ∧ x = y) ∨ (v = some (.int (1 : Int32)) ∧ y < x)) ∧ Fr n0 L ∧ h = h0
theorem ef_own_ct (m : MethodId) (x0 : Nat) (x1 : Nat) : entryFrame m #[(.ref x0), (.ref x1)] 2 = mkF m 0 #[vr x0, vr x1] [] := by first | (simp [entryFrame, mkF, argsToLocals, Value.category]; done) | rfl
abbrev own_y2 : MethodName := ⟨"java/lang/Long", "compareTo", "(Ljava/lang/Object;)I"⟩
theorem d2_0 : decode own_c2 0 = .ok (.aload_n 0, 1) := by decide +kernel
theorem d2_1 : decode own_c2 1 = .ok (.aload_n 1, 1) := by decide +kernel
theorem d2_2 : decode own_c2 2 = .ok (.checkcast 1, 3) := by decide +kernel
theorem d2_5 : decode own_c2 5 = .ok (.invokevirtual 343, 3) := by decide +kernel
theorem pd_1 : parseMethodDescriptor "(Ljava/lang/Long;)I" = some ⟨[(.object "java/lang/Long")], some .int⟩ := by decide +kernel
theorem d2_8 : decode own_c2 8 = .ok (.ireturn, 1) := by decide +kernel
set_option maxRecDepth 65536 in
set_option maxHeartbeats 40000000 in
theorem own_ct (l : Launch) (Z : State) (a0 : Array Value) (hW : own_W Z a0) (a1 a2 : Nat) (x y : Int64) (h0 : Heap) (n0 : Nat) (Z0 : n0 ≤ h0.size) (O0 : Old Z n0 h0) (E1 : Exa Z h0 a1 "java/lang/Long") (F1 : Fld Z h0 a1 "java/lang/Long" "value" "J" (.long x)) (E2 : Exa Z h0 a2 "java/lang/Long") (F2 : Fld Z h0 a2 "java/lang/Long" "value" "J" (.long y)) :
    own_MH l own_y2 own_c2 2 (some .int) (own_r 2 0 0 40) #[(.ref a1), (.ref a2)] Z h0 (own_ct_Q Z a1 a2 x y h0 n0) := by
  refine own_enterH (own := "java/lang/Long") rfl (plainFor_of_name pn_java_lang_Long) (fun m => ef_own_ct m a1 a2) ?_
  intro p e s m below meth c s₁ Bd hZH hh hx hby hml hown hnm X0 e0
  have hZ := hZH.wide
  have Y := And.intro hx hby
  have hw := hW.1
  have N0 := Fr.nil n0
  have K0 := Keep.refl h0 []
  obtain ⟨T11, X11, e11, st11⟩ := castY X0 hx hZ hown (tw_ hw 88 rfl) e0 (Ins.self E2) (g := (mkF m 2 #[vr a1, vr a2] [(.ref a2), (.ref a1)])) rfl rfl (hb hby d2_2)
  refine own_gs ?_ (own_go st11 ?_)
  · refine own_a X0 Y d2_0 rfl rfl ?_
    exact own_a X0 Y d2_1 rfl rfl (Steps.refl _)
  obtain ⟨v12, T12, Lc12, X12, hQ12, st12⟩ := own_virt (own_ct1 l Z a0 hW a1 a2 x y h0 n0 Z0 O0 E1 F1 E2 F2) X11 Y hZH hown (tw_ hw 147 rfl) (tw_ hw 148 rfl) (tw_ hw 150 rfl) (tw_ hw 149 rfl) (tw_ hw 151 rfl) (tw_ hw 85 rfl) (by decide) e11 E1 (g := (mkF m 5 #[vr a1, vr a2] [(.ref a2), (.ref a1)])) rfl hml.symm (argsL := [(.ref a2)]) (rest := []) (lenOf pd_1 rfl) rfl d2_5
  obtain ⟨hor12, Nq12, eh12⟩ := hQ12
  have N12 := Fr.app N0 Nq12
  rcases hor12 with ⟨rfl, ho12⟩ | ⟨rfl, ho12⟩ | ⟨rfl, ho12⟩
  · refine own_gs st12 ?_
    exact own_rI X12 Bd (hb hby d2_8) eh12 (⟨Or.inl ⟨rfl, ho12⟩, N12, rfl⟩) rfl rfl
  · refine own_gs st12 ?_
    exact own_rI X12 Bd (hb hby d2_8) eh12 (⟨Or.inr (Or.inl ⟨rfl, ho12⟩), N12, rfl⟩) rfl rfl
  · refine own_gs st12 ?_
    exact own_rI X12 Bd (hb hby d2_8) eh12 (⟨Or.inr (Or.inr ⟨rfl, ho12⟩), N12, rfl⟩) rfl rfl
abbrev own_c3 : ByteArray := jdk_35_method_31_code
def own_lv_Q (Z : State) (a1 : Nat) (x : Int64) (h0 : Heap) (n0 : Nat) (v : Option Value) (h : Heap) (L : List Loc) : Prop := v = (some (.long x)) ∧ Fr n0 L ∧ h = h0
theorem ef_own_lv (m : MethodId) (x0 : Nat) : entryFrame m #[(.ref x0)] 1 = mkF m 0 #[vr x0] [] := by first | (simp [entryFrame, mkF, argsToLocals, Value.category]; done) | rfl
abbrev own_y3 : MethodName := ⟨"java/lang/Long", "longValue", "()J"⟩
theorem d3_0 : decode own_c3 0 = .ok (.aload_n 0, 1) := by decide +kernel
theorem d3_1 : decode own_c3 1 = .ok (.getfield 273, 3) := by decide +kernel
theorem d3_4 : decode own_c3 4 = .ok (.lreturn, 1) := by decide +kernel
set_option maxRecDepth 65536 in
set_option maxHeartbeats 40000000 in
theorem own_lv (l : Launch) (Z : State) (a0 : Array Value) (hW : own_W Z a0) (a1 : Nat) (x : Int64) (h0 : Heap) (n0 : Nat) (Z0 : n0 ≤ h0.size) (O0 : Old Z n0 h0) (E1 : Exa Z h0 a1 "java/lang/Long") (F1 : Fld Z h0 a1 "java/lang/Long" "value" "J" (.long x)) :
    own_MH l own_y3 own_c3 1 (some .long) (own_r 0 0 0 0) #[(.ref a1)] Z h0 (own_lv_Q Z a1 x h0 n0) := by
  refine own_enterH (own := "java/lang/Long") rfl (plainFor_of_name pn_java_lang_Long) (fun m => ef_own_lv m a1) ?_
  intro p e s m below meth c s₁ Bd hZH hh hx hby hml hown hnm X0 e0
  have hZ := hZH.wide
  have Y := And.intro hx hby
  have hw := hW.1
  have N0 := Fr.nil n0
  have K0 := Keep.refl h0 []
  obtain ⟨T11, X11, e11, st11⟩ := own_gF X0 Y hZ hown (tw_ hw 101 rfl) e0 F1 (g := (mkF m 1 #[vr a1] [(.ref a1)])) rfl rfl d3_1
  refine own_gs ?_ (own_go st11 ?_)
  · exact own_a X0 Y d3_0 rfl rfl (Steps.refl _)
  exact own_rJ X11 Bd (hb hby d3_4) e11 (⟨rfl, N0, rfl⟩) rfl rfl
abbrev own_c4 : ByteArray := jdk_18_method_1_code
def own_nin_Q (Z : State) (b1 : Nat) (h0 : Heap) (n0 : Nat) (v : Option Value) (h : Heap) (L : List Loc) : Prop := v = none ∧ Fr n0 L ∧ h = h0
theorem pn_java_lang_Number : plainName "java/lang/Number" = true := by first | (simp [plainName, overriddenIn]; done) | decide +kernel
theorem ef_own_nin (m : MethodId) (x0 : Nat) : entryFrame m #[(.ref x0)] 1 = mkF m 0 #[vr x0] [] := by first | (simp [entryFrame, mkF, argsToLocals, Value.category]; done) | rfl
abbrev own_y4 : MethodName := ⟨"java/lang/Number", "<init>", "()V"⟩
theorem d4_0 : decode own_c4 0 = .ok (.aload_n 0, 1) := by decide +kernel
theorem d4_1 : decode own_c4 1 = .ok (.invokespecial 1, 3) := by decide +kernel
theorem d4_4 : decode own_c4 4 = .ok (.return_, 1) := by decide +kernel
set_option maxRecDepth 65536 in
set_option maxHeartbeats 40000000 in
theorem own_nin (l : Launch) (Z : State) (a0 : Array Value) (hW : own_W Z a0) (b1 : Nat) (h0 : Heap) (n0 : Nat) (Z0 : n0 ≤ h0.size) (O0 : Old Z n0 h0)  :
    own_MH l own_y4 own_c4 1 none (own_r 1 0 0 13) #[(.ref b1)] Z h0 (own_nin_Q Z b1 h0 n0) := by
  refine own_enterH (own := "java/lang/Number") rfl (plainFor_of_name pn_java_lang_Number) (fun m => ef_own_nin m b1) ?_
  intro p e s m below meth c s₁ Bd hZH hh hx hby hml hown hnm X0 e0
  have hZ := hZH.wide
  have Y := And.intro hx hby
  have hw := hW.1
  have N0 := Fr.nil n0
  have K0 := Keep.refl h0 []
  obtain ⟨T11, X11, e11, st11⟩ := initO X0 hx hZ hown (tw_ hw 100 rfl) (tw_ hw 7 rfl) (tw_ hw 8 rfl) e0 (g := (mkF m 1 #[vr b1] [(.ref b1)])) rfl (by rw [hml]; rfl) rfl (hb hby d4_1) (by decide) (W := 0) (own_le rfl) (by decide)
  refine own_gs ?_ (own_go st11 ?_)
  · exact own_a X0 Y d4_0 rfl rfl (Steps.refl _)
  exact own_rV X11 Bd (hb hby d4_4) e11 (⟨rfl, N0, rfl⟩) rfl rfl
abbrev own_c5 : ByteArray := jdk_22_method_1_code
def own_aci_Q (Z : State) (b1 : Nat) (h0 : Heap) (n0 : Nat) (v : Option Value) (h : Heap) (L : List Loc) : Prop := v = none ∧ Fr n0 L ∧ h = h0
theorem pn_java_util_AbstractCollection : plainName "java/util/AbstractCollection" = true := by first | (simp [plainName, overriddenIn]; done) | decide +kernel
theorem ef_own_aci (m : MethodId) (x0 : Nat) : entryFrame m #[(.ref x0)] 1 = mkF m 0 #[vr x0] [] := by first | (simp [entryFrame, mkF, argsToLocals, Value.category]; done) | rfl
abbrev own_y5 : MethodName := ⟨"java/util/AbstractCollection", "<init>", "()V"⟩
theorem d5_0 : decode own_c5 0 = .ok (.aload_n 0, 1) := by decide +kernel
theorem d5_1 : decode own_c5 1 = .ok (.invokespecial 1, 3) := by decide +kernel
theorem d5_4 : decode own_c5 4 = .ok (.return_, 1) := by decide +kernel
set_option maxRecDepth 65536 in
set_option maxHeartbeats 40000000 in
theorem own_aci (l : Launch) (Z : State) (a0 : Array Value) (hW : own_W Z a0) (b1 : Nat) (h0 : Heap) (n0 : Nat) (Z0 : n0 ≤ h0.size) (O0 : Old Z n0 h0)  :
    own_MH l own_y5 own_c5 1 none (own_r 1 0 0 13) #[(.ref b1)] Z h0 (own_aci_Q Z b1 h0 n0) := by
  refine own_enterH (own := "java/util/AbstractCollection") rfl (plainFor_of_name pn_java_util_AbstractCollection) (fun m => ef_own_aci m b1) ?_
  intro p e s m below meth c s₁ Bd hZH hh hx hby hml hown hnm X0 e0
  have hZ := hZH.wide
  have Y := And.intro hx hby
  have hw := hW.1
  have N0 := Fr.nil n0
  have K0 := Keep.refl h0 []
  obtain ⟨T11, X11, e11, st11⟩ := initO X0 hx hZ hown (tw_ hw 42 rfl) (tw_ hw 7 rfl) (tw_ hw 8 rfl) e0 (g := (mkF m 1 #[vr b1] [(.ref b1)])) rfl (by rw [hml]; rfl) rfl (hb hby d5_1) (by decide) (W := 0) (own_le rfl) (by decide)
  refine own_gs ?_ (own_go st11 ?_)
  · exact own_a X0 Y d5_0 rfl rfl (Steps.refl _)
  exact own_rV X11 Bd (hb hby d5_4) e11 (⟨rfl, N0, rfl⟩) rfl rfl
abbrev own_c6 : ByteArray := jdk_71_method_1_code
def own_ami_Q (Z : State) (b1 : Nat) (h0 : Heap) (n0 : Nat) (v : Option Value) (h : Heap) (L : List Loc) : Prop := v = none ∧ Fr n0 L ∧ h = h0
theorem pn_java_util_AbstractMap : plainName "java/util/AbstractMap" = true := by first | (simp [plainName, overriddenIn]; done) | decide +kernel
theorem ef_own_ami (m : MethodId) (x0 : Nat) : entryFrame m #[(.ref x0)] 1 = mkF m 0 #[vr x0] [] := by first | (simp [entryFrame, mkF, argsToLocals, Value.category]; done) | rfl
abbrev own_y6 : MethodName := ⟨"java/util/AbstractMap", "<init>", "()V"⟩
theorem d6_0 : decode own_c6 0 = .ok (.aload_n 0, 1) := by decide +kernel
theorem d6_1 : decode own_c6 1 = .ok (.invokespecial 1, 3) := by decide +kernel
theorem d6_4 : decode own_c6 4 = .ok (.return_, 1) := by decide +kernel
set_option maxRecDepth 65536 in
set_option maxHeartbeats 40000000 in
theorem own_ami (l : Launch) (Z : State) (a0 : Array Value) (hW : own_W Z a0) (b1 : Nat) (h0 : Heap) (n0 : Nat) (Z0 : n0 ≤ h0.size) (O0 : Old Z n0 h0)  :
    own_MH l own_y6 own_c6 1 none (own_r 1 0 0 13) #[(.ref b1)] Z h0 (own_ami_Q Z b1 h0 n0) := by
  refine own_enterH (own := "java/util/AbstractMap") rfl (plainFor_of_name pn_java_util_AbstractMap) (fun m => ef_own_ami m b1) ?_
  intro p e s m below meth c s₁ Bd hZH hh hx hby hml hown hnm X0 e0
  have hZ := hZH.wide
  have Y := And.intro hx hby
  have hw := hW.1
  have N0 := Fr.nil n0
  have K0 := Keep.refl h0 []
  obtain ⟨T11, X11, e11, st11⟩ := initO X0 hx hZ hown (tw_ hw 21 rfl) (tw_ hw 7 rfl) (tw_ hw 8 rfl) e0 (g := (mkF m 1 #[vr b1] [(.ref b1)])) rfl (by rw [hml]; rfl) rfl (hb hby d6_1) (by decide) (W := 0) (own_le rfl) (by decide)
  refine own_gs ?_ (own_go st11 ?_)
  · exact own_a X0 Y d6_0 rfl rfl (Steps.refl _)
  exact own_rV X11 Bd (hb hby d6_4) e11 (⟨rfl, N0, rfl⟩) rfl rfl
abbrev own_c7 : ByteArray := jdk_35_method_26_code
def own_lin_Q (Z : State) (b1 : Nat) (x : Int64) (v0 : Value) (h0 : Heap) (n0 : Nat) (v : Option Value) (h : Heap) (L : List Loc) : Prop := v = none ∧ Fr n0 L ∧ Keep h0 h [b1] ∧ Exa Z h b1 "java/lang/Long" ∧ Fld Z h b1 "java/lang/Long" "value" "J" (.long x)
theorem ef_own_lin (m : MethodId) (x0 : Nat) (x1 : Int64) : entryFrame m #[(.ref x0), (.long x1)] 3 = mkF m 0 #[vr x0, vj x1, .second] [] := by first | (simp [entryFrame, mkF, argsToLocals, Value.category]; done) | rfl
abbrev own_y7 : MethodName := ⟨"java/lang/Long", "<init>", "(J)V"⟩
theorem d7_0 : decode own_c7 0 = .ok (.aload_n 0, 1) := by decide +kernel
theorem d7_1 : decode own_c7 1 = .ok (.invokespecial 270, 3) := by decide +kernel
theorem pd_2 : parseMethodDescriptor "()V" = some ⟨[], none⟩ := by decide +kernel
theorem d7_4 : decode own_c7 4 = .ok (.aload_n 0, 1) := by decide +kernel
theorem d7_5 : decode own_c7 5 = .ok (.lload_n 1, 1) := by decide +kernel
theorem d7_6 : decode own_c7 6 = .ok (.putfield 273, 3) := by decide +kernel
theorem d7_9 : decode own_c7 9 = .ok (.return_, 1) := by decide +kernel
set_option maxRecDepth 65536 in
set_option maxHeartbeats 40000000 in
theorem own_lin (l : Launch) (Z : State) (a0 : Array Value) (hW : own_W Z a0) (b1 : Nat) (x : Int64) (v0 : Value) (h0 : Heap) (n0 : Nat) (Z0 : n0 ≤ h0.size) (O0 : Old Z n0 h0) (E1 : Exa Z h0 b1 "java/lang/Long") (F1 : Fld Z h0 b1 "java/lang/Long" "value" "J" v0) (g1 : n0 ≤ b1) :
    own_MH l own_y7 own_c7 3 none (own_r 2 0 0 31) #[(.ref b1), (.long x)] Z h0 (own_lin_Q Z b1 x v0 h0 n0) := by
  refine own_enterH (own := "java/lang/Long") rfl (plainFor_of_name pn_java_lang_Long) (fun m => ef_own_lin m b1 x) ?_
  intro p e s m below meth c s₁ Bd hZH hh hx hby hml hown hnm X0 e0
  have hZ := hZH.wide
  have Y := And.intro hx hby
  have hw := hW.1
  have N0 := Fr.nil n0
  have K0 := Keep.refl h0 [b1]
  have lt1 := own_lt E1.lt
  obtain ⟨v11, T11, Lc11, X11, hQ11, st11⟩ := own_make (own_nin l Z a0 hW b1 h0 n0 Z0 O0) X0 Y hZH hown (tw_ hw 94 rfl) (tw_ hw 95 rfl) (tw_ hw 99 rfl) (tw_ hw 98 rfl) (by decide) rfl e0 (a := b1) (g := (mkF m 1 #[vr b1, vj x, ss] [(.ref b1)])) rfl hml.symm (argsL := []) (rest := []) (lenOf pd_2 rfl) rfl d7_1
  obtain ⟨rfl, Nq11, eh11⟩ := hQ11
  have N11 := Fr.app N0 Nq11
  refine own_gs ?_ (own_gs st11 ?_)
  · exact own_a X0 Y d7_0 rfl rfl (Steps.refl _)
  obtain ⟨T12, h12, X12, e12, W12, st12⟩ := putF X11 hx hZ hown (host := "") (Or.inl (tw_ hw 101 rfl)) Via.refl eh11 F1 E1 (Or.inr ⟨(tw_ hw 102 rfl), rfl, hnm⟩) (tw_ hw 89 rfl) (ty := .long) (by decide) rfl rfl (g := (mkF m 6 #[vr b1, vj x, ss] [(.long x), (.ref b1)])) rfl rfl (hb hby d7_6)
  have F12 := F1.same W12
  refine own_gs ?_ (own_go st12 ?_)
  · refine own_a X11 Y d7_4 rfl rfl ?_
    exact XS.lloadN X11.here hx rfl (hb hby d7_5) rfl (Steps.refl _)
  obtain ⟨z13, Zz13, K13, O13, N13⟩ := own_eW W12 Z0 K0 O0 N11 (own_i 0 rfl) (by omega)
  have f14 := (E1.wr W12)
  exact own_rV X12 Bd (hb hby d7_9) e12 (⟨rfl, N13, K13, f14, F12⟩) rfl rfl
abbrev own_c8 : ByteArray := jdk_35_method_24_code
def own_lvo_Q (Z : State) (x : Int64) (h0 : Heap) (n0 : Nat) (v : Option Value) (h : Heap) (L : List Loc) : Prop := ∃ a : Nat, v = some (.ref a) ∧ Fr n0 L ∧ Keep h0 h [] ∧ Exa Z h a "java/lang/Long" ∧ Fld Z h a "java/lang/Long" "value" "J" (.long x)
theorem ef_own_lvo (m : MethodId) (x0 : Int64) : entryFrame m #[(.long x0)] 3 = mkF m 0 #[vj x0, .second, .unset] [] := by first | (simp [entryFrame, mkF, argsToLocals, Value.category]; done) | rfl
abbrev own_y8 : MethodName := ⟨"java/lang/Long", "valueOf", "(J)Ljava/lang/Long;"⟩
theorem d8_0 : decode own_c8 0 = .ok (.sipush 128, 3) := by decide +kernel
theorem d8_3 : decode own_c8 3 = .ok (.istore_n 2, 1) := by decide +kernel
theorem d8_4 : decode own_c8 4 = .ok (.lload_n 0, 1) := by decide +kernel
theorem d8_5 : decode own_c8 5 = .ok (.ldc2_w 230, 3) := by decide +kernel
theorem d8_8 : decode own_c8 8 = .ok (.lcmp, 1) := by decide +kernel
theorem d8_9 : decode own_c8 9 = .ok (.ifCond .lt 22, 3) := by decide +kernel
theorem d8_31 : decode own_c8 31 = .ok (.new 1, 3) := by decide +kernel
theorem d8_34 : decode own_c8 34 = .ok (.dup, 1) := by decide +kernel
theorem d8_35 : decode own_c8 35 = .ok (.lload_n 0, 1) := by decide +kernel
theorem d8_36 : decode own_c8 36 = .ok (.invokespecial 240, 3) := by decide +kernel
theorem pd_3 : parseMethodDescriptor "(J)V" = some ⟨[.long], none⟩ := by decide +kernel
theorem d8_39 : decode own_c8 39 = .ok (.areturn, 1) := by decide +kernel
theorem d8_12 : decode own_c8 12 = .ok (.lload_n 0, 1) := by decide +kernel
theorem d8_13 : decode own_c8 13 = .ok (.ldc2_w 232, 3) := by decide +kernel
theorem d8_16 : decode own_c8 16 = .ok (.lcmp, 1) := by decide +kernel
theorem d8_17 : decode own_c8 17 = .ok (.ifCond .gt 14, 3) := by decide +kernel
theorem d8_20 : decode own_c8 20 = .ok (.getstatic 234, 3) := by decide +kernel
theorem d8_23 : decode own_c8 23 = .ok (.lload_n 0, 1) := by decide +kernel
theorem d8_24 : decode own_c8 24 = .ok (.l2i, 1) := by decide +kernel
theorem d8_25 : decode own_c8 25 = .ok (.sipush 128, 3) := by decide +kernel
theorem d8_28 : decode own_c8 28 = .ok (.iadd, 1) := by decide +kernel
theorem d8_29 : decode own_c8 29 = .ok (.aaload, 1) := by decide +kernel
theorem d8_30 : decode own_c8 30 = .ok (.areturn, 1) := by decide +kernel
set_option maxRecDepth 65536 in
set_option maxHeartbeats 40000000 in
theorem own_lvo (l : Launch) (Z : State) (a0 : Array Value) (hW : own_W Z a0) (x : Int64) (h0 : Heap) (n0 : Nat) (Z0 : n0 ≤ h0.size) (O0 : Old Z n0 h0)  :
    own_MH l own_y8 own_c8 3 (some (.object "java/lang/Long")) (own_r 3 1 1 51) #[(.long x)] Z h0 (own_lvo_Q Z x h0 n0) := by
  refine own_enterH (own := "java/lang/Long") rfl (plainFor_of_name pn_java_lang_Long) (fun m => ef_own_lvo m x) ?_
  intro p e s m below meth c s₁ Bd hZH hh hx hby hml hown hnm X0 e0
  have hZ := hZH.wide
  have Y := And.intro hx hby
  obtain ⟨hw, Oh, ⟨ci, Ai, Oi, Ari, szi, eli⟩, ⟨cl, Al, Ol, Arl, szl, ell⟩⟩ := id hW
  have N0 := Fr.nil n0
  have K0 := Keep.refl h0 []
  refine own_gs (cur' := s₁.setTop (mkF m 9 #[vj x, ss, vi (128 : Int32)] [(.int (lcmpW x (-128 : Int64)))])) ?_ ?_
  · refine XS.sipush X0.here hx rfl (hb hby d8_0) ?_
    refine XS.istoreN X0.here hx rfl (hb hby d8_3) rfl (l' := #[vj x, ss, vi (128 : Int32)]) rfl ?_
    refine XS.lloadN X0.here hx rfl (hb hby d8_4) rfl ?_
    refine X0.ldc2Long hx hown (mvT hZ (tw_ hw 87 rfl)) (g := (mkF m 5 #[vj x, ss, vi (128 : Int32)] [(.long x)])) rfl (hb hby d8_5) _ ?_
    exact XS.lcmp X0.here hx rfl (hb hby d8_8) rfl (Steps.refl _)
  by_cases hc9_11 : x < (-128 : Int64)
  · obtain ⟨T12, h12, X12, e12, E12, A12, D12, -, st12⟩ := newO X0 hx hZ hown (tw_ hw 88 rfl) (tw_ hw 89 rfl) (tw_ hw 85 rfl) e0 (g := (mkF m 31 #[vj x, ss, vi (128 : Int32)] [])) rfl (hb hby d8_31) (by decide) (by decide)
    obtain ⟨b12, g12⟩ : ∃ z, z = h0.size := ⟨_, rfl⟩
    rw [← g12] at A12 D12 st12
    have lt12 := own_lt A12.lt
    refine own_gs ?_ (own_go st12 ?_)
    · exact XS.ifYes X0.here hx rfl (pc0 := 9) (pc' := 31) rfl (hb hby d8_9) rfl ((if0 _ _).trans (tlt ((own_lt64 hc9_11) : (lcmpW x (-128 : Int64)) < (0 : Int32))).1) (by decide) (by decide) (Steps.refl _)
    have z13 := E12.1
    have Zz13 := Nat.le_trans Z0 z13
    have K13 := K0.ext E12
    have O13 := O0.ext E12
    have F12_value : Fld Z h12 b12 "java/lang/Long" "value" "J" (.long (0 : Int64)) := D12 (Or.inr (tw_ hw 102 rfl)) (ty := .long) (by decide)
    obtain ⟨v14, T14, Lc14, X14, hQ14, st14⟩ := own_make (own_lin l Z a0 hW b12 x (.long (0 : Int64)) h12 n0 Zz13 O13 A12 F12_value (by omega)) X12 Y hZH hown (tw_ hw 90 rfl) (tw_ hw 91 rfl) (tw_ hw 93 rfl) (tw_ hw 85 rfl) (by decide) rfl e12 (a := b12) (g := (mkF m 36 #[vj x, ss, vi (128 : Int32)] [(.long x), (.ref b12), (.ref b12)])) rfl hml.symm (argsL := [(.long x)]) (rest := [(.ref b12)]) (lenOf pd_3 rfl) rfl d8_36
    obtain ⟨rfl, Nq14, Kq14, a14, c14⟩ := hQ14
    have N14 := Fr.app N0 Nq14
    obtain ⟨z15, Zz15, K15, O15⟩ := own_eK Kq14 Zz13 K13 O13 (allS (Or.inr (by omega)) all0) (allS (by omega) all0)
    refine own_gs ?_ (own_gs st14 ?_)
    · refine own_du X12 Y d8_34 rfl rfl ?_
      exact XS.lloadN X12.here hx rfl (hb hby d8_35) rfl (Steps.refl _)
    exact own_rA X14 Bd rfl (v := (.ref b12)) rfl (hb hby d8_39) rfl (⟨_, rfl, N14, K15, a14, c14⟩) rfl rfl
  · refine own_gs (cur' := s₁.setTop (mkF m 17 #[vj x, ss, vi (128 : Int32)] [(.int (lcmpW x (127 : Int64)))])) ?_ ?_
    · refine XS.ifNo X0.here hx rfl (hb hby d8_9) rfl ((if0 _ _).trans (flt ((own_nlt64 hc9_11) : ¬ ((lcmpW x (-128 : Int64)) < (0 : Int32)))).1) ?_
      refine XS.lloadN X0.here hx rfl (hb hby d8_12) rfl ?_
      refine X0.ldc2Long hx hown (mvT hZ (tw_ hw 185 rfl)) (g := (mkF m 13 #[vj x, ss, vi (128 : Int32)] [(.long x)])) rfl (hb hby d8_13) _ ?_
      exact XS.lcmp X0.here hx rfl (hb hby d8_16) rfl (Steps.refl _)
    by_cases hc17_16 : (127 : Int64) < x
    · obtain ⟨T17, h17, X17, e17, E17, A17, D17, -, st17⟩ := newO X0 hx hZ hown (tw_ hw 88 rfl) (tw_ hw 89 rfl) (tw_ hw 85 rfl) e0 (g := (mkF m 31 #[vj x, ss, vi (128 : Int32)] [])) rfl (hb hby d8_31) (by decide) (by decide)
      obtain ⟨b17, g17⟩ : ∃ z, z = h0.size := ⟨_, rfl⟩
      rw [← g17] at A17 D17 st17
      have lt17 := own_lt A17.lt
      refine own_gs ?_ (own_go st17 ?_)
      · exact XS.ifYes X0.here hx rfl (pc0 := 17) (pc' := 31) rfl (hb hby d8_17) rfl ((if0 _ _).trans (tlt ((own_gt64 hc17_16) : (0 : Int32) < (lcmpW x (127 : Int64)))).2.2.1) (by decide) (by decide) (Steps.refl _)
      have z18 := E17.1
      have Zz18 := Nat.le_trans Z0 z18
      have K18 := K0.ext E17
      have O18 := O0.ext E17
      have F17_value : Fld Z h17 b17 "java/lang/Long" "value" "J" (.long (0 : Int64)) := D17 (Or.inr (tw_ hw 102 rfl)) (ty := .long) (by decide)
      obtain ⟨v19, T19, Lc19, X19, hQ19, st19⟩ := own_make (own_lin l Z a0 hW b17 x (.long (0 : Int64)) h17 n0 Zz18 O18 A17 F17_value (by omega)) X17 Y hZH hown (tw_ hw 90 rfl) (tw_ hw 91 rfl) (tw_ hw 93 rfl) (tw_ hw 85 rfl) (by decide) rfl e17 (a := b17) (g := (mkF m 36 #[vj x, ss, vi (128 : Int32)] [(.long x), (.ref b17), (.ref b17)])) rfl hml.symm (argsL := [(.long x)]) (rest := [(.ref b17)]) (lenOf pd_3 rfl) rfl d8_36
      obtain ⟨rfl, Nq19, Kq19, a19, c19⟩ := hQ19
      have N19 := Fr.app N0 Nq19
      obtain ⟨z20, Zz20, K20, O20⟩ := own_eK Kq19 Zz18 K18 O18 (allS (Or.inr (by omega)) all0) (allS (by omega) all0)
      refine own_gs ?_ (own_gs st19 ?_)
      · refine own_du X17 Y d8_34 rfl rfl ?_
        exact XS.lloadN X17.here hx rfl (hb hby d8_35) rfl (Steps.refl _)
      exact own_rA X19 Bd rfl (v := (.ref b17)) rfl (hb hby d8_39) rfl (⟨_, rfl, N19, K20, a19, c19⟩) rfl rfl
    · obtain ⟨T21, X21, e21, st21⟩ := getS2 X0 hx hZ hown (host := "") (Or.inl (tw_ hw 186 rfl)) Via.refl e0 (Ol.ext O0.2) (g := (mkF m 20 #[vj x, ss, vi (128 : Int32)] [])) rfl (hb hby d8_20)
      refine own_gs ?_ (own_go st21 ?_)
      · exact XS.ifNo X0.here hx rfl (hb hby d8_17) rfl ((if0 _ _).trans (flt ((own_ngt64 hc17_16) : ¬ ((0 : Int32) < (lcmpW x (127 : Int64))))).2.2.1) (Steps.refl _)
      refine own_gs (cur' := T21.setTop (mkF m 29 #[vj x, ss, vi (128 : Int32)] [(.int ((x.toInt32) + (128 : Int32))), (.ref cl)])) ?_ ?_
      · refine XS.lloadN X21.here hx rfl (hb hby d8_23) rfl ?_
        refine XS.l2i X21.here hx rfl (hb hby d8_24) rfl ?_
        refine XS.sipush X21.here hx rfl (hb hby d8_25) ?_
        exact XS.iadd X21.here hx rfl (hb hby d8_28) rfl (Steps.refl _)
      have pk := LongBox.place_okL x hc9_11 hc17_16
      obtain ⟨x1, q1, q2, q3⟩ := ell _ pk.2
      rw [LongBox.place_valL x hc9_11 hc17_16] at q3
      refine own_go (X21.aaload hx (j := ((x.toInt32) + (128 : Int32))) (v := .ref x1) (by rw [e21]; exact O0.2.2 _ _ Arl.1) (State.isArrayOf_alike hZ.alike Arl.2.1) rfl Arl.2.2 (by rw [szl]; exact pk.1) q1 (g := (mkF m 29 #[vj x, ss, vi (128 : Int32)] [(.int ((x.toInt32) + (128 : Int32))), (.ref cl)])) rfl rfl (hb hby d8_29)) ?_
      have Eq1 := q2.ext O0.2
      have Fq1 := q3.ext O0.2
      exact own_rA X21 Bd rfl (v := (.ref x1)) rfl (hb hby d8_30) e21 (⟨_, rfl, N0, K0, Eq1, Fq1⟩) rfl rfl
abbrev own_c9 : ByteArray := jdk_33_method_22_code
def own_ivo1_Q (Z : State)  (h0 : Heap) (n0 : Nat) (v : Option Value) (h : Heap) (L : List Loc) : Prop := (∃ a : Nat, v = some (.ref a)) ∧ Fr n0 L ∧ h = h0
theorem pn_java_lang_Integer : plainName "java/lang/Integer" = true := by first | (simp [plainName, overriddenIn]; done) | decide +kernel
theorem ef_own_ivo1 (m : MethodId) (x0 : Int32) : entryFrame m #[(.int x0)] 1 = mkF m 0 #[vi x0] [] := by first | (simp [entryFrame, mkF, argsToLocals, Value.category]; done) | rfl
abbrev own_y9 : MethodName := ⟨"java/lang/Integer", "valueOf", "(I)Ljava/lang/Integer;"⟩
theorem d9_0 : decode own_c9 0 = .ok (.iload_n 0, 1) := by decide +kernel
theorem d9_1 : decode own_c9 1 = .ok (.bipush (-128), 2) := by decide +kernel
theorem d9_3 : decode own_c9 3 = .ok (.if_icmp .lt 20, 3) := by decide +kernel
theorem d9_6 : decode own_c9 6 = .ok (.iload_n 0, 1) := by decide +kernel
theorem d9_7 : decode own_c9 7 = .ok (.getstatic 191, 3) := by decide +kernel
theorem d9_10 : decode own_c9 10 = .ok (.if_icmp .gt 13, 3) := by decide +kernel
theorem d9_13 : decode own_c9 13 = .ok (.getstatic 195, 3) := by decide +kernel
theorem d9_16 : decode own_c9 16 = .ok (.iload_n 0, 1) := by decide +kernel
theorem d9_17 : decode own_c9 17 = .ok (.sipush 128, 3) := by decide +kernel
theorem d9_20 : decode own_c9 20 = .ok (.iadd, 1) := by decide +kernel
theorem d9_21 : decode own_c9 21 = .ok (.aaload, 1) := by decide +kernel
theorem d9_22 : decode own_c9 22 = .ok (.areturn, 1) := by decide +kernel
set_option maxRecDepth 65536 in
set_option maxHeartbeats 40000000 in
theorem own_ivo1 (l : Launch) (Z : State) (a0 : Array Value) (hW : own_W Z a0)  (h0 : Heap) (n0 : Nat) (Z0 : n0 ≤ h0.size) (O0 : Old Z n0 h0)  :
    own_MH l own_y9 own_c9 1 (some (.object "java/lang/Integer")) (own_r 0 0 0 0) #[(.int (1 : Int32))] Z h0 (own_ivo1_Q Z  h0 n0) := by
  refine own_enterH (own := "java/lang/Integer") rfl (plainFor_of_name pn_java_lang_Integer) (fun m => ef_own_ivo1 m (1 : Int32)) ?_
  intro p e s m below meth c s₁ Bd hZH hh hx hby hml hown hnm X0 e0
  have hZ := hZH.wide
  have Y := And.intro hx hby
  obtain ⟨hw, Oh, ⟨ci, Ai, Oi, Ari, szi, eli⟩, ⟨cl, Al, Ol, Arl, szl, ell⟩⟩ := id hW
  have N0 := Fr.nil n0
  have K0 := Keep.refl h0 []
  obtain ⟨T11, X11, e11, st11⟩ := getS2 X0 hx hZ hown (host := "") (Or.inl (tw_ hw 62 rfl)) Via.refl e0 (Oh.ext O0.2) (g := (mkF m 7 #[vi (1 : Int32)] [(.int (1 : Int32))])) rfl (hb hby d9_7)
  refine own_gs ?_ (own_go st11 ?_)
  · refine XS.iloadN X0.here hx rfl (hb hby d9_0) rfl ?_
    refine XS.bipush X0.here hx rfl (hb hby d9_1) ?_
    refine XS.icmpNo X0.here hx rfl (hb hby d9_3) rfl (flt ((by decide) : ¬ ((1 : Int32) < (-128 : Int32)))).1 ?_
    exact XS.iloadN X0.here hx rfl (hb hby d9_6) rfl (Steps.refl _)
  obtain ⟨T12, X12, e12, st12⟩ := getS2 X11 hx hZ hown (host := "") (Or.inl (tw_ hw 64 rfl)) Via.refl e11 (Oi.ext O0.2) (g := (mkF m 13 #[vi (1 : Int32)] [])) rfl (hb hby d9_13)
  refine own_gs ?_ (own_go st12 ?_)
  · exact XS.icmpNo X11.here hx rfl (hb hby d9_10) rfl (flt ((by decide) : ¬ ((127 : Int32) < (1 : Int32)))).2.2.1 (Steps.refl _)
  refine own_gs (cur' := T12.setTop (mkF m 21 #[vi (1 : Int32)] [(.int (129 : Int32)), (.ref ci)])) ?_ ?_
  · refine XS.iloadN X12.here hx rfl (hb hby d9_16) rfl ?_
    refine XS.sipush X12.here hx rfl (hb hby d9_17) ?_
    exact XS.iadd X12.here hx rfl (hb hby d9_20) rfl (Steps.refl _)
  obtain ⟨x1, q1⟩ := eli 129 (by decide)
  refine own_go (X12.aaload hx (j := (129 : Int32)) (v := .ref x1) (by rw [e12]; exact O0.2.2 _ _ Ari.1) (State.isArrayOf_alike hZ.alike Ari.2.1) rfl Ari.2.2 (by rw [szi]; decide) q1 (g := (mkF m 21 #[vi (1 : Int32)] [(.int (129 : Int32)), (.ref ci)])) rfl rfl (hb hby d9_21)) ?_
  exact own_rA X12 Bd rfl (v := (.ref x1)) rfl (hb hby d9_22) e12 (⟨⟨_, rfl⟩, N0, rfl⟩) rfl rfl
def own_ivo2_Q (Z : State)  (h0 : Heap) (n0 : Nat) (v : Option Value) (h : Heap) (L : List Loc) : Prop := (∃ a : Nat, v = some (.ref a)) ∧ Fr n0 L ∧ h = h0
theorem ef_own_ivo2 (m : MethodId) (x0 : Int32) : entryFrame m #[(.int x0)] 1 = mkF m 0 #[vi x0] [] := by first | (simp [entryFrame, mkF, argsToLocals, Value.category]; done) | rfl
set_option maxRecDepth 65536 in
set_option maxHeartbeats 40000000 in
theorem own_ivo2 (l : Launch) (Z : State) (a0 : Array Value) (hW : own_W Z a0)  (h0 : Heap) (n0 : Nat) (Z0 : n0 ≤ h0.size) (O0 : Old Z n0 h0)  :
    own_MH l own_y9 own_c9 1 (some (.object "java/lang/Integer")) (own_r 0 0 0 0) #[(.int (2 : Int32))] Z h0 (own_ivo2_Q Z  h0 n0) := by
  refine own_enterH (own := "java/lang/Integer") rfl (plainFor_of_name pn_java_lang_Integer) (fun m => ef_own_ivo2 m (2 : Int32)) ?_
  intro p e s m below meth c s₁ Bd hZH hh hx hby hml hown hnm X0 e0
  have hZ := hZH.wide
  have Y := And.intro hx hby
  obtain ⟨hw, Oh, ⟨ci, Ai, Oi, Ari, szi, eli⟩, ⟨cl, Al, Ol, Arl, szl, ell⟩⟩ := id hW
  have N0 := Fr.nil n0
  have K0 := Keep.refl h0 []
  obtain ⟨T11, X11, e11, st11⟩ := getS2 X0 hx hZ hown (host := "") (Or.inl (tw_ hw 62 rfl)) Via.refl e0 (Oh.ext O0.2) (g := (mkF m 7 #[vi (2 : Int32)] [(.int (2 : Int32))])) rfl (hb hby d9_7)
  refine own_gs ?_ (own_go st11 ?_)
  · refine XS.iloadN X0.here hx rfl (hb hby d9_0) rfl ?_
    refine XS.bipush X0.here hx rfl (hb hby d9_1) ?_
    refine XS.icmpNo X0.here hx rfl (hb hby d9_3) rfl (flt ((by decide) : ¬ ((2 : Int32) < (-128 : Int32)))).1 ?_
    exact XS.iloadN X0.here hx rfl (hb hby d9_6) rfl (Steps.refl _)
  obtain ⟨T12, X12, e12, st12⟩ := getS2 X11 hx hZ hown (host := "") (Or.inl (tw_ hw 64 rfl)) Via.refl e11 (Oi.ext O0.2) (g := (mkF m 13 #[vi (2 : Int32)] [])) rfl (hb hby d9_13)
  refine own_gs ?_ (own_go st12 ?_)
  · exact XS.icmpNo X11.here hx rfl (hb hby d9_10) rfl (flt ((by decide) : ¬ ((127 : Int32) < (2 : Int32)))).2.2.1 (Steps.refl _)
  refine own_gs (cur' := T12.setTop (mkF m 21 #[vi (2 : Int32)] [(.int (130 : Int32)), (.ref ci)])) ?_ ?_
  · refine XS.iloadN X12.here hx rfl (hb hby d9_16) rfl ?_
    refine XS.sipush X12.here hx rfl (hb hby d9_17) ?_
    exact XS.iadd X12.here hx rfl (hb hby d9_20) rfl (Steps.refl _)
  obtain ⟨x1, q1⟩ := eli 130 (by decide)
  refine own_go (X12.aaload hx (j := (130 : Int32)) (v := .ref x1) (by rw [e12]; exact O0.2.2 _ _ Ari.1) (State.isArrayOf_alike hZ.alike Ari.2.1) rfl Ari.2.2 (by rw [szi]; decide) q1 (g := (mkF m 21 #[vi (2 : Int32)] [(.int (130 : Int32)), (.ref ci)])) rfl rfl (hb hby d9_21)) ?_
  exact own_rA X12 Bd rfl (v := (.ref x1)) rfl (hb hby d9_22) e12 (⟨⟨_, rfl⟩, N0, rfl⟩) rfl rfl
def own_ivo3_Q (Z : State)  (h0 : Heap) (n0 : Nat) (v : Option Value) (h : Heap) (L : List Loc) : Prop := (∃ a : Nat, v = some (.ref a)) ∧ Fr n0 L ∧ h = h0
theorem ef_own_ivo3 (m : MethodId) (x0 : Int32) : entryFrame m #[(.int x0)] 1 = mkF m 0 #[vi x0] [] := by first | (simp [entryFrame, mkF, argsToLocals, Value.category]; done) | rfl
set_option maxRecDepth 65536 in
set_option maxHeartbeats 40000000 in
theorem own_ivo3 (l : Launch) (Z : State) (a0 : Array Value) (hW : own_W Z a0)  (h0 : Heap) (n0 : Nat) (Z0 : n0 ≤ h0.size) (O0 : Old Z n0 h0)  :
    own_MH l own_y9 own_c9 1 (some (.object "java/lang/Integer")) (own_r 0 0 0 0) #[(.int (3 : Int32))] Z h0 (own_ivo3_Q Z  h0 n0) := by
  refine own_enterH (own := "java/lang/Integer") rfl (plainFor_of_name pn_java_lang_Integer) (fun m => ef_own_ivo3 m (3 : Int32)) ?_
  intro p e s m below meth c s₁ Bd hZH hh hx hby hml hown hnm X0 e0
  have hZ := hZH.wide
  have Y := And.intro hx hby
  obtain ⟨hw, Oh, ⟨ci, Ai, Oi, Ari, szi, eli⟩, ⟨cl, Al, Ol, Arl, szl, ell⟩⟩ := id hW
  have N0 := Fr.nil n0
  have K0 := Keep.refl h0 []
  obtain ⟨T11, X11, e11, st11⟩ := getS2 X0 hx hZ hown (host := "") (Or.inl (tw_ hw 62 rfl)) Via.refl e0 (Oh.ext O0.2) (g := (mkF m 7 #[vi (3 : Int32)] [(.int (3 : Int32))])) rfl (hb hby d9_7)
  refine own_gs ?_ (own_go st11 ?_)
  · refine XS.iloadN X0.here hx rfl (hb hby d9_0) rfl ?_
    refine XS.bipush X0.here hx rfl (hb hby d9_1) ?_
    refine XS.icmpNo X0.here hx rfl (hb hby d9_3) rfl (flt ((by decide) : ¬ ((3 : Int32) < (-128 : Int32)))).1 ?_
    exact XS.iloadN X0.here hx rfl (hb hby d9_6) rfl (Steps.refl _)
  obtain ⟨T12, X12, e12, st12⟩ := getS2 X11 hx hZ hown (host := "") (Or.inl (tw_ hw 64 rfl)) Via.refl e11 (Oi.ext O0.2) (g := (mkF m 13 #[vi (3 : Int32)] [])) rfl (hb hby d9_13)
  refine own_gs ?_ (own_go st12 ?_)
  · exact XS.icmpNo X11.here hx rfl (hb hby d9_10) rfl (flt ((by decide) : ¬ ((127 : Int32) < (3 : Int32)))).2.2.1 (Steps.refl _)
  refine own_gs (cur' := T12.setTop (mkF m 21 #[vi (3 : Int32)] [(.int (131 : Int32)), (.ref ci)])) ?_ ?_
  · refine XS.iloadN X12.here hx rfl (hb hby d9_16) rfl ?_
    refine XS.sipush X12.here hx rfl (hb hby d9_17) ?_
    exact XS.iadd X12.here hx rfl (hb hby d9_20) rfl (Steps.refl _)
  obtain ⟨x1, q1⟩ := eli 131 (by decide)
  refine own_go (X12.aaload hx (j := (131 : Int32)) (v := .ref x1) (by rw [e12]; exact O0.2.2 _ _ Ari.1) (State.isArrayOf_alike hZ.alike Ari.2.1) rfl Ari.2.2 (by rw [szi]; decide) q1 (g := (mkF m 21 #[vi (3 : Int32)] [(.int (131 : Int32)), (.ref ci)])) rfl rfl (hb hby d9_21)) ?_
  exact own_rA X12 Bd rfl (v := (.ref x1)) rfl (hb hby d9_22) e12 (⟨⟨_, rfl⟩, N0, rfl⟩) rfl rfl
abbrev own_c10 : ByteArray := jdk_31_method_10_code
def own_rnn_Q (Z : State) (b1 : Nat) (h0 : Heap) (n0 : Nat) (v : Option Value) (h : Heap) (L : List Loc) : Prop := v = (some (.ref b1)) ∧ Fr n0 L ∧ h = h0
theorem pn_java_util_Objects : plainName "java/util/Objects" = true := by first | (simp [plainName, overriddenIn]; done) | decide +kernel
theorem ef_own_rnn (m : MethodId) (x0 : Nat) : entryFrame m #[(.ref x0)] 1 = mkF m 0 #[vr x0] [] := by first | (simp [entryFrame, mkF, argsToLocals, Value.category]; done) | rfl
abbrev own_y10 : MethodName := ⟨"java/util/Objects", "requireNonNull", "(Ljava/lang/Object;)Ljava/lang/Object;"⟩
theorem d10_0 : decode own_c10 0 = .ok (.aload_n 0, 1) := by decide +kernel
theorem d10_1 : decode own_c10 1 = .ok (.ifnonnull 11, 3) := by decide +kernel
theorem d10_12 : decode own_c10 12 = .ok (.aload_n 0, 1) := by decide +kernel
theorem d10_13 : decode own_c10 13 = .ok (.areturn, 1) := by decide +kernel
set_option maxRecDepth 65536 in
set_option maxHeartbeats 40000000 in
theorem own_rnn (l : Launch) (Z : State) (a0 : Array Value) (hW : own_W Z a0) (b1 : Nat) (h0 : Heap) (n0 : Nat) (Z0 : n0 ≤ h0.size) (O0 : Old Z n0 h0)  :
    own_MH l own_y10 own_c10 1 (some (.object "java/lang/Object")) (own_r 0 0 0 0) #[(.ref b1)] Z h0 (own_rnn_Q Z b1 h0 n0) := by
  refine own_enterH (own := "java/util/Objects") rfl (plainFor_of_name pn_java_util_Objects) (fun m => ef_own_rnn m b1) ?_
  intro p e s m below meth c s₁ Bd hZH hh hx hby hml hown hnm X0 e0
  have hZ := hZH.wide
  have Y := And.intro hx hby
  have hw := hW.1
  have N0 := Fr.nil n0
  have K0 := Keep.refl h0 []
  refine own_gs (cur' := s₁.setTop (mkF m 13 #[vr b1] [(.ref b1)])) ?_ ?_
  · refine own_a X0 Y d10_0 rfl rfl ?_
    refine XS.ifnonnullYes X0.here hx rfl (pc0 := 1) (pc' := 12) rfl (hb hby d10_1) rfl (by decide) (by decide) ?_
    exact own_a X0 Y d10_12 rfl rfl (Steps.refl _)
  exact own_rA X0 Bd rfl (v := (.ref b1)) rfl (hb hby d10_13) e0 (⟨rfl, N0, rfl⟩) rfl rfl
/-- the deque at d, its array at t, holds what stands in vs from a to b -/
def own_D (Z : State) (h : Heap) (d t : Nat) (k : ClassId) (a b : Nat) (vs : List Value) : Prop := Exa Z h d "java/util/ArrayDeque" ∧ Fld Z h d "java/util/ArrayDeque" "elements" "[Ljava/lang/Object;" (.ref t) ∧ Fld Z h d "java/util/ArrayDeque" "head" "I" (.int (Int32.ofNat a)) ∧ Fld Z h d "java/util/ArrayDeque" "tail" "I" (.int (Int32.ofNat b)) ∧ Arv Z h t k (.object "java/lang/Object") (17 : Int32) vs .null ∧ Ovr Z k "java/lang/Object"
section OwnD
variable {Z : State} {h h' : Heap} {d t : Nat} {k : ClassId} {a b : Nat} {vs : List Value} {ws : List Addr}
theorem own_D.ext (F : own_D Z h d t k a b vs) (E : Ext h h') : own_D Z h' d t k a b vs := ⟨F.1.ext E, F.2.1.ext E, F.2.2.1.ext E, F.2.2.2.1.ext E, F.2.2.2.2.1.ext E, F.2.2.2.2.2⟩
theorem own_D.keep (F : own_D Z h d t k a b vs) (K : Keep h h' ws) (q1 : d ∉ ws) (q2 : t ∉ ws) : own_D Z h' d t k a b vs := ⟨F.1.keep K, F.2.1.keep K q1, F.2.2.1.keep K q1, F.2.2.2.1.keep K q1, F.2.2.2.2.1.keep K q2, F.2.2.2.2.2⟩
theorem own_D.lt (F : own_D Z h d t k a b vs) : d < h.size ∧ t < h.size := ⟨F.1.lt, F.2.2.2.2.1.lt⟩
end OwnD
abbrev own_c11 : ByteArray := jdk_21_method_3_code
def own_adi_Q (Z : State) (d1 : Nat) (h0 : Heap) (n0 : Nat) (v : Option Value) (h : Heap) (L : List Loc) : Prop := ∃ (t : Nat) (k : ClassId), v = none ∧ Fr n0 L ∧ Keep h0 h [d1] ∧ own_D Z h d1 t k 0 0 (List.replicate 17 .null) ∧ h0.size ≤ t
theorem pn_java_util_ArrayDeque : plainName "java/util/ArrayDeque" = true := by first | (simp [plainName, overriddenIn]; done) | decide +kernel
theorem ef_own_adi (m : MethodId) (x0 : Nat) : entryFrame m #[(.ref x0)] 1 = mkF m 0 #[vr x0] [] := by first | (simp [entryFrame, mkF, argsToLocals, Value.category]; done) | rfl
abbrev own_y11 : MethodName := ⟨"java/util/ArrayDeque", "<init>", "()V"⟩
theorem d11_0 : decode own_c11 0 = .ok (.aload_n 0, 1) := by decide +kernel
theorem d11_1 : decode own_c11 1 = .ok (.invokespecial 42, 3) := by decide +kernel
theorem d11_4 : decode own_c11 4 = .ok (.aload_n 0, 1) := by decide +kernel
theorem d11_5 : decode own_c11 5 = .ok (.bipush 17, 2) := by decide +kernel
theorem d11_7 : decode own_c11 7 = .ok (.anewarray 47, 3) := by decide +kernel
theorem d11_10 : decode own_c11 10 = .ok (.putfield 3, 3) := by decide +kernel
theorem d11_13 : decode own_c11 13 = .ok (.return_, 1) := by decide +kernel
set_option maxRecDepth 65536 in
set_option maxHeartbeats 40000000 in
theorem own_adi (l : Launch) (Z : State) (a0 : Array Value) (hW : own_W Z a0) (d1 : Nat) (h0 : Heap) (n0 : Nat) (Z0 : n0 ≤ h0.size) (O0 : Old Z n0 h0) (E1 : Exa Z h0 d1 "java/util/ArrayDeque") (Fe1 : Fld Z h0 d1 "java/util/ArrayDeque" "elements" "[Ljava/lang/Object;" .null) (Fh1 : Fld Z h0 d1 "java/util/ArrayDeque" "head" "I" (.int (0 : Int32))) (Ft1 : Fld Z h0 d1 "java/util/ArrayDeque" "tail" "I" (.int (0 : Int32))) (g1 : n0 ≤ d1) :
    own_MH l own_y11 own_c11 1 none (own_r 2 1 17 31) #[(.ref d1)] Z h0 (own_adi_Q Z d1 h0 n0) := by
  refine own_enterH (own := "java/util/ArrayDeque") rfl (plainFor_of_name pn_java_util_ArrayDeque) (fun m => ef_own_adi m d1) ?_
  intro p e s m below meth c s₁ Bd hZH hh hx hby hml hown hnm X0 e0
  have hZ := hZH.wide
  have Y := And.intro hx hby
  have hw := hW.1
  have N0 := Fr.nil n0
  have K0 := Keep.refl h0 [d1]
  have lt1 := own_lt E1.lt
  obtain ⟨v11, T11, Lc11, X11, hQ11, st11⟩ := own_make (own_aci l Z a0 hW d1 h0 n0 Z0 O0) X0 Y hZH hown (tw_ hw 36 rfl) (tw_ hw 37 rfl) (tw_ hw 41 rfl) (tw_ hw 40 rfl) (by decide) rfl e0 (a := d1) (g := (mkF m 1 #[vr d1] [(.ref d1)])) rfl hml.symm (argsL := []) (rest := []) (lenOf pd_2 rfl) rfl d11_1
  obtain ⟨rfl, Nq11, eh11⟩ := hQ11
  have N11 := Fr.app N0 Nq11
  refine own_gs ?_ (own_gs st11 ?_)
  · exact own_a X0 Y d11_0 rfl rfl (Steps.refl _)
  obtain ⟨T12, h12, k12, X12, e12, E12, A12, ov12, st12⟩ := newR X11 hx hZ hown (tw_ hw 43 rfl) (tw_ hw 44 rfl) eh11 (g := (mkF m 7 #[vr d1] [(.int (17 : Int32)), (.ref d1)])) rfl (hb hby d11_7) rfl (by decide) (cap := 17) (by decide) (by decide) (by decide) (by decide)
  obtain ⟨b12, g12⟩ : ∃ z, z = h0.size := ⟨_, rfl⟩
  rw [← g12] at A12 st12
  have lt12 := own_lt A12.lt
  refine own_gs ?_ (own_go st12 ?_)
  · refine own_a X11 Y d11_4 rfl rfl ?_
    exact XS.bipush X11.here hx rfl (hb hby d11_5) (Steps.refl _)
  have z13 := E12.1
  have Zz13 := Nat.le_trans Z0 z13
  have K13 := K0.ext E12
  have O13 := O0.ext E12
  have V12 : Arv Z h12 b12 k12 (.object "java/lang/Object") (17 : Int32) (List.replicate 17 .null) .null := (Arv.new A12 (by decide)).pad (pad_rep [] .null 17)
  have f15 := (Fe1.ext E12)
  have f16 := (E1.ext E12)
  obtain ⟨T14, h14, X14, e14, W14, st14⟩ := own_pF X12 Y hZ hown (tw_ hw 45 rfl) e12 f15 f16 (tw_ hw 46 rfl) (tw_ hw 31 rfl) (ty := (.array (.object "java/lang/Object"))) (by decide) rfl rfl (g := (mkF m 10 #[vr d1] [(.ref b12), (.ref d1)])) rfl rfl d11_10
  have F14 := f15.same W14
  refine own_go st14 ?_
  obtain ⟨z17, Zz17, K17, O17, N17⟩ := own_eW W14 Zz13 K13 O13 N11 (own_i 0 rfl) (by omega)
  have f18 := (f16.wr W14)
  have f19 := ((Fh1.ext E12).other W14 (Or.inr (slot_ne (Or.inl (tw_ hw 181 rfl)) (Or.inl (tw_ hw 46 rfl)) (by decide) (t := .int) (t' := (.array (.object "java/lang/Object"))) (by decide) (by decide))))
  have f20 := ((Ft1.ext E12).other W14 (Or.inr (slot_ne (Or.inl (tw_ hw 178 rfl)) (Or.inl (tw_ hw 46 rfl)) (by decide) (t := .int) (t' := (.array (.object "java/lang/Object"))) (by decide) (by decide))))
  have f21 := (V12.other W14 (own_ne (a := b12) (b := d1) (by omega)))
  exact own_rV X14 Bd (hb hby d11_13) e14 (⟨_, _, rfl, N17, K17, ⟨f18, F14, f19, f20, f21, ov12⟩, (by omega)⟩) rfl rfl
abbrev own_c12 : ByteArray := jdk_21_method_6_code
def own_inc_Q (Z : State) (i : Nat) (h0 : Heap) (n0 : Nat) (v : Option Value) (h : Heap) (L : List Loc) : Prop := v = (some (.int (Int32.ofNat (i + 1)))) ∧ Fr n0 L ∧ h = h0
theorem ef_own_inc (m : MethodId) (x0 : Int32) (x1 : Int32) : entryFrame m #[(.int x0), (.int x1)] 2 = mkF m 0 #[vi x0, vi x1] [] := by first | (simp [entryFrame, mkF, argsToLocals, Value.category]; done) | rfl
abbrev own_y12 : MethodName := ⟨"java/util/ArrayDeque", "inc", "(II)I"⟩
theorem d12_0 : decode own_c12 0 = .ok (.iinc 0 1, 3) := by decide +kernel
theorem d12_3 : decode own_c12 3 = .ok (.iload_n 0, 1) := by decide +kernel
theorem d12_4 : decode own_c12 4 = .ok (.iload_n 1, 1) := by decide +kernel
theorem d12_5 : decode own_c12 5 = .ok (.if_icmp .lt 5, 3) := by decide +kernel
theorem d12_10 : decode own_c12 10 = .ok (.iload_n 0, 1) := by decide +kernel
theorem d12_11 : decode own_c12 11 = .ok (.ireturn, 1) := by decide +kernel
set_option maxRecDepth 65536 in
set_option maxHeartbeats 40000000 in
theorem own_inc (l : Launch) (Z : State) (a0 : Array Value) (hW : own_W Z a0) (i : Nat) (h0 : Heap) (n0 : Nat) (Z0 : n0 ≤ h0.size) (O0 : Old Z n0 h0) (hi : i < 16) :
    own_MH l own_y12 own_c12 2 (some .int) (own_r 0 0 0 0) #[(.int (Int32.ofNat i)), (.int (17 : Int32))] Z h0 (own_inc_Q Z i h0 n0) := by
  refine own_enterH (own := "java/util/ArrayDeque") rfl (plainFor_of_name pn_java_util_ArrayDeque) (fun m => ef_own_inc m (Int32.ofNat i) (17 : Int32)) ?_
  intro p e s m below meth c s₁ Bd hZH hh hx hby hml hown hnm X0 e0
  have hZ := hZH.wide
  have Y := And.intro hx hby
  have hw := hW.1
  have N0 := Fr.nil n0
  have K0 := Keep.refl h0 []
  refine own_gs (cur' := s₁.setTop (mkF m 3 #[vi ((Int32.ofNat i) + (1 : Int32)), vi (17 : Int32)] [])) ?_ ?_
  · exact XS.iinc X0.here hx rfl (hb hby d12_0) rfl (l' := #[vi ((Int32.ofNat i) + (1 : Int32)), vi (17 : Int32)]) rfl (Steps.refl _)
  rw [own_p1]
  show own_Fin p e below (s₁.setTop (mkF m 3 #[vi (Int32.ofNat (i + 1)), vi (17 : Int32)] [])) _
  refine own_gs (cur' := s₁.setTop (mkF m 11 #[vi (Int32.ofNat (i + 1)), vi (17 : Int32)] [(.int (Int32.ofNat (i + 1)))])) ?_ ?_
  · refine XS.iloadN X0.here hx rfl (hb hby d12_3) rfl ?_
    refine XS.iloadN X0.here hx rfl (hb hby d12_4) rfl ?_
    refine XS.icmpYes X0.here hx rfl (pc0 := 5) (pc' := 10) rfl (hb hby d12_5) rfl (tlt ((own_ltN (a := i + 1) (b := 17) (by omega) (by decide)) : (Int32.ofNat (i + 1)) < (17 : Int32))).1 (by decide) (by decide) ?_
    exact XS.iloadN X0.here hx rfl (hb hby d12_10) rfl (Steps.refl _)
  exact own_rI X0 Bd (hb hby d12_11) e0 (⟨rfl, N0, rfl⟩) rfl rfl
abbrev own_c13 : ByteArray := jdk_21_method_13_code
def own_adl_Q (Z : State) (d1 t1 : Nat) (k1 : ClassId) (a b : Nat) (vs : List Value) (e1 : Nat) (h0 : Heap) (n0 : Nat) (v : Option Value) (h : Heap) (L : List Loc) : Prop := v = none ∧ Fr n0 L ∧ Keep h0 h [d1, t1] ∧ own_D Z h d1 t1 k1 a (b + 1) (vs.set b (.ref e1))
theorem ef_own_adl (m : MethodId) (x0 : Nat) (x1 : Nat) : entryFrame m #[(.ref x0), (.ref x1)] 3 = mkF m 0 #[vr x0, vr x1, .unset] [] := by first | (simp [entryFrame, mkF, argsToLocals, Value.category]; done) | rfl
abbrev own_y13 : MethodName := ⟨"java/util/ArrayDeque", "addLast", "(Ljava/lang/Object;)V"⟩
theorem d13_0 : decode own_c13 0 = .ok (.aload_n 1, 1) := by decide +kernel
theorem d13_1 : decode own_c13 1 = .ok (.ifnonnull 11, 3) := by decide +kernel
theorem d13_12 : decode own_c13 12 = .ok (.aload_n 0, 1) := by decide +kernel
theorem d13_13 : decode own_c13 13 = .ok (.getfield 3, 3) := by decide +kernel
theorem d13_16 : decode own_c13 16 = .ok (.astore_n 2, 1) := by decide +kernel
theorem d13_17 : decode own_c13 17 = .ok (.aload_n 2, 1) := by decide +kernel
theorem d13_18 : decode own_c13 18 = .ok (.aload_n 0, 1) := by decide +kernel
theorem d13_19 : decode own_c13 19 = .ok (.getfield 20, 3) := by decide +kernel
theorem d13_22 : decode own_c13 22 = .ok (.aload_n 1, 1) := by decide +kernel
theorem d13_23 : decode own_c13 23 = .ok (.aastore, 1) := by decide +kernel
theorem d13_24 : decode own_c13 24 = .ok (.aload_n 0, 1) := by decide +kernel
theorem d13_25 : decode own_c13 25 = .ok (.getfield 24, 3) := by decide +kernel
theorem d13_28 : decode own_c13 28 = .ok (.aload_n 0, 1) := by decide +kernel
theorem d13_29 : decode own_c13 29 = .ok (.aload_n 0, 1) := by decide +kernel
theorem d13_30 : decode own_c13 30 = .ok (.getfield 20, 3) := by decide +kernel
theorem d13_33 : decode own_c13 33 = .ok (.aload_n 2, 1) := by decide +kernel
theorem d13_34 : decode own_c13 34 = .ok (.arraylength, 1) := by decide +kernel
theorem d13_35 : decode own_c13 35 = .ok (.invokestatic 74, 3) := by decide +kernel
theorem pd_4 : parseMethodDescriptor "(II)I" = some ⟨[.int, .int], some .int⟩ := by decide +kernel
theorem d13_38 : decode own_c13 38 = .ok (.dup_x1, 1) := by decide +kernel
theorem d13_39 : decode own_c13 39 = .ok (.putfield 20, 3) := by decide +kernel
theorem d13_42 : decode own_c13 42 = .ok (.if_icmp .ne 8, 3) := by decide +kernel
theorem d13_50 : decode own_c13 50 = .ok (.return_, 1) := by decide +kernel
set_option maxRecDepth 65536 in
set_option maxHeartbeats 40000000 in
theorem own_adl (l : Launch) (Z : State) (a0 : Array Value) (hW : own_W Z a0) (d1 t1 : Nat) (k1 : ClassId) (a b : Nat) (vs : List Value) (e1 : Nat) (h0 : Heap) (n0 : Nat) (Z0 : n0 ≤ h0.size) (O0 : Old Z n0 h0) (F1 : own_D Z h0 d1 t1 k1 a b vs) (Ee1 : Exa Z h0 e1 "com/example/capow/capow/service/AdmissionQueue$Entry") (ha : a ≤ b) (hbb : b < 16) (hl : vs.length = 17) (g1 : n0 ≤ d1) (g2 : n0 ≤ t1) (hne : d1 ≠ t1) :
    own_MH l own_y13 own_c13 3 none (own_r 1 0 0 19) #[(.ref d1), (.ref e1)] Z h0 (own_adl_Q Z d1 t1 k1 a b vs e1 h0 n0) := by
  refine own_enterH (own := "java/util/ArrayDeque") rfl (plainFor_of_name pn_java_util_ArrayDeque) (fun m => ef_own_adl m d1 e1) ?_
  intro p e s m below meth c s₁ Bd hZH hh hx hby hml hown hnm X0 e0
  have hZ := hZH.wide
  have Y := And.intro hx hby
  have hw := hW.1
  have N0 := Fr.nil n0
  have K0 := Keep.refl h0 [d1, t1]
  obtain ⟨E1, Fe1, Fh1, Ft1, V1, ov1⟩ := id F1
  have lt1 := F1.lt
  obtain ⟨T11, X11, e11, st11⟩ := own_gF X0 Y hZ hown (tw_ hw 45 rfl) e0 Fe1 (g := (mkF m 13 #[vr d1, vr e1, uu] [(.ref d1)])) rfl rfl d13_13
  refine own_gs ?_ (own_go st11 ?_)
  · refine own_a X0 Y d13_0 rfl rfl ?_
    refine XS.ifnonnullYes X0.here hx rfl (pc0 := 1) (pc' := 12) rfl (hb hby d13_1) rfl (by decide) (by decide) ?_
    exact own_a X0 Y d13_12 rfl rfl (Steps.refl _)
  obtain ⟨T12, X12, e12, st12⟩ := own_gF X11 Y hZ hown (tw_ hw 177 rfl) e11 Ft1 (g := (mkF m 19 #[vr d1, vr e1, vr t1] [(.ref d1), (.ref t1)])) rfl rfl d13_19
  refine own_gs ?_ (own_go st12 ?_)
  · refine XS.astoreN X11.here hx rfl (hb hby d13_16) rfl rfl (l' := #[vr d1, vr e1, vr t1]) rfl ?_
    refine own_a X11 Y d13_17 rfl rfl ?_
    exact own_a X11 Y d13_18 rfl rfl (Steps.refl _)
  obtain ⟨cl13, Ar13, q13, S13, M13, Hs13, G13⟩ := id V1
  have hin13 : ¬ ((Int32.ofNat b) < 0 ∨ cl13.slots.size ≤ ((Int32.ofNat b)).toNatClampNeg) := inb_of S13 (own_in (b := 17) (by omega) (by decide))
  obtain ⟨T13, h13, X13, e13, W13, st13⟩ := stR X12 hx hZ e12 Ar13 (j := (Int32.ofNat b)) hin13 rfl (Sto.of Ar13 (by rw [q13]; exact ov1) (Ins.of_exa Ee1 (tw_ hw 179 rfl))) (g := (mkF m 23 #[vr d1, vr e1, vr t1] [(.ref e1), (.int (Int32.ofNat b)), (.ref t1)])) rfl rfl (hb hby d13_23)
  have V13 := Arv.set Ar13 q13 S13 M13 Hs13 G13 (v := (.ref e1)) rfl W13 b (own_nat (by omega)) (by omega)
  refine own_gs ?_ (own_go st13 ?_)
  · exact own_a X12 Y d13_22 rfl rfl (Steps.refl _)
  obtain ⟨z14, Zz14, K14, O14, N14⟩ := own_eW W13 Z0 K0 O0 N0 (own_i 1 rfl) (by omega)
  have f16 := (Fh1.other W13 (Or.inl (own_ne (a := d1) (b := t1) (by omega))))
  obtain ⟨T15, X15, e15, st15⟩ := own_gF X13 Y hZ hown (tw_ hw 180 rfl) e13 f16 (g := (mkF m 25 #[vr d1, vr e1, vr t1] [(.ref d1)])) rfl rfl d13_25
  refine own_gs ?_ (own_go st15 ?_)
  · exact own_a X13 Y d13_24 rfl rfl (Steps.refl _)
  have f18 := (Ft1.other W13 (Or.inl (own_ne (a := d1) (b := t1) (by omega))))
  obtain ⟨T17, X17, e17, st17⟩ := own_gF X15 Y hZ hown (tw_ hw 177 rfl) e15 f18 (g := (mkF m 30 #[vr d1, vr e1, vr t1] [(.ref d1), (.ref d1), (.int (Int32.ofNat a))])) rfl rfl d13_30
  refine own_gs ?_ (own_go st17 ?_)
  · refine own_a X15 Y d13_28 rfl rfl ?_
    exact own_a X15 Y d13_29 rfl rfl (Steps.refl _)
  obtain ⟨cl19, Ar19, q19, S19, M19, Hs19, G19⟩ := id V13
  refine own_gs ?_ (own_go (X17.arraylength hx (by rw [e17]; exact Ar19.1) (State.isArrayOf_alike hZ.alike Ar19.2.1) (g := (mkF m 34 #[vr d1, vr e1, vr t1] [(.ref t1), (.int (Int32.ofNat b)), (.ref d1), (.int (Int32.ofNat a))])) rfl rfl (hb hby d13_34)) ?_)
  · exact own_a X17 Y d13_33 rfl rfl (Steps.refl _)
  rw [len_of S19 M19]
  show own_Fin p e below (T17.setTop (mkF m 35 #[vr d1, vr e1, vr t1] [(.int (17 : Int32)), (.int (Int32.ofNat b)), (.ref d1), (.int (Int32.ofNat a))])) _
  obtain ⟨v20, T20, Lc20, X20, hQ20, st20⟩ := own_stat (own_inc l Z a0 hW b h13 n0 Zz14 O14 (by omega)) X17 Y hZH hown (tw_ hw 182 rfl) (tw_ hw 183 rfl) (tw_ hw 184 rfl) (tw_ hw 32 rfl) (by decide) e17 (g := (mkF m 35 #[vr d1, vr e1, vr t1] [(.int (17 : Int32)), (.int (Int32.ofNat b)), (.ref d1), (.int (Int32.ofNat a))])) rfl hml.symm (argsL := [(.int (Int32.ofNat b)), (.int (17 : Int32))]) (rest := [(.ref d1), (.int (Int32.ofNat a))]) (lenOf pd_4 rfl) rfl d13_35
  obtain ⟨rfl, Nq20, eh20⟩ := hQ20
  have N20 := Fr.app N14 Nq20
  refine own_gs st20 ?_
  have f22 := (E1.wr W13)
  obtain ⟨T21, h21, X21, e21, W21, st21⟩ := own_pF X20 Y hZ hown (tw_ hw 177 rfl) eh20 f18 f22 (tw_ hw 178 rfl) (tw_ hw 31 rfl) (ty := .int) (by decide) rfl rfl (g := (mkF m 39 #[vr d1, vr e1, vr t1] [(.int (Int32.ofNat (b + 1))), (.ref d1), (.int (Int32.ofNat (b + 1))), (.int (Int32.ofNat a))])) rfl rfl d13_39
  have F21 := f18.same W21
  refine own_gs ?_ (own_go st21 ?_)
  · exact XS.dupX1 X20.here hx rfl (hb hby d13_38) rfl rfl rfl (Steps.refl _)
  obtain ⟨z23, Zz23, K23, O23, N23⟩ := own_eW W21 Zz14 K14 O14 N20 (own_i 0 rfl) (by omega)
  have f24 := (f22.wr W21)
  have f25 := ((Fe1.other W13 (Or.inl (own_ne (a := d1) (b := t1) (by omega)))).other W21 (Or.inr (slot_ne (Or.inl (tw_ hw 46 rfl)) (Or.inl (tw_ hw 178 rfl)) (by decide) (t := (.array (.object "java/lang/Object"))) (t' := .int) (by decide) (by decide))))
  have f26 := (f16.other W21 (Or.inr (slot_ne (Or.inl (tw_ hw 181 rfl)) (Or.inl (tw_ hw 178 rfl)) (by decide) (t := .int) (t' := .int) (by decide) (by decide))))
  have f27 := (V13.other W21 (own_ne (a := t1) (b := d1) (by omega)))
  refine own_gs (cur' := T21.setTop (mkF m 50 #[vr d1, vr e1, vr t1] [])) ?_ ?_
  · exact XS.icmpYes X21.here hx rfl (pc0 := 42) (pc' := 50) rfl (hb hby d13_42) rfl (feq ((own_eqN (by omega) (by omega) (by omega)) : ¬ ((Int32.ofNat a) = (Int32.ofNat (b + 1))))).2 (by decide) (by decide) (Steps.refl _)
  exact own_rV X21 Bd (hb hby d13_50) e21 (⟨rfl, N23, K23, ⟨f24, f25, f26, F21, f27, ov1⟩⟩) rfl rfl
abbrev own_c14 : ByteArray := jdk_21_method_10_code
def own_ela_Q (Z : State) (t1 e1 : Nat) (k1 : ClassId) (i : Nat) (vs : List Value) (h0 : Heap) (n0 : Nat) (v : Option Value) (h : Heap) (L : List Loc) : Prop := v = (some (.ref e1)) ∧ Fr n0 L ∧ h = h0
theorem ef_own_ela (m : MethodId) (x0 : Nat) (x1 : Int32) : entryFrame m #[(.ref x0), (.int x1)] 2 = mkF m 0 #[vr x0, vi x1] [] := by first | (simp [entryFrame, mkF, argsToLocals, Value.category]; done) | rfl
abbrev own_y14 : MethodName := ⟨"java/util/ArrayDeque", "elementAt", "([Ljava/lang/Object;I)Ljava/lang/Object;"⟩
theorem d14_0 : decode own_c14 0 = .ok (.aload_n 0, 1) := by decide +kernel
theorem d14_1 : decode own_c14 1 = .ok (.iload_n 1, 1) := by decide +kernel
theorem d14_2 : decode own_c14 2 = .ok (.aaload, 1) := by decide +kernel
theorem d14_3 : decode own_c14 3 = .ok (.areturn, 1) := by decide +kernel
set_option maxRecDepth 65536 in
set_option maxHeartbeats 40000000 in
theorem own_ela (l : Launch) (Z : State) (a0 : Array Value) (hW : own_W Z a0) (t1 e1 : Nat) (k1 : ClassId) (i : Nat) (vs : List Value) (h0 : Heap) (n0 : Nat) (Z0 : n0 ≤ h0.size) (O0 : Old Z n0 h0) (V1 : Arv Z h0 t1 k1 (.object "java/lang/Object") (17 : Int32) vs .null) (hi : i < 17) (hv : vs.getD i .null = .ref e1) :
    own_MH l own_y14 own_c14 2 (some (.object "java/lang/Object")) (own_r 0 0 0 0) #[(.ref t1), (.int (Int32.ofNat i))] Z h0 (own_ela_Q Z t1 e1 k1 i vs h0 n0) := by
  refine own_enterH (own := "java/util/ArrayDeque") rfl (plainFor_of_name pn_java_util_ArrayDeque) (fun m => ef_own_ela m t1 (Int32.ofNat i)) ?_
  intro p e s m below meth c s₁ Bd hZH hh hx hby hml hown hnm X0 e0
  have hZ := hZH.wide
  have Y := And.intro hx hby
  have hw := hW.1
  have N0 := Fr.nil n0
  have K0 := Keep.refl h0 []
  obtain ⟨cl11, Ar11, q11, S11, M11, Hs11, G11⟩ := id V1
  have hin11 : ¬ ((Int32.ofNat i) < 0 ∨ cl11.slots.size ≤ ((Int32.ofNat i)).toNatClampNeg) := inb_of S11 (own_in (b := 17) (by omega) (by decide))
  have hat11 : cl11.slots[((Int32.ofNat i)).toNatClampNeg]? = some (.ref e1) := Has.at Hs11 hin11 (by rw [own_nat (by omega)]; exact hv)
  refine own_gs ?_ (own_go (X0.aaload hx (j := (Int32.ofNat i)) (v := (.ref e1)) (by rw [e0]; exact Ar11.1) (State.isArrayOf_alike hZ.alike Ar11.2.1) rfl Ar11.2.2 hin11 hat11 (g := (mkF m 2 #[vr t1, vi (Int32.ofNat i)] [(.int (Int32.ofNat i)), (.ref t1)])) rfl rfl (hb hby d14_2)) ?_)
  · refine own_a X0 Y d14_0 rfl rfl ?_
    exact XS.iloadN X0.here hx rfl (hb hby d14_1) rfl (Steps.refl _)
  exact own_rA X0 Bd rfl (v := (.ref e1)) rfl (hb hby d14_3) e0 (⟨rfl, N0, rfl⟩) rfl rfl
abbrev own_c15 : ByteArray := jdk_21_method_20_code
def own_plf_Q (Z : State) (d1 t1 : Nat) (k1 : ClassId) (a b : Nat) (vs : List Value) (e1 : Nat) (h0 : Heap) (n0 : Nat) (v : Option Value) (h : Heap) (L : List Loc) : Prop := v = some (.ref e1) ∧ Fr n0 L ∧ Keep h0 h [d1, t1] ∧ own_D Z h d1 t1 k1 (a + 1) b (vs.set a .null)
theorem ef_own_plf (m : MethodId) (x0 : Nat) : entryFrame m #[(.ref x0)] 4 = mkF m 0 #[vr x0, .unset, .unset, .unset] [] := by first | (simp [entryFrame, mkF, argsToLocals, Value.category]; done) | rfl
abbrev own_y15 : MethodName := ⟨"java/util/ArrayDeque", "pollFirst", "()Ljava/lang/Object;"⟩
theorem d15_0 : decode own_c15 0 = .ok (.aload_n 0, 1) := by decide +kernel
theorem d15_1 : decode own_c15 1 = .ok (.getfield 3, 3) := by decide +kernel
theorem d15_4 : decode own_c15 4 = .ok (.dup, 1) := by decide +kernel
theorem d15_5 : decode own_c15 5 = .ok (.astore_n 1, 1) := by decide +kernel
theorem d15_6 : decode own_c15 6 = .ok (.aload_n 0, 1) := by decide +kernel
theorem d15_7 : decode own_c15 7 = .ok (.getfield 24, 3) := by decide +kernel
theorem d15_10 : decode own_c15 10 = .ok (.dup, 1) := by decide +kernel
theorem d15_11 : decode own_c15 11 = .ok (.istore_n 2, 1) := by decide +kernel
theorem d15_12 : decode own_c15 12 = .ok (.invokestatic 103, 3) := by decide +kernel
theorem pd_5 : parseMethodDescriptor "([Ljava/lang/Object;I)Ljava/lang/Object;" = some ⟨[(.array (.object "java/lang/Object")), .int], some (.object "java/lang/Object")⟩ := by decide +kernel
theorem d15_15 : decode own_c15 15 = .ok (.astore_n 3, 1) := by decide +kernel
theorem d15_16 : decode own_c15 16 = .ok (.aload_n 3, 1) := by decide +kernel
theorem d15_17 : decode own_c15 17 = .ok (.ifnull 17, 3) := by decide +kernel
theorem d15_20 : decode own_c15 20 = .ok (.aload_n 1, 1) := by decide +kernel
theorem d15_21 : decode own_c15 21 = .ok (.iload_n 2, 1) := by decide +kernel
theorem d15_22 : decode own_c15 22 = .ok (.aconst_null, 1) := by decide +kernel
theorem d15_23 : decode own_c15 23 = .ok (.aastore, 1) := by decide +kernel
theorem d15_24 : decode own_c15 24 = .ok (.aload_n 0, 1) := by decide +kernel
theorem d15_25 : decode own_c15 25 = .ok (.iload_n 2, 1) := by decide +kernel
theorem d15_26 : decode own_c15 26 = .ok (.aload_n 1, 1) := by decide +kernel
theorem d15_27 : decode own_c15 27 = .ok (.arraylength, 1) := by decide +kernel
theorem d15_28 : decode own_c15 28 = .ok (.invokestatic 74, 3) := by decide +kernel
theorem d15_31 : decode own_c15 31 = .ok (.putfield 24, 3) := by decide +kernel
theorem d15_34 : decode own_c15 34 = .ok (.aload_n 3, 1) := by decide +kernel
theorem d15_35 : decode own_c15 35 = .ok (.areturn, 1) := by decide +kernel
set_option maxRecDepth 65536 in
set_option maxHeartbeats 40000000 in
theorem own_plf (l : Launch) (Z : State) (a0 : Array Value) (hW : own_W Z a0) (d1 t1 : Nat) (k1 : ClassId) (a b : Nat) (vs : List Value) (e1 : Nat) (h0 : Heap) (n0 : Nat) (Z0 : n0 ≤ h0.size) (O0 : Old Z n0 h0) (F1 : own_D Z h0 d1 t1 k1 a b vs) (ha : a < 16) (hl : vs.length = 17) (hv : vs.getD a .null = .ref e1) (g1 : n0 ≤ d1) (g2 : n0 ≤ t1) (hne : d1 ≠ t1) :
    own_MH l own_y15 own_c15 4 (some (.object "java/lang/Object")) (own_r 1 0 0 19) #[(.ref d1)] Z h0 (own_plf_Q Z d1 t1 k1 a b vs e1 h0 n0) := by
  refine own_enterH (own := "java/util/ArrayDeque") rfl (plainFor_of_name pn_java_util_ArrayDeque) (fun m => ef_own_plf m d1) ?_
  intro p e s m below meth c s₁ Bd hZH hh hx hby hml hown hnm X0 e0
  have hZ := hZH.wide
  have Y := And.intro hx hby
  have hw := hW.1
  have N0 := Fr.nil n0
  have K0 := Keep.refl h0 [d1, t1]
  obtain ⟨E1, Fe1, Fh1, Ft1, V1, ov1⟩ := id F1
  have lt1 := F1.lt
  obtain ⟨T11, X11, e11, st11⟩ := own_gF X0 Y hZ hown (tw_ hw 45 rfl) e0 Fe1 (g := (mkF m 1 #[vr d1, uu, uu, uu] [(.ref d1)])) rfl rfl d15_1
  refine own_gs ?_ (own_go st11 ?_)
  · exact own_a X0 Y d15_0 rfl rfl (Steps.refl _)
  obtain ⟨T12, X12, e12, st12⟩ := own_gF X11 Y hZ hown (tw_ hw 180 rfl) e11 Fh1 (g := (mkF m 7 #[vr d1, vr t1, uu, uu] [(.ref d1), (.ref t1)])) rfl rfl d15_7
  refine own_gs ?_ (own_go st12 ?_)
  · refine own_du X11 Y d15_4 rfl rfl ?_
    refine XS.astoreN X11.here hx rfl (hb hby d15_5) rfl rfl (l' := #[vr d1, vr t1, uu, uu]) rfl ?_
    exact own_a X11 Y d15_6 rfl rfl (Steps.refl _)
  obtain ⟨v13, T13, Lc13, X13, hQ13, st13⟩ := own_stat (own_ela l Z a0 hW t1 e1 k1 a vs h0 n0 Z0 O0 V1 (by omega) hv) X12 Y hZH hown (tw_ hw 284 rfl) (tw_ hw 285 rfl) (tw_ hw 286 rfl) (tw_ hw 32 rfl) (by decide) e12 (g := (mkF m 12 #[vr d1, vr t1, vi (Int32.ofNat a), uu] [(.int (Int32.ofNat a)), (.ref t1)])) rfl hml.symm (argsL := [(.ref t1), (.int (Int32.ofNat a))]) (rest := []) (lenOf pd_5 rfl) rfl d15_12
  obtain ⟨rfl, Nq13, eh13⟩ := hQ13
  have N13 := Fr.app N0 Nq13
  refine own_gs ?_ (own_gs st13 ?_)
  · refine own_du X12 Y d15_10 rfl rfl ?_
    exact XS.istoreN X12.here hx rfl (hb hby d15_11) rfl (l' := #[vr d1, vr t1, vi (Int32.ofNat a), uu]) rfl (Steps.refl _)
  obtain ⟨cl14, Ar14, q14, S14, M14, Hs14, G14⟩ := id V1
  have hin14 : ¬ ((Int32.ofNat a) < 0 ∨ cl14.slots.size ≤ ((Int32.ofNat a)).toNatClampNeg) := inb_of S14 (own_in (b := 17) (by omega) (by decide))
  obtain ⟨T14, h14, X14, e14, W14, st14⟩ := stR X13 hx hZ eh13 Ar14 (j := (Int32.ofNat a)) hin14 rfl (Or.inl rfl) (g := (mkF m 23 #[vr d1, vr t1, vi (Int32.ofNat a), vr e1] [.null, (.int (Int32.ofNat a)), (.ref t1)])) rfl rfl (hb hby d15_23)
  have V14 := Arv.set Ar14 q14 S14 M14 Hs14 G14 (v := .null) rfl W14 a (own_nat (by omega)) (by omega)
  refine own_gs ?_ (own_go st14 ?_)
  · refine XS.astoreN X13.here hx rfl (hb hby d15_15) rfl rfl (l' := #[vr d1, vr t1, vi (Int32.ofNat a), vr e1]) rfl ?_
    refine own_a X13 Y d15_16 rfl rfl ?_
    refine XS.ifnullNo X13.here hx rfl (hb hby d15_17) rfl ?_
    refine own_a X13 Y d15_20 rfl rfl ?_
    refine XS.iloadN X13.here hx rfl (hb hby d15_21) rfl ?_
    exact XS.aconstNull X13.here hx rfl (hb hby d15_22) (Steps.refl _)
  obtain ⟨z15, Zz15, K15, O15, N15⟩ := own_eW W14 Z0 K0 O0 N13 (own_i 1 rfl) (by omega)
  obtain ⟨cl16, Ar16, q16, S16, M16, Hs16, G16⟩ := id V14
  refine own_gs ?_ (own_go (X14.arraylength hx (by rw [e14]; exact Ar16.1) (State.isArrayOf_alike hZ.alike Ar16.2.1) (g := (mkF m 27 #[vr d1, vr t1, vi (Int32.ofNat a), vr e1] [(.ref t1), (.int (Int32.ofNat a)), (.ref d1)])) rfl rfl (hb hby d15_27)) ?_)
  · refine own_a X14 Y d15_24 rfl rfl ?_
    refine XS.iloadN X14.here hx rfl (hb hby d15_25) rfl ?_
    exact own_a X14 Y d15_26 rfl rfl (Steps.refl _)
  rw [len_of S16 M16]
  show own_Fin p e below (T14.setTop (mkF m 28 #[vr d1, vr t1, vi (Int32.ofNat a), vr e1] [(.int (17 : Int32)), (.int (Int32.ofNat a)), (.ref d1)])) _
  obtain ⟨v17, T17, Lc17, X17, hQ17, st17⟩ := own_stat (own_inc l Z a0 hW a h14 n0 Zz15 O15 (by omega)) X14 Y hZH hown (tw_ hw 182 rfl) (tw_ hw 183 rfl) (tw_ hw 184 rfl) (tw_ hw 32 rfl) (by decide) e14 (g := (mkF m 28 #[vr d1, vr t1, vi (Int32.ofNat a), vr e1] [(.int (17 : Int32)), (.int (Int32.ofNat a)), (.ref d1)])) rfl hml.symm (argsL := [(.int (Int32.ofNat a)), (.int (17 : Int32))]) (rest := [(.ref d1)]) (lenOf pd_4 rfl) rfl d15_28
  obtain ⟨rfl, Nq17, eh17⟩ := hQ17
  have N17 := Fr.app N15 Nq17
  refine own_gs st17 ?_
  have f19 := (Fh1.other W14 (Or.inl (own_ne (a := d1) (b := t1) (by omega))))
  have f20 := (E1.wr W14)
  obtain ⟨T18, h18, X18, e18, W18, st18⟩ := own_pF X17 Y hZ hown (tw_ hw 180 rfl) eh17 f19 f20 (tw_ hw 181 rfl) (tw_ hw 31 rfl) (ty := .int) (by decide) rfl rfl (g := (mkF m 31 #[vr d1, vr t1, vi (Int32.ofNat a), vr e1] [(.int (Int32.ofNat (a + 1))), (.ref d1)])) rfl rfl d15_31
  have F18 := f19.same W18
  refine own_go st18 ?_
  obtain ⟨z21, Zz21, K21, O21, N21⟩ := own_eW W18 Zz15 K15 O15 N17 (own_i 0 rfl) (by omega)
  have f22 := (f20.wr W18)
  have f23 := ((Fe1.other W14 (Or.inl (own_ne (a := d1) (b := t1) (by omega)))).other W18 (Or.inr (slot_ne (Or.inl (tw_ hw 46 rfl)) (Or.inl (tw_ hw 181 rfl)) (by decide) (t := (.array (.object "java/lang/Object"))) (t' := .int) (by decide) (by decide))))
  have f24 := ((Ft1.other W14 (Or.inl (own_ne (a := d1) (b := t1) (by omega)))).other W18 (Or.inr (slot_ne (Or.inl (tw_ hw 178 rfl)) (Or.inl (tw_ hw 181 rfl)) (by decide) (t := .int) (t' := .int) (by decide) (by decide))))
  have f25 := (V14.other W18 (own_ne (a := t1) (b := d1) (by omega)))
  refine own_gs (cur' := T18.setTop (mkF m 35 #[vr d1, vr t1, vi (Int32.ofNat a), vr e1] [(.ref e1)])) ?_ ?_
  · exact own_a X18 Y d15_34 rfl rfl (Steps.refl _)
  exact own_rA X18 Bd rfl (v := (.ref e1)) rfl (hb hby d15_35) e18 (⟨rfl, N21, K21, ⟨f22, f23, F18, f24, f25, ov1⟩⟩) rfl rfl
abbrev own_c16 : ByteArray := jdk_21_method_18_code
def own_rmf_Q (Z : State) (d1 t1 : Nat) (k1 : ClassId) (a b : Nat) (vs : List Value) (e1 : Nat) (h0 : Heap) (n0 : Nat) (v : Option Value) (h : Heap) (L : List Loc) : Prop := v = some (.ref e1) ∧ Fr n0 L ∧ Keep h0 h [d1, t1] ∧ own_D Z h d1 t1 k1 (a + 1) b (vs.set a .null)
theorem ef_own_rmf (m : MethodId) (x0 : Nat) : entryFrame m #[(.ref x0)] 2 = mkF m 0 #[vr x0, .unset] [] := by first | (simp [entryFrame, mkF, argsToLocals, Value.category]; done) | rfl
abbrev own_y16 : MethodName := ⟨"java/util/ArrayDeque", "removeFirst", "()Ljava/lang/Object;"⟩
theorem d16_0 : decode own_c16 0 = .ok (.aload_n 0, 1) := by decide +kernel
theorem d16_1 : decode own_c16 1 = .ok (.invokevirtual 93, 3) := by decide +kernel
theorem pd_6 : parseMethodDescriptor "()Ljava/lang/Object;" = some ⟨[], some (.object "java/lang/Object")⟩ := by decide +kernel
theorem d16_4 : decode own_c16 4 = .ok (.astore_n 1, 1) := by decide +kernel
theorem d16_5 : decode own_c16 5 = .ok (.aload_n 1, 1) := by decide +kernel
theorem d16_6 : decode own_c16 6 = .ok (.ifnonnull 11, 3) := by decide +kernel
theorem d16_17 : decode own_c16 17 = .ok (.aload_n 1, 1) := by decide +kernel
theorem d16_18 : decode own_c16 18 = .ok (.areturn, 1) := by decide +kernel
set_option maxRecDepth 65536 in
set_option maxHeartbeats 40000000 in
theorem own_rmf (l : Launch) (Z : State) (a0 : Array Value) (hW : own_W Z a0) (d1 t1 : Nat) (k1 : ClassId) (a b : Nat) (vs : List Value) (e1 : Nat) (h0 : Heap) (n0 : Nat) (Z0 : n0 ≤ h0.size) (O0 : Old Z n0 h0) (F1 : own_D Z h0 d1 t1 k1 a b vs) (ha : a < 16) (hl : vs.length = 17) (hv : vs.getD a .null = .ref e1) (g1 : n0 ≤ d1) (g2 : n0 ≤ t1) (hne : d1 ≠ t1) :
    own_MH l own_y16 own_c16 2 (some (.object "java/lang/Object")) (own_r 2 0 0 40) #[(.ref d1)] Z h0 (own_rmf_Q Z d1 t1 k1 a b vs e1 h0 n0) := by
  refine own_enterH (own := "java/util/ArrayDeque") rfl (plainFor_of_name pn_java_util_ArrayDeque) (fun m => ef_own_rmf m d1) ?_
  intro p e s m below meth c s₁ Bd hZH hh hx hby hml hown hnm X0 e0
  have hZ := hZH.wide
  have Y := And.intro hx hby
  have hw := hW.1
  have N0 := Fr.nil n0
  have K0 := Keep.refl h0 [d1, t1]
  obtain ⟨E1, Fe1, Fh1, Ft1, V1, ov1⟩ := id F1
  have lt1 := F1.lt
  obtain ⟨v11, T11, Lc11, X11, hQ11, st11⟩ := own_virt (own_plf l Z a0 hW d1 t1 k1 a b vs e1 h0 n0 Z0 O0 F1 ha hl hv g1 g2 hne) X0 Y hZH hown (tw_ hw 279 rfl) (tw_ hw 280 rfl) (tw_ hw 282 rfl) (tw_ hw 281 rfl) (tw_ hw 283 rfl) (tw_ hw 32 rfl) (by decide) e0 E1 (g := (mkF m 1 #[vr d1, uu] [(.ref d1)])) rfl hml.symm (argsL := []) (rest := []) (lenOf pd_6 rfl) rfl d16_1
  obtain ⟨rfl, Nq11, Kq11, Fq⟩ := hQ11
  have N11 := Fr.app N0 Nq11
  obtain ⟨z12, Zz12, K12, O12⟩ := own_eK Kq11 Z0 K0 O0 (allS (own_i 0 rfl) (allS (own_i 1 rfl) all0)) (allS (by omega) (allS (by omega) all0))
  refine own_gs ?_ (own_gs st11 ?_)
  · exact own_a X0 Y d16_0 rfl rfl (Steps.refl _)
  refine own_gs (cur' := T11.setTop (mkF m 18 #[vr d1, vr e1] [(.ref e1)])) ?_ ?_
  · refine XS.astoreN X11.here hx rfl (hb hby d16_4) rfl rfl (l' := #[vr d1, vr e1]) rfl ?_
    refine own_a X11 Y d16_5 rfl rfl ?_
    refine XS.ifnonnullYes X11.here hx rfl (pc0 := 6) (pc' := 17) rfl (hb hby d16_6) rfl (by decide) (by decide) ?_
    exact own_a X11 Y d16_17 rfl rfl (Steps.refl _)
  exact own_rA X11 Bd rfl (v := (.ref e1)) rfl (hb hby d16_18) rfl (⟨rfl, N11, K12, Fq⟩) rfl rfl
abbrev own_c17 : ByteArray := jdk_21_method_22_code
def own_gtf_Q (Z : State) (d1 t1 : Nat) (k1 : ClassId) (a b : Nat) (vs : List Value) (e1 : Nat) (h0 : Heap) (n0 : Nat) (v : Option Value) (h : Heap) (L : List Loc) : Prop := v = (some (.ref e1)) ∧ Fr n0 L ∧ h = h0
theorem ef_own_gtf (m : MethodId) (x0 : Nat) : entryFrame m #[(.ref x0)] 2 = mkF m 0 #[vr x0, .unset] [] := by first | (simp [entryFrame, mkF, argsToLocals, Value.category]; done) | rfl
abbrev own_y17 : MethodName := ⟨"java/util/ArrayDeque", "getFirst", "()Ljava/lang/Object;"⟩
theorem d17_0 : decode own_c17 0 = .ok (.aload_n 0, 1) := by decide +kernel
theorem d17_1 : decode own_c17 1 = .ok (.getfield 3, 3) := by decide +kernel
theorem d17_4 : decode own_c17 4 = .ok (.aload_n 0, 1) := by decide +kernel
theorem d17_5 : decode own_c17 5 = .ok (.getfield 24, 3) := by decide +kernel
theorem d17_8 : decode own_c17 8 = .ok (.invokestatic 103, 3) := by decide +kernel
theorem d17_11 : decode own_c17 11 = .ok (.astore_n 1, 1) := by decide +kernel
theorem d17_12 : decode own_c17 12 = .ok (.aload_n 1, 1) := by decide +kernel
theorem d17_13 : decode own_c17 13 = .ok (.ifnonnull 11, 3) := by decide +kernel
theorem d17_24 : decode own_c17 24 = .ok (.aload_n 1, 1) := by decide +kernel
theorem d17_25 : decode own_c17 25 = .ok (.areturn, 1) := by decide +kernel
set_option maxRecDepth 65536 in
set_option maxHeartbeats 40000000 in
theorem own_gtf (l : Launch) (Z : State) (a0 : Array Value) (hW : own_W Z a0) (d1 t1 : Nat) (k1 : ClassId) (a b : Nat) (vs : List Value) (e1 : Nat) (h0 : Heap) (n0 : Nat) (Z0 : n0 ≤ h0.size) (O0 : Old Z n0 h0) (F1 : own_D Z h0 d1 t1 k1 a b vs) (ha : a < 16) (hv : vs.getD a .null = .ref e1) :
    own_MH l own_y17 own_c17 2 (some (.object "java/lang/Object")) (own_r 1 0 0 19) #[(.ref d1)] Z h0 (own_gtf_Q Z d1 t1 k1 a b vs e1 h0 n0) := by
  refine own_enterH (own := "java/util/ArrayDeque") rfl (plainFor_of_name pn_java_util_ArrayDeque) (fun m => ef_own_gtf m d1) ?_
  intro p e s m below meth c s₁ Bd hZH hh hx hby hml hown hnm X0 e0
  have hZ := hZH.wide
  have Y := And.intro hx hby
  have hw := hW.1
  have N0 := Fr.nil n0
  have K0 := Keep.refl h0 []
  obtain ⟨E1, Fe1, Fh1, Ft1, V1, ov1⟩ := id F1
  have lt1 := F1.lt
  obtain ⟨T11, X11, e11, st11⟩ := own_gF X0 Y hZ hown (tw_ hw 45 rfl) e0 Fe1 (g := (mkF m 1 #[vr d1, uu] [(.ref d1)])) rfl rfl d17_1
  refine own_gs ?_ (own_go st11 ?_)
  · exact own_a X0 Y d17_0 rfl rfl (Steps.refl _)
  obtain ⟨T12, X12, e12, st12⟩ := own_gF X11 Y hZ hown (tw_ hw 180 rfl) e11 Fh1 (g := (mkF m 5 #[vr d1, uu] [(.ref d1), (.ref t1)])) rfl rfl d17_5
  refine own_gs ?_ (own_go st12 ?_)
  · exact own_a X11 Y d17_4 rfl rfl (Steps.refl _)
  obtain ⟨v13, T13, Lc13, X13, hQ13, st13⟩ := own_stat (own_ela l Z a0 hW t1 e1 k1 a vs h0 n0 Z0 O0 V1 (by omega) hv) X12 Y hZH hown (tw_ hw 284 rfl) (tw_ hw 285 rfl) (tw_ hw 286 rfl) (tw_ hw 32 rfl) (by decide) e12 (g := (mkF m 8 #[vr d1, uu] [(.int (Int32.ofNat a)), (.ref t1)])) rfl hml.symm (argsL := [(.ref t1), (.int (Int32.ofNat a))]) (rest := []) (lenOf pd_5 rfl) rfl d17_8
  obtain ⟨rfl, Nq13, eh13⟩ := hQ13
  have N13 := Fr.app N0 Nq13
  refine own_gs st13 ?_
  refine own_gs (cur' := T13.setTop (mkF m 25 #[vr d1, vr e1] [(.ref e1)])) ?_ ?_
  · refine XS.astoreN X13.here hx rfl (hb hby d17_11) rfl rfl (l' := #[vr d1, vr e1]) rfl ?_
    refine own_a X13 Y d17_12 rfl rfl ?_
    refine XS.ifnonnullYes X13.here hx rfl (pc0 := 13) (pc' := 24) rfl (hb hby d17_13) rfl (by decide) (by decide) ?_
    exact own_a X13 Y d17_24 rfl rfl (Steps.refl _)
  exact own_rA X13 Bd rfl (v := (.ref e1)) rfl (hb hby d17_25) eh13 (⟨rfl, N13, rfl⟩) rfl rfl
abbrev own_c18 : ByteArray := jdk_21_method_38_code
def own_ise0_Q (Z : State) (d1 t1 : Nat) (k1 : ClassId) (a b : Nat) (vs : List Value) (h0 : Heap) (n0 : Nat) (v : Option Value) (h : Heap) (L : List Loc) : Prop := v = (some (.int (0 : Int32))) ∧ Fr n0 L ∧ h = h0
theorem ef_own_ise0 (m : MethodId) (x0 : Nat) : entryFrame m #[(.ref x0)] 1 = mkF m 0 #[vr x0] [] := by first | (simp [entryFrame, mkF, argsToLocals, Value.category]; done) | rfl
abbrev own_y18 : MethodName := ⟨"java/util/ArrayDeque", "isEmpty", "()Z"⟩
theorem d18_0 : decode own_c18 0 = .ok (.aload_n 0, 1) := by decide +kernel
theorem d18_1 : decode own_c18 1 = .ok (.getfield 24, 3) := by decide +kernel
theorem d18_4 : decode own_c18 4 = .ok (.aload_n 0, 1) := by decide +kernel
theorem d18_5 : decode own_c18 5 = .ok (.getfield 20, 3) := by decide +kernel
theorem d18_8 : decode own_c18 8 = .ok (.if_icmp .ne 7, 3) := by decide +kernel
theorem d18_15 : decode own_c18 15 = .ok (.iconst 0, 1) := by decide +kernel
theorem d18_16 : decode own_c18 16 = .ok (.ireturn, 1) := by decide +kernel
set_option maxRecDepth 65536 in
set_option maxHeartbeats 40000000 in
theorem own_ise0 (l : Launch) (Z : State) (a0 : Array Value) (hW : own_W Z a0) (d1 t1 : Nat) (k1 : ClassId) (a b : Nat) (vs : List Value) (h0 : Heap) (n0 : Nat) (Z0 : n0 ≤ h0.size) (O0 : Old Z n0 h0) (F1 : own_D Z h0 d1 t1 k1 a b vs) (ha : a < b) (hbb : b < 17) :
    own_MH l own_y18 own_c18 1 (some .boolean) (own_r 0 0 0 0) #[(.ref d1)] Z h0 (own_ise0_Q Z d1 t1 k1 a b vs h0 n0) := by
  refine own_enterH (own := "java/util/ArrayDeque") rfl (plainFor_of_name pn_java_util_ArrayDeque) (fun m => ef_own_ise0 m d1) ?_
  intro p e s m below meth c s₁ Bd hZH hh hx hby hml hown hnm X0 e0
  have hZ := hZH.wide
  have Y := And.intro hx hby
  have hw := hW.1
  have N0 := Fr.nil n0
  have K0 := Keep.refl h0 []
  obtain ⟨E1, Fe1, Fh1, Ft1, V1, ov1⟩ := id F1
  have lt1 := F1.lt
  obtain ⟨T11, X11, e11, st11⟩ := own_gF X0 Y hZ hown (tw_ hw 180 rfl) e0 Fh1 (g := (mkF m 1 #[vr d1] [(.ref d1)])) rfl rfl d18_1
  refine own_gs ?_ (own_go st11 ?_)
  · exact own_a X0 Y d18_0 rfl rfl (Steps.refl _)
  obtain ⟨T12, X12, e12, st12⟩ := own_gF X11 Y hZ hown (tw_ hw 177 rfl) e11 Ft1 (g := (mkF m 5 #[vr d1] [(.ref d1), (.int (Int32.ofNat a))])) rfl rfl d18_5
  refine own_gs ?_ (own_go st12 ?_)
  · exact own_a X11 Y d18_4 rfl rfl (Steps.refl _)
  refine own_gs (cur' := T12.setTop (mkF m 16 #[vr d1] [(.int (0 : Int32))])) ?_ ?_
  · refine XS.icmpYes X12.here hx rfl (pc0 := 8) (pc' := 15) rfl (hb hby d18_8) rfl (feq ((own_eqN (by omega) (by omega) (by omega)) : ¬ ((Int32.ofNat a) = (Int32.ofNat b)))).2 (by decide) (by decide) ?_
    exact own_ic X12 Y d18_15 (Steps.refl _)
  exact own_rN X12 Bd (by simp) (v := (0 : Int32)) rfl (hb hby d18_16) e12 (⟨rfl, N0, rfl⟩) rfl rfl
def own_ise1_Q (Z : State) (d1 t1 : Nat) (k1 : ClassId) (a b : Nat) (vs : List Value) (h0 : Heap) (n0 : Nat) (v : Option Value) (h : Heap) (L : List Loc) : Prop := v = (some (.int (1 : Int32))) ∧ Fr n0 L ∧ h = h0
theorem ef_own_ise1 (m : MethodId) (x0 : Nat) : entryFrame m #[(.ref x0)] 1 = mkF m 0 #[vr x0] [] := by first | (simp [entryFrame, mkF, argsToLocals, Value.category]; done) | rfl
theorem d18_11 : decode own_c18 11 = .ok (.iconst 1, 1) := by decide +kernel
theorem d18_12 : decode own_c18 12 = .ok (.goto 4, 3) := by decide +kernel
set_option maxRecDepth 65536 in
set_option maxHeartbeats 40000000 in
theorem own_ise1 (l : Launch) (Z : State) (a0 : Array Value) (hW : own_W Z a0) (d1 t1 : Nat) (k1 : ClassId) (a b : Nat) (vs : List Value) (h0 : Heap) (n0 : Nat) (Z0 : n0 ≤ h0.size) (O0 : Old Z n0 h0) (F1 : own_D Z h0 d1 t1 k1 a b vs) (ha : a = b) :
    own_MH l own_y18 own_c18 1 (some .boolean) (own_r 0 0 0 0) #[(.ref d1)] Z h0 (own_ise1_Q Z d1 t1 k1 a b vs h0 n0) := by
  refine own_enterH (own := "java/util/ArrayDeque") rfl (plainFor_of_name pn_java_util_ArrayDeque) (fun m => ef_own_ise1 m d1) ?_
  intro p e s m below meth c s₁ Bd hZH hh hx hby hml hown hnm X0 e0
  have hZ := hZH.wide
  have Y := And.intro hx hby
  have hw := hW.1
  have N0 := Fr.nil n0
  have K0 := Keep.refl h0 []
  obtain ⟨E1, Fe1, Fh1, Ft1, V1, ov1⟩ := id F1
  have lt1 := F1.lt
  obtain ⟨T11, X11, e11, st11⟩ := own_gF X0 Y hZ hown (tw_ hw 180 rfl) e0 Fh1 (g := (mkF m 1 #[vr d1] [(.ref d1)])) rfl rfl d18_1
  refine own_gs ?_ (own_go st11 ?_)
  · exact own_a X0 Y d18_0 rfl rfl (Steps.refl _)
  obtain ⟨T12, X12, e12, st12⟩ := own_gF X11 Y hZ hown (tw_ hw 177 rfl) e11 Ft1 (g := (mkF m 5 #[vr d1] [(.ref d1), (.int (Int32.ofNat a))])) rfl rfl d18_5
  refine own_gs ?_ (own_go st12 ?_)
  · exact own_a X11 Y d18_4 rfl rfl (Steps.refl _)
  refine own_gs (cur' := T12.setTop (mkF m 16 #[vr d1] [(.int (1 : Int32))])) ?_ ?_
  · refine XS.icmpNo X12.here hx rfl (hb hby d18_8) rfl (teq ((congrArg Int32.ofNat ha) : (Int32.ofNat a) = (Int32.ofNat b))).2 ?_
    refine own_ic X12 Y d18_11 ?_
    exact XS.goto X12.here hx rfl (pc0 := 12) (pc' := 16) rfl (hb hby d18_12) (by decide) (by decide) (Steps.refl _)
  exact own_rN X12 Bd (by simp) (v := (1 : Int32)) rfl (hb hby d18_16) e12 (⟨rfl, N0, rfl⟩) rfl rfl
abbrev own_c19 : ByteArray := jdk_21_method_9_code
def own_sub_Q (Z : State) (a b : Nat) (h0 : Heap) (n0 : Nat) (v : Option Value) (h : Heap) (L : List Loc) : Prop := v = (some (.int (Int32.ofNat (b - a)))) ∧ Fr n0 L ∧ h = h0
theorem ef_own_sub (m : MethodId) (x0 : Int32) (x1 : Int32) (x2 : Int32) : entryFrame m #[(.int x0), (.int x1), (.int x2)] 3 = mkF m 0 #[vi x0, vi x1, vi x2] [] := by first | (simp [entryFrame, mkF, argsToLocals, Value.category]; done) | rfl
abbrev own_y19 : MethodName := ⟨"java/util/ArrayDeque", "sub", "(III)I"⟩
theorem d19_0 : decode own_c19 0 = .ok (.iload_n 0, 1) := by decide +kernel
theorem d19_1 : decode own_c19 1 = .ok (.iload_n 1, 1) := by decide +kernel
theorem d19_2 : decode own_c19 2 = .ok (.isub, 1) := by decide +kernel
theorem d19_3 : decode own_c19 3 = .ok (.dup, 1) := by decide +kernel
theorem d19_4 : decode own_c19 4 = .ok (.istore_n 0, 1) := by decide +kernel
theorem d19_5 : decode own_c19 5 = .ok (.ifCond .ge 7, 3) := by decide +kernel
theorem d19_12 : decode own_c19 12 = .ok (.iload_n 0, 1) := by decide +kernel
theorem d19_13 : decode own_c19 13 = .ok (.ireturn, 1) := by decide +kernel
set_option maxRecDepth 65536 in
set_option maxHeartbeats 40000000 in
theorem own_sub (l : Launch) (Z : State) (a0 : Array Value) (hW : own_W Z a0) (a b : Nat) (h0 : Heap) (n0 : Nat) (Z0 : n0 ≤ h0.size) (O0 : Old Z n0 h0) (ha : a ≤ b) (hbb : b < 17) :
    own_MH l own_y19 own_c19 3 (some .int) (own_r 0 0 0 0) #[(.int (Int32.ofNat b)), (.int (Int32.ofNat a)), (.int (17 : Int32))] Z h0 (own_sub_Q Z a b h0 n0) := by
  refine own_enterH (own := "java/util/ArrayDeque") rfl (plainFor_of_name pn_java_util_ArrayDeque) (fun m => ef_own_sub m (Int32.ofNat b) (Int32.ofNat a) (17 : Int32)) ?_
  intro p e s m below meth c s₁ Bd hZH hh hx hby hml hown hnm X0 e0
  have hZ := hZH.wide
  have Y := And.intro hx hby
  have hw := hW.1
  have N0 := Fr.nil n0
  have K0 := Keep.refl h0 []
  refine own_gs (cur' := s₁.setTop (mkF m 3 #[vi (Int32.ofNat b), vi (Int32.ofNat a), vi (17 : Int32)] [(.int ((Int32.ofNat b) - (Int32.ofNat a)))])) ?_ ?_
  · refine XS.iloadN X0.here hx rfl (hb hby d19_0) rfl ?_
    refine XS.iloadN X0.here hx rfl (hb hby d19_1) rfl ?_
    exact XS.isub X0.here hx rfl (hb hby d19_2) rfl (Steps.refl _)
  rw [own_subN ha (by omega)]
  show own_Fin p e below (s₁.setTop (mkF m 3 #[vi (Int32.ofNat b), vi (Int32.ofNat a), vi (17 : Int32)] [(.int (Int32.ofNat (b - a)))])) _
  refine own_gs (cur' := s₁.setTop (mkF m 13 #[vi (Int32.ofNat (b - a)), vi (Int32.ofNat a), vi (17 : Int32)] [(.int (Int32.ofNat (b - a)))])) ?_ ?_
  · refine own_du X0 Y d19_3 rfl rfl ?_
    refine XS.istoreN X0.here hx rfl (hb hby d19_4) rfl (l' := #[vi (Int32.ofNat (b - a)), vi (Int32.ofNat a), vi (17 : Int32)]) rfl ?_
    refine XS.ifYes X0.here hx rfl (pc0 := 5) (pc' := 12) rfl (hb hby d19_5) rfl ((if0 _ _).trans (flt ((own_nlN (a := b - a) (b := 0) (by omega) (by omega)) : ¬ ((Int32.ofNat (b - a)) < (0 : Int32)))).2.1) (by decide) (by decide) ?_
    exact XS.iloadN X0.here hx rfl (hb hby d19_12) rfl (Steps.refl _)
  exact own_rI X0 Bd (hb hby d19_13) e0 (⟨rfl, N0, rfl⟩) rfl rfl
abbrev own_c20 : ByteArray := jdk_21_method_37_code
def own_siz_Q (Z : State) (d1 t1 : Nat) (k1 : ClassId) (a b : Nat) (vs : List Value) (h0 : Heap) (n0 : Nat) (v : Option Value) (h : Heap) (L : List Loc) : Prop := v = (some (.int (Int32.ofNat (b - a)))) ∧ Fr n0 L ∧ h = h0
theorem ef_own_siz (m : MethodId) (x0 : Nat) : entryFrame m #[(.ref x0)] 1 = mkF m 0 #[vr x0] [] := by first | (simp [entryFrame, mkF, argsToLocals, Value.category]; done) | rfl
abbrev own_y20 : MethodName := ⟨"java/util/ArrayDeque", "size", "()I"⟩
theorem d20_0 : decode own_c20 0 = .ok (.aload_n 0, 1) := by decide +kernel
theorem d20_1 : decode own_c20 1 = .ok (.getfield 20, 3) := by decide +kernel
theorem d20_4 : decode own_c20 4 = .ok (.aload_n 0, 1) := by decide +kernel
theorem d20_5 : decode own_c20 5 = .ok (.getfield 24, 3) := by decide +kernel
theorem d20_8 : decode own_c20 8 = .ok (.aload_n 0, 1) := by decide +kernel
theorem d20_9 : decode own_c20 9 = .ok (.getfield 3, 3) := by decide +kernel
theorem d20_12 : decode own_c20 12 = .ok (.arraylength, 1) := by decide +kernel
theorem d20_13 : decode own_c20 13 = .ok (.invokestatic 127, 3) := by decide +kernel
theorem pd_7 : parseMethodDescriptor "(III)I" = some ⟨[.int, .int, .int], some .int⟩ := by decide +kernel
theorem d20_16 : decode own_c20 16 = .ok (.ireturn, 1) := by decide +kernel
set_option maxRecDepth 65536 in
set_option maxHeartbeats 40000000 in
theorem own_siz (l : Launch) (Z : State) (a0 : Array Value) (hW : own_W Z a0) (d1 t1 : Nat) (k1 : ClassId) (a b : Nat) (vs : List Value) (h0 : Heap) (n0 : Nat) (Z0 : n0 ≤ h0.size) (O0 : Old Z n0 h0) (F1 : own_D Z h0 d1 t1 k1 a b vs) (ha : a ≤ b) (hbb : b < 17) :
    own_MH l own_y20 own_c20 1 (some .int) (own_r 1 0 0 20) #[(.ref d1)] Z h0 (own_siz_Q Z d1 t1 k1 a b vs h0 n0) := by
  refine own_enterH (own := "java/util/ArrayDeque") rfl (plainFor_of_name pn_java_util_ArrayDeque) (fun m => ef_own_siz m d1) ?_
  intro p e s m below meth c s₁ Bd hZH hh hx hby hml hown hnm X0 e0
  have hZ := hZH.wide
  have Y := And.intro hx hby
  have hw := hW.1
  have N0 := Fr.nil n0
  have K0 := Keep.refl h0 []
  obtain ⟨E1, Fe1, Fh1, Ft1, V1, ov1⟩ := id F1
  have lt1 := F1.lt
  obtain ⟨T11, X11, e11, st11⟩ := own_gF X0 Y hZ hown (tw_ hw 177 rfl) e0 Ft1 (g := (mkF m 1 #[vr d1] [(.ref d1)])) rfl rfl d20_1
  refine own_gs ?_ (own_go st11 ?_)
  · exact own_a X0 Y d20_0 rfl rfl (Steps.refl _)
  obtain ⟨T12, X12, e12, st12⟩ := own_gF X11 Y hZ hown (tw_ hw 180 rfl) e11 Fh1 (g := (mkF m 5 #[vr d1] [(.ref d1), (.int (Int32.ofNat b))])) rfl rfl d20_5
  refine own_gs ?_ (own_go st12 ?_)
  · exact own_a X11 Y d20_4 rfl rfl (Steps.refl _)
  obtain ⟨T13, X13, e13, st13⟩ := own_gF X12 Y hZ hown (tw_ hw 45 rfl) e12 Fe1 (g := (mkF m 9 #[vr d1] [(.ref d1), (.int (Int32.ofNat a)), (.int (Int32.ofNat b))])) rfl rfl d20_9
  refine own_gs ?_ (own_go st13 ?_)
  · exact own_a X12 Y d20_8 rfl rfl (Steps.refl _)
  obtain ⟨cl14, Ar14, q14, S14, M14, Hs14, G14⟩ := id V1
  refine own_go (X13.arraylength hx (by rw [e13]; exact Ar14.1) (State.isArrayOf_alike hZ.alike Ar14.2.1) (g := (mkF m 12 #[vr d1] [(.ref t1), (.int (Int32.ofNat a)), (.int (Int32.ofNat b))])) rfl rfl (hb hby d20_12)) ?_
  rw [len_of S14 M14]
  show own_Fin p e below (T13.setTop (mkF m 13 #[vr d1] [(.int (17 : Int32)), (.int (Int32.ofNat a)), (.int (Int32.ofNat b))])) _
  obtain ⟨v15, T15, Lc15, X15, hQ15, st15⟩ := own_stat (own_sub l Z a0 hW a b h0 n0 Z0 O0 ha hbb) X13 Y hZH hown (tw_ hw 315 rfl) (tw_ hw 316 rfl) (tw_ hw 317 rfl) (tw_ hw 32 rfl) (by decide) e13 (g := (mkF m 13 #[vr d1] [(.int (17 : Int32)), (.int (Int32.ofNat a)), (.int (Int32.ofNat b))])) rfl hml.symm (argsL := [(.int (Int32.ofNat b)), (.int (Int32.ofNat a)), (.int (17 : Int32))]) (rest := []) (lenOf pd_7 rfl) rfl d20_13
  obtain ⟨rfl, Nq15, eh15⟩ := hQ15
  have N15 := Fr.app N0 Nq15
  refine own_gs st15 ?_
  exact own_rI X15 Bd (hb hby d20_16) eh15 (⟨rfl, N15, rfl⟩) rfl rfl
/-- a node of the tree -/
def own_N (Z : State) (h : Heap) (e : Nat) (kk vv ll rr pp : Value) (c : Int32) : Prop := Exa Z h e "java/util/TreeMap$Entry" ∧ Fld Z h e "java/util/TreeMap$Entry" "key" "Ljava/lang/Object;" kk ∧ Fld Z h e "java/util/TreeMap$Entry" "value" "Ljava/lang/Object;" vv ∧ Fld Z h e "java/util/TreeMap$Entry" "left" "Ljava/util/TreeMap$Entry;" ll ∧ Fld Z h e "java/util/TreeMap$Entry" "right" "Ljava/util/TreeMap$Entry;" rr ∧ Fld Z h e "java/util/TreeMap$Entry" "parent" "Ljava/util/TreeMap$Entry;" pp ∧ Fld Z h e "java/util/TreeMap$Entry" "color" "Z" (.int c)
/-- the map itself -/
def own_T (Z : State) (h : Heap) (tm : Nat) (root : Value) (mc sz : Int32) : Prop := Exa Z h tm "java/util/TreeMap" ∧ Fld Z h tm "java/util/TreeMap" "root" "Ljava/util/TreeMap$Entry;" root ∧ Fld Z h tm "java/util/TreeMap" "comparator" "Ljava/util/Comparator;" .null ∧ Fld Z h tm "java/util/TreeMap" "modCount" "I" (.int mc) ∧ Fld Z h tm "java/util/TreeMap" "size" "I" (.int sz)
section OwnN
variable {Z : State} {h h' : Heap} {e : Nat} {kk vv ll rr pp root : Value} {c mc sz : Int32} {ws : List Addr}
theorem own_N.ext (F : own_N Z h e kk vv ll rr pp c) (E : Ext h h') : own_N Z h' e kk vv ll rr pp c := by
  obtain ⟨a, b1, b2, b3, b4, b5, b6⟩ := F
  exact ⟨a.ext E, b1.ext E, b2.ext E, b3.ext E, b4.ext E, b5.ext E, b6.ext E⟩
theorem own_N.keep (F : own_N Z h e kk vv ll rr pp c) (K : Keep h h' ws) (q : e ∉ ws) : own_N Z h' e kk vv ll rr pp c := by
  obtain ⟨a, b1, b2, b3, b4, b5, b6⟩ := F
  exact ⟨a.keep K, b1.keep K q, b2.keep K q, b3.keep K q, b4.keep K q, b5.keep K q, b6.keep K q⟩
theorem own_N.lt (F : own_N Z h e kk vv ll rr pp c) : e < h.size := F.1.lt
theorem own_T.ext (F : own_T Z h e root mc sz) (E : Ext h h') : own_T Z h' e root mc sz := by
  obtain ⟨a, b1, b2, b3, b4⟩ := F
  exact ⟨a.ext E, b1.ext E, b2.ext E, b3.ext E, b4.ext E⟩
theorem own_T.keep (F : own_T Z h e root mc sz) (K : Keep h h' ws) (q : e ∉ ws) : own_T Z h' e root mc sz := by
  obtain ⟨a, b1, b2, b3, b4⟩ := F
  exact ⟨a.keep K, b1.keep K q, b2.keep K q, b3.keep K q, b4.keep K q⟩
theorem own_T.lt (F : own_T Z h e root mc sz) : e < h.size := F.1.lt
end OwnN
section OwnP
variable {Z : State} {h h' : Heap} {e : Nat} {kk vv ll rr pp root : Value} {c mc sz : Int32}
theorem own_N.ex (F : own_N Z h e kk vv ll rr pp c) : Exa Z h e "java/util/TreeMap$Entry" := F.1
theorem own_N.f_key (F : own_N Z h e kk vv ll rr pp c) : Fld Z h e "java/util/TreeMap$Entry" "key" "Ljava/lang/Object;" kk := F.2.1
theorem own_N.f_value (F : own_N Z h e kk vv ll rr pp c) : Fld Z h e "java/util/TreeMap$Entry" "value" "Ljava/lang/Object;" vv := F.2.2.1
theorem own_N.f_left (F : own_N Z h e kk vv ll rr pp c) : Fld Z h e "java/util/TreeMap$Entry" "left" "Ljava/util/TreeMap$Entry;" ll := F.2.2.2.1
theorem own_N.f_right (F : own_N Z h e kk vv ll rr pp c) : Fld Z h e "java/util/TreeMap$Entry" "right" "Ljava/util/TreeMap$Entry;" rr := F.2.2.2.2.1
theorem own_N.f_parent (F : own_N Z h e kk vv ll rr pp c) : Fld Z h e "java/util/TreeMap$Entry" "parent" "Ljava/util/TreeMap$Entry;" pp := F.2.2.2.2.2.1
theorem own_N.f_color (F : own_N Z h e kk vv ll rr pp c) : Fld Z h e "java/util/TreeMap$Entry" "color" "Z" (.int c) := F.2.2.2.2.2.2
theorem own_N.s_key {a0 : Array Value} {x : Value} (hw : ∀ d ∈ tables_1, d.before a0 Z = true) (F : own_N Z h e kk vv ll rr pp c) (W : Wr h h' e (RoadKit.slotOf Z "java/util/TreeMap$Entry" "key" "Ljava/lang/Object;") x) : own_N Z h' e x vv ll rr pp c := ⟨F.1.wr W, F.2.1.same W, F.2.2.1.other W (Or.inr (slot_ne (Or.inl (tw_ hw 168 rfl)) (Or.inl (tw_ hw 166 rfl)) (by decide) (t := (.object "java/lang/Object")) (t' := (.object "java/lang/Object")) (by decide) (by decide))), F.2.2.2.1.other W (Or.inr (slot_ne (Or.inl (tw_ hw 212 rfl)) (Or.inl (tw_ hw 166 rfl)) (by decide) (t := (.object "java/util/TreeMap$Entry")) (t' := (.object "java/lang/Object")) (by decide) (by decide))), F.2.2.2.2.1.other W (Or.inr (slot_ne (Or.inl (tw_ hw 190 rfl)) (Or.inl (tw_ hw 166 rfl)) (by decide) (t := (.object "java/util/TreeMap$Entry")) (t' := (.object "java/lang/Object")) (by decide) (by decide))), F.2.2.2.2.2.1.other W (Or.inr (slot_ne (Or.inl (tw_ hw 170 rfl)) (Or.inl (tw_ hw 166 rfl)) (by decide) (t := (.object "java/util/TreeMap$Entry")) (t' := (.object "java/lang/Object")) (by decide) (by decide))), F.2.2.2.2.2.2.other W (Or.inr (slot_ne (Or.inl (tw_ hw 164 rfl)) (Or.inl (tw_ hw 166 rfl)) (by decide) (t := .boolean) (t' := (.object "java/lang/Object")) (by decide) (by decide)))⟩
theorem own_N.s_value {a0 : Array Value} {x : Value} (hw : ∀ d ∈ tables_1, d.before a0 Z = true) (F : own_N Z h e kk vv ll rr pp c) (W : Wr h h' e (RoadKit.slotOf Z "java/util/TreeMap$Entry" "value" "Ljava/lang/Object;") x) : own_N Z h' e kk x ll rr pp c := ⟨F.1.wr W, F.2.1.other W (Or.inr (slot_ne (Or.inl (tw_ hw 166 rfl)) (Or.inl (tw_ hw 168 rfl)) (by decide) (t := (.object "java/lang/Object")) (t' := (.object "java/lang/Object")) (by decide) (by decide))), F.2.2.1.same W, F.2.2.2.1.other W (Or.inr (slot_ne (Or.inl (tw_ hw 212 rfl)) (Or.inl (tw_ hw 168 rfl)) (by decide) (t := (.object "java/util/TreeMap$Entry")) (t' := (.object "java/lang/Object")) (by decide) (by decide))), F.2.2.2.2.1.other W (Or.inr (slot_ne (Or.inl (tw_ hw 190 rfl)) (Or.inl (tw_ hw 168 rfl)) (by decide) (t := (.object "java/util/TreeMap$Entry")) (t' := (.object "java/lang/Object")) (by decide) (by decide))), F.2.2.2.2.2.1.other W (Or.inr (slot_ne (Or.inl (tw_ hw 170 rfl)) (Or.inl (tw_ hw 168 rfl)) (by decide) (t := (.object "java/util/TreeMap$Entry")) (t' := (.object "java/lang/Object")) (by decide) (by decide))), F.2.2.2.2.2.2.other W (Or.inr (slot_ne (Or.inl (tw_ hw 164 rfl)) (Or.inl (tw_ hw 168 rfl)) (by decide) (t := .boolean) (t' := (.object "java/lang/Object")) (by decide) (by decide)))⟩
theorem own_N.s_left {a0 : Array Value} {x : Value} (hw : ∀ d ∈ tables_1, d.before a0 Z = true) (F : own_N Z h e kk vv ll rr pp c) (W : Wr h h' e (RoadKit.slotOf Z "java/util/TreeMap$Entry" "left" "Ljava/util/TreeMap$Entry;") x) : own_N Z h' e kk vv x rr pp c := ⟨F.1.wr W, F.2.1.other W (Or.inr (slot_ne (Or.inl (tw_ hw 166 rfl)) (Or.inl (tw_ hw 212 rfl)) (by decide) (t := (.object "java/lang/Object")) (t' := (.object "java/util/TreeMap$Entry")) (by decide) (by decide))), F.2.2.1.other W (Or.inr (slot_ne (Or.inl (tw_ hw 168 rfl)) (Or.inl (tw_ hw 212 rfl)) (by decide) (t := (.object "java/lang/Object")) (t' := (.object "java/util/TreeMap$Entry")) (by decide) (by decide))), F.2.2.2.1.same W, F.2.2.2.2.1.other W (Or.inr (slot_ne (Or.inl (tw_ hw 190 rfl)) (Or.inl (tw_ hw 212 rfl)) (by decide) (t := (.object "java/util/TreeMap$Entry")) (t' := (.object "java/util/TreeMap$Entry")) (by decide) (by decide))), F.2.2.2.2.2.1.other W (Or.inr (slot_ne (Or.inl (tw_ hw 170 rfl)) (Or.inl (tw_ hw 212 rfl)) (by decide) (t := (.object "java/util/TreeMap$Entry")) (t' := (.object "java/util/TreeMap$Entry")) (by decide) (by decide))), F.2.2.2.2.2.2.other W (Or.inr (slot_ne (Or.inl (tw_ hw 164 rfl)) (Or.inl (tw_ hw 212 rfl)) (by decide) (t := .boolean) (t' := (.object "java/util/TreeMap$Entry")) (by decide) (by decide)))⟩
theorem own_N.s_right {a0 : Array Value} {x : Value} (hw : ∀ d ∈ tables_1, d.before a0 Z = true) (F : own_N Z h e kk vv ll rr pp c) (W : Wr h h' e (RoadKit.slotOf Z "java/util/TreeMap$Entry" "right" "Ljava/util/TreeMap$Entry;") x) : own_N Z h' e kk vv ll x pp c := ⟨F.1.wr W, F.2.1.other W (Or.inr (slot_ne (Or.inl (tw_ hw 166 rfl)) (Or.inl (tw_ hw 190 rfl)) (by decide) (t := (.object "java/lang/Object")) (t' := (.object "java/util/TreeMap$Entry")) (by decide) (by decide))), F.2.2.1.other W (Or.inr (slot_ne (Or.inl (tw_ hw 168 rfl)) (Or.inl (tw_ hw 190 rfl)) (by decide) (t := (.object "java/lang/Object")) (t' := (.object "java/util/TreeMap$Entry")) (by decide) (by decide))), F.2.2.2.1.other W (Or.inr (slot_ne (Or.inl (tw_ hw 212 rfl)) (Or.inl (tw_ hw 190 rfl)) (by decide) (t := (.object "java/util/TreeMap$Entry")) (t' := (.object "java/util/TreeMap$Entry")) (by decide) (by decide))), F.2.2.2.2.1.same W, F.2.2.2.2.2.1.other W (Or.inr (slot_ne (Or.inl (tw_ hw 170 rfl)) (Or.inl (tw_ hw 190 rfl)) (by decide) (t := (.object "java/util/TreeMap$Entry")) (t' := (.object "java/util/TreeMap$Entry")) (by decide) (by decide))), F.2.2.2.2.2.2.other W (Or.inr (slot_ne (Or.inl (tw_ hw 164 rfl)) (Or.inl (tw_ hw 190 rfl)) (by decide) (t := .boolean) (t' := (.object "java/util/TreeMap$Entry")) (by decide) (by decide)))⟩
theorem own_N.s_parent {a0 : Array Value} {x : Value} (hw : ∀ d ∈ tables_1, d.before a0 Z = true) (F : own_N Z h e kk vv ll rr pp c) (W : Wr h h' e (RoadKit.slotOf Z "java/util/TreeMap$Entry" "parent" "Ljava/util/TreeMap$Entry;") x) : own_N Z h' e kk vv ll rr x c := ⟨F.1.wr W, F.2.1.other W (Or.inr (slot_ne (Or.inl (tw_ hw 166 rfl)) (Or.inl (tw_ hw 170 rfl)) (by decide) (t := (.object "java/lang/Object")) (t' := (.object "java/util/TreeMap$Entry")) (by decide) (by decide))), F.2.2.1.other W (Or.inr (slot_ne (Or.inl (tw_ hw 168 rfl)) (Or.inl (tw_ hw 170 rfl)) (by decide) (t := (.object "java/lang/Object")) (t' := (.object "java/util/TreeMap$Entry")) (by decide) (by decide))), F.2.2.2.1.other W (Or.inr (slot_ne (Or.inl (tw_ hw 212 rfl)) (Or.inl (tw_ hw 170 rfl)) (by decide) (t := (.object "java/util/TreeMap$Entry")) (t' := (.object "java/util/TreeMap$Entry")) (by decide) (by decide))), F.2.2.2.2.1.other W (Or.inr (slot_ne (Or.inl (tw_ hw 190 rfl)) (Or.inl (tw_ hw 170 rfl)) (by decide) (t := (.object "java/util/TreeMap$Entry")) (t' := (.object "java/util/TreeMap$Entry")) (by decide) (by decide))), F.2.2.2.2.2.1.same W, F.2.2.2.2.2.2.other W (Or.inr (slot_ne (Or.inl (tw_ hw 164 rfl)) (Or.inl (tw_ hw 170 rfl)) (by decide) (t := .boolean) (t' := (.object "java/util/TreeMap$Entry")) (by decide) (by decide)))⟩
theorem own_N.s_color {a0 : Array Value} {x : Int32} (hw : ∀ d ∈ tables_1, d.before a0 Z = true) (F : own_N Z h e kk vv ll rr pp c) (W : Wr h h' e (RoadKit.slotOf Z "java/util/TreeMap$Entry" "color" "Z") (.int x)) : own_N Z h' e kk vv ll rr pp x := ⟨F.1.wr W, F.2.1.other W (Or.inr (slot_ne (Or.inl (tw_ hw 166 rfl)) (Or.inl (tw_ hw 164 rfl)) (by decide) (t := (.object "java/lang/Object")) (t' := .boolean) (by decide) (by decide))), F.2.2.1.other W (Or.inr (slot_ne (Or.inl (tw_ hw 168 rfl)) (Or.inl (tw_ hw 164 rfl)) (by decide) (t := (.object "java/lang/Object")) (t' := .boolean) (by decide) (by decide))), F.2.2.2.1.other W (Or.inr (slot_ne (Or.inl (tw_ hw 212 rfl)) (Or.inl (tw_ hw 164 rfl)) (by decide) (t := (.object "java/util/TreeMap$Entry")) (t' := .boolean) (by decide) (by decide))), F.2.2.2.2.1.other W (Or.inr (slot_ne (Or.inl (tw_ hw 190 rfl)) (Or.inl (tw_ hw 164 rfl)) (by decide) (t := (.object "java/util/TreeMap$Entry")) (t' := .boolean) (by decide) (by decide))), F.2.2.2.2.2.1.other W (Or.inr (slot_ne (Or.inl (tw_ hw 170 rfl)) (Or.inl (tw_ hw 164 rfl)) (by decide) (t := (.object "java/util/TreeMap$Entry")) (t' := .boolean) (by decide) (by decide))), F.2.2.2.2.2.2.same W⟩
theorem own_T.ex (F : own_T Z h e root mc sz) : Exa Z h e "java/util/TreeMap" := F.1
theorem own_T.f_root (F : own_T Z h e root mc sz) : Fld Z h e "java/util/TreeMap" "root" "Ljava/util/TreeMap$Entry;" root := F.2.1
theorem own_T.f_comparator (F : own_T Z h e root mc sz) : Fld Z h e "java/util/TreeMap" "comparator" "Ljava/util/Comparator;" .null := F.2.2.1
theorem own_T.f_modCount (F : own_T Z h e root mc sz) : Fld Z h e "java/util/TreeMap" "modCount" "I" (.int mc) := F.2.2.2.1
theorem own_T.f_size (F : own_T Z h e root mc sz) : Fld Z h e "java/util/TreeMap" "size" "I" (.int sz) := F.2.2.2.2
theorem own_T.s_root {a0 : Array Value} {x : Value} (hw : ∀ d ∈ tables_1, d.before a0 Z = true) (F : own_T Z h e root mc sz) (W : Wr h h' e (RoadKit.slotOf Z "java/util/TreeMap" "root" "Ljava/util/TreeMap$Entry;") x) : own_T Z h' e x mc sz := ⟨F.1.wr W, F.2.1.same W, F.2.2.1.other W (Or.inr (slot_ne (Or.inr (tw_ hw 27 rfl)) (Or.inl (tw_ hw 116 rfl)) (by decide) (t := (.object "java/util/Comparator")) (t' := (.object "java/util/TreeMap$Entry")) (by decide) (by decide))), F.2.2.2.1.other W (Or.inr (slot_ne (Or.inl (tw_ hw 25 rfl)) (Or.inl (tw_ hw 116 rfl)) (by decide) (t := .int) (t' := (.object "java/util/TreeMap$Entry")) (by decide) (by decide))), F.2.2.2.2.other W (Or.inr (slot_ne (Or.inl (tw_ hw 23 rfl)) (Or.inl (tw_ hw 116 rfl)) (by decide) (t := .int) (t' := (.object "java/util/TreeMap$Entry")) (by decide) (by decide)))⟩
theorem own_T.s_modCount {a0 : Array Value} {x : Int32} (hw : ∀ d ∈ tables_1, d.before a0 Z = true) (F : own_T Z h e root mc sz) (W : Wr h h' e (RoadKit.slotOf Z "java/util/TreeMap" "modCount" "I") (.int x)) : own_T Z h' e root x sz := ⟨F.1.wr W, F.2.1.other W (Or.inr (slot_ne (Or.inl (tw_ hw 116 rfl)) (Or.inl (tw_ hw 25 rfl)) (by decide) (t := (.object "java/util/TreeMap$Entry")) (t' := .int) (by decide) (by decide))), F.2.2.1.other W (Or.inr (slot_ne (Or.inr (tw_ hw 27 rfl)) (Or.inl (tw_ hw 25 rfl)) (by decide) (t := (.object "java/util/Comparator")) (t' := .int) (by decide) (by decide))), F.2.2.2.1.same W, F.2.2.2.2.other W (Or.inr (slot_ne (Or.inl (tw_ hw 23 rfl)) (Or.inl (tw_ hw 25 rfl)) (by decide) (t := .int) (t' := .int) (by decide) (by decide)))⟩
theorem own_T.s_size {a0 : Array Value} {x : Int32} (hw : ∀ d ∈ tables_1, d.before a0 Z = true) (F : own_T Z h e root mc sz) (W : Wr h h' e (RoadKit.slotOf Z "java/util/TreeMap" "size" "I") (.int x)) : own_T Z h' e root mc x := ⟨F.1.wr W, F.2.1.other W (Or.inr (slot_ne (Or.inl (tw_ hw 116 rfl)) (Or.inl (tw_ hw 23 rfl)) (by decide) (t := (.object "java/util/TreeMap$Entry")) (t' := .int) (by decide) (by decide))), F.2.2.1.other W (Or.inr (slot_ne (Or.inr (tw_ hw 27 rfl)) (Or.inl (tw_ hw 23 rfl)) (by decide) (t := (.object "java/util/Comparator")) (t' := .int) (by decide) (by decide))), F.2.2.2.1.other W (Or.inr (slot_ne (Or.inl (tw_ hw 25 rfl)) (Or.inl (tw_ hw 23 rfl)) (by decide) (t := .int) (t' := .int) (by decide) (by decide))), F.2.2.2.2.same W⟩
end OwnP
abbrev own_c21 : ByteArray := jdk_2729_method_77_code
def own_par_Q (Z : State) (e1 : Nat) (v0 : Value) (h0 : Heap) (n0 : Nat) (v : Option Value) (h : Heap) (L : List Loc) : Prop := v = (some v0) ∧ Fr n0 L ∧ h = h0
theorem pn_java_util_TreeMap : plainName "java/util/TreeMap" = true := by first | (simp [plainName, overriddenIn]; done) | decide +kernel
theorem ef_own_par (m : MethodId) (x0 : Nat) : entryFrame m #[(.ref x0)] 1 = mkF m 0 #[vr x0] [] := by first | (simp [entryFrame, mkF, argsToLocals, Value.category]; done) | rfl
abbrev own_y21 : MethodName := ⟨"java/util/TreeMap", "parentOf", "(Ljava/util/TreeMap$Entry;)Ljava/util/TreeMap$Entry;"⟩
theorem d21_0 : decode own_c21 0 = .ok (.aload_n 0, 1) := by decide +kernel
theorem d21_1 : decode own_c21 1 = .ok (.ifnonnull 7, 3) := by decide +kernel
theorem d21_8 : decode own_c21 8 = .ok (.aload_n 0, 1) := by decide +kernel
theorem d21_9 : decode own_c21 9 = .ok (.getfield 124, 3) := by decide +kernel
theorem d21_12 : decode own_c21 12 = .ok (.areturn, 1) := by decide +kernel
set_option maxRecDepth 65536 in
set_option maxHeartbeats 40000000 in
theorem own_par (l : Launch) (Z : State) (a0 : Array Value) (hW : own_W Z a0) (e1 : Nat) (v0 : Value) (h0 : Heap) (n0 : Nat) (Z0 : n0 ≤ h0.size) (O0 : Old Z n0 h0) (F1 : Fld Z h0 e1 "java/util/TreeMap$Entry" "parent" "Ljava/util/TreeMap$Entry;" v0) (hr : v0.isRef = true) :
    own_MH l own_y21 own_c21 1 (some (.object "java/util/TreeMap$Entry")) (own_r 0 0 0 0) #[(.ref e1)] Z h0 (own_par_Q Z e1 v0 h0 n0) := by
  refine own_enterH (own := "java/util/TreeMap") rfl (plainFor_of_name pn_java_util_TreeMap) (fun m => ef_own_par m e1) ?_
  intro p e s m below meth c s₁ Bd hZH hh hx hby hml hown hnm X0 e0
  have hZ := hZH.wide
  have Y := And.intro hx hby
  have hw := hW.1
  have N0 := Fr.nil n0
  have K0 := Keep.refl h0 []
  obtain ⟨T11, X11, e11, st11⟩ := own_gF X0 Y hZ hown (tw_ hw 202 rfl) e0 F1 (g := (mkF m 9 #[vr e1] [(.ref e1)])) rfl rfl d21_9
  refine own_gs ?_ (own_go st11 ?_)
  · refine own_a X0 Y d21_0 rfl rfl ?_
    refine XS.ifnonnullYes X0.here hx rfl (pc0 := 1) (pc' := 8) rfl (hb hby d21_1) rfl (by decide) (by decide) ?_
    exact own_a X0 Y d21_8 rfl rfl (Steps.refl _)
  exact own_rA X11 Bd rfl (v := v0) hr (hb hby d21_12) e11 (⟨rfl, N0, rfl⟩) rfl rfl
abbrev own_c22 : ByteArray := jdk_2729_method_79_code
def own_lft_Q (Z : State) (e1 : Nat) (v0 : Value) (h0 : Heap) (n0 : Nat) (v : Option Value) (h : Heap) (L : List Loc) : Prop := v = (some v0) ∧ Fr n0 L ∧ h = h0
theorem ef_own_lft (m : MethodId) (x0 : Nat) : entryFrame m #[(.ref x0)] 1 = mkF m 0 #[vr x0] [] := by first | (simp [entryFrame, mkF, argsToLocals, Value.category]; done) | rfl
abbrev own_y22 : MethodName := ⟨"java/util/TreeMap", "leftOf", "(Ljava/util/TreeMap$Entry;)Ljava/util/TreeMap$Entry;"⟩
theorem d22_0 : decode own_c22 0 = .ok (.aload_n 0, 1) := by decide +kernel
theorem d22_1 : decode own_c22 1 = .ok (.ifnonnull 7, 3) := by decide +kernel
theorem d22_8 : decode own_c22 8 = .ok (.aload_n 0, 1) := by decide +kernel
theorem d22_9 : decode own_c22 9 = .ok (.getfield 111, 3) := by decide +kernel
theorem d22_12 : decode own_c22 12 = .ok (.areturn, 1) := by decide +kernel
set_option maxRecDepth 65536 in
set_option maxHeartbeats 40000000 in
theorem own_lft (l : Launch) (Z : State) (a0 : Array Value) (hW : own_W Z a0) (e1 : Nat) (v0 : Value) (h0 : Heap) (n0 : Nat) (Z0 : n0 ≤ h0.size) (O0 : Old Z n0 h0) (F1 : Fld Z h0 e1 "java/util/TreeMap$Entry" "left" "Ljava/util/TreeMap$Entry;" v0) (hr : v0.isRef = true) :
    own_MH l own_y22 own_c22 1 (some (.object "java/util/TreeMap$Entry")) (own_r 0 0 0 0) #[(.ref e1)] Z h0 (own_lft_Q Z e1 v0 h0 n0) := by
  refine own_enterH (own := "java/util/TreeMap") rfl (plainFor_of_name pn_java_util_TreeMap) (fun m => ef_own_lft m e1) ?_
  intro p e s m below meth c s₁ Bd hZH hh hx hby hml hown hnm X0 e0
  have hZ := hZH.wide
  have Y := And.intro hx hby
  have hw := hW.1
  have N0 := Fr.nil n0
  have K0 := Keep.refl h0 []
  obtain ⟨T11, X11, e11, st11⟩ := own_gF X0 Y hZ hown (tw_ hw 211 rfl) e0 F1 (g := (mkF m 9 #[vr e1] [(.ref e1)])) rfl rfl d22_9
  refine own_gs ?_ (own_go st11 ?_)
  · refine own_a X0 Y d22_0 rfl rfl ?_
    refine XS.ifnonnullYes X0.here hx rfl (pc0 := 1) (pc' := 8) rfl (hb hby d22_1) rfl (by decide) (by decide) ?_
    exact own_a X0 Y d22_8 rfl rfl (Steps.refl _)
  exact own_rA X11 Bd rfl (v := v0) hr (hb hby d22_12) e11 (⟨rfl, N0, rfl⟩) rfl rfl
abbrev own_c23 : ByteArray := jdk_2729_method_80_code
def own_rgt_Q (Z : State) (e1 : Nat) (v0 : Value) (h0 : Heap) (n0 : Nat) (v : Option Value) (h : Heap) (L : List Loc) : Prop := v = (some v0) ∧ Fr n0 L ∧ h = h0
theorem ef_own_rgt (m : MethodId) (x0 : Nat) : entryFrame m #[(.ref x0)] 1 = mkF m 0 #[vr x0] [] := by first | (simp [entryFrame, mkF, argsToLocals, Value.category]; done) | rfl
abbrev own_y23 : MethodName := ⟨"java/util/TreeMap", "rightOf", "(Ljava/util/TreeMap$Entry;)Ljava/util/TreeMap$Entry;"⟩
theorem d23_0 : decode own_c23 0 = .ok (.aload_n 0, 1) := by decide +kernel
theorem d23_1 : decode own_c23 1 = .ok (.ifnonnull 7, 3) := by decide +kernel
theorem d23_8 : decode own_c23 8 = .ok (.aload_n 0, 1) := by decide +kernel
theorem d23_9 : decode own_c23 9 = .ok (.getfield 114, 3) := by decide +kernel
theorem d23_12 : decode own_c23 12 = .ok (.areturn, 1) := by decide +kernel
set_option maxRecDepth 65536 in
set_option maxHeartbeats 40000000 in
theorem own_rgt (l : Launch) (Z : State) (a0 : Array Value) (hW : own_W Z a0) (e1 : Nat) (v0 : Value) (h0 : Heap) (n0 : Nat) (Z0 : n0 ≤ h0.size) (O0 : Old Z n0 h0) (F1 : Fld Z h0 e1 "java/util/TreeMap$Entry" "right" "Ljava/util/TreeMap$Entry;" v0) (hr : v0.isRef = true) :
    own_MH l own_y23 own_c23 1 (some (.object "java/util/TreeMap$Entry")) (own_r 0 0 0 0) #[(.ref e1)] Z h0 (own_rgt_Q Z e1 v0 h0 n0) := by
  refine own_enterH (own := "java/util/TreeMap") rfl (plainFor_of_name pn_java_util_TreeMap) (fun m => ef_own_rgt m e1) ?_
  intro p e s m below meth c s₁ Bd hZH hh hx hby hml hown hnm X0 e0
  have hZ := hZH.wide
  have Y := And.intro hx hby
  have hw := hW.1
  have N0 := Fr.nil n0
  have K0 := Keep.refl h0 []
  obtain ⟨T11, X11, e11, st11⟩ := own_gF X0 Y hZ hown (tw_ hw 189 rfl) e0 F1 (g := (mkF m 9 #[vr e1] [(.ref e1)])) rfl rfl d23_9
  refine own_gs ?_ (own_go st11 ?_)
  · refine own_a X0 Y d23_0 rfl rfl ?_
    refine XS.ifnonnullYes X0.here hx rfl (pc0 := 1) (pc' := 8) rfl (hb hby d23_1) rfl (by decide) (by decide) ?_
    exact own_a X0 Y d23_8 rfl rfl (Steps.refl _)
  exact own_rA X11 Bd rfl (v := v0) hr (hb hby d23_12) e11 (⟨rfl, N0, rfl⟩) rfl rfl
abbrev own_c24 : ByteArray := jdk_2729_method_76_code
def own_col0_Q (Z : State) (e1 : Nat) (h0 : Heap) (n0 : Nat) (v : Option Value) (h : Heap) (L : List Loc) : Prop := v = (some (.int (0 : Int32))) ∧ Fr n0 L ∧ h = h0
theorem ef_own_col0 (m : MethodId) (x0 : Nat) : entryFrame m #[(.ref x0)] 1 = mkF m 0 #[vr x0] [] := by first | (simp [entryFrame, mkF, argsToLocals, Value.category]; done) | rfl
abbrev own_y24 : MethodName := ⟨"java/util/TreeMap", "colorOf", "(Ljava/util/TreeMap$Entry;)Z"⟩
theorem d24_0 : decode own_c24 0 = .ok (.aload_n 0, 1) := by decide +kernel
theorem d24_1 : decode own_c24 1 = .ok (.ifnonnull 7, 3) := by decide +kernel
theorem d24_8 : decode own_c24 8 = .ok (.aload_n 0, 1) := by decide +kernel
theorem d24_9 : decode own_c24 9 = .ok (.getfield 290, 3) := by decide +kernel
theorem d24_12 : decode own_c24 12 = .ok (.ireturn, 1) := by decide +kernel
set_option maxRecDepth 65536 in
set_option maxHeartbeats 40000000 in
theorem own_col0 (l : Launch) (Z : State) (a0 : Array Value) (hW : own_W Z a0) (e1 : Nat) (h0 : Heap) (n0 : Nat) (Z0 : n0 ≤ h0.size) (O0 : Old Z n0 h0) (F1 : Fld Z h0 e1 "java/util/TreeMap$Entry" "color" "Z" (.int (0 : Int32))) :
    own_MH l own_y24 own_c24 1 (some .boolean) (own_r 0 0 0 0) #[(.ref e1)] Z h0 (own_col0_Q Z e1 h0 n0) := by
  refine own_enterH (own := "java/util/TreeMap") rfl (plainFor_of_name pn_java_util_TreeMap) (fun m => ef_own_col0 m e1) ?_
  intro p e s m below meth c s₁ Bd hZH hh hx hby hml hown hnm X0 e0
  have hZ := hZH.wide
  have Y := And.intro hx hby
  have hw := hW.1
  have N0 := Fr.nil n0
  have K0 := Keep.refl h0 []
  obtain ⟨T11, X11, e11, st11⟩ := own_gF X0 Y hZ hown (tw_ hw 201 rfl) e0 F1 (g := (mkF m 9 #[vr e1] [(.ref e1)])) rfl rfl d24_9
  refine own_gs ?_ (own_go st11 ?_)
  · refine own_a X0 Y d24_0 rfl rfl ?_
    refine XS.ifnonnullYes X0.here hx rfl (pc0 := 1) (pc' := 8) rfl (hb hby d24_1) rfl (by decide) (by decide) ?_
    exact own_a X0 Y d24_8 rfl rfl (Steps.refl _)
  exact own_rN X11 Bd (by simp) (v := (0 : Int32)) rfl (hb hby d24_12) e11 (⟨rfl, N0, rfl⟩) rfl rfl
def own_col1_Q (Z : State) (e1 : Nat) (h0 : Heap) (n0 : Nat) (v : Option Value) (h : Heap) (L : List Loc) : Prop := v = (some (.int (1 : Int32))) ∧ Fr n0 L ∧ h = h0
theorem ef_own_col1 (m : MethodId) (x0 : Nat) : entryFrame m #[(.ref x0)] 1 = mkF m 0 #[vr x0] [] := by first | (simp [entryFrame, mkF, argsToLocals, Value.category]; done) | rfl
set_option maxRecDepth 65536 in
set_option maxHeartbeats 40000000 in
theorem own_col1 (l : Launch) (Z : State) (a0 : Array Value) (hW : own_W Z a0) (e1 : Nat) (h0 : Heap) (n0 : Nat) (Z0 : n0 ≤ h0.size) (O0 : Old Z n0 h0) (F1 : Fld Z h0 e1 "java/util/TreeMap$Entry" "color" "Z" (.int (1 : Int32))) :
    own_MH l own_y24 own_c24 1 (some .boolean) (own_r 0 0 0 0) #[(.ref e1)] Z h0 (own_col1_Q Z e1 h0 n0) := by
  refine own_enterH (own := "java/util/TreeMap") rfl (plainFor_of_name pn_java_util_TreeMap) (fun m => ef_own_col1 m e1) ?_
  intro p e s m below meth c s₁ Bd hZH hh hx hby hml hown hnm X0 e0
  have hZ := hZH.wide
  have Y := And.intro hx hby
  have hw := hW.1
  have N0 := Fr.nil n0
  have K0 := Keep.refl h0 []
  obtain ⟨T11, X11, e11, st11⟩ := own_gF X0 Y hZ hown (tw_ hw 201 rfl) e0 F1 (g := (mkF m 9 #[vr e1] [(.ref e1)])) rfl rfl d24_9
  refine own_gs ?_ (own_go st11 ?_)
  · refine own_a X0 Y d24_0 rfl rfl ?_
    refine XS.ifnonnullYes X0.here hx rfl (pc0 := 1) (pc' := 8) rfl (hb hby d24_1) rfl (by decide) (by decide) ?_
    exact own_a X0 Y d24_8 rfl rfl (Steps.refl _)
  exact own_rN X11 Bd (by simp) (v := (1 : Int32)) rfl (hb hby d24_12) e11 (⟨rfl, N0, rfl⟩) rfl rfl
def own_coln_Q (Z : State)  (h0 : Heap) (n0 : Nat) (v : Option Value) (h : Heap) (L : List Loc) : Prop := v = (some (.int (1 : Int32))) ∧ Fr n0 L ∧ h = h0
theorem ef_own_coln (m : MethodId)  : entryFrame m #[.null] 1 = mkF m 0 #[vn] [] := by first | (simp [entryFrame, mkF, argsToLocals, Value.category]; done) | rfl
theorem d24_4 : decode own_c24 4 = .ok (.iconst 1, 1) := by decide +kernel
theorem d24_5 : decode own_c24 5 = .ok (.goto 7, 3) := by decide +kernel
set_option maxRecDepth 65536 in
set_option maxHeartbeats 40000000 in
theorem own_coln (l : Launch) (Z : State) (a0 : Array Value) (hW : own_W Z a0)  (h0 : Heap) (n0 : Nat) (Z0 : n0 ≤ h0.size) (O0 : Old Z n0 h0)  :
    own_MH l own_y24 own_c24 1 (some .boolean) (own_r 0 0 0 0) #[.null] Z h0 (own_coln_Q Z  h0 n0) := by
  refine own_enterH (own := "java/util/TreeMap") rfl (plainFor_of_name pn_java_util_TreeMap) (fun m => ef_own_coln m ) ?_
  intro p e s m below meth c s₁ Bd hZH hh hx hby hml hown hnm X0 e0
  have hZ := hZH.wide
  have Y := And.intro hx hby
  have hw := hW.1
  have N0 := Fr.nil n0
  have K0 := Keep.refl h0 []
  refine own_gs (cur' := s₁.setTop (mkF m 12 #[vn] [(.int (1 : Int32))])) ?_ ?_
  · refine own_a X0 Y d24_0 rfl rfl ?_
    refine XS.ifnonnullNo X0.here hx rfl (hb hby d24_1) rfl ?_
    refine own_ic X0 Y d24_4 ?_
    exact XS.goto X0.here hx rfl (pc0 := 5) (pc' := 12) rfl (hb hby d24_5) (by decide) (by decide) (Steps.refl _)
  exact own_rN X0 Bd (by simp) (v := (1 : Int32)) rfl (hb hby d24_12) e0 (⟨rfl, N0, rfl⟩) rfl rfl
abbrev own_c25 : ByteArray := jdk_2729_method_78_code
def own_sco0_Q (Z : State) (e1 : Nat) (kk vv ll rr pp : Value) (c0 : Int32) (h0 : Heap) (n0 : Nat) (v : Option Value) (h : Heap) (L : List Loc) : Prop := v = none ∧ Fr n0 L ∧ Keep h0 h [e1] ∧ own_N Z h e1 kk vv ll rr pp (0 : Int32)
theorem ef_own_sco0 (m : MethodId) (x0 : Nat) (x1 : Int32) : entryFrame m #[(.ref x0), (.int x1)] 2 = mkF m 0 #[vr x0, vi x1] [] := by first | (simp [entryFrame, mkF, argsToLocals, Value.category]; done) | rfl
abbrev own_y25 : MethodName := ⟨"java/util/TreeMap", "setColor", "(Ljava/util/TreeMap$Entry;Z)V"⟩
theorem d25_0 : decode own_c25 0 = .ok (.aload_n 0, 1) := by decide +kernel
theorem d25_1 : decode own_c25 1 = .ok (.ifnull 8, 3) := by decide +kernel
theorem d25_4 : decode own_c25 4 = .ok (.aload_n 0, 1) := by decide +kernel
theorem d25_5 : decode own_c25 5 = .ok (.iload_n 1, 1) := by decide +kernel
theorem d25_6 : decode own_c25 6 = .ok (.putfield 290, 3) := by decide +kernel
theorem d25_9 : decode own_c25 9 = .ok (.return_, 1) := by decide +kernel
set_option maxRecDepth 65536 in
set_option maxHeartbeats 40000000 in
theorem own_sco0 (l : Launch) (Z : State) (a0 : Array Value) (hW : own_W Z a0) (e1 : Nat) (kk vv ll rr pp : Value) (c0 : Int32) (h0 : Heap) (n0 : Nat) (Z0 : n0 ≤ h0.size) (O0 : Old Z n0 h0) (F1 : own_N Z h0 e1 kk vv ll rr pp c0) (g1 : n0 ≤ e1) :
    own_MH l own_y25 own_c25 2 none (own_r 0 0 0 0) #[(.ref e1), (.int (0 : Int32))] Z h0 (own_sco0_Q Z e1 kk vv ll rr pp c0 h0 n0) := by
  refine own_enterH (own := "java/util/TreeMap") rfl (plainFor_of_name pn_java_util_TreeMap) (fun m => ef_own_sco0 m e1 (0 : Int32)) ?_
  intro p e s m below meth c s₁ Bd hZH hh hx hby hml hown hnm X0 e0
  have hZ := hZH.wide
  have Y := And.intro hx hby
  have hw := hW.1
  have N0 := Fr.nil n0
  have K0 := Keep.refl h0 [e1]
  have lte1 := own_lt F1.lt
  obtain ⟨T11, h11, X11, e11, W11, st11⟩ := own_pF X0 Y hZ hown (tw_ hw 201 rfl) e0 (own_N.f_color F1) (own_N.ex F1) (tw_ hw 164 rfl) (tw_ hw 156 rfl) (ty := .boolean) (by decide) rfl rfl (g := (mkF m 6 #[vr e1, vi (0 : Int32)] [(.int (0 : Int32)), (.ref e1)])) rfl rfl d25_6
  have F11 := own_N.s_color hw F1 W11
  refine own_gs ?_ (own_go st11 ?_)
  · refine own_a X0 Y d25_0 rfl rfl ?_
    refine XS.ifnullNo X0.here hx rfl (hb hby d25_1) rfl ?_
    refine own_a X0 Y d25_4 rfl rfl ?_
    exact XS.iloadN X0.here hx rfl (hb hby d25_5) rfl (Steps.refl _)
  obtain ⟨z12, Zz12, K12, O12, N12⟩ := own_eW W11 Z0 K0 O0 N0 (own_i 0 rfl) (by omega)
  exact own_rV X11 Bd (hb hby d25_9) e11 (⟨rfl, N12, K12, F11⟩) rfl rfl
def own_sco1_Q (Z : State) (e1 : Nat) (kk vv ll rr pp : Value) (c0 : Int32) (h0 : Heap) (n0 : Nat) (v : Option Value) (h : Heap) (L : List Loc) : Prop := v = none ∧ Fr n0 L ∧ Keep h0 h [e1] ∧ own_N Z h e1 kk vv ll rr pp (1 : Int32)
theorem ef_own_sco1 (m : MethodId) (x0 : Nat) (x1 : Int32) : entryFrame m #[(.ref x0), (.int x1)] 2 = mkF m 0 #[vr x0, vi x1] [] := by first | (simp [entryFrame, mkF, argsToLocals, Value.category]; done) | rfl
set_option maxRecDepth 65536 in
set_option maxHeartbeats 40000000 in
theorem own_sco1 (l : Launch) (Z : State) (a0 : Array Value) (hW : own_W Z a0) (e1 : Nat) (kk vv ll rr pp : Value) (c0 : Int32) (h0 : Heap) (n0 : Nat) (Z0 : n0 ≤ h0.size) (O0 : Old Z n0 h0) (F1 : own_N Z h0 e1 kk vv ll rr pp c0) (g1 : n0 ≤ e1) :
    own_MH l own_y25 own_c25 2 none (own_r 0 0 0 0) #[(.ref e1), (.int (1 : Int32))] Z h0 (own_sco1_Q Z e1 kk vv ll rr pp c0 h0 n0) := by
  refine own_enterH (own := "java/util/TreeMap") rfl (plainFor_of_name pn_java_util_TreeMap) (fun m => ef_own_sco1 m e1 (1 : Int32)) ?_
  intro p e s m below meth c s₁ Bd hZH hh hx hby hml hown hnm X0 e0
  have hZ := hZH.wide
  have Y := And.intro hx hby
  have hw := hW.1
  have N0 := Fr.nil n0
  have K0 := Keep.refl h0 [e1]
  have lte1 := own_lt F1.lt
  obtain ⟨T11, h11, X11, e11, W11, st11⟩ := own_pF X0 Y hZ hown (tw_ hw 201 rfl) e0 (own_N.f_color F1) (own_N.ex F1) (tw_ hw 164 rfl) (tw_ hw 156 rfl) (ty := .boolean) (by decide) rfl rfl (g := (mkF m 6 #[vr e1, vi (1 : Int32)] [(.int (1 : Int32)), (.ref e1)])) rfl rfl d25_6
  have F11 := own_N.s_color hw F1 W11
  refine own_gs ?_ (own_go st11 ?_)
  · refine own_a X0 Y d25_0 rfl rfl ?_
    refine XS.ifnullNo X0.here hx rfl (hb hby d25_1) rfl ?_
    refine own_a X0 Y d25_4 rfl rfl ?_
    exact XS.iloadN X0.here hx rfl (hb hby d25_5) rfl (Steps.refl _)
  obtain ⟨z12, Zz12, K12, O12, N12⟩ := own_eW W11 Z0 K0 O0 N0 (own_i 0 rfl) (by omega)
  exact own_rV X11 Bd (hb hby d25_9) e11 (⟨rfl, N12, K12, F11⟩) rfl rfl
abbrev own_c26 : ByteArray := jdk_2729_method_82_code
def own_rotRr_Q (Z : State) (tm g1 x1 : Nat) (mc sz : Int32) (kg vg sg kx vx sx : Value) (cg cx : Int32) (h0 : Heap) (n0 : Nat) (v : Option Value) (h : Heap) (L : List Loc) : Prop := v = none ∧ Fr n0 L ∧ Keep h0 h [tm, g1, x1] ∧ own_T Z h tm (.ref x1) mc sz ∧ own_N Z h g1 kg vg .null sg (.ref x1) cg ∧ own_N Z h x1 kx vx sx (.ref g1) .null cx
theorem ef_own_rotRr (m : MethodId) (x0 : Nat) (x1 : Nat) : entryFrame m #[(.ref x0), (.ref x1)] 3 = mkF m 0 #[vr x0, vr x1, .unset] [] := by first | (simp [entryFrame, mkF, argsToLocals, Value.category]; done) | rfl
abbrev own_y26 : MethodName := ⟨"java/util/TreeMap", "rotateRight", "(Ljava/util/TreeMap$Entry;)V"⟩
theorem d26_0 : decode own_c26 0 = .ok (.aload_n 1, 1) := by decide +kernel
theorem d26_1 : decode own_c26 1 = .ok (.ifnull 94, 3) := by decide +kernel
theorem d26_4 : decode own_c26 4 = .ok (.aload_n 1, 1) := by decide +kernel
theorem d26_5 : decode own_c26 5 = .ok (.getfield 111, 3) := by decide +kernel
theorem d26_8 : decode own_c26 8 = .ok (.astore_n 2, 1) := by decide +kernel
theorem d26_9 : decode own_c26 9 = .ok (.aload_n 1, 1) := by decide +kernel
theorem d26_10 : decode own_c26 10 = .ok (.aload_n 2, 1) := by decide +kernel
theorem d26_11 : decode own_c26 11 = .ok (.getfield 114, 3) := by decide +kernel
theorem d26_14 : decode own_c26 14 = .ok (.putfield 111, 3) := by decide +kernel
theorem d26_17 : decode own_c26 17 = .ok (.aload_n 2, 1) := by decide +kernel
theorem d26_18 : decode own_c26 18 = .ok (.getfield 114, 3) := by decide +kernel
theorem d26_21 : decode own_c26 21 = .ok (.ifnull 11, 3) := by decide +kernel
theorem d26_32 : decode own_c26 32 = .ok (.aload_n 2, 1) := by decide +kernel
theorem d26_33 : decode own_c26 33 = .ok (.aload_n 1, 1) := by decide +kernel
theorem d26_34 : decode own_c26 34 = .ok (.getfield 124, 3) := by decide +kernel
theorem d26_37 : decode own_c26 37 = .ok (.putfield 124, 3) := by decide +kernel
theorem d26_40 : decode own_c26 40 = .ok (.aload_n 1, 1) := by decide +kernel
theorem d26_41 : decode own_c26 41 = .ok (.getfield 124, 3) := by decide +kernel
theorem d26_44 : decode own_c26 44 = .ok (.ifnonnull 11, 3) := by decide +kernel
theorem d26_47 : decode own_c26 47 = .ok (.aload_n 0, 1) := by decide +kernel
theorem d26_48 : decode own_c26 48 = .ok (.aload_n 2, 1) := by decide +kernel
theorem d26_49 : decode own_c26 49 = .ok (.putfield 101, 3) := by decide +kernel
theorem d26_52 : decode own_c26 52 = .ok (.goto 33, 3) := by decide +kernel
theorem d26_85 : decode own_c26 85 = .ok (.aload_n 2, 1) := by decide +kernel
theorem d26_86 : decode own_c26 86 = .ok (.aload_n 1, 1) := by decide +kernel
theorem d26_87 : decode own_c26 87 = .ok (.putfield 114, 3) := by decide +kernel
theorem d26_90 : decode own_c26 90 = .ok (.aload_n 1, 1) := by decide +kernel
theorem d26_91 : decode own_c26 91 = .ok (.aload_n 2, 1) := by decide +kernel
theorem d26_92 : decode own_c26 92 = .ok (.putfield 124, 3) := by decide +kernel
theorem d26_95 : decode own_c26 95 = .ok (.return_, 1) := by decide +kernel
set_option maxRecDepth 65536 in
set_option maxHeartbeats 40000000 in
theorem own_rotRr (l : Launch) (Z : State) (a0 : Array Value) (hW : own_W Z a0) (tm g1 x1 : Nat) (mc sz : Int32) (kg vg sg kx vx sx : Value) (cg cx : Int32) (h0 : Heap) (n0 : Nat) (Z0 : n0 ≤ h0.size) (O0 : Old Z n0 h0) (T1 : own_T Z h0 tm (.ref g1) mc sz) (G1 : own_N Z h0 g1 kg vg (.ref x1) sg .null cg) (X1 : own_N Z h0 x1 kx vx sx .null (.ref g1) cx) (gt : n0 ≤ tm) (gg : n0 ≤ g1) (gx : n0 ≤ x1) (hgx : own_Ne g1 x1) :
    own_MH l own_y26 own_c26 3 none (own_r 0 0 0 0) #[(.ref tm), (.ref g1)] Z h0 (own_rotRr_Q Z tm g1 x1 mc sz kg vg sg kx vx sx cg cx h0 n0) := by
  refine own_enterH (own := "java/util/TreeMap") rfl (plainFor_of_name pn_java_util_TreeMap) (fun m => ef_own_rotRr m tm g1) ?_
  intro p e s m below meth c s₁ Bd hZH hh hx hby hml hown hnm X0 e0
  have hZ := hZH.wide
  have Y := And.intro hx hby
  have hw := hW.1
  have N0 := Fr.nil n0
  have K0 := Keep.refl h0 [tm, g1, x1]
  have lttm := own_lt T1.lt
  have ltg1 := own_lt G1.lt
  have ltx1 := own_lt X1.lt
  obtain ⟨T11, X11, e11, st11⟩ := own_gF X0 Y hZ hown (tw_ hw 211 rfl) e0 (own_N.f_left G1) (g := (mkF m 5 #[vr tm, vr g1, uu] [(.ref g1)])) rfl rfl d26_5
  refine own_gs ?_ (own_go st11 ?_)
  · refine own_a X0 Y d26_0 rfl rfl ?_
    refine XS.ifnullNo X0.here hx rfl (hb hby d26_1) rfl ?_
    exact own_a X0 Y d26_4 rfl rfl (Steps.refl _)
  obtain ⟨T12, X12, e12, st12⟩ := own_gF X11 Y hZ hown (tw_ hw 189 rfl) e11 (own_N.f_right X1) (g := (mkF m 11 #[vr tm, vr g1, vr x1] [(.ref x1), (.ref g1)])) rfl rfl d26_11
  refine own_gs ?_ (own_go st12 ?_)
  · refine XS.astoreN X11.here hx rfl (hb hby d26_8) rfl rfl (l' := #[vr tm, vr g1, vr x1]) rfl ?_
    refine own_a X11 Y d26_9 rfl rfl ?_
    exact own_a X11 Y d26_10 rfl rfl (Steps.refl _)
  obtain ⟨T13, h13, X13, e13, W13, st13⟩ := own_pF X12 Y hZ hown (tw_ hw 211 rfl) e12 (own_N.f_left G1) (own_N.ex G1) (tw_ hw 212 rfl) (tw_ hw 156 rfl) (ty := (.object "java/util/TreeMap$Entry")) (by decide) rfl rfl (g := (mkF m 14 #[vr tm, vr g1, vr x1] [.null, (.ref g1)])) rfl rfl d26_14
  have F13 := own_N.s_left hw G1 W13
  refine own_go st13 ?_
  obtain ⟨z14, Zz14, K14, O14, N14⟩ := own_eW W13 Z0 K0 O0 N0 (own_i 1 rfl) gg
  have f16 := (X1.keep (Keep.of_wr W13) (ninS (Ne.symm hgx) nin0))
  obtain ⟨T15, X15, e15, st15⟩ := own_gF X13 Y hZ hown (tw_ hw 189 rfl) e13 (own_N.f_right f16) (g := (mkF m 18 #[vr tm, vr g1, vr x1] [(.ref x1)])) rfl rfl d26_18
  refine own_gs ?_ (own_go st15 ?_)
  · exact own_a X13 Y d26_17 rfl rfl (Steps.refl _)
  obtain ⟨T17, X17, e17, st17⟩ := own_gF X15 Y hZ hown (tw_ hw 202 rfl) e15 (own_N.f_parent F13) (g := (mkF m 34 #[vr tm, vr g1, vr x1] [(.ref g1), (.ref x1)])) rfl rfl d26_34
  refine own_gs ?_ (own_go st17 ?_)
  · refine XS.ifnullYes X15.here hx rfl (pc0 := 21) (pc' := 32) rfl (hb hby d26_21) rfl (by decide) (by decide) ?_
    refine own_a X15 Y d26_32 rfl rfl ?_
    exact own_a X15 Y d26_33 rfl rfl (Steps.refl _)
  obtain ⟨T18, h18, X18, e18, W18, st18⟩ := own_pF X17 Y hZ hown (tw_ hw 202 rfl) e17 (own_N.f_parent f16) (own_N.ex f16) (tw_ hw 170 rfl) (tw_ hw 156 rfl) (ty := (.object "java/util/TreeMap$Entry")) (by decide) rfl rfl (g := (mkF m 37 #[vr tm, vr g1, vr x1] [.null, (.ref x1)])) rfl rfl d26_37
  have F18 := own_N.s_parent hw f16 W18
  refine own_go st18 ?_
  obtain ⟨z19, Zz19, K19, O19, N19⟩ := own_eW W18 Zz14 K14 O14 N14 (own_i 2 rfl) gx
  have f21 := (F13.keep (Keep.of_wr W18) (ninS hgx nin0))
  obtain ⟨T20, X20, e20, st20⟩ := own_gF X18 Y hZ hown (tw_ hw 202 rfl) e18 (own_N.f_parent f21) (g := (mkF m 41 #[vr tm, vr g1, vr x1] [(.ref g1)])) rfl rfl d26_41
  refine own_gs ?_ (own_go st20 ?_)
  · exact own_a X18 Y d26_40 rfl rfl (Steps.refl _)
  have f24 := (((own_T.ex T1).wr W13).wr W18)
  have f25 := (((own_N.ex G1).wr W13).wr W18)
  have nc23 : own_Ne tm g1 := ne_exa f24 f25 (by decide)
  have f27 := (((own_N.ex X1).wr W13).wr W18)
  have nc26 : own_Ne tm x1 := ne_exa f24 f27 (by decide)
  have f28 := ((T1.keep (Keep.of_wr W13) (ninS nc23 nin0)).keep (Keep.of_wr W18) (ninS nc26 nin0))
  obtain ⟨T22, h22, X22, e22, W22, st22⟩ := own_pF X20 Y hZ hown (tw_ hw 115 rfl) e20 (own_T.f_root f28) (own_T.ex f28) (tw_ hw 116 rfl) (tw_ hw 10 rfl) (ty := (.object "java/util/TreeMap$Entry")) (by decide) rfl rfl (g := (mkF m 49 #[vr tm, vr g1, vr x1] [(.ref x1), (.ref tm)])) rfl rfl d26_49
  have F22 := own_T.s_root hw f28 W22
  refine own_gs ?_ (own_go st22 ?_)
  · refine XS.ifnonnullNo X20.here hx rfl (hb hby d26_44) rfl ?_
    refine own_a X20 Y d26_47 rfl rfl ?_
    exact own_a X20 Y d26_48 rfl rfl (Steps.refl _)
  obtain ⟨z29, Zz29, K29, O29, N29⟩ := own_eW W22 Zz19 K19 O19 N19 (own_i 0 rfl) gt
  have f31 := (F18.keep (Keep.of_wr W22) (ninS (Ne.symm nc26) nin0))
  obtain ⟨T30, h30, X30, e30, W30, st30⟩ := own_pF X22 Y hZ hown (tw_ hw 189 rfl) e22 (own_N.f_right f31) (own_N.ex f31) (tw_ hw 190 rfl) (tw_ hw 156 rfl) (ty := (.object "java/util/TreeMap$Entry")) (by decide) rfl rfl (g := (mkF m 87 #[vr tm, vr g1, vr x1] [(.ref g1), (.ref x1)])) rfl rfl d26_87
  have F30 := own_N.s_right hw f31 W30
  refine own_gs ?_ (own_go st30 ?_)
  · refine XS.goto X22.here hx rfl (pc0 := 52) (pc' := 85) rfl (hb hby d26_52) (by decide) (by decide) ?_
    refine own_a X22 Y d26_85 rfl rfl ?_
    exact own_a X22 Y d26_86 rfl rfl (Steps.refl _)
  obtain ⟨z32, Zz32, K32, O32, N32⟩ := own_eW W30 Zz29 K29 O29 N29 (own_i 2 rfl) gx
  have f34 := ((f21.keep (Keep.of_wr W22) (ninS (Ne.symm nc23) nin0)).keep (Keep.of_wr W30) (ninS hgx nin0))
  obtain ⟨T33, h33, X33, e33, W33, st33⟩ := own_pF X30 Y hZ hown (tw_ hw 202 rfl) e30 (own_N.f_parent f34) (own_N.ex f34) (tw_ hw 170 rfl) (tw_ hw 156 rfl) (ty := (.object "java/util/TreeMap$Entry")) (by decide) rfl rfl (g := (mkF m 92 #[vr tm, vr g1, vr x1] [(.ref x1), (.ref g1)])) rfl rfl d26_92
  have F33 := own_N.s_parent hw f34 W33
  refine own_gs ?_ (own_go st33 ?_)
  · refine own_a X30 Y d26_90 rfl rfl ?_
    exact own_a X30 Y d26_91 rfl rfl (Steps.refl _)
  obtain ⟨z35, Zz35, K35, O35, N35⟩ := own_eW W33 Zz32 K32 O32 N32 (own_i 1 rfl) gg
  have f36 := ((F22.keep (Keep.of_wr W30) (ninS nc26 nin0)).keep (Keep.of_wr W33) (ninS nc23 nin0))
  have f37 := (F30.keep (Keep.of_wr W33) (ninS (Ne.symm hgx) nin0))
  exact own_rV X33 Bd (hb hby d26_95) e33 (⟨rfl, N35, K35, f36, F33, f37⟩) rfl rfl
abbrev own_c27 : ByteArray := jdk_2729_method_81_code
def own_rotLr_Q (Z : State) (tm g1 x1 : Nat) (mc sz : Int32) (kg vg sg kx vx sx : Value) (cg cx : Int32) (h0 : Heap) (n0 : Nat) (v : Option Value) (h : Heap) (L : List Loc) : Prop := v = none ∧ Fr n0 L ∧ Keep h0 h [tm, g1, x1] ∧ own_T Z h tm (.ref x1) mc sz ∧ own_N Z h g1 kg vg sg .null (.ref x1) cg ∧ own_N Z h x1 kx vx (.ref g1) sx .null cx
theorem ef_own_rotLr (m : MethodId) (x0 : Nat) (x1 : Nat) : entryFrame m #[(.ref x0), (.ref x1)] 3 = mkF m 0 #[vr x0, vr x1, .unset] [] := by first | (simp [entryFrame, mkF, argsToLocals, Value.category]; done) | rfl
abbrev own_y27 : MethodName := ⟨"java/util/TreeMap", "rotateLeft", "(Ljava/util/TreeMap$Entry;)V"⟩
theorem d27_0 : decode own_c27 0 = .ok (.aload_n 1, 1) := by decide +kernel
theorem d27_1 : decode own_c27 1 = .ok (.ifnull 94, 3) := by decide +kernel
theorem d27_4 : decode own_c27 4 = .ok (.aload_n 1, 1) := by decide +kernel
theorem d27_5 : decode own_c27 5 = .ok (.getfield 114, 3) := by decide +kernel
theorem d27_8 : decode own_c27 8 = .ok (.astore_n 2, 1) := by decide +kernel
theorem d27_9 : decode own_c27 9 = .ok (.aload_n 1, 1) := by decide +kernel
theorem d27_10 : decode own_c27 10 = .ok (.aload_n 2, 1) := by decide +kernel
theorem d27_11 : decode own_c27 11 = .ok (.getfield 111, 3) := by decide +kernel
theorem d27_14 : decode own_c27 14 = .ok (.putfield 114, 3) := by decide +kernel
theorem d27_17 : decode own_c27 17 = .ok (.aload_n 2, 1) := by decide +kernel
theorem d27_18 : decode own_c27 18 = .ok (.getfield 111, 3) := by decide +kernel
theorem d27_21 : decode own_c27 21 = .ok (.ifnull 11, 3) := by decide +kernel
theorem d27_32 : decode own_c27 32 = .ok (.aload_n 2, 1) := by decide +kernel
theorem d27_33 : decode own_c27 33 = .ok (.aload_n 1, 1) := by decide +kernel
theorem d27_34 : decode own_c27 34 = .ok (.getfield 124, 3) := by decide +kernel
theorem d27_37 : decode own_c27 37 = .ok (.putfield 124, 3) := by decide +kernel
theorem d27_40 : decode own_c27 40 = .ok (.aload_n 1, 1) := by decide +kernel
theorem d27_41 : decode own_c27 41 = .ok (.getfield 124, 3) := by decide +kernel
theorem d27_44 : decode own_c27 44 = .ok (.ifnonnull 11, 3) := by decide +kernel
theorem d27_47 : decode own_c27 47 = .ok (.aload_n 0, 1) := by decide +kernel
theorem d27_48 : decode own_c27 48 = .ok (.aload_n 2, 1) := by decide +kernel
theorem d27_49 : decode own_c27 49 = .ok (.putfield 101, 3) := by decide +kernel
theorem d27_52 : decode own_c27 52 = .ok (.goto 33, 3) := by decide +kernel
theorem d27_85 : decode own_c27 85 = .ok (.aload_n 2, 1) := by decide +kernel
theorem d27_86 : decode own_c27 86 = .ok (.aload_n 1, 1) := by decide +kernel
theorem d27_87 : decode own_c27 87 = .ok (.putfield 111, 3) := by decide +kernel
theorem d27_90 : decode own_c27 90 = .ok (.aload_n 1, 1) := by decide +kernel
theorem d27_91 : decode own_c27 91 = .ok (.aload_n 2, 1) := by decide +kernel
theorem d27_92 : decode own_c27 92 = .ok (.putfield 124, 3) := by decide +kernel
theorem d27_95 : decode own_c27 95 = .ok (.return_, 1) := by decide +kernel
set_option maxRecDepth 65536 in
set_option maxHeartbeats 40000000 in
theorem own_rotLr (l : Launch) (Z : State) (a0 : Array Value) (hW : own_W Z a0) (tm g1 x1 : Nat) (mc sz : Int32) (kg vg sg kx vx sx : Value) (cg cx : Int32) (h0 : Heap) (n0 : Nat) (Z0 : n0 ≤ h0.size) (O0 : Old Z n0 h0) (T1 : own_T Z h0 tm (.ref g1) mc sz) (G1 : own_N Z h0 g1 kg vg sg (.ref x1) .null cg) (X1 : own_N Z h0 x1 kx vx .null sx (.ref g1) cx) (gt : n0 ≤ tm) (gg : n0 ≤ g1) (gx : n0 ≤ x1) (hgx : own_Ne g1 x1) :
    own_MH l own_y27 own_c27 3 none (own_r 0 0 0 0) #[(.ref tm), (.ref g1)] Z h0 (own_rotLr_Q Z tm g1 x1 mc sz kg vg sg kx vx sx cg cx h0 n0) := by
  refine own_enterH (own := "java/util/TreeMap") rfl (plainFor_of_name pn_java_util_TreeMap) (fun m => ef_own_rotLr m tm g1) ?_
  intro p e s m below meth c s₁ Bd hZH hh hx hby hml hown hnm X0 e0
  have hZ := hZH.wide
  have Y := And.intro hx hby
  have hw := hW.1
  have N0 := Fr.nil n0
  have K0 := Keep.refl h0 [tm, g1, x1]
  have lttm := own_lt T1.lt
  have ltg1 := own_lt G1.lt
  have ltx1 := own_lt X1.lt
  obtain ⟨T11, X11, e11, st11⟩ := own_gF X0 Y hZ hown (tw_ hw 189 rfl) e0 (own_N.f_right G1) (g := (mkF m 5 #[vr tm, vr g1, uu] [(.ref g1)])) rfl rfl d27_5
  refine own_gs ?_ (own_go st11 ?_)
  · refine own_a X0 Y d27_0 rfl rfl ?_
    refine XS.ifnullNo X0.here hx rfl (hb hby d27_1) rfl ?_
    exact own_a X0 Y d27_4 rfl rfl (Steps.refl _)
  obtain ⟨T12, X12, e12, st12⟩ := own_gF X11 Y hZ hown (tw_ hw 211 rfl) e11 (own_N.f_left X1) (g := (mkF m 11 #[vr tm, vr g1, vr x1] [(.ref x1), (.ref g1)])) rfl rfl d27_11
  refine own_gs ?_ (own_go st12 ?_)
  · refine XS.astoreN X11.here hx rfl (hb hby d27_8) rfl rfl (l' := #[vr tm, vr g1, vr x1]) rfl ?_
    refine own_a X11 Y d27_9 rfl rfl ?_
    exact own_a X11 Y d27_10 rfl rfl (Steps.refl _)
  obtain ⟨T13, h13, X13, e13, W13, st13⟩ := own_pF X12 Y hZ hown (tw_ hw 189 rfl) e12 (own_N.f_right G1) (own_N.ex G1) (tw_ hw 190 rfl) (tw_ hw 156 rfl) (ty := (.object "java/util/TreeMap$Entry")) (by decide) rfl rfl (g := (mkF m 14 #[vr tm, vr g1, vr x1] [.null, (.ref g1)])) rfl rfl d27_14
  have F13 := own_N.s_right hw G1 W13
  refine own_go st13 ?_
  obtain ⟨z14, Zz14, K14, O14, N14⟩ := own_eW W13 Z0 K0 O0 N0 (own_i 1 rfl) gg
  have f16 := (X1.keep (Keep.of_wr W13) (ninS (Ne.symm hgx) nin0))
  obtain ⟨T15, X15, e15, st15⟩ := own_gF X13 Y hZ hown (tw_ hw 211 rfl) e13 (own_N.f_left f16) (g := (mkF m 18 #[vr tm, vr g1, vr x1] [(.ref x1)])) rfl rfl d27_18
  refine own_gs ?_ (own_go st15 ?_)
  · exact own_a X13 Y d27_17 rfl rfl (Steps.refl _)
  obtain ⟨T17, X17, e17, st17⟩ := own_gF X15 Y hZ hown (tw_ hw 202 rfl) e15 (own_N.f_parent F13) (g := (mkF m 34 #[vr tm, vr g1, vr x1] [(.ref g1), (.ref x1)])) rfl rfl d27_34
  refine own_gs ?_ (own_go st17 ?_)
  · refine XS.ifnullYes X15.here hx rfl (pc0 := 21) (pc' := 32) rfl (hb hby d27_21) rfl (by decide) (by decide) ?_
    refine own_a X15 Y d27_32 rfl rfl ?_
    exact own_a X15 Y d27_33 rfl rfl (Steps.refl _)
  obtain ⟨T18, h18, X18, e18, W18, st18⟩ := own_pF X17 Y hZ hown (tw_ hw 202 rfl) e17 (own_N.f_parent f16) (own_N.ex f16) (tw_ hw 170 rfl) (tw_ hw 156 rfl) (ty := (.object "java/util/TreeMap$Entry")) (by decide) rfl rfl (g := (mkF m 37 #[vr tm, vr g1, vr x1] [.null, (.ref x1)])) rfl rfl d27_37
  have F18 := own_N.s_parent hw f16 W18
  refine own_go st18 ?_
  obtain ⟨z19, Zz19, K19, O19, N19⟩ := own_eW W18 Zz14 K14 O14 N14 (own_i 2 rfl) gx
  have f21 := (F13.keep (Keep.of_wr W18) (ninS hgx nin0))
  obtain ⟨T20, X20, e20, st20⟩ := own_gF X18 Y hZ hown (tw_ hw 202 rfl) e18 (own_N.f_parent f21) (g := (mkF m 41 #[vr tm, vr g1, vr x1] [(.ref g1)])) rfl rfl d27_41
  refine own_gs ?_ (own_go st20 ?_)
  · exact own_a X18 Y d27_40 rfl rfl (Steps.refl _)
  have f24 := (((own_T.ex T1).wr W13).wr W18)
  have f25 := (((own_N.ex G1).wr W13).wr W18)
  have nc23 : own_Ne tm g1 := ne_exa f24 f25 (by decide)
  have f27 := (((own_N.ex X1).wr W13).wr W18)
  have nc26 : own_Ne tm x1 := ne_exa f24 f27 (by decide)
  have f28 := ((T1.keep (Keep.of_wr W13) (ninS nc23 nin0)).keep (Keep.of_wr W18) (ninS nc26 nin0))
  obtain ⟨T22, h22, X22, e22, W22, st22⟩ := own_pF X20 Y hZ hown (tw_ hw 115 rfl) e20 (own_T.f_root f28) (own_T.ex f28) (tw_ hw 116 rfl) (tw_ hw 10 rfl) (ty := (.object "java/util/TreeMap$Entry")) (by decide) rfl rfl (g := (mkF m 49 #[vr tm, vr g1, vr x1] [(.ref x1), (.ref tm)])) rfl rfl d27_49
  have F22 := own_T.s_root hw f28 W22
  refine own_gs ?_ (own_go st22 ?_)
  · refine XS.ifnonnullNo X20.here hx rfl (hb hby d27_44) rfl ?_
    refine own_a X20 Y d27_47 rfl rfl ?_
    exact own_a X20 Y d27_48 rfl rfl (Steps.refl _)
  obtain ⟨z29, Zz29, K29, O29, N29⟩ := own_eW W22 Zz19 K19 O19 N19 (own_i 0 rfl) gt
  have f31 := (F18.keep (Keep.of_wr W22) (ninS (Ne.symm nc26) nin0))
  obtain ⟨T30, h30, X30, e30, W30, st30⟩ := own_pF X22 Y hZ hown (tw_ hw 211 rfl) e22 (own_N.f_left f31) (own_N.ex f31) (tw_ hw 212 rfl) (tw_ hw 156 rfl) (ty := (.object "java/util/TreeMap$Entry")) (by decide) rfl rfl (g := (mkF m 87 #[vr tm, vr g1, vr x1] [(.ref g1), (.ref x1)])) rfl rfl d27_87
  have F30 := own_N.s_left hw f31 W30
  refine own_gs ?_ (own_go st30 ?_)
  · refine XS.goto X22.here hx rfl (pc0 := 52) (pc' := 85) rfl (hb hby d27_52) (by decide) (by decide) ?_
    refine own_a X22 Y d27_85 rfl rfl ?_
    exact own_a X22 Y d27_86 rfl rfl (Steps.refl _)
  obtain ⟨z32, Zz32, K32, O32, N32⟩ := own_eW W30 Zz29 K29 O29 N29 (own_i 2 rfl) gx
  have f34 := ((f21.keep (Keep.of_wr W22) (ninS (Ne.symm nc23) nin0)).keep (Keep.of_wr W30) (ninS hgx nin0))
  obtain ⟨T33, h33, X33, e33, W33, st33⟩ := own_pF X30 Y hZ hown (tw_ hw 202 rfl) e30 (own_N.f_parent f34) (own_N.ex f34) (tw_ hw 170 rfl) (tw_ hw 156 rfl) (ty := (.object "java/util/TreeMap$Entry")) (by decide) rfl rfl (g := (mkF m 92 #[vr tm, vr g1, vr x1] [(.ref x1), (.ref g1)])) rfl rfl d27_92
  have F33 := own_N.s_parent hw f34 W33
  refine own_gs ?_ (own_go st33 ?_)
  · refine own_a X30 Y d27_90 rfl rfl ?_
    exact own_a X30 Y d27_91 rfl rfl (Steps.refl _)
  obtain ⟨z35, Zz35, K35, O35, N35⟩ := own_eW W33 Zz32 K32 O32 N32 (own_i 1 rfl) gg
  have f36 := ((F22.keep (Keep.of_wr W30) (ninS nc26 nin0)).keep (Keep.of_wr W33) (ninS nc23 nin0))
  have f37 := (F30.keep (Keep.of_wr W33) (ninS (Ne.symm hgx) nin0))
  exact own_rV X33 Bd (hb hby d27_95) e33 (⟨rfl, N35, K35, f36, F33, f37⟩) rfl rfl
def own_rotLi_Q (Z : State) (tm g1 p1 x1 : Nat) (mc sz : Int32) (root kg vg sg pg kp vp sp kx vx sx : Value) (cg cp cx : Int32) (h0 : Heap) (n0 : Nat) (v : Option Value) (h : Heap) (L : List Loc) : Prop := v = none ∧ Fr n0 L ∧ Keep h0 h [g1, p1, x1] ∧ own_N Z h g1 kg vg (.ref x1) sg pg cg ∧ own_N Z h p1 kp vp sp .null (.ref x1) cp ∧ own_N Z h x1 kx vx (.ref p1) sx (.ref g1) cx
theorem ef_own_rotLi (m : MethodId) (x0 : Nat) (x1 : Nat) : entryFrame m #[(.ref x0), (.ref x1)] 3 = mkF m 0 #[vr x0, vr x1, .unset] [] := by first | (simp [entryFrame, mkF, argsToLocals, Value.category]; done) | rfl
theorem d27_55 : decode own_c27 55 = .ok (.aload_n 1, 1) := by decide +kernel
theorem d27_56 : decode own_c27 56 = .ok (.getfield 124, 3) := by decide +kernel
theorem d27_59 : decode own_c27 59 = .ok (.getfield 111, 3) := by decide +kernel
theorem d27_62 : decode own_c27 62 = .ok (.aload_n 1, 1) := by decide +kernel
theorem d27_63 : decode own_c27 63 = .ok (.if_acmp .ne 14, 3) := by decide +kernel
theorem d27_66 : decode own_c27 66 = .ok (.aload_n 1, 1) := by decide +kernel
theorem d27_67 : decode own_c27 67 = .ok (.getfield 124, 3) := by decide +kernel
theorem d27_70 : decode own_c27 70 = .ok (.aload_n 2, 1) := by decide +kernel
theorem d27_71 : decode own_c27 71 = .ok (.putfield 111, 3) := by decide +kernel
theorem d27_74 : decode own_c27 74 = .ok (.goto 11, 3) := by decide +kernel
set_option maxRecDepth 65536 in
set_option maxHeartbeats 40000000 in
theorem own_rotLi (l : Launch) (Z : State) (a0 : Array Value) (hW : own_W Z a0) (tm g1 p1 x1 : Nat) (mc sz : Int32) (root kg vg sg pg kp vp sp kx vx sx : Value) (cg cp cx : Int32) (h0 : Heap) (n0 : Nat) (Z0 : n0 ≤ h0.size) (O0 : Old Z n0 h0) (T1 : own_T Z h0 tm root mc sz) (G1 : own_N Z h0 g1 kg vg (.ref p1) sg pg cg) (P1 : own_N Z h0 p1 kp vp sp (.ref x1) (.ref g1) cp) (X1 : own_N Z h0 x1 kx vx .null sx (.ref p1) cx) (gg : n0 ≤ g1) (gp : n0 ≤ p1) (gx : n0 ≤ x1) (hgp : own_Ne g1 p1) (hgx : own_Ne g1 x1) (hpx : own_Ne p1 x1) :
    own_MH l own_y27 own_c27 3 none (own_r 0 0 0 0) #[(.ref tm), (.ref p1)] Z h0 (own_rotLi_Q Z tm g1 p1 x1 mc sz root kg vg sg pg kp vp sp kx vx sx cg cp cx h0 n0) := by
  refine own_enterH (own := "java/util/TreeMap") rfl (plainFor_of_name pn_java_util_TreeMap) (fun m => ef_own_rotLi m tm p1) ?_
  intro p e s m below meth c s₁ Bd hZH hh hx hby hml hown hnm X0 e0
  have hZ := hZH.wide
  have Y := And.intro hx hby
  have hw := hW.1
  have N0 := Fr.nil n0
  have K0 := Keep.refl h0 [g1, p1, x1]
  have lttm := own_lt T1.lt
  have ltg1 := own_lt G1.lt
  have ltp1 := own_lt P1.lt
  have ltx1 := own_lt X1.lt
  obtain ⟨T11, X11, e11, st11⟩ := own_gF X0 Y hZ hown (tw_ hw 189 rfl) e0 (own_N.f_right P1) (g := (mkF m 5 #[vr tm, vr p1, uu] [(.ref p1)])) rfl rfl d27_5
  refine own_gs ?_ (own_go st11 ?_)
  · refine own_a X0 Y d27_0 rfl rfl ?_
    refine XS.ifnullNo X0.here hx rfl (hb hby d27_1) rfl ?_
    exact own_a X0 Y d27_4 rfl rfl (Steps.refl _)
  obtain ⟨T12, X12, e12, st12⟩ := own_gF X11 Y hZ hown (tw_ hw 211 rfl) e11 (own_N.f_left X1) (g := (mkF m 11 #[vr tm, vr p1, vr x1] [(.ref x1), (.ref p1)])) rfl rfl d27_11
  refine own_gs ?_ (own_go st12 ?_)
  · refine XS.astoreN X11.here hx rfl (hb hby d27_8) rfl rfl (l' := #[vr tm, vr p1, vr x1]) rfl ?_
    refine own_a X11 Y d27_9 rfl rfl ?_
    exact own_a X11 Y d27_10 rfl rfl (Steps.refl _)
  obtain ⟨T13, h13, X13, e13, W13, st13⟩ := own_pF X12 Y hZ hown (tw_ hw 189 rfl) e12 (own_N.f_right P1) (own_N.ex P1) (tw_ hw 190 rfl) (tw_ hw 156 rfl) (ty := (.object "java/util/TreeMap$Entry")) (by decide) rfl rfl (g := (mkF m 14 #[vr tm, vr p1, vr x1] [.null, (.ref p1)])) rfl rfl d27_14
  have F13 := own_N.s_right hw P1 W13
  refine own_go st13 ?_
  obtain ⟨z14, Zz14, K14, O14, N14⟩ := own_eW W13 Z0 K0 O0 N0 (own_i 1 rfl) gp
  have f16 := (X1.keep (Keep.of_wr W13) (ninS (Ne.symm hpx) nin0))
  obtain ⟨T15, X15, e15, st15⟩ := own_gF X13 Y hZ hown (tw_ hw 211 rfl) e13 (own_N.f_left f16) (g := (mkF m 18 #[vr tm, vr p1, vr x1] [(.ref x1)])) rfl rfl d27_18
  refine own_gs ?_ (own_go st15 ?_)
  · exact own_a X13 Y d27_17 rfl rfl (Steps.refl _)
  obtain ⟨T17, X17, e17, st17⟩ := own_gF X15 Y hZ hown (tw_ hw 202 rfl) e15 (own_N.f_parent F13) (g := (mkF m 34 #[vr tm, vr p1, vr x1] [(.ref p1), (.ref x1)])) rfl rfl d27_34
  refine own_gs ?_ (own_go st17 ?_)
  · refine XS.ifnullYes X15.here hx rfl (pc0 := 21) (pc' := 32) rfl (hb hby d27_21) rfl (by decide) (by decide) ?_
    refine own_a X15 Y d27_32 rfl rfl ?_
    exact own_a X15 Y d27_33 rfl rfl (Steps.refl _)
  obtain ⟨T18, h18, X18, e18, W18, st18⟩ := own_pF X17 Y hZ hown (tw_ hw 202 rfl) e17 (own_N.f_parent f16) (own_N.ex f16) (tw_ hw 170 rfl) (tw_ hw 156 rfl) (ty := (.object "java/util/TreeMap$Entry")) (by decide) rfl rfl (g := (mkF m 37 #[vr tm, vr p1, vr x1] [(.ref g1), (.ref x1)])) rfl rfl d27_37
  have F18 := own_N.s_parent hw f16 W18
  refine own_go st18 ?_
  obtain ⟨z19, Zz19, K19, O19, N19⟩ := own_eW W18 Zz14 K14 O14 N14 (own_i 2 rfl) gx
  have f21 := (F13.keep (Keep.of_wr W18) (ninS hpx nin0))
  obtain ⟨T20, X20, e20, st20⟩ := own_gF X18 Y hZ hown (tw_ hw 202 rfl) e18 (own_N.f_parent f21) (g := (mkF m 41 #[vr tm, vr p1, vr x1] [(.ref p1)])) rfl rfl d27_41
  refine own_gs ?_ (own_go st20 ?_)
  · exact own_a X18 Y d27_40 rfl rfl (Steps.refl _)
  obtain ⟨T22, X22, e22, st22⟩ := own_gF X20 Y hZ hown (tw_ hw 202 rfl) e20 (own_N.f_parent f21) (g := (mkF m 56 #[vr tm, vr p1, vr x1] [(.ref p1)])) rfl rfl d27_56
  refine own_gs ?_ (own_go st22 ?_)
  · refine XS.ifnonnullYes X20.here hx rfl (pc0 := 44) (pc' := 55) rfl (hb hby d27_44) rfl (by decide) (by decide) ?_
    exact own_a X20 Y d27_55 rfl rfl (Steps.refl _)
  have f24 := ((G1.keep (Keep.of_wr W13) (ninS hgp nin0)).keep (Keep.of_wr W18) (ninS hgx nin0))
  obtain ⟨T23, X23, e23, st23⟩ := own_gF X22 Y hZ hown (tw_ hw 211 rfl) e22 (own_N.f_left f24) (g := (mkF m 59 #[vr tm, vr p1, vr x1] [(.ref g1)])) rfl rfl d27_59
  refine own_go st23 ?_
  obtain ⟨T25, X25, e25, st25⟩ := own_gF X23 Y hZ hown (tw_ hw 202 rfl) e23 (own_N.f_parent f21) (g := (mkF m 67 #[vr tm, vr p1, vr x1] [(.ref p1)])) rfl rfl d27_67
  refine own_gs ?_ (own_go st25 ?_)
  · refine own_a X23 Y d27_62 rfl rfl ?_
    refine Jvm.RoadKit.acmp (g := (mkF m 63 #[vr tm, vr p1, vr x1] [(.ref p1), (.ref p1)])) X23 hx rfl rfl rfl (pc0 := 63) (pc' := 66) (same := true) rfl (hb hby d27_63) rfl (decide_eq_true rfl) (by decide) (by decide) ?_
    exact own_a X23 Y d27_66 rfl rfl (Steps.refl _)
  obtain ⟨T26, h26, X26, e26, W26, st26⟩ := own_pF X25 Y hZ hown (tw_ hw 211 rfl) e25 (own_N.f_left f24) (own_N.ex f24) (tw_ hw 212 rfl) (tw_ hw 156 rfl) (ty := (.object "java/util/TreeMap$Entry")) (by decide) rfl rfl (g := (mkF m 71 #[vr tm, vr p1, vr x1] [(.ref x1), (.ref g1)])) rfl rfl d27_71
  have F26 := own_N.s_left hw f24 W26
  refine own_gs ?_ (own_go st26 ?_)
  · exact own_a X25 Y d27_70 rfl rfl (Steps.refl _)
  obtain ⟨z27, Zz27, K27, O27, N27⟩ := own_eW W26 Zz19 K19 O19 N19 (own_i 0 rfl) gg
  have f29 := (F18.keep (Keep.of_wr W26) (ninS (Ne.symm hgx) nin0))
  obtain ⟨T28, h28, X28, e28, W28, st28⟩ := own_pF X26 Y hZ hown (tw_ hw 211 rfl) e26 (own_N.f_left f29) (own_N.ex f29) (tw_ hw 212 rfl) (tw_ hw 156 rfl) (ty := (.object "java/util/TreeMap$Entry")) (by decide) rfl rfl (g := (mkF m 87 #[vr tm, vr p1, vr x1] [(.ref p1), (.ref x1)])) rfl rfl d27_87
  have F28 := own_N.s_left hw f29 W28
  refine own_gs ?_ (own_go st28 ?_)
  · refine XS.goto X26.here hx rfl (pc0 := 74) (pc' := 85) rfl (hb hby d27_74) (by decide) (by decide) ?_
    refine own_a X26 Y d27_85 rfl rfl ?_
    exact own_a X26 Y d27_86 rfl rfl (Steps.refl _)
  obtain ⟨z30, Zz30, K30, O30, N30⟩ := own_eW W28 Zz27 K27 O27 N27 (own_i 2 rfl) gx
  have f32 := ((f21.keep (Keep.of_wr W26) (ninS (Ne.symm hgp) nin0)).keep (Keep.of_wr W28) (ninS hpx nin0))
  obtain ⟨T31, h31, X31, e31, W31, st31⟩ := own_pF X28 Y hZ hown (tw_ hw 202 rfl) e28 (own_N.f_parent f32) (own_N.ex f32) (tw_ hw 170 rfl) (tw_ hw 156 rfl) (ty := (.object "java/util/TreeMap$Entry")) (by decide) rfl rfl (g := (mkF m 92 #[vr tm, vr p1, vr x1] [(.ref x1), (.ref p1)])) rfl rfl d27_92
  have F31 := own_N.s_parent hw f32 W31
  refine own_gs ?_ (own_go st31 ?_)
  · refine own_a X28 Y d27_90 rfl rfl ?_
    exact own_a X28 Y d27_91 rfl rfl (Steps.refl _)
  obtain ⟨z33, Zz33, K33, O33, N33⟩ := own_eW W31 Zz30 K30 O30 N30 (own_i 1 rfl) gp
  have f34 := ((F26.keep (Keep.of_wr W28) (ninS hgx nin0)).keep (Keep.of_wr W31) (ninS hgp nin0))
  have f35 := (F28.keep (Keep.of_wr W31) (ninS (Ne.symm hpx) nin0))
  exact own_rV X31 Bd (hb hby d27_95) e31 (⟨rfl, N33, K33, f34, F31, f35⟩) rfl rfl
def own_rotRi_Q (Z : State) (tm g1 p1 x1 : Nat) (mc sz : Int32) (root kg vg sg pg kp vp sp kx vx sx : Value) (cg cp cx : Int32) (h0 : Heap) (n0 : Nat) (v : Option Value) (h : Heap) (L : List Loc) : Prop := v = none ∧ Fr n0 L ∧ Keep h0 h [g1, p1, x1] ∧ own_N Z h g1 kg vg sg (.ref x1) pg cg ∧ own_N Z h p1 kp vp .null sp (.ref x1) cp ∧ own_N Z h x1 kx vx sx (.ref p1) (.ref g1) cx
theorem ef_own_rotRi (m : MethodId) (x0 : Nat) (x1 : Nat) : entryFrame m #[(.ref x0), (.ref x1)] 3 = mkF m 0 #[vr x0, vr x1, .unset] [] := by first | (simp [entryFrame, mkF, argsToLocals, Value.category]; done) | rfl
theorem d26_55 : decode own_c26 55 = .ok (.aload_n 1, 1) := by decide +kernel
theorem d26_56 : decode own_c26 56 = .ok (.getfield 124, 3) := by decide +kernel
theorem d26_59 : decode own_c26 59 = .ok (.getfield 114, 3) := by decide +kernel
theorem d26_62 : decode own_c26 62 = .ok (.aload_n 1, 1) := by decide +kernel
theorem d26_63 : decode own_c26 63 = .ok (.if_acmp .ne 14, 3) := by decide +kernel
theorem d26_66 : decode own_c26 66 = .ok (.aload_n 1, 1) := by decide +kernel
theorem d26_67 : decode own_c26 67 = .ok (.getfield 124, 3) := by decide +kernel
theorem d26_70 : decode own_c26 70 = .ok (.aload_n 2, 1) := by decide +kernel
theorem d26_71 : decode own_c26 71 = .ok (.putfield 114, 3) := by decide +kernel
theorem d26_74 : decode own_c26 74 = .ok (.goto 11, 3) := by decide +kernel
set_option maxRecDepth 65536 in
set_option maxHeartbeats 40000000 in
theorem own_rotRi (l : Launch) (Z : State) (a0 : Array Value) (hW : own_W Z a0) (tm g1 p1 x1 : Nat) (mc sz : Int32) (root kg vg sg pg kp vp sp kx vx sx : Value) (cg cp cx : Int32) (h0 : Heap) (n0 : Nat) (Z0 : n0 ≤ h0.size) (O0 : Old Z n0 h0) (T1 : own_T Z h0 tm root mc sz) (G1 : own_N Z h0 g1 kg vg sg (.ref p1) pg cg) (P1 : own_N Z h0 p1 kp vp (.ref x1) sp (.ref g1) cp) (X1 : own_N Z h0 x1 kx vx sx .null (.ref p1) cx) (gg : n0 ≤ g1) (gp : n0 ≤ p1) (gx : n0 ≤ x1) (hgp : own_Ne g1 p1) (hgx : own_Ne g1 x1) (hpx : own_Ne p1 x1) :
    own_MH l own_y26 own_c26 3 none (own_r 0 0 0 0) #[(.ref tm), (.ref p1)] Z h0 (own_rotRi_Q Z tm g1 p1 x1 mc sz root kg vg sg pg kp vp sp kx vx sx cg cp cx h0 n0) := by
  refine own_enterH (own := "java/util/TreeMap") rfl (plainFor_of_name pn_java_util_TreeMap) (fun m => ef_own_rotRi m tm p1) ?_
  intro p e s m below meth c s₁ Bd hZH hh hx hby hml hown hnm X0 e0
  have hZ := hZH.wide
  have Y := And.intro hx hby
  have hw := hW.1
  have N0 := Fr.nil n0
  have K0 := Keep.refl h0 [g1, p1, x1]
  have lttm := own_lt T1.lt
  have ltg1 := own_lt G1.lt
  have ltp1 := own_lt P1.lt
  have ltx1 := own_lt X1.lt
  obtain ⟨T11, X11, e11, st11⟩ := own_gF X0 Y hZ hown (tw_ hw 211 rfl) e0 (own_N.f_left P1) (g := (mkF m 5 #[vr tm, vr p1, uu] [(.ref p1)])) rfl rfl d26_5
  refine own_gs ?_ (own_go st11 ?_)
  · refine own_a X0 Y d26_0 rfl rfl ?_
    refine XS.ifnullNo X0.here hx rfl (hb hby d26_1) rfl ?_
    exact own_a X0 Y d26_4 rfl rfl (Steps.refl _)
  obtain ⟨T12, X12, e12, st12⟩ := own_gF X11 Y hZ hown (tw_ hw 189 rfl) e11 (own_N.f_right X1) (g := (mkF m 11 #[vr tm, vr p1, vr x1] [(.ref x1), (.ref p1)])) rfl rfl d26_11
  refine own_gs ?_ (own_go st12 ?_)
  · refine XS.astoreN X11.here hx rfl (hb hby d26_8) rfl rfl (l' := #[vr tm, vr p1, vr x1]) rfl ?_
    refine own_a X11 Y d26_9 rfl rfl ?_
    exact own_a X11 Y d26_10 rfl rfl (Steps.refl _)
  obtain ⟨T13, h13, X13, e13, W13, st13⟩ := own_pF X12 Y hZ hown (tw_ hw 211 rfl) e12 (own_N.f_left P1) (own_N.ex P1) (tw_ hw 212 rfl) (tw_ hw 156 rfl) (ty := (.object "java/util/TreeMap$Entry")) (by decide) rfl rfl (g := (mkF m 14 #[vr tm, vr p1, vr x1] [.null, (.ref p1)])) rfl rfl d26_14
  have F13 := own_N.s_left hw P1 W13
  refine own_go st13 ?_
  obtain ⟨z14, Zz14, K14, O14, N14⟩ := own_eW W13 Z0 K0 O0 N0 (own_i 1 rfl) gp
  have f16 := (X1.keep (Keep.of_wr W13) (ninS (Ne.symm hpx) nin0))
  obtain ⟨T15, X15, e15, st15⟩ := own_gF X13 Y hZ hown (tw_ hw 189 rfl) e13 (own_N.f_right f16) (g := (mkF m 18 #[vr tm, vr p1, vr x1] [(.ref x1)])) rfl rfl d26_18
  refine own_gs ?_ (own_go st15 ?_)
  · exact own_a X13 Y d26_17 rfl rfl (Steps.refl _)
  obtain ⟨T17, X17, e17, st17⟩ := own_gF X15 Y hZ hown (tw_ hw 202 rfl) e15 (own_N.f_parent F13) (g := (mkF m 34 #[vr tm, vr p1, vr x1] [(.ref p1), (.ref x1)])) rfl rfl d26_34
  refine own_gs ?_ (own_go st17 ?_)
  · refine XS.ifnullYes X15.here hx rfl (pc0 := 21) (pc' := 32) rfl (hb hby d26_21) rfl (by decide) (by decide) ?_
    refine own_a X15 Y d26_32 rfl rfl ?_
    exact own_a X15 Y d26_33 rfl rfl (Steps.refl _)
  obtain ⟨T18, h18, X18, e18, W18, st18⟩ := own_pF X17 Y hZ hown (tw_ hw 202 rfl) e17 (own_N.f_parent f16) (own_N.ex f16) (tw_ hw 170 rfl) (tw_ hw 156 rfl) (ty := (.object "java/util/TreeMap$Entry")) (by decide) rfl rfl (g := (mkF m 37 #[vr tm, vr p1, vr x1] [(.ref g1), (.ref x1)])) rfl rfl d26_37
  have F18 := own_N.s_parent hw f16 W18
  refine own_go st18 ?_
  obtain ⟨z19, Zz19, K19, O19, N19⟩ := own_eW W18 Zz14 K14 O14 N14 (own_i 2 rfl) gx
  have f21 := (F13.keep (Keep.of_wr W18) (ninS hpx nin0))
  obtain ⟨T20, X20, e20, st20⟩ := own_gF X18 Y hZ hown (tw_ hw 202 rfl) e18 (own_N.f_parent f21) (g := (mkF m 41 #[vr tm, vr p1, vr x1] [(.ref p1)])) rfl rfl d26_41
  refine own_gs ?_ (own_go st20 ?_)
  · exact own_a X18 Y d26_40 rfl rfl (Steps.refl _)
  obtain ⟨T22, X22, e22, st22⟩ := own_gF X20 Y hZ hown (tw_ hw 202 rfl) e20 (own_N.f_parent f21) (g := (mkF m 56 #[vr tm, vr p1, vr x1] [(.ref p1)])) rfl rfl d26_56
  refine own_gs ?_ (own_go st22 ?_)
  · refine XS.ifnonnullYes X20.here hx rfl (pc0 := 44) (pc' := 55) rfl (hb hby d26_44) rfl (by decide) (by decide) ?_
    exact own_a X20 Y d26_55 rfl rfl (Steps.refl _)
  have f24 := ((G1.keep (Keep.of_wr W13) (ninS hgp nin0)).keep (Keep.of_wr W18) (ninS hgx nin0))
  obtain ⟨T23, X23, e23, st23⟩ := own_gF X22 Y hZ hown (tw_ hw 189 rfl) e22 (own_N.f_right f24) (g := (mkF m 59 #[vr tm, vr p1, vr x1] [(.ref g1)])) rfl rfl d26_59
  refine own_go st23 ?_
  obtain ⟨T25, X25, e25, st25⟩ := own_gF X23 Y hZ hown (tw_ hw 202 rfl) e23 (own_N.f_parent f21) (g := (mkF m 67 #[vr tm, vr p1, vr x1] [(.ref p1)])) rfl rfl d26_67
  refine own_gs ?_ (own_go st25 ?_)
  · refine own_a X23 Y d26_62 rfl rfl ?_
    refine Jvm.RoadKit.acmp (g := (mkF m 63 #[vr tm, vr p1, vr x1] [(.ref p1), (.ref p1)])) X23 hx rfl rfl rfl (pc0 := 63) (pc' := 66) (same := true) rfl (hb hby d26_63) rfl (decide_eq_true rfl) (by decide) (by decide) ?_
    exact own_a X23 Y d26_66 rfl rfl (Steps.refl _)
  obtain ⟨T26, h26, X26, e26, W26, st26⟩ := own_pF X25 Y hZ hown (tw_ hw 189 rfl) e25 (own_N.f_right f24) (own_N.ex f24) (tw_ hw 190 rfl) (tw_ hw 156 rfl) (ty := (.object "java/util/TreeMap$Entry")) (by decide) rfl rfl (g := (mkF m 71 #[vr tm, vr p1, vr x1] [(.ref x1), (.ref g1)])) rfl rfl d26_71
  have F26 := own_N.s_right hw f24 W26
  refine own_gs ?_ (own_go st26 ?_)
  · exact own_a X25 Y d26_70 rfl rfl (Steps.refl _)
  obtain ⟨z27, Zz27, K27, O27, N27⟩ := own_eW W26 Zz19 K19 O19 N19 (own_i 0 rfl) gg
  have f29 := (F18.keep (Keep.of_wr W26) (ninS (Ne.symm hgx) nin0))
  obtain ⟨T28, h28, X28, e28, W28, st28⟩ := own_pF X26 Y hZ hown (tw_ hw 189 rfl) e26 (own_N.f_right f29) (own_N.ex f29) (tw_ hw 190 rfl) (tw_ hw 156 rfl) (ty := (.object "java/util/TreeMap$Entry")) (by decide) rfl rfl (g := (mkF m 87 #[vr tm, vr p1, vr x1] [(.ref p1), (.ref x1)])) rfl rfl d26_87
  have F28 := own_N.s_right hw f29 W28
  refine own_gs ?_ (own_go st28 ?_)
  · refine XS.goto X26.here hx rfl (pc0 := 74) (pc' := 85) rfl (hb hby d26_74) (by decide) (by decide) ?_
    refine own_a X26 Y d26_85 rfl rfl ?_
    exact own_a X26 Y d26_86 rfl rfl (Steps.refl _)
  obtain ⟨z30, Zz30, K30, O30, N30⟩ := own_eW W28 Zz27 K27 O27 N27 (own_i 2 rfl) gx
  have f32 := ((f21.keep (Keep.of_wr W26) (ninS (Ne.symm hgp) nin0)).keep (Keep.of_wr W28) (ninS hpx nin0))
  obtain ⟨T31, h31, X31, e31, W31, st31⟩ := own_pF X28 Y hZ hown (tw_ hw 202 rfl) e28 (own_N.f_parent f32) (own_N.ex f32) (tw_ hw 170 rfl) (tw_ hw 156 rfl) (ty := (.object "java/util/TreeMap$Entry")) (by decide) rfl rfl (g := (mkF m 92 #[vr tm, vr p1, vr x1] [(.ref x1), (.ref p1)])) rfl rfl d26_92
  have F31 := own_N.s_parent hw f32 W31
  refine own_gs ?_ (own_go st31 ?_)
  · refine own_a X28 Y d26_90 rfl rfl ?_
    exact own_a X28 Y d26_91 rfl rfl (Steps.refl _)
  obtain ⟨z33, Zz33, K33, O33, N33⟩ := own_eW W31 Zz30 K30 O30 N30 (own_i 1 rfl) gp
  have f34 := ((F26.keep (Keep.of_wr W28) (ninS hgx nin0)).keep (Keep.of_wr W31) (ninS hgp nin0))
  have f35 := (F28.keep (Keep.of_wr W31) (ninS (Ne.symm hpx) nin0))
  exact own_rV X31 Bd (hb hby d26_95) e31 (⟨rfl, N33, K33, f34, F31, f35⟩) rfl rfl
abbrev own_c28 : ByteArray := jdk_2729_method_83_code
def own_fib_Q (Z : State) (tm r1 x1 : Nat) (mc sz : Int32) (kr wr lr rr pr kx vx lx rx : Value) (cx : Int32) (h0 : Heap) (n0 : Nat) (v : Option Value) (h : Heap) (L : List Loc) : Prop := v = none ∧ Fr n0 L ∧ Keep h0 h [x1, r1] ∧ own_N Z h r1 kr wr lr rr pr 1 ∧ own_N Z h x1 kx vx lx rx (.ref r1) 0
theorem ef_own_fib (m : MethodId) (x0 : Nat) (x1 : Nat) : entryFrame m #[(.ref x0), (.ref x1)] 3 = mkF m 0 #[vr x0, vr x1, .unset] [] := by first | (simp [entryFrame, mkF, argsToLocals, Value.category]; done) | rfl
abbrev own_y28 : MethodName := ⟨"java/util/TreeMap", "fixAfterInsertion", "(Ljava/util/TreeMap$Entry;)V"⟩
theorem d28_0 : decode own_c28 0 = .ok (.aload_n 1, 1) := by decide +kernel
theorem d28_1 : decode own_c28 1 = .ok (.iconst 0, 1) := by decide +kernel
theorem d28_2 : decode own_c28 2 = .ok (.putfield 290, 3) := by decide +kernel
theorem d28_5 : decode own_c28 5 = .ok (.aload_n 1, 1) := by decide +kernel
theorem d28_6 : decode own_c28 6 = .ok (.ifnull 252, 3) := by decide +kernel
theorem d28_9 : decode own_c28 9 = .ok (.aload_n 1, 1) := by decide +kernel
theorem d28_10 : decode own_c28 10 = .ok (.aload_n 0, 1) := by decide +kernel
theorem d28_11 : decode own_c28 11 = .ok (.getfield 101, 3) := by decide +kernel
theorem d28_14 : decode own_c28 14 = .ok (.if_acmp .eq 244, 3) := by decide +kernel
theorem d28_17 : decode own_c28 17 = .ok (.aload_n 1, 1) := by decide +kernel
theorem d28_18 : decode own_c28 18 = .ok (.getfield 124, 3) := by decide +kernel
theorem d28_21 : decode own_c28 21 = .ok (.getfield 290, 3) := by decide +kernel
theorem d28_24 : decode own_c28 24 = .ok (.ifCond .ne 234, 3) := by decide +kernel
theorem d28_258 : decode own_c28 258 = .ok (.aload_n 0, 1) := by decide +kernel
theorem d28_259 : decode own_c28 259 = .ok (.getfield 101, 3) := by decide +kernel
theorem d28_262 : decode own_c28 262 = .ok (.iconst 1, 1) := by decide +kernel
theorem d28_263 : decode own_c28 263 = .ok (.putfield 290, 3) := by decide +kernel
theorem d28_266 : decode own_c28 266 = .ok (.return_, 1) := by decide +kernel
set_option maxRecDepth 65536 in
set_option maxHeartbeats 40000000 in
theorem own_fib (l : Launch) (Z : State) (a0 : Array Value) (hW : own_W Z a0) (tm r1 x1 : Nat) (mc sz : Int32) (kr wr lr rr pr kx vx lx rx : Value) (cx : Int32) (h0 : Heap) (n0 : Nat) (Z0 : n0 ≤ h0.size) (O0 : Old Z n0 h0) (T1 : own_T Z h0 tm (.ref r1) mc sz) (R1 : own_N Z h0 r1 kr wr lr rr pr 1) (X1 : own_N Z h0 x1 kx vx lx rx (.ref r1) cx) (gr : n0 ≤ r1) (gx : n0 ≤ x1) (hrx : own_Ne r1 x1) :
    own_MH l own_y28 own_c28 3 none (own_r 1 0 0 20) #[(.ref tm), (.ref x1)] Z h0 (own_fib_Q Z tm r1 x1 mc sz kr wr lr rr pr kx vx lx rx cx h0 n0) := by
  refine own_enterH (own := "java/util/TreeMap") rfl (plainFor_of_name pn_java_util_TreeMap) (fun m => ef_own_fib m tm x1) ?_
  intro p e s m below meth c s₁ Bd hZH hh hx hby hml hown hnm X0 e0
  have hZ := hZH.wide
  have Y := And.intro hx hby
  have hw := hW.1
  have N0 := Fr.nil n0
  have K0 := Keep.refl h0 [x1, r1]
  have lttm := own_lt T1.lt
  have ltr1 := own_lt R1.lt
  have ltx1 := own_lt X1.lt
  obtain ⟨T11, h11, X11, e11, W11, st11⟩ := own_pF X0 Y hZ hown (tw_ hw 201 rfl) e0 (own_N.f_color X1) (own_N.ex X1) (tw_ hw 164 rfl) (tw_ hw 156 rfl) (ty := .boolean) (by decide) rfl rfl (g := (mkF m 2 #[vr tm, vr x1, uu] [(.int (0 : Int32)), (.ref x1)])) rfl rfl d28_2
  have F11 := own_N.s_color hw X1 W11
  refine own_gs ?_ (own_go st11 ?_)
  · refine own_a X0 Y d28_0 rfl rfl ?_
    exact own_ic X0 Y d28_1 (Steps.refl _)
  obtain ⟨z12, Zz12, K12, O12, N12⟩ := own_eW W11 Z0 K0 O0 N0 (own_i 0 rfl) gx
  have f15 := ((own_T.ex T1).wr W11)
  have f16 := ((own_N.ex X1).wr W11)
  have nc14 : own_Ne tm x1 := ne_exa f15 f16 (by decide)
  have f17 := (T1.keep (Keep.of_wr W11) (ninS nc14 nin0))
  obtain ⟨T13, X13, e13, st13⟩ := own_gF X11 Y hZ hown (tw_ hw 115 rfl) e11 (own_T.f_root f17) (g := (mkF m 11 #[vr tm, vr x1, uu] [(.ref tm), (.ref x1)])) rfl rfl d28_11
  refine own_gs ?_ (own_go st13 ?_)
  · refine own_a X11 Y d28_5 rfl rfl ?_
    refine XS.ifnullNo X11.here hx rfl (hb hby d28_6) rfl ?_
    refine own_a X11 Y d28_9 rfl rfl ?_
    exact own_a X11 Y d28_10 rfl rfl (Steps.refl _)
  obtain ⟨T18, X18, e18, st18⟩ := own_gF X13 Y hZ hown (tw_ hw 202 rfl) e13 (own_N.f_parent F11) (g := (mkF m 18 #[vr tm, vr x1, uu] [(.ref x1)])) rfl rfl d28_18
  refine own_gs ?_ (own_go st18 ?_)
  · refine Jvm.RoadKit.acmp (g := (mkF m 14 #[vr tm, vr x1, uu] [(.ref r1), (.ref x1)])) X13 hx rfl rfl rfl (pc0 := 14) (pc' := 17) (same := false) rfl (hb hby d28_14) rfl (decide_eq_false fun q => (Ne.symm hrx) (Value.ref.inj q)) (by decide) (by decide) ?_
    exact own_a X13 Y d28_17 rfl rfl (Steps.refl _)
  have f20 := (R1.keep (Keep.of_wr W11) (ninS hrx nin0))
  obtain ⟨T19, X19, e19, st19⟩ := own_gF X18 Y hZ hown (tw_ hw 201 rfl) e18 (own_N.f_color f20) (g := (mkF m 21 #[vr tm, vr x1, uu] [(.ref r1)])) rfl rfl d28_21
  refine own_go st19 ?_
  obtain ⟨T21, X21, e21, st21⟩ := own_gF X19 Y hZ hown (tw_ hw 115 rfl) e19 (own_T.f_root f17) (g := (mkF m 259 #[vr tm, vr x1, uu] [(.ref tm)])) rfl rfl d28_259
  refine own_gs ?_ (own_go st21 ?_)
  · refine XS.ifYes X19.here hx rfl (pc0 := 24) (pc' := 258) rfl (hb hby d28_24) rfl ((if0 _ _).trans (feq ((by decide) : ¬ ((1 : Int32) = (0 : Int32)))).2) (by decide) (by decide) ?_
    exact own_a X19 Y d28_258 rfl rfl (Steps.refl _)
  obtain ⟨T22, h22, X22, e22, W22, st22⟩ := own_pF X21 Y hZ hown (tw_ hw 201 rfl) e21 (own_N.f_color f20) (own_N.ex f20) (tw_ hw 164 rfl) (tw_ hw 156 rfl) (ty := .boolean) (by decide) rfl rfl (g := (mkF m 263 #[vr tm, vr x1, uu] [(.int (1 : Int32)), (.ref r1)])) rfl rfl d28_263
  have F22 := own_N.s_color hw f20 W22
  refine own_gs ?_ (own_go st22 ?_)
  · exact own_ic X21 Y d28_262 (Steps.refl _)
  obtain ⟨z23, Zz23, K23, O23, N23⟩ := own_eW W22 Zz12 K12 O12 N12 (own_i 1 rfl) gr
  have f24 := (F11.keep (Keep.of_wr W22) (ninS (Ne.symm hrx) nin0))
  exact own_rV X22 Bd (hb hby d28_266) e22 (⟨rfl, N23, K23, F22, f24⟩) rfl rfl
def own_fiLo_Q (Z : State) (tm g1 p1 x1 : Nat) (mc sz : Int32) (kg vg kp vp kx vx : Value) (h0 : Heap) (n0 : Nat) (v : Option Value) (h : Heap) (L : List Loc) : Prop := v = none ∧ Fr n0 L ∧ Keep h0 h [tm, g1, p1, x1] ∧ own_T Z h tm (.ref p1) mc sz ∧ own_N Z h p1 kp vp (.ref x1) (.ref g1) .null 1 ∧ own_N Z h x1 kx vx .null .null (.ref p1) 0 ∧ own_N Z h g1 kg vg .null .null (.ref p1) 0
theorem ef_own_fiLo (m : MethodId) (x0 : Nat) (x1 : Nat) : entryFrame m #[(.ref x0), (.ref x1)] 3 = mkF m 0 #[vr x0, vr x1, .unset] [] := by first | (simp [entryFrame, mkF, argsToLocals, Value.category]; done) | rfl
theorem d28_27 : decode own_c28 27 = .ok (.aload_n 1, 1) := by decide +kernel
theorem d28_28 : decode own_c28 28 = .ok (.invokestatic 294, 3) := by decide +kernel
theorem pd_8 : parseMethodDescriptor "(Ljava/util/TreeMap$Entry;)Ljava/util/TreeMap$Entry;" = some ⟨[(.object "java/util/TreeMap$Entry")], some (.object "java/util/TreeMap$Entry")⟩ := by decide +kernel
theorem d28_31 : decode own_c28 31 = .ok (.aload_n 1, 1) := by decide +kernel
theorem d28_32 : decode own_c28 32 = .ok (.invokestatic 294, 3) := by decide +kernel
theorem d28_35 : decode own_c28 35 = .ok (.invokestatic 294, 3) := by decide +kernel
theorem d28_38 : decode own_c28 38 = .ok (.invokestatic 297, 3) := by decide +kernel
theorem d28_41 : decode own_c28 41 = .ok (.if_acmp .ne 110, 3) := by decide +kernel
theorem d28_44 : decode own_c28 44 = .ok (.aload_n 1, 1) := by decide +kernel
theorem d28_45 : decode own_c28 45 = .ok (.invokestatic 294, 3) := by decide +kernel
theorem d28_48 : decode own_c28 48 = .ok (.invokestatic 294, 3) := by decide +kernel
theorem d28_51 : decode own_c28 51 = .ok (.invokestatic 300, 3) := by decide +kernel
theorem d28_54 : decode own_c28 54 = .ok (.astore_n 2, 1) := by decide +kernel
theorem d28_55 : decode own_c28 55 = .ok (.aload_n 2, 1) := by decide +kernel
theorem d28_56 : decode own_c28 56 = .ok (.invokestatic 303, 3) := by decide +kernel
theorem pd_9 : parseMethodDescriptor "(Ljava/util/TreeMap$Entry;)Z" = some ⟨[(.object "java/util/TreeMap$Entry")], some .boolean⟩ := by decide +kernel
theorem d28_59 : decode own_c28 59 = .ok (.ifCond .ne 38, 3) := by decide +kernel
theorem d28_97 : decode own_c28 97 = .ok (.aload_n 1, 1) := by decide +kernel
theorem d28_98 : decode own_c28 98 = .ok (.aload_n 1, 1) := by decide +kernel
theorem d28_99 : decode own_c28 99 = .ok (.invokestatic 294, 3) := by decide +kernel
theorem d28_102 : decode own_c28 102 = .ok (.invokestatic 300, 3) := by decide +kernel
theorem d28_105 : decode own_c28 105 = .ok (.if_acmp .ne 13, 3) := by decide +kernel
theorem d28_118 : decode own_c28 118 = .ok (.aload_n 1, 1) := by decide +kernel
theorem d28_119 : decode own_c28 119 = .ok (.invokestatic 294, 3) := by decide +kernel
theorem d28_122 : decode own_c28 122 = .ok (.iconst 1, 1) := by decide +kernel
theorem d28_123 : decode own_c28 123 = .ok (.invokestatic 307, 3) := by decide +kernel
theorem pd_10 : parseMethodDescriptor "(Ljava/util/TreeMap$Entry;Z)V" = some ⟨[(.object "java/util/TreeMap$Entry"), .boolean], none⟩ := by decide +kernel
theorem d28_126 : decode own_c28 126 = .ok (.aload_n 1, 1) := by decide +kernel
theorem d28_127 : decode own_c28 127 = .ok (.invokestatic 294, 3) := by decide +kernel
theorem d28_130 : decode own_c28 130 = .ok (.invokestatic 294, 3) := by decide +kernel
theorem d28_133 : decode own_c28 133 = .ok (.iconst 0, 1) := by decide +kernel
theorem d28_134 : decode own_c28 134 = .ok (.invokestatic 307, 3) := by decide +kernel
theorem d28_137 : decode own_c28 137 = .ok (.aload_n 0, 1) := by decide +kernel
theorem d28_138 : decode own_c28 138 = .ok (.aload_n 1, 1) := by decide +kernel
theorem d28_139 : decode own_c28 139 = .ok (.invokestatic 294, 3) := by decide +kernel
theorem d28_142 : decode own_c28 142 = .ok (.invokestatic 294, 3) := by decide +kernel
theorem d28_145 : decode own_c28 145 = .ok (.invokevirtual 314, 3) := by decide +kernel
theorem pd_11 : parseMethodDescriptor "(Ljava/util/TreeMap$Entry;)V" = some ⟨[(.object "java/util/TreeMap$Entry")], none⟩ := by decide +kernel
theorem d28_148 : decode own_c28 148 = .ok (.goto (-143), 3) := by decide +kernel
set_option maxRecDepth 65536 in
set_option maxHeartbeats 40000000 in
theorem own_fiLo (l : Launch) (Z : State) (a0 : Array Value) (hW : own_W Z a0) (tm g1 p1 x1 : Nat) (mc sz : Int32) (kg vg kp vp kx vx : Value) (h0 : Heap) (n0 : Nat) (Z0 : n0 ≤ h0.size) (O0 : Old Z n0 h0) (T1 : own_T Z h0 tm (.ref g1) mc sz) (G1 : own_N Z h0 g1 kg vg (.ref p1) .null .null 1) (P1 : own_N Z h0 p1 kp vp (.ref x1) .null (.ref g1) 0) (X1 : own_N Z h0 x1 kx vx .null .null (.ref p1) 1) (gt : n0 ≤ tm) (gg : n0 ≤ g1) (gp : n0 ≤ p1) (gx : n0 ≤ x1) (hgp : own_Ne g1 p1) (hgx : own_Ne g1 x1) (hpx : own_Ne p1 x1) :
    own_MH l own_y28 own_c28 3 none (own_r 1 0 0 24) #[(.ref tm), (.ref x1)] Z h0 (own_fiLo_Q Z tm g1 p1 x1 mc sz kg vg kp vp kx vx h0 n0) := by
  refine own_enterH (own := "java/util/TreeMap") rfl (plainFor_of_name pn_java_util_TreeMap) (fun m => ef_own_fiLo m tm x1) ?_
  intro p e s m below meth c s₁ Bd hZH hh hx hby hml hown hnm X0 e0
  have hZ := hZH.wide
  have Y := And.intro hx hby
  have hw := hW.1
  have N0 := Fr.nil n0
  have K0 := Keep.refl h0 [tm, g1, p1, x1]
  have lttm := own_lt T1.lt
  have ltg1 := own_lt G1.lt
  have ltp1 := own_lt P1.lt
  have ltx1 := own_lt X1.lt
  obtain ⟨T11, h11, X11, e11, W11, st11⟩ := own_pF X0 Y hZ hown (tw_ hw 201 rfl) e0 (own_N.f_color X1) (own_N.ex X1) (tw_ hw 164 rfl) (tw_ hw 156 rfl) (ty := .boolean) (by decide) rfl rfl (g := (mkF m 2 #[vr tm, vr x1, uu] [(.int (0 : Int32)), (.ref x1)])) rfl rfl d28_2
  have F11 := own_N.s_color hw X1 W11
  refine own_gs ?_ (own_go st11 ?_)
  · refine own_a X0 Y d28_0 rfl rfl ?_
    exact own_ic X0 Y d28_1 (Steps.refl _)
  obtain ⟨z12, Zz12, K12, O12, N12⟩ := own_eW W11 Z0 K0 O0 N0 (own_i 3 rfl) gx
  have f15 := ((own_T.ex T1).wr W11)
  have f16 := ((own_N.ex X1).wr W11)
  have nc14 : own_Ne tm x1 := ne_exa f15 f16 (by decide)
  have f17 := (T1.keep (Keep.of_wr W11) (ninS nc14 nin0))
  obtain ⟨T13, X13, e13, st13⟩ := own_gF X11 Y hZ hown (tw_ hw 115 rfl) e11 (own_T.f_root f17) (g := (mkF m 11 #[vr tm, vr x1, uu] [(.ref tm), (.ref x1)])) rfl rfl d28_11
  refine own_gs ?_ (own_go st13 ?_)
  · refine own_a X11 Y d28_5 rfl rfl ?_
    refine XS.ifnullNo X11.here hx rfl (hb hby d28_6) rfl ?_
    refine own_a X11 Y d28_9 rfl rfl ?_
    exact own_a X11 Y d28_10 rfl rfl (Steps.refl _)
  obtain ⟨T18, X18, e18, st18⟩ := own_gF X13 Y hZ hown (tw_ hw 202 rfl) e13 (own_N.f_parent F11) (g := (mkF m 18 #[vr tm, vr x1, uu] [(.ref x1)])) rfl rfl d28_18
  refine own_gs ?_ (own_go st18 ?_)
  · refine Jvm.RoadKit.acmp (g := (mkF m 14 #[vr tm, vr x1, uu] [(.ref g1), (.ref x1)])) X13 hx rfl rfl rfl (pc0 := 14) (pc' := 17) (same := false) rfl (hb hby d28_14) rfl (decide_eq_false fun q => (Ne.symm hgx) (Value.ref.inj q)) (by decide) (by decide) ?_
    exact own_a X13 Y d28_17 rfl rfl (Steps.refl _)
  have f20 := (P1.keep (Keep.of_wr W11) (ninS hpx nin0))
  obtain ⟨T19, X19, e19, st19⟩ := own_gF X18 Y hZ hown (tw_ hw 201 rfl) e18 (own_N.f_color f20) (g := (mkF m 21 #[vr tm, vr x1, uu] [(.ref p1)])) rfl rfl d28_21
  refine own_go st19 ?_
  obtain ⟨T21, L21, X21, Nq21, e21, st21⟩ := own_pcall (own_par l Z a0 hW x1 (.ref p1) h11 n0 Zz12 O12 (own_N.f_parent F11) rfl) X19 hx hZH hown (tw_ hw 213 rfl) (tw_ hw 214 rfl) (tw_ hw 11 rfl) (tw_ hw 215 rfl) (by decide) e19 (g := (mkF m 28 #[vr tm, vr x1, uu] [(.ref x1)])) rfl hml.symm (argsL := [(.ref x1)]) (rest := []) (lenOf pd_8 rfl) rfl (hb hby d28_28) (own_le rfl) (own_le rfl)
  have N21 := Fr.app N12 Nq21
  refine own_gs ?_ (own_gs st21 ?_)
  · refine XS.ifNo X19.here hx rfl (hb hby d28_24) rfl ((if0 _ _).trans (teq ((by decide) : (0 : Int32) = (0 : Int32))).2) ?_
    exact own_a X19 Y d28_27 rfl rfl (Steps.refl _)
  obtain ⟨T22, L22, X22, Nq22, e22, st22⟩ := own_pcall (own_par l Z a0 hW x1 (.ref p1) h11 n0 Zz12 O12 (own_N.f_parent F11) rfl) X21 hx hZH hown (tw_ hw 213 rfl) (tw_ hw 214 rfl) (tw_ hw 11 rfl) (tw_ hw 215 rfl) (by decide) e21 (g := (mkF m 32 #[vr tm, vr x1, uu] [(.ref x1), (.ref p1)])) rfl hml.symm (argsL := [(.ref x1)]) (rest := [(.ref p1)]) (lenOf pd_8 rfl) rfl (hb hby d28_32) (own_le rfl) (own_le rfl)
  have N22 := Fr.app N21 Nq22
  refine own_gs ?_ (own_gs st22 ?_)
  · exact own_a X21 Y d28_31 rfl rfl (Steps.refl _)
  obtain ⟨T23, L23, X23, Nq23, e23, st23⟩ := own_pcall (own_par l Z a0 hW p1 (.ref g1) h11 n0 Zz12 O12 (own_N.f_parent f20) rfl) X22 hx hZH hown (tw_ hw 213 rfl) (tw_ hw 214 rfl) (tw_ hw 11 rfl) (tw_ hw 215 rfl) (by decide) e22 (g := (mkF m 35 #[vr tm, vr x1, uu] [(.ref p1), (.ref p1)])) rfl hml.symm (argsL := [(.ref p1)]) (rest := [(.ref p1)]) (lenOf pd_8 rfl) rfl (hb hby d28_35) (own_le rfl) (own_le rfl)
  have N23 := Fr.app N22 Nq23
  refine own_gs st23 ?_
  have f24 := (G1.keep (Keep.of_wr W11) (ninS hgx nin0))
  obtain ⟨T25, L25, X25, Nq25, e25, st25⟩ := own_pcall (own_lft l Z a0 hW g1 (.ref p1) h11 n0 Zz12 O12 (own_N.f_left f24) rfl) X23 hx hZH hown (tw_ hw 216 rfl) (tw_ hw 217 rfl) (tw_ hw 11 rfl) (tw_ hw 218 rfl) (by decide) e23 (g := (mkF m 38 #[vr tm, vr x1, uu] [(.ref g1), (.ref p1)])) rfl hml.symm (argsL := [(.ref g1)]) (rest := [(.ref p1)]) (lenOf pd_8 rfl) rfl (hb hby d28_38) (own_le rfl) (own_le rfl)
  have N25 := Fr.app N23 Nq25
  refine own_gs st25 ?_
  obtain ⟨T26, L26, X26, Nq26, e26, st26⟩ := own_pcall (own_par l Z a0 hW x1 (.ref p1) h11 n0 Zz12 O12 (own_N.f_parent F11) rfl) X25 hx hZH hown (tw_ hw 213 rfl) (tw_ hw 214 rfl) (tw_ hw 11 rfl) (tw_ hw 215 rfl) (by decide) e25 (g := (mkF m 45 #[vr tm, vr x1, uu] [(.ref x1)])) rfl hml.symm (argsL := [(.ref x1)]) (rest := []) (lenOf pd_8 rfl) rfl (hb hby d28_45) (own_le rfl) (own_le rfl)
  have N26 := Fr.app N25 Nq26
  refine own_gs ?_ (own_gs st26 ?_)
  · refine Jvm.RoadKit.acmp (g := (mkF m 41 #[vr tm, vr x1, uu] [(.ref p1), (.ref p1)])) X25 hx rfl rfl rfl (pc0 := 41) (pc' := 44) (same := true) rfl (hb hby d28_41) rfl (decide_eq_true rfl) (by decide) (by decide) ?_
    exact own_a X25 Y d28_44 rfl rfl (Steps.refl _)
  obtain ⟨T27, L27, X27, Nq27, e27, st27⟩ := own_pcall (own_par l Z a0 hW p1 (.ref g1) h11 n0 Zz12 O12 (own_N.f_parent f20) rfl) X26 hx hZH hown (tw_ hw 213 rfl) (tw_ hw 214 rfl) (tw_ hw 11 rfl) (tw_ hw 215 rfl) (by decide) e26 (g := (mkF m 48 #[vr tm, vr x1, uu] [(.ref p1)])) rfl hml.symm (argsL := [(.ref p1)]) (rest := []) (lenOf pd_8 rfl) rfl (hb hby d28_48) (own_le rfl) (own_le rfl)
  have N27 := Fr.app N26 Nq27
  refine own_gs st27 ?_
  obtain ⟨T28, L28, X28, Nq28, e28, st28⟩ := own_pcall (own_rgt l Z a0 hW g1 .null h11 n0 Zz12 O12 (own_N.f_right f24) rfl) X27 hx hZH hown (tw_ hw 337 rfl) (tw_ hw 338 rfl) (tw_ hw 11 rfl) (tw_ hw 339 rfl) (by decide) e27 (g := (mkF m 51 #[vr tm, vr x1, uu] [(.ref g1)])) rfl hml.symm (argsL := [(.ref g1)]) (rest := []) (lenOf pd_8 rfl) rfl (hb hby d28_51) (own_le rfl) (own_le rfl)
  have N28 := Fr.app N27 Nq28
  refine own_gs st28 ?_
  obtain ⟨T29, L29, X29, Nq29, e29, st29⟩ := own_pcall (own_coln l Z a0 hW h11 n0 Zz12 O12 ) X28 hx hZH hown (tw_ hw 219 rfl) (tw_ hw 220 rfl) (tw_ hw 11 rfl) (tw_ hw 221 rfl) (by decide) e28 (g := (mkF m 56 #[vr tm, vr x1, vn] [.null])) rfl hml.symm (argsL := [.null]) (rest := []) (lenOf pd_9 rfl) rfl (hb hby d28_56) (own_le rfl) (own_le rfl)
  have N29 := Fr.app N28 Nq29
  refine own_gs ?_ (own_gs st29 ?_)
  · refine XS.astoreN X28.here hx rfl (hb hby d28_54) rfl rfl (l' := #[vr tm, vr x1, vn]) rfl ?_
    exact own_a X28 Y d28_55 rfl rfl (Steps.refl _)
  obtain ⟨T30, L30, X30, Nq30, e30, st30⟩ := own_pcall (own_par l Z a0 hW x1 (.ref p1) h11 n0 Zz12 O12 (own_N.f_parent F11) rfl) X29 hx hZH hown (tw_ hw 213 rfl) (tw_ hw 214 rfl) (tw_ hw 11 rfl) (tw_ hw 215 rfl) (by decide) e29 (g := (mkF m 99 #[vr tm, vr x1, vn] [(.ref x1), (.ref x1)])) rfl hml.symm (argsL := [(.ref x1)]) (rest := [(.ref x1)]) (lenOf pd_8 rfl) rfl (hb hby d28_99) (own_le rfl) (own_le rfl)
  have N30 := Fr.app N29 Nq30
  refine own_gs ?_ (own_gs st30 ?_)
  · refine XS.ifYes X29.here hx rfl (pc0 := 59) (pc' := 97) rfl (hb hby d28_59) rfl ((if0 _ _).trans (feq ((by decide) : ¬ ((1 : Int32) = (0 : Int32)))).2) (by decide) (by decide) ?_
    refine own_a X29 Y d28_97 rfl rfl ?_
    exact own_a X29 Y d28_98 rfl rfl (Steps.refl _)
  obtain ⟨T31, L31, X31, Nq31, e31, st31⟩ := own_pcall (own_rgt l Z a0 hW p1 .null h11 n0 Zz12 O12 (own_N.f_right f20) rfl) X30 hx hZH hown (tw_ hw 337 rfl) (tw_ hw 338 rfl) (tw_ hw 11 rfl) (tw_ hw 339 rfl) (by decide) e30 (g := (mkF m 102 #[vr tm, vr x1, vn] [(.ref p1), (.ref x1)])) rfl hml.symm (argsL := [(.ref p1)]) (rest := [(.ref x1)]) (lenOf pd_8 rfl) rfl (hb hby d28_102) (own_le rfl) (own_le rfl)
  have N31 := Fr.app N30 Nq31
  refine own_gs st31 ?_
  obtain ⟨T32, L32, X32, Nq32, e32, st32⟩ := own_pcall (own_par l Z a0 hW x1 (.ref p1) h11 n0 Zz12 O12 (own_N.f_parent F11) rfl) X31 hx hZH hown (tw_ hw 213 rfl) (tw_ hw 214 rfl) (tw_ hw 11 rfl) (tw_ hw 215 rfl) (by decide) e31 (g := (mkF m 119 #[vr tm, vr x1, vn] [(.ref x1)])) rfl hml.symm (argsL := [(.ref x1)]) (rest := []) (lenOf pd_8 rfl) rfl (hb hby d28_119) (own_le rfl) (own_le rfl)
  have N32 := Fr.app N31 Nq32
  refine own_gs ?_ (own_gs st32 ?_)
  · refine Jvm.RoadKit.acmp (g := (mkF m 105 #[vr tm, vr x1, vn] [.null, (.ref x1)])) X31 hx rfl rfl rfl (pc0 := 105) (pc' := 118) (same := false) rfl (hb hby d28_105) rfl (decide_eq_false nofun) (by decide) (by decide) ?_
    exact own_a X31 Y d28_118 rfl rfl (Steps.refl _)
  obtain ⟨v33, T33, Lc33, X33, hQ33, st33⟩ := own_stat (own_sco1 l Z a0 hW p1 kp vp (.ref x1) .null (.ref g1) (0 : Int32) h11 n0 Zz12 O12 f20 gp) X32 Y hZH hown (tw_ hw 227 rfl) (tw_ hw 228 rfl) (tw_ hw 229 rfl) (tw_ hw 11 rfl) (by decide) e32 (g := (mkF m 123 #[vr tm, vr x1, vn] [(.int (1 : Int32)), (.ref p1)])) rfl hml.symm (argsL := [(.ref p1), (.int (1 : Int32))]) (rest := []) (lenOf pd_10 rfl) rfl d28_123
  obtain ⟨rfl, Nq33, Kq33, Fq33⟩ := hQ33
  have N33 := Fr.app N32 Nq33
  obtain ⟨z34, Zz34, K34, O34⟩ := own_eK Kq33 Zz12 K12 O12 (allS (own_i 2 rfl) all0) (allS gp all0)
  refine own_gs ?_ (own_gs st33 ?_)
  · exact own_ic X32 Y d28_122 (Steps.refl _)
  have f35 := (F11.keep Kq33 (ninS (Ne.symm hpx) nin0))
  obtain ⟨T36, L36, X36, Nq36, e36, st36⟩ := own_pcall (own_par l Z a0 hW x1 (.ref p1) T33.heap n0 Zz34 O34 (own_N.f_parent f35) rfl) X33 hx hZH hown (tw_ hw 213 rfl) (tw_ hw 214 rfl) (tw_ hw 11 rfl) (tw_ hw 215 rfl) (by decide) rfl (g := (mkF m 127 #[vr tm, vr x1, vn] [(.ref x1)])) rfl hml.symm (argsL := [(.ref x1)]) (rest := []) (lenOf pd_8 rfl) rfl (hb hby d28_127) (own_le rfl) (own_le rfl)
  have N36 := Fr.app N33 Nq36
  refine own_gs ?_ (own_gs st36 ?_)
  · exact own_a X33 Y d28_126 rfl rfl (Steps.refl _)
  obtain ⟨T37, L37, X37, Nq37, e37, st37⟩ := own_pcall (own_par l Z a0 hW p1 (.ref g1) T33.heap n0 Zz34 O34 (own_N.f_parent Fq33) rfl) X36 hx hZH hown (tw_ hw 213 rfl) (tw_ hw 214 rfl) (tw_ hw 11 rfl) (tw_ hw 215 rfl) (by decide) e36 (g := (mkF m 130 #[vr tm, vr x1, vn] [(.ref p1)])) rfl hml.symm (argsL := [(.ref p1)]) (rest := []) (lenOf pd_8 rfl) rfl (hb hby d28_130) (own_le rfl) (own_le rfl)
  have N37 := Fr.app N36 Nq37
  refine own_gs st37 ?_
  have f38 := (f24.keep Kq33 (ninS hgp nin0))
  obtain ⟨v39, T39, Lc39, X39, hQ39, st39⟩ := own_stat (own_sco0 l Z a0 hW g1 kg vg (.ref p1) .null .null (1 : Int32) T33.heap n0 Zz34 O34 f38 gg) X37 Y hZH hown (tw_ hw 227 rfl) (tw_ hw 228 rfl) (tw_ hw 229 rfl) (tw_ hw 11 rfl) (by decide) e37 (g := (mkF m 134 #[vr tm, vr x1, vn] [(.int (0 : Int32)), (.ref g1)])) rfl hml.symm (argsL := [(.ref g1), (.int (0 : Int32))]) (rest := []) (lenOf pd_10 rfl) rfl d28_134
  obtain ⟨rfl, Nq39, Kq39, Fq39⟩ := hQ39
  have N39 := Fr.app N37 Nq39
  obtain ⟨z40, Zz40, K40, O40⟩ := own_eK Kq39 Zz34 K34 O34 (allS (own_i 1 rfl) all0) (allS gg all0)
  refine own_gs ?_ (own_gs st39 ?_)
  · exact own_ic X37 Y d28_133 (Steps.refl _)
  have f41 := (f35.keep Kq39 (ninS (Ne.symm hgx) nin0))
  obtain ⟨T42, L42, X42, Nq42, e42, st42⟩ := own_pcall (own_par l Z a0 hW x1 (.ref p1) T39.heap n0 Zz40 O40 (own_N.f_parent f41) rfl) X39 hx hZH hown (tw_ hw 213 rfl) (tw_ hw 214 rfl) (tw_ hw 11 rfl) (tw_ hw 215 rfl) (by decide) rfl (g := (mkF m 139 #[vr tm, vr x1, vn] [(.ref x1), (.ref tm)])) rfl hml.symm (argsL := [(.ref x1)]) (rest := [(.ref tm)]) (lenOf pd_8 rfl) rfl (hb hby d28_139) (own_le rfl) (own_le rfl)
  have N42 := Fr.app N39 Nq42
  refine own_gs ?_ (own_gs st42 ?_)
  · refine own_a X39 Y d28_137 rfl rfl ?_
    exact own_a X39 Y d28_138 rfl rfl (Steps.refl _)
  have f43 := (Fq33.keep Kq39 (ninS (Ne.symm hgp) nin0))
  obtain ⟨T44, L44, X44, Nq44, e44, st44⟩ := own_pcall (own_par l Z a0 hW p1 (.ref g1) T39.heap n0 Zz40 O40 (own_N.f_parent f43) rfl) X42 hx hZH hown (tw_ hw 213 rfl) (tw_ hw 214 rfl) (tw_ hw 11 rfl) (tw_ hw 215 rfl) (by decide) e42 (g := (mkF m 142 #[vr tm, vr x1, vn] [(.ref p1), (.ref tm)])) rfl hml.symm (argsL := [(.ref p1)]) (rest := [(.ref tm)]) (lenOf pd_8 rfl) rfl (hb hby d28_142) (own_le rfl) (own_le rfl)
  have N44 := Fr.app N42 Nq44
  refine own_gs st44 ?_
  have f46 := ((f15.keep Kq33).keep Kq39)
  have f47 := ((own_N.ex Fq33).keep Kq39)
  have nc45 : own_Ne tm p1 := ne_exa f46 f47 (by decide)
  have nc48 : own_Ne tm g1 := ne_exa f46 (own_N.ex Fq39) (by decide)
  have f49 := ((f17.keep Kq33 (ninS nc45 nin0)).keep Kq39 (ninS nc48 nin0))
  obtain ⟨v50, T50, Lc50, X50, hQ50, st50⟩ := own_priv (own_rotRr l Z a0 hW tm g1 p1 mc sz kg vg .null kp vp (.ref x1) (0 : Int32) (1 : Int32) T39.heap n0 Zz40 O40 f49 Fq39 f43 gt gg gp hgp) X44 Y hZH hown (tw_ hw 222 rfl) (tw_ hw 223 rfl) (tw_ hw 224 rfl) (own_nf (notFace_of_selects (tw_ hw 109 rfl)) (tw_ hw 108 rfl) rfl) (tw_ hw 226 rfl) (tw_ hw 11 rfl) (by decide) e44 (own_T.ex f49) (g := (mkF m 145 #[vr tm, vr x1, vn] [(.ref g1), (.ref tm)])) rfl hml.symm (argsL := [(.ref g1)]) (rest := []) (lenOf pd_11 rfl) rfl d28_145
  obtain ⟨rfl, Nq50, Kq50, Tq50, Gq50, Xq50⟩ := hQ50
  have N50 := Fr.app N44 Nq50
  obtain ⟨z51, Zz51, K51, O51⟩ := own_eK Kq50 Zz40 K40 O40 (allS (own_i 0 rfl) (allS (own_i 1 rfl) (allS (own_i 2 rfl) all0))) (allS gt (allS gg (allS gp all0)))
  refine own_gs st50 ?_
  obtain ⟨T52, X52, e52, st52⟩ := own_gF X50 Y hZ hown (tw_ hw 115 rfl) rfl (own_T.f_root Tq50) (g := (mkF m 11 #[vr tm, vr x1, vn] [(.ref tm), (.ref x1)])) rfl rfl d28_11
  refine own_gs ?_ (own_go st52 ?_)
  · refine XS.goto X50.here hx rfl (pc0 := 148) (pc' := 5) rfl (hb hby d28_148) (by decide) (by decide) ?_
    refine own_a X50 Y d28_5 rfl rfl ?_
    refine XS.ifnullNo X50.here hx rfl (hb hby d28_6) rfl ?_
    refine own_a X50 Y d28_9 rfl rfl ?_
    exact own_a X50 Y d28_10 rfl rfl (Steps.refl _)
  have f54 := (f41.keep Kq50 (ninS (Ne.symm nc14) (ninS (Ne.symm hgx) (ninS (Ne.symm hpx) nin0))))
  obtain ⟨T53, X53, e53, st53⟩ := own_gF X52 Y hZ hown (tw_ hw 202 rfl) e52 (own_N.f_parent f54) (g := (mkF m 18 #[vr tm, vr x1, vn] [(.ref x1)])) rfl rfl d28_18
  refine own_gs ?_ (own_go st53 ?_)
  · refine Jvm.RoadKit.acmp (g := (mkF m 14 #[vr tm, vr x1, vn] [(.ref p1), (.ref x1)])) X52 hx rfl rfl rfl (pc0 := 14) (pc' := 17) (same := false) rfl (hb hby d28_14) rfl (decide_eq_false fun q => (Ne.symm hpx) (Value.ref.inj q)) (by decide) (by decide) ?_
    exact own_a X52 Y d28_17 rfl rfl (Steps.refl _)
  obtain ⟨T55, X55, e55, st55⟩ := own_gF X53 Y hZ hown (tw_ hw 201 rfl) e53 (own_N.f_color Xq50) (g := (mkF m 21 #[vr tm, vr x1, vn] [(.ref p1)])) rfl rfl d28_21
  refine own_go st55 ?_
  obtain ⟨T56, X56, e56, st56⟩ := own_gF X55 Y hZ hown (tw_ hw 115 rfl) e55 (own_T.f_root Tq50) (g := (mkF m 259 #[vr tm, vr x1, vn] [(.ref tm)])) rfl rfl d28_259
  refine own_gs ?_ (own_go st56 ?_)
  · refine XS.ifYes X55.here hx rfl (pc0 := 24) (pc' := 258) rfl (hb hby d28_24) rfl ((if0 _ _).trans (feq ((by decide) : ¬ ((1 : Int32) = (0 : Int32)))).2) (by decide) (by decide) ?_
    exact own_a X55 Y d28_258 rfl rfl (Steps.refl _)
  obtain ⟨T57, h57, X57, e57, W57, st57⟩ := own_pF X56 Y hZ hown (tw_ hw 201 rfl) e56 (own_N.f_color Xq50) (own_N.ex Xq50) (tw_ hw 164 rfl) (tw_ hw 156 rfl) (ty := .boolean) (by decide) rfl rfl (g := (mkF m 263 #[vr tm, vr x1, vn] [(.int (1 : Int32)), (.ref p1)])) rfl rfl d28_263
  have F57 := own_N.s_color hw Xq50 W57
  refine own_gs ?_ (own_go st57 ?_)
  · exact own_ic X56 Y d28_262 (Steps.refl _)
  obtain ⟨z58, Zz58, K58, O58, N58⟩ := own_eW W57 Zz51 K51 O51 N50 (own_i 2 rfl) gp
  have f59 := (Tq50.keep (Keep.of_wr W57) (ninS nc45 nin0))
  have f60 := (f54.keep (Keep.of_wr W57) (ninS (Ne.symm hpx) nin0))
  have f61 := (Gq50.keep (Keep.of_wr W57) (ninS hgp nin0))
  exact own_rV X57 Bd (hb hby d28_266) e57 (⟨rfl, N58, K58, f59, F57, f60, f61⟩) rfl rfl
def own_fiLi_Q (Z : State) (tm g1 p1 x1 : Nat) (mc sz : Int32) (kg vg kp vp kx vx : Value) (h0 : Heap) (n0 : Nat) (v : Option Value) (h : Heap) (L : List Loc) : Prop := v = none ∧ Fr n0 L ∧ Keep h0 h [tm, g1, p1, x1] ∧ own_T Z h tm (.ref x1) mc sz ∧ own_N Z h x1 kx vx (.ref p1) (.ref g1) .null 1 ∧ own_N Z h p1 kp vp .null .null (.ref x1) 0 ∧ own_N Z h g1 kg vg .null .null (.ref x1) 0
theorem ef_own_fiLi (m : MethodId) (x0 : Nat) (x1 : Nat) : entryFrame m #[(.ref x0), (.ref x1)] 3 = mkF m 0 #[vr x0, vr x1, .unset] [] := by first | (simp [entryFrame, mkF, argsToLocals, Value.category]; done) | rfl
theorem d28_108 : decode own_c28 108 = .ok (.aload_n 1, 1) := by decide +kernel
theorem d28_109 : decode own_c28 109 = .ok (.invokestatic 294, 3) := by decide +kernel
theorem d28_112 : decode own_c28 112 = .ok (.astore_n 1, 1) := by decide +kernel
theorem d28_113 : decode own_c28 113 = .ok (.aload_n 0, 1) := by decide +kernel
theorem d28_114 : decode own_c28 114 = .ok (.aload_n 1, 1) := by decide +kernel
theorem d28_115 : decode own_c28 115 = .ok (.invokevirtual 311, 3) := by decide +kernel
set_option maxRecDepth 65536 in
set_option maxHeartbeats 40000000 in
theorem own_fiLi (l : Launch) (Z : State) (a0 : Array Value) (hW : own_W Z a0) (tm g1 p1 x1 : Nat) (mc sz : Int32) (kg vg kp vp kx vx : Value) (h0 : Heap) (n0 : Nat) (Z0 : n0 ≤ h0.size) (O0 : Old Z n0 h0) (T1 : own_T Z h0 tm (.ref g1) mc sz) (G1 : own_N Z h0 g1 kg vg (.ref p1) .null .null 1) (P1 : own_N Z h0 p1 kp vp .null (.ref x1) (.ref g1) 0) (X1 : own_N Z h0 x1 kx vx .null .null (.ref p1) 1) (gt : n0 ≤ tm) (gg : n0 ≤ g1) (gp : n0 ≤ p1) (gx : n0 ≤ x1) (hgp : own_Ne g1 p1) (hgx : own_Ne g1 x1) (hpx : own_Ne p1 x1) :
    own_MH l own_y28 own_c28 3 none (own_r 1 0 0 24) #[(.ref tm), (.ref x1)] Z h0 (own_fiLi_Q Z tm g1 p1 x1 mc sz kg vg kp vp kx vx h0 n0) := by
  refine own_enterH (own := "java/util/TreeMap") rfl (plainFor_of_name pn_java_util_TreeMap) (fun m => ef_own_fiLi m tm x1) ?_
  intro p e s m below meth c s₁ Bd hZH hh hx hby hml hown hnm X0 e0
  have hZ := hZH.wide
  have Y := And.intro hx hby
  have hw := hW.1
  have N0 := Fr.nil n0
  have K0 := Keep.refl h0 [tm, g1, p1, x1]
  have lttm := own_lt T1.lt
  have ltg1 := own_lt G1.lt
  have ltp1 := own_lt P1.lt
  have ltx1 := own_lt X1.lt
  obtain ⟨T11, h11, X11, e11, W11, st11⟩ := own_pF X0 Y hZ hown (tw_ hw 201 rfl) e0 (own_N.f_color X1) (own_N.ex X1) (tw_ hw 164 rfl) (tw_ hw 156 rfl) (ty := .boolean) (by decide) rfl rfl (g := (mkF m 2 #[vr tm, vr x1, uu] [(.int (0 : Int32)), (.ref x1)])) rfl rfl d28_2
  have F11 := own_N.s_color hw X1 W11
  refine own_gs ?_ (own_go st11 ?_)
  · refine own_a X0 Y d28_0 rfl rfl ?_
    exact own_ic X0 Y d28_1 (Steps.refl _)
  obtain ⟨z12, Zz12, K12, O12, N12⟩ := own_eW W11 Z0 K0 O0 N0 (own_i 3 rfl) gx
  have f15 := ((own_T.ex T1).wr W11)
  have f16 := ((own_N.ex X1).wr W11)
  have nc14 : own_Ne tm x1 := ne_exa f15 f16 (by decide)
  have f17 := (T1.keep (Keep.of_wr W11) (ninS nc14 nin0))
  obtain ⟨T13, X13, e13, st13⟩ := own_gF X11 Y hZ hown (tw_ hw 115 rfl) e11 (own_T.f_root f17) (g := (mkF m 11 #[vr tm, vr x1, uu] [(.ref tm), (.ref x1)])) rfl rfl d28_11
  refine own_gs ?_ (own_go st13 ?_)
  · refine own_a X11 Y d28_5 rfl rfl ?_
    refine XS.ifnullNo X11.here hx rfl (hb hby d28_6) rfl ?_
    refine own_a X11 Y d28_9 rfl rfl ?_
    exact own_a X11 Y d28_10 rfl rfl (Steps.refl _)
  obtain ⟨T18, X18, e18, st18⟩ := own_gF X13 Y hZ hown (tw_ hw 202 rfl) e13 (own_N.f_parent F11) (g := (mkF m 18 #[vr tm, vr x1, uu] [(.ref x1)])) rfl rfl d28_18
  refine own_gs ?_ (own_go st18 ?_)
  · refine Jvm.RoadKit.acmp (g := (mkF m 14 #[vr tm, vr x1, uu] [(.ref g1), (.ref x1)])) X13 hx rfl rfl rfl (pc0 := 14) (pc' := 17) (same := false) rfl (hb hby d28_14) rfl (decide_eq_false fun q => (Ne.symm hgx) (Value.ref.inj q)) (by decide) (by decide) ?_
    exact own_a X13 Y d28_17 rfl rfl (Steps.refl _)
  have f20 := (P1.keep (Keep.of_wr W11) (ninS hpx nin0))
  obtain ⟨T19, X19, e19, st19⟩ := own_gF X18 Y hZ hown (tw_ hw 201 rfl) e18 (own_N.f_color f20) (g := (mkF m 21 #[vr tm, vr x1, uu] [(.ref p1)])) rfl rfl d28_21
  refine own_go st19 ?_
  obtain ⟨T21, L21, X21, Nq21, e21, st21⟩ := own_pcall (own_par l Z a0 hW x1 (.ref p1) h11 n0 Zz12 O12 (own_N.f_parent F11) rfl) X19 hx hZH hown (tw_ hw 213 rfl) (tw_ hw 214 rfl) (tw_ hw 11 rfl) (tw_ hw 215 rfl) (by decide) e19 (g := (mkF m 28 #[vr tm, vr x1, uu] [(.ref x1)])) rfl hml.symm (argsL := [(.ref x1)]) (rest := []) (lenOf pd_8 rfl) rfl (hb hby d28_28) (own_le rfl) (own_le rfl)
  have N21 := Fr.app N12 Nq21
  refine own_gs ?_ (own_gs st21 ?_)
  · refine XS.ifNo X19.here hx rfl (hb hby d28_24) rfl ((if0 _ _).trans (teq ((by decide) : (0 : Int32) = (0 : Int32))).2) ?_
    exact own_a X19 Y d28_27 rfl rfl (Steps.refl _)
  obtain ⟨T22, L22, X22, Nq22, e22, st22⟩ := own_pcall (own_par l Z a0 hW x1 (.ref p1) h11 n0 Zz12 O12 (own_N.f_parent F11) rfl) X21 hx hZH hown (tw_ hw 213 rfl) (tw_ hw 214 rfl) (tw_ hw 11 rfl) (tw_ hw 215 rfl) (by decide) e21 (g := (mkF m 32 #[vr tm, vr x1, uu] [(.ref x1), (.ref p1)])) rfl hml.symm (argsL := [(.ref x1)]) (rest := [(.ref p1)]) (lenOf pd_8 rfl) rfl (hb hby d28_32) (own_le rfl) (own_le rfl)
  have N22 := Fr.app N21 Nq22
  refine own_gs ?_ (own_gs st22 ?_)
  · exact own_a X21 Y d28_31 rfl rfl (Steps.refl _)
  obtain ⟨T23, L23, X23, Nq23, e23, st23⟩ := own_pcall (own_par l Z a0 hW p1 (.ref g1) h11 n0 Zz12 O12 (own_N.f_parent f20) rfl) X22 hx hZH hown (tw_ hw 213 rfl) (tw_ hw 214 rfl) (tw_ hw 11 rfl) (tw_ hw 215 rfl) (by decide) e22 (g := (mkF m 35 #[vr tm, vr x1, uu] [(.ref p1), (.ref p1)])) rfl hml.symm (argsL := [(.ref p1)]) (rest := [(.ref p1)]) (lenOf pd_8 rfl) rfl (hb hby d28_35) (own_le rfl) (own_le rfl)
  have N23 := Fr.app N22 Nq23
  refine own_gs st23 ?_
  have f24 := (G1.keep (Keep.of_wr W11) (ninS hgx nin0))
  obtain ⟨T25, L25, X25, Nq25, e25, st25⟩ := own_pcall (own_lft l Z a0 hW g1 (.ref p1) h11 n0 Zz12 O12 (own_N.f_left f24) rfl) X23 hx hZH hown (tw_ hw 216 rfl) (tw_ hw 217 rfl) (tw_ hw 11 rfl) (tw_ hw 218 rfl) (by decide) e23 (g := (mkF m 38 #[vr tm, vr x1, uu] [(.ref g1), (.ref p1)])) rfl hml.symm (argsL := [(.ref g1)]) (rest := [(.ref p1)]) (lenOf pd_8 rfl) rfl (hb hby d28_38) (own_le rfl) (own_le rfl)
  have N25 := Fr.app N23 Nq25
  refine own_gs st25 ?_
  obtain ⟨T26, L26, X26, Nq26, e26, st26⟩ := own_pcall (own_par l Z a0 hW x1 (.ref p1) h11 n0 Zz12 O12 (own_N.f_parent F11) rfl) X25 hx hZH hown (tw_ hw 213 rfl) (tw_ hw 214 rfl) (tw_ hw 11 rfl) (tw_ hw 215 rfl) (by decide) e25 (g := (mkF m 45 #[vr tm, vr x1, uu] [(.ref x1)])) rfl hml.symm (argsL := [(.ref x1)]) (rest := []) (lenOf pd_8 rfl) rfl (hb hby d28_45) (own_le rfl) (own_le rfl)
  have N26 := Fr.app N25 Nq26
  refine own_gs ?_ (own_gs st26 ?_)
  · refine Jvm.RoadKit.acmp (g := (mkF m 41 #[vr tm, vr x1, uu] [(.ref p1), (.ref p1)])) X25 hx rfl rfl rfl (pc0 := 41) (pc' := 44) (same := true) rfl (hb hby d28_41) rfl (decide_eq_true rfl) (by decide) (by decide) ?_
    exact own_a X25 Y d28_44 rfl rfl (Steps.refl _)
  obtain ⟨T27, L27, X27, Nq27, e27, st27⟩ := own_pcall (own_par l Z a0 hW p1 (.ref g1) h11 n0 Zz12 O12 (own_N.f_parent f20) rfl) X26 hx hZH hown (tw_ hw 213 rfl) (tw_ hw 214 rfl) (tw_ hw 11 rfl) (tw_ hw 215 rfl) (by decide) e26 (g := (mkF m 48 #[vr tm, vr x1, uu] [(.ref p1)])) rfl hml.symm (argsL := [(.ref p1)]) (rest := []) (lenOf pd_8 rfl) rfl (hb hby d28_48) (own_le rfl) (own_le rfl)
  have N27 := Fr.app N26 Nq27
  refine own_gs st27 ?_
  obtain ⟨T28, L28, X28, Nq28, e28, st28⟩ := own_pcall (own_rgt l Z a0 hW g1 .null h11 n0 Zz12 O12 (own_N.f_right f24) rfl) X27 hx hZH hown (tw_ hw 337 rfl) (tw_ hw 338 rfl) (tw_ hw 11 rfl) (tw_ hw 339 rfl) (by decide) e27 (g := (mkF m 51 #[vr tm, vr x1, uu] [(.ref g1)])) rfl hml.symm (argsL := [(.ref g1)]) (rest := []) (lenOf pd_8 rfl) rfl (hb hby d28_51) (own_le rfl) (own_le rfl)
  have N28 := Fr.app N27 Nq28
  refine own_gs st28 ?_
  obtain ⟨T29, L29, X29, Nq29, e29, st29⟩ := own_pcall (own_coln l Z a0 hW h11 n0 Zz12 O12 ) X28 hx hZH hown (tw_ hw 219 rfl) (tw_ hw 220 rfl) (tw_ hw 11 rfl) (tw_ hw 221 rfl) (by decide) e28 (g := (mkF m 56 #[vr tm, vr x1, vn] [.null])) rfl hml.symm (argsL := [.null]) (rest := []) (lenOf pd_9 rfl) rfl (hb hby d28_56) (own_le rfl) (own_le rfl)
  have N29 := Fr.app N28 Nq29
  refine own_gs ?_ (own_gs st29 ?_)
  · refine XS.astoreN X28.here hx rfl (hb hby d28_54) rfl rfl (l' := #[vr tm, vr x1, vn]) rfl ?_
    exact own_a X28 Y d28_55 rfl rfl (Steps.refl _)
  obtain ⟨T30, L30, X30, Nq30, e30, st30⟩ := own_pcall (own_par l Z a0 hW x1 (.ref p1) h11 n0 Zz12 O12 (own_N.f_parent F11) rfl) X29 hx hZH hown (tw_ hw 213 rfl) (tw_ hw 214 rfl) (tw_ hw 11 rfl) (tw_ hw 215 rfl) (by decide) e29 (g := (mkF m 99 #[vr tm, vr x1, vn] [(.ref x1), (.ref x1)])) rfl hml.symm (argsL := [(.ref x1)]) (rest := [(.ref x1)]) (lenOf pd_8 rfl) rfl (hb hby d28_99) (own_le rfl) (own_le rfl)
  have N30 := Fr.app N29 Nq30
  refine own_gs ?_ (own_gs st30 ?_)
  · refine XS.ifYes X29.here hx rfl (pc0 := 59) (pc' := 97) rfl (hb hby d28_59) rfl ((if0 _ _).trans (feq ((by decide) : ¬ ((1 : Int32) = (0 : Int32)))).2) (by decide) (by decide) ?_
    refine own_a X29 Y d28_97 rfl rfl ?_
    exact own_a X29 Y d28_98 rfl rfl (Steps.refl _)
  obtain ⟨T31, L31, X31, Nq31, e31, st31⟩ := own_pcall (own_rgt l Z a0 hW p1 (.ref x1) h11 n0 Zz12 O12 (own_N.f_right f20) rfl) X30 hx hZH hown (tw_ hw 337 rfl) (tw_ hw 338 rfl) (tw_ hw 11 rfl) (tw_ hw 339 rfl) (by decide) e30 (g := (mkF m 102 #[vr tm, vr x1, vn] [(.ref p1), (.ref x1)])) rfl hml.symm (argsL := [(.ref p1)]) (rest := [(.ref x1)]) (lenOf pd_8 rfl) rfl (hb hby d28_102) (own_le rfl) (own_le rfl)
  have N31 := Fr.app N30 Nq31
  refine own_gs st31 ?_
  obtain ⟨T32, L32, X32, Nq32, e32, st32⟩ := own_pcall (own_par l Z a0 hW x1 (.ref p1) h11 n0 Zz12 O12 (own_N.f_parent F11) rfl) X31 hx hZH hown (tw_ hw 213 rfl) (tw_ hw 214 rfl) (tw_ hw 11 rfl) (tw_ hw 215 rfl) (by decide) e31 (g := (mkF m 109 #[vr tm, vr x1, vn] [(.ref x1)])) rfl hml.symm (argsL := [(.ref x1)]) (rest := []) (lenOf pd_8 rfl) rfl (hb hby d28_109) (own_le rfl) (own_le rfl)
  have N32 := Fr.app N31 Nq32
  refine own_gs ?_ (own_gs st32 ?_)
  · refine Jvm.RoadKit.acmp (g := (mkF m 105 #[vr tm, vr x1, vn] [(.ref x1), (.ref x1)])) X31 hx rfl rfl rfl (pc0 := 105) (pc' := 108) (same := true) rfl (hb hby d28_105) rfl (decide_eq_true rfl) (by decide) (by decide) ?_
    exact own_a X31 Y d28_108 rfl rfl (Steps.refl _)
  obtain ⟨v33, T33, Lc33, X33, hQ33, st33⟩ := own_priv (own_rotLi l Z a0 hW tm g1 p1 x1 mc sz (.ref g1) kg vg .null .null kp vp .null kx vx .null (1 : Int32) (0 : Int32) (0 : Int32) h11 n0 Zz12 O12 f17 f24 f20 F11 gg gp gx hgp hgx hpx) X32 Y hZH hown (tw_ hw 230 rfl) (tw_ hw 231 rfl) (tw_ hw 232 rfl) (own_nf (notFace_of_selects (tw_ hw 109 rfl)) (tw_ hw 108 rfl) rfl) (tw_ hw 234 rfl) (tw_ hw 11 rfl) (by decide) e32 (own_T.ex f17) (g := (mkF m 115 #[vr tm, vr p1, vn] [(.ref p1), (.ref tm)])) rfl hml.symm (argsL := [(.ref p1)]) (rest := []) (lenOf pd_11 rfl) rfl d28_115
  obtain ⟨rfl, Nq33, Kq33, Gq33, Pq33, Xq33⟩ := hQ33
  have N33 := Fr.app N32 Nq33
  obtain ⟨z34, Zz34, K34, O34⟩ := own_eK Kq33 Zz12 K12 O12 (allS (own_i 1 rfl) (allS (own_i 2 rfl) (allS (own_i 3 rfl) all0))) (allS gg (allS gp (allS gx all0)))
  refine own_gs ?_ (own_gs st33 ?_)
  · refine XS.astoreN X32.here hx rfl (hb hby d28_112) rfl rfl (l' := #[vr tm, vr p1, vn]) rfl ?_
    refine own_a X32 Y d28_113 rfl rfl ?_
    exact own_a X32 Y d28_114 rfl rfl (Steps.refl _)
  obtain ⟨T35, L35, X35, Nq35, e35, st35⟩ := own_pcall (own_par l Z a0 hW p1 (.ref x1) T33.heap n0 Zz34 O34 (own_N.f_parent Pq33) rfl) X33 hx hZH hown (tw_ hw 213 rfl) (tw_ hw 214 rfl) (tw_ hw 11 rfl) (tw_ hw 215 rfl) (by decide) rfl (g := (mkF m 119 #[vr tm, vr p1, vn] [(.ref p1)])) rfl hml.symm (argsL := [(.ref p1)]) (rest := []) (lenOf pd_8 rfl) rfl (hb hby d28_119) (own_le rfl) (own_le rfl)
  have N35 := Fr.app N33 Nq35
  refine own_gs ?_ (own_gs st35 ?_)
  · exact own_a X33 Y d28_118 rfl rfl (Steps.refl _)
  obtain ⟨v36, T36, Lc36, X36, hQ36, st36⟩ := own_stat (own_sco1 l Z a0 hW x1 kx vx (.ref p1) .null (.ref g1) (0 : Int32) T33.heap n0 Zz34 O34 Xq33 gx) X35 Y hZH hown (tw_ hw 227 rfl) (tw_ hw 228 rfl) (tw_ hw 229 rfl) (tw_ hw 11 rfl) (by decide) e35 (g := (mkF m 123 #[vr tm, vr p1, vn] [(.int (1 : Int32)), (.ref x1)])) rfl hml.symm (argsL := [(.ref x1), (.int (1 : Int32))]) (rest := []) (lenOf pd_10 rfl) rfl d28_123
  obtain ⟨rfl, Nq36, Kq36, Fq36⟩ := hQ36
  have N36 := Fr.app N35 Nq36
  obtain ⟨z37, Zz37, K37, O37⟩ := own_eK Kq36 Zz34 K34 O34 (allS (own_i 3 rfl) all0) (allS gx all0)
  refine own_gs ?_ (own_gs st36 ?_)
  · exact own_ic X35 Y d28_122 (Steps.refl _)
  have f38 := (Pq33.keep Kq36 (ninS hpx nin0))
  obtain ⟨T39, L39, X39, Nq39, e39, st39⟩ := own_pcall (own_par l Z a0 hW p1 (.ref x1) T36.heap n0 Zz37 O37 (own_N.f_parent f38) rfl) X36 hx hZH hown (tw_ hw 213 rfl) (tw_ hw 214 rfl) (tw_ hw 11 rfl) (tw_ hw 215 rfl) (by decide) rfl (g := (mkF m 127 #[vr tm, vr p1, vn] [(.ref p1)])) rfl hml.symm (argsL := [(.ref p1)]) (rest := []) (lenOf pd_8 rfl) rfl (hb hby d28_127) (own_le rfl) (own_le rfl)
  have N39 := Fr.app N36 Nq39
  refine own_gs ?_ (own_gs st39 ?_)
  · exact own_a X36 Y d28_126 rfl rfl (Steps.refl _)
  obtain ⟨T40, L40, X40, Nq40, e40, st40⟩ := own_pcall (own_par l Z a0 hW x1 (.ref g1) T36.heap n0 Zz37 O37 (own_N.f_parent Fq36) rfl) X39 hx hZH hown (tw_ hw 213 rfl) (tw_ hw 214 rfl) (tw_ hw 11 rfl) (tw_ hw 215 rfl) (by decide) e39 (g := (mkF m 130 #[vr tm, vr p1, vn] [(.ref x1)])) rfl hml.symm (argsL := [(.ref x1)]) (rest := []) (lenOf pd_8 rfl) rfl (hb hby d28_130) (own_le rfl) (own_le rfl)
  have N40 := Fr.app N39 Nq40
  refine own_gs st40 ?_
  have f41 := (Gq33.keep Kq36 (ninS hgx nin0))
  obtain ⟨v42, T42, Lc42, X42, hQ42, st42⟩ := own_stat (own_sco0 l Z a0 hW g1 kg vg (.ref x1) .null .null (1 : Int32) T36.heap n0 Zz37 O37 f41 gg) X40 Y hZH hown (tw_ hw 227 rfl) (tw_ hw 228 rfl) (tw_ hw 229 rfl) (tw_ hw 11 rfl) (by decide) e40 (g := (mkF m 134 #[vr tm, vr p1, vn] [(.int (0 : Int32)), (.ref g1)])) rfl hml.symm (argsL := [(.ref g1), (.int (0 : Int32))]) (rest := []) (lenOf pd_10 rfl) rfl d28_134
  obtain ⟨rfl, Nq42, Kq42, Fq42⟩ := hQ42
  have N42 := Fr.app N40 Nq42
  obtain ⟨z43, Zz43, K43, O43⟩ := own_eK Kq42 Zz37 K37 O37 (allS (own_i 1 rfl) all0) (allS gg all0)
  refine own_gs ?_ (own_gs st42 ?_)
  · exact own_ic X40 Y d28_133 (Steps.refl _)
  have f44 := (f38.keep Kq42 (ninS (Ne.symm hgp) nin0))
  obtain ⟨T45, L45, X45, Nq45, e45, st45⟩ := own_pcall (own_par l Z a0 hW p1 (.ref x1) T42.heap n0 Zz43 O43 (own_N.f_parent f44) rfl) X42 hx hZH hown (tw_ hw 213 rfl) (tw_ hw 214 rfl) (tw_ hw 11 rfl) (tw_ hw 215 rfl) (by decide) rfl (g := (mkF m 139 #[vr tm, vr p1, vn] [(.ref p1), (.ref tm)])) rfl hml.symm (argsL := [(.ref p1)]) (rest := [(.ref tm)]) (lenOf pd_8 rfl) rfl (hb hby d28_139) (own_le rfl) (own_le rfl)
  have N45 := Fr.app N42 Nq45
  refine own_gs ?_ (own_gs st45 ?_)
  · refine own_a X42 Y d28_137 rfl rfl ?_
    exact own_a X42 Y d28_138 rfl rfl (Steps.refl _)
  have f46 := (Fq36.keep Kq42 (ninS (Ne.symm hgx) nin0))
  obtain ⟨T47, L47, X47, Nq47, e47, st47⟩ := own_pcall (own_par l Z a0 hW x1 (.ref g1) T42.heap n0 Zz43 O43 (own_N.f_parent f46) rfl) X45 hx hZH hown (tw_ hw 213 rfl) (tw_ hw 214 rfl) (tw_ hw 11 rfl) (tw_ hw 215 rfl) (by decide) e45 (g := (mkF m 142 #[vr tm, vr p1, vn] [(.ref x1), (.ref tm)])) rfl hml.symm (argsL := [(.ref x1)]) (rest := [(.ref tm)]) (lenOf pd_8 rfl) rfl (hb hby d28_142) (own_le rfl) (own_le rfl)
  have N47 := Fr.app N45 Nq47
  refine own_gs st47 ?_
  have f49 := (((f15.keep Kq33).keep Kq36).keep Kq42)
  have f50 := (((own_N.ex Pq33).keep Kq36).keep Kq42)
  have nc48 : own_Ne tm p1 := ne_exa f49 f50 (by decide)
  have nc51 : own_Ne tm g1 := ne_exa f49 (own_N.ex Fq42) (by decide)
  have f52 := (((f17.keep Kq33 (ninS nc51 (ninS nc48 (ninS nc14 nin0)))).keep Kq36 (ninS nc14 nin0)).keep Kq42 (ninS nc51 nin0))
  obtain ⟨v53, T53, Lc53, X53, hQ53, st53⟩ := own_priv (own_rotRr l Z a0 hW tm g1 x1 mc sz kg vg .null kx vx (.ref p1) (0 : Int32) (1 : Int32) T42.heap n0 Zz43 O43 f52 Fq42 f46 gt gg gx hgx) X47 Y hZH hown (tw_ hw 222 rfl) (tw_ hw 223 rfl) (tw_ hw 224 rfl) (own_nf (notFace_of_selects (tw_ hw 109 rfl)) (tw_ hw 108 rfl) rfl) (tw_ hw 226 rfl) (tw_ hw 11 rfl) (by decide) e47 (own_T.ex f52) (g := (mkF m 145 #[vr tm, vr p1, vn] [(.ref g1), (.ref tm)])) rfl hml.symm (argsL := [(.ref g1)]) (rest := []) (lenOf pd_11 rfl) rfl d28_145
  obtain ⟨rfl, Nq53, Kq53, Tq53, Gq53, Xq53⟩ := hQ53
  have N53 := Fr.app N47 Nq53
  obtain ⟨z54, Zz54, K54, O54⟩ := own_eK Kq53 Zz43 K43 O43 (allS (own_i 0 rfl) (allS (own_i 1 rfl) (allS (own_i 3 rfl) all0))) (allS gt (allS gg (allS gx all0)))
  refine own_gs st53 ?_
  obtain ⟨T55, X55, e55, st55⟩ := own_gF X53 Y hZ hown (tw_ hw 115 rfl) rfl (own_T.f_root Tq53) (g := (mkF m 11 #[vr tm, vr p1, vn] [(.ref tm), (.ref p1)])) rfl rfl d28_11
  refine own_gs ?_ (own_go st55 ?_)
  · refine XS.goto X53.here hx rfl (pc0 := 148) (pc' := 5) rfl (hb hby d28_148) (by decide) (by decide) ?_
    refine own_a X53 Y d28_5 rfl rfl ?_
    refine XS.ifnullNo X53.here hx rfl (hb hby d28_6) rfl ?_
    refine own_a X53 Y d28_9 rfl rfl ?_
    exact own_a X53 Y d28_10 rfl rfl (Steps.refl _)
  have f57 := (f44.keep Kq53 (ninS (Ne.symm nc48) (ninS (Ne.symm hgp) (ninS hpx nin0))))
  obtain ⟨T56, X56, e56, st56⟩ := own_gF X55 Y hZ hown (tw_ hw 202 rfl) e55 (own_N.f_parent f57) (g := (mkF m 18 #[vr tm, vr p1, vn] [(.ref p1)])) rfl rfl d28_18
  refine own_gs ?_ (own_go st56 ?_)
  · refine Jvm.RoadKit.acmp (g := (mkF m 14 #[vr tm, vr p1, vn] [(.ref x1), (.ref p1)])) X55 hx rfl rfl rfl (pc0 := 14) (pc' := 17) (same := false) rfl (hb hby d28_14) rfl (decide_eq_false fun q => hpx (Value.ref.inj q)) (by decide) (by decide) ?_
    exact own_a X55 Y d28_17 rfl rfl (Steps.refl _)
  obtain ⟨T58, X58, e58, st58⟩ := own_gF X56 Y hZ hown (tw_ hw 201 rfl) e56 (own_N.f_color Xq53) (g := (mkF m 21 #[vr tm, vr p1, vn] [(.ref x1)])) rfl rfl d28_21
  refine own_go st58 ?_
  obtain ⟨T59, X59, e59, st59⟩ := own_gF X58 Y hZ hown (tw_ hw 115 rfl) e58 (own_T.f_root Tq53) (g := (mkF m 259 #[vr tm, vr p1, vn] [(.ref tm)])) rfl rfl d28_259
  refine own_gs ?_ (own_go st59 ?_)
  · refine XS.ifYes X58.here hx rfl (pc0 := 24) (pc' := 258) rfl (hb hby d28_24) rfl ((if0 _ _).trans (feq ((by decide) : ¬ ((1 : Int32) = (0 : Int32)))).2) (by decide) (by decide) ?_
    exact own_a X58 Y d28_258 rfl rfl (Steps.refl _)
  obtain ⟨T60, h60, X60, e60, W60, st60⟩ := own_pF X59 Y hZ hown (tw_ hw 201 rfl) e59 (own_N.f_color Xq53) (own_N.ex Xq53) (tw_ hw 164 rfl) (tw_ hw 156 rfl) (ty := .boolean) (by decide) rfl rfl (g := (mkF m 263 #[vr tm, vr p1, vn] [(.int (1 : Int32)), (.ref x1)])) rfl rfl d28_263
  have F60 := own_N.s_color hw Xq53 W60
  refine own_gs ?_ (own_go st60 ?_)
  · exact own_ic X59 Y d28_262 (Steps.refl _)
  obtain ⟨z61, Zz61, K61, O61, N61⟩ := own_eW W60 Zz54 K54 O54 N53 (own_i 3 rfl) gx
  have f62 := (Tq53.keep (Keep.of_wr W60) (ninS nc14 nin0))
  have f63 := (f57.keep (Keep.of_wr W60) (ninS hpx nin0))
  have f64 := (Gq53.keep (Keep.of_wr W60) (ninS hgx nin0))
  exact own_rV X60 Bd (hb hby d28_266) e60 (⟨rfl, N61, K61, f62, F60, f63, f64⟩) rfl rfl
def own_fiRo_Q (Z : State) (tm g1 p1 x1 : Nat) (mc sz : Int32) (kg vg kp vp kx vx : Value) (h0 : Heap) (n0 : Nat) (v : Option Value) (h : Heap) (L : List Loc) : Prop := v = none ∧ Fr n0 L ∧ Keep h0 h [tm, g1, p1, x1] ∧ own_T Z h tm (.ref p1) mc sz ∧ own_N Z h p1 kp vp (.ref g1) (.ref x1) .null 1 ∧ own_N Z h x1 kx vx .null .null (.ref p1) 0 ∧ own_N Z h g1 kg vg .null .null (.ref p1) 0
theorem ef_own_fiRo (m : MethodId) (x0 : Nat) (x1 : Nat) : entryFrame m #[(.ref x0), (.ref x1)] 3 = mkF m 0 #[vr x0, vr x1, .unset] [] := by first | (simp [entryFrame, mkF, argsToLocals, Value.category]; done) | rfl
theorem d28_151 : decode own_c28 151 = .ok (.aload_n 1, 1) := by decide +kernel
theorem d28_152 : decode own_c28 152 = .ok (.invokestatic 294, 3) := by decide +kernel
theorem d28_155 : decode own_c28 155 = .ok (.invokestatic 294, 3) := by decide +kernel
theorem d28_158 : decode own_c28 158 = .ok (.invokestatic 297, 3) := by decide +kernel
theorem d28_161 : decode own_c28 161 = .ok (.astore_n 2, 1) := by decide +kernel
theorem d28_162 : decode own_c28 162 = .ok (.aload_n 2, 1) := by decide +kernel
theorem d28_163 : decode own_c28 163 = .ok (.invokestatic 303, 3) := by decide +kernel
theorem d28_166 : decode own_c28 166 = .ok (.ifCond .ne 38, 3) := by decide +kernel
theorem d28_204 : decode own_c28 204 = .ok (.aload_n 1, 1) := by decide +kernel
theorem d28_205 : decode own_c28 205 = .ok (.aload_n 1, 1) := by decide +kernel
theorem d28_206 : decode own_c28 206 = .ok (.invokestatic 294, 3) := by decide +kernel
theorem d28_209 : decode own_c28 209 = .ok (.invokestatic 297, 3) := by decide +kernel
theorem d28_212 : decode own_c28 212 = .ok (.if_acmp .ne 13, 3) := by decide +kernel
theorem d28_225 : decode own_c28 225 = .ok (.aload_n 1, 1) := by decide +kernel
theorem d28_226 : decode own_c28 226 = .ok (.invokestatic 294, 3) := by decide +kernel
theorem d28_229 : decode own_c28 229 = .ok (.iconst 1, 1) := by decide +kernel
theorem d28_230 : decode own_c28 230 = .ok (.invokestatic 307, 3) := by decide +kernel
theorem d28_233 : decode own_c28 233 = .ok (.aload_n 1, 1) := by decide +kernel
theorem d28_234 : decode own_c28 234 = .ok (.invokestatic 294, 3) := by decide +kernel
theorem d28_237 : decode own_c28 237 = .ok (.invokestatic 294, 3) := by decide +kernel
theorem d28_240 : decode own_c28 240 = .ok (.iconst 0, 1) := by decide +kernel
theorem d28_241 : decode own_c28 241 = .ok (.invokestatic 307, 3) := by decide +kernel
theorem d28_244 : decode own_c28 244 = .ok (.aload_n 0, 1) := by decide +kernel
theorem d28_245 : decode own_c28 245 = .ok (.aload_n 1, 1) := by decide +kernel
theorem d28_246 : decode own_c28 246 = .ok (.invokestatic 294, 3) := by decide +kernel
theorem d28_249 : decode own_c28 249 = .ok (.invokestatic 294, 3) := by decide +kernel
theorem d28_252 : decode own_c28 252 = .ok (.invokevirtual 311, 3) := by decide +kernel
theorem d28_255 : decode own_c28 255 = .ok (.goto (-250), 3) := by decide +kernel
set_option maxRecDepth 65536 in
set_option maxHeartbeats 40000000 in
theorem own_fiRo (l : Launch) (Z : State) (a0 : Array Value) (hW : own_W Z a0) (tm g1 p1 x1 : Nat) (mc sz : Int32) (kg vg kp vp kx vx : Value) (h0 : Heap) (n0 : Nat) (Z0 : n0 ≤ h0.size) (O0 : Old Z n0 h0) (T1 : own_T Z h0 tm (.ref g1) mc sz) (G1 : own_N Z h0 g1 kg vg .null (.ref p1) .null 1) (P1 : own_N Z h0 p1 kp vp .null (.ref x1) (.ref g1) 0) (X1 : own_N Z h0 x1 kx vx .null .null (.ref p1) 1) (gt : n0 ≤ tm) (gg : n0 ≤ g1) (gp : n0 ≤ p1) (gx : n0 ≤ x1) (hgp : own_Ne g1 p1) (hgx : own_Ne g1 x1) (hpx : own_Ne p1 x1) :
    own_MH l own_y28 own_c28 3 none (own_r 1 0 0 24) #[(.ref tm), (.ref x1)] Z h0 (own_fiRo_Q Z tm g1 p1 x1 mc sz kg vg kp vp kx vx h0 n0) := by
  refine own_enterH (own := "java/util/TreeMap") rfl (plainFor_of_name pn_java_util_TreeMap) (fun m => ef_own_fiRo m tm x1) ?_
  intro p e s m below meth c s₁ Bd hZH hh hx hby hml hown hnm X0 e0
  have hZ := hZH.wide
  have Y := And.intro hx hby
  have hw := hW.1
  have N0 := Fr.nil n0
  have K0 := Keep.refl h0 [tm, g1, p1, x1]
  have lttm := own_lt T1.lt
  have ltg1 := own_lt G1.lt
  have ltp1 := own_lt P1.lt
  have ltx1 := own_lt X1.lt
  obtain ⟨T11, h11, X11, e11, W11, st11⟩ := own_pF X0 Y hZ hown (tw_ hw 201 rfl) e0 (own_N.f_color X1) (own_N.ex X1) (tw_ hw 164 rfl) (tw_ hw 156 rfl) (ty := .boolean) (by decide) rfl rfl (g := (mkF m 2 #[vr tm, vr x1, uu] [(.int (0 : Int32)), (.ref x1)])) rfl rfl d28_2
  have F11 := own_N.s_color hw X1 W11
  refine own_gs ?_ (own_go st11 ?_)
  · refine own_a X0 Y d28_0 rfl rfl ?_
    exact own_ic X0 Y d28_1 (Steps.refl _)
  obtain ⟨z12, Zz12, K12, O12, N12⟩ := own_eW W11 Z0 K0 O0 N0 (own_i 3 rfl) gx
  have f15 := ((own_T.ex T1).wr W11)
  have f16 := ((own_N.ex X1).wr W11)
  have nc14 : own_Ne tm x1 := ne_exa f15 f16 (by decide)
  have f17 := (T1.keep (Keep.of_wr W11) (ninS nc14 nin0))
  obtain ⟨T13, X13, e13, st13⟩ := own_gF X11 Y hZ hown (tw_ hw 115 rfl) e11 (own_T.f_root f17) (g := (mkF m 11 #[vr tm, vr x1, uu] [(.ref tm), (.ref x1)])) rfl rfl d28_11
  refine own_gs ?_ (own_go st13 ?_)
  · refine own_a X11 Y d28_5 rfl rfl ?_
    refine XS.ifnullNo X11.here hx rfl (hb hby d28_6) rfl ?_
    refine own_a X11 Y d28_9 rfl rfl ?_
    exact own_a X11 Y d28_10 rfl rfl (Steps.refl _)
  obtain ⟨T18, X18, e18, st18⟩ := own_gF X13 Y hZ hown (tw_ hw 202 rfl) e13 (own_N.f_parent F11) (g := (mkF m 18 #[vr tm, vr x1, uu] [(.ref x1)])) rfl rfl d28_18
  refine own_gs ?_ (own_go st18 ?_)
  · refine Jvm.RoadKit.acmp (g := (mkF m 14 #[vr tm, vr x1, uu] [(.ref g1), (.ref x1)])) X13 hx rfl rfl rfl (pc0 := 14) (pc' := 17) (same := false) rfl (hb hby d28_14) rfl (decide_eq_false fun q => (Ne.symm hgx) (Value.ref.inj q)) (by decide) (by decide) ?_
    exact own_a X13 Y d28_17 rfl rfl (Steps.refl _)
  have f20 := (P1.keep (Keep.of_wr W11) (ninS hpx nin0))
  obtain ⟨T19, X19, e19, st19⟩ := own_gF X18 Y hZ hown (tw_ hw 201 rfl) e18 (own_N.f_color f20) (g := (mkF m 21 #[vr tm, vr x1, uu] [(.ref p1)])) rfl rfl d28_21
  refine own_go st19 ?_
  obtain ⟨T21, L21, X21, Nq21, e21, st21⟩ := own_pcall (own_par l Z a0 hW x1 (.ref p1) h11 n0 Zz12 O12 (own_N.f_parent F11) rfl) X19 hx hZH hown (tw_ hw 213 rfl) (tw_ hw 214 rfl) (tw_ hw 11 rfl) (tw_ hw 215 rfl) (by decide) e19 (g := (mkF m 28 #[vr tm, vr x1, uu] [(.ref x1)])) rfl hml.symm (argsL := [(.ref x1)]) (rest := []) (lenOf pd_8 rfl) rfl (hb hby d28_28) (own_le rfl) (own_le rfl)
  have N21 := Fr.app N12 Nq21
  refine own_gs ?_ (own_gs st21 ?_)
  · refine XS.ifNo X19.here hx rfl (hb hby d28_24) rfl ((if0 _ _).trans (teq ((by decide) : (0 : Int32) = (0 : Int32))).2) ?_
    exact own_a X19 Y d28_27 rfl rfl (Steps.refl _)
  obtain ⟨T22, L22, X22, Nq22, e22, st22⟩ := own_pcall (own_par l Z a0 hW x1 (.ref p1) h11 n0 Zz12 O12 (own_N.f_parent F11) rfl) X21 hx hZH hown (tw_ hw 213 rfl) (tw_ hw 214 rfl) (tw_ hw 11 rfl) (tw_ hw 215 rfl) (by decide) e21 (g := (mkF m 32 #[vr tm, vr x1, uu] [(.ref x1), (.ref p1)])) rfl hml.symm (argsL := [(.ref x1)]) (rest := [(.ref p1)]) (lenOf pd_8 rfl) rfl (hb hby d28_32) (own_le rfl) (own_le rfl)
  have N22 := Fr.app N21 Nq22
  refine own_gs ?_ (own_gs st22 ?_)
  · exact own_a X21 Y d28_31 rfl rfl (Steps.refl _)
  obtain ⟨T23, L23, X23, Nq23, e23, st23⟩ := own_pcall (own_par l Z a0 hW p1 (.ref g1) h11 n0 Zz12 O12 (own_N.f_parent f20) rfl) X22 hx hZH hown (tw_ hw 213 rfl) (tw_ hw 214 rfl) (tw_ hw 11 rfl) (tw_ hw 215 rfl) (by decide) e22 (g := (mkF m 35 #[vr tm, vr x1, uu] [(.ref p1), (.ref p1)])) rfl hml.symm (argsL := [(.ref p1)]) (rest := [(.ref p1)]) (lenOf pd_8 rfl) rfl (hb hby d28_35) (own_le rfl) (own_le rfl)
  have N23 := Fr.app N22 Nq23
  refine own_gs st23 ?_
  have f24 := (G1.keep (Keep.of_wr W11) (ninS hgx nin0))
  obtain ⟨T25, L25, X25, Nq25, e25, st25⟩ := own_pcall (own_lft l Z a0 hW g1 .null h11 n0 Zz12 O12 (own_N.f_left f24) rfl) X23 hx hZH hown (tw_ hw 216 rfl) (tw_ hw 217 rfl) (tw_ hw 11 rfl) (tw_ hw 218 rfl) (by decide) e23 (g := (mkF m 38 #[vr tm, vr x1, uu] [(.ref g1), (.ref p1)])) rfl hml.symm (argsL := [(.ref g1)]) (rest := [(.ref p1)]) (lenOf pd_8 rfl) rfl (hb hby d28_38) (own_le rfl) (own_le rfl)
  have N25 := Fr.app N23 Nq25
  refine own_gs st25 ?_
  obtain ⟨T26, L26, X26, Nq26, e26, st26⟩ := own_pcall (own_par l Z a0 hW x1 (.ref p1) h11 n0 Zz12 O12 (own_N.f_parent F11) rfl) X25 hx hZH hown (tw_ hw 213 rfl) (tw_ hw 214 rfl) (tw_ hw 11 rfl) (tw_ hw 215 rfl) (by decide) e25 (g := (mkF m 152 #[vr tm, vr x1, uu] [(.ref x1)])) rfl hml.symm (argsL := [(.ref x1)]) (rest := []) (lenOf pd_8 rfl) rfl (hb hby d28_152) (own_le rfl) (own_le rfl)
  have N26 := Fr.app N25 Nq26
  refine own_gs ?_ (own_gs st26 ?_)
  · refine Jvm.RoadKit.acmp (g := (mkF m 41 #[vr tm, vr x1, uu] [.null, (.ref p1)])) X25 hx rfl rfl rfl (pc0 := 41) (pc' := 151) (same := false) rfl (hb hby d28_41) rfl (decide_eq_false nofun) (by decide) (by decide) ?_
    exact own_a X25 Y d28_151 rfl rfl (Steps.refl _)
  obtain ⟨T27, L27, X27, Nq27, e27, st27⟩ := own_pcall (own_par l Z a0 hW p1 (.ref g1) h11 n0 Zz12 O12 (own_N.f_parent f20) rfl) X26 hx hZH hown (tw_ hw 213 rfl) (tw_ hw 214 rfl) (tw_ hw 11 rfl) (tw_ hw 215 rfl) (by decide) e26 (g := (mkF m 155 #[vr tm, vr x1, uu] [(.ref p1)])) rfl hml.symm (argsL := [(.ref p1)]) (rest := []) (lenOf pd_8 rfl) rfl (hb hby d28_155) (own_le rfl) (own_le rfl)
  have N27 := Fr.app N26 Nq27
  refine own_gs st27 ?_
  obtain ⟨T28, L28, X28, Nq28, e28, st28⟩ := own_pcall (own_lft l Z a0 hW g1 .null h11 n0 Zz12 O12 (own_N.f_left f24) rfl) X27 hx hZH hown (tw_ hw 216 rfl) (tw_ hw 217 rfl) (tw_ hw 11 rfl) (tw_ hw 218 rfl) (by decide) e27 (g := (mkF m 158 #[vr tm, vr x1, uu] [(.ref g1)])) rfl hml.symm (argsL := [(.ref g1)]) (rest := []) (lenOf pd_8 rfl) rfl (hb hby d28_158) (own_le rfl) (own_le rfl)
  have N28 := Fr.app N27 Nq28
  refine own_gs st28 ?_
  obtain ⟨T29, L29, X29, Nq29, e29, st29⟩ := own_pcall (own_coln l Z a0 hW h11 n0 Zz12 O12 ) X28 hx hZH hown (tw_ hw 219 rfl) (tw_ hw 220 rfl) (tw_ hw 11 rfl) (tw_ hw 221 rfl) (by decide) e28 (g := (mkF m 163 #[vr tm, vr x1, vn] [.null])) rfl hml.symm (argsL := [.null]) (rest := []) (lenOf pd_9 rfl) rfl (hb hby d28_163) (own_le rfl) (own_le rfl)
  have N29 := Fr.app N28 Nq29
  refine own_gs ?_ (own_gs st29 ?_)
  · refine XS.astoreN X28.here hx rfl (hb hby d28_161) rfl rfl (l' := #[vr tm, vr x1, vn]) rfl ?_
    exact own_a X28 Y d28_162 rfl rfl (Steps.refl _)
  obtain ⟨T30, L30, X30, Nq30, e30, st30⟩ := own_pcall (own_par l Z a0 hW x1 (.ref p1) h11 n0 Zz12 O12 (own_N.f_parent F11) rfl) X29 hx hZH hown (tw_ hw 213 rfl) (tw_ hw 214 rfl) (tw_ hw 11 rfl) (tw_ hw 215 rfl) (by decide) e29 (g := (mkF m 206 #[vr tm, vr x1, vn] [(.ref x1), (.ref x1)])) rfl hml.symm (argsL := [(.ref x1)]) (rest := [(.ref x1)]) (lenOf pd_8 rfl) rfl (hb hby d28_206) (own_le rfl) (own_le rfl)
  have N30 := Fr.app N29 Nq30
  refine own_gs ?_ (own_gs st30 ?_)
  · refine XS.ifYes X29.here hx rfl (pc0 := 166) (pc' := 204) rfl (hb hby d28_166) rfl ((if0 _ _).trans (feq ((by decide) : ¬ ((1 : Int32) = (0 : Int32)))).2) (by decide) (by decide) ?_
    refine own_a X29 Y d28_204 rfl rfl ?_
    exact own_a X29 Y d28_205 rfl rfl (Steps.refl _)
  obtain ⟨T31, L31, X31, Nq31, e31, st31⟩ := own_pcall (own_lft l Z a0 hW p1 .null h11 n0 Zz12 O12 (own_N.f_left f20) rfl) X30 hx hZH hown (tw_ hw 216 rfl) (tw_ hw 217 rfl) (tw_ hw 11 rfl) (tw_ hw 218 rfl) (by decide) e30 (g := (mkF m 209 #[vr tm, vr x1, vn] [(.ref p1), (.ref x1)])) rfl hml.symm (argsL := [(.ref p1)]) (rest := [(.ref x1)]) (lenOf pd_8 rfl) rfl (hb hby d28_209) (own_le rfl) (own_le rfl)
  have N31 := Fr.app N30 Nq31
  refine own_gs st31 ?_
  obtain ⟨T32, L32, X32, Nq32, e32, st32⟩ := own_pcall (own_par l Z a0 hW x1 (.ref p1) h11 n0 Zz12 O12 (own_N.f_parent F11) rfl) X31 hx hZH hown (tw_ hw 213 rfl) (tw_ hw 214 rfl) (tw_ hw 11 rfl) (tw_ hw 215 rfl) (by decide) e31 (g := (mkF m 226 #[vr tm, vr x1, vn] [(.ref x1)])) rfl hml.symm (argsL := [(.ref x1)]) (rest := []) (lenOf pd_8 rfl) rfl (hb hby d28_226) (own_le rfl) (own_le rfl)
  have N32 := Fr.app N31 Nq32
  refine own_gs ?_ (own_gs st32 ?_)
  · refine Jvm.RoadKit.acmp (g := (mkF m 212 #[vr tm, vr x1, vn] [.null, (.ref x1)])) X31 hx rfl rfl rfl (pc0 := 212) (pc' := 225) (same := false) rfl (hb hby d28_212) rfl (decide_eq_false nofun) (by decide) (by decide) ?_
    exact own_a X31 Y d28_225 rfl rfl (Steps.refl _)
  obtain ⟨v33, T33, Lc33, X33, hQ33, st33⟩ := own_stat (own_sco1 l Z a0 hW p1 kp vp .null (.ref x1) (.ref g1) (0 : Int32) h11 n0 Zz12 O12 f20 gp) X32 Y hZH hown (tw_ hw 227 rfl) (tw_ hw 228 rfl) (tw_ hw 229 rfl) (tw_ hw 11 rfl) (by decide) e32 (g := (mkF m 230 #[vr tm, vr x1, vn] [(.int (1 : Int32)), (.ref p1)])) rfl hml.symm (argsL := [(.ref p1), (.int (1 : Int32))]) (rest := []) (lenOf pd_10 rfl) rfl d28_230
  obtain ⟨rfl, Nq33, Kq33, Fq33⟩ := hQ33
  have N33 := Fr.app N32 Nq33
  obtain ⟨z34, Zz34, K34, O34⟩ := own_eK Kq33 Zz12 K12 O12 (allS (own_i 2 rfl) all0) (allS gp all0)
  refine own_gs ?_ (own_gs st33 ?_)
  · exact own_ic X32 Y d28_229 (Steps.refl _)
  have f35 := (F11.keep Kq33 (ninS (Ne.symm hpx) nin0))
  obtain ⟨T36, L36, X36, Nq36, e36, st36⟩ := own_pcall (own_par l Z a0 hW x1 (.ref p1) T33.heap n0 Zz34 O34 (own_N.f_parent f35) rfl) X33 hx hZH hown (tw_ hw 213 rfl) (tw_ hw 214 rfl) (tw_ hw 11 rfl) (tw_ hw 215 rfl) (by decide) rfl (g := (mkF m 234 #[vr tm, vr x1, vn] [(.ref x1)])) rfl hml.symm (argsL := [(.ref x1)]) (rest := []) (lenOf pd_8 rfl) rfl (hb hby d28_234) (own_le rfl) (own_le rfl)
  have N36 := Fr.app N33 Nq36
  refine own_gs ?_ (own_gs st36 ?_)
  · exact own_a X33 Y d28_233 rfl rfl (Steps.refl _)
  obtain ⟨T37, L37, X37, Nq37, e37, st37⟩ := own_pcall (own_par l Z a0 hW p1 (.ref g1) T33.heap n0 Zz34 O34 (own_N.f_parent Fq33) rfl) X36 hx hZH hown (tw_ hw 213 rfl) (tw_ hw 214 rfl) (tw_ hw 11 rfl) (tw_ hw 215 rfl) (by decide) e36 (g := (mkF m 237 #[vr tm, vr x1, vn] [(.ref p1)])) rfl hml.symm (argsL := [(.ref p1)]) (rest := []) (lenOf pd_8 rfl) rfl (hb hby d28_237) (own_le rfl) (own_le rfl)
  have N37 := Fr.app N36 Nq37
  refine own_gs st37 ?_
  have f38 := (f24.keep Kq33 (ninS hgp nin0))
  obtain ⟨v39, T39, Lc39, X39, hQ39, st39⟩ := own_stat (own_sco0 l Z a0 hW g1 kg vg .null (.ref p1) .null (1 : Int32) T33.heap n0 Zz34 O34 f38 gg) X37 Y hZH hown (tw_ hw 227 rfl) (tw_ hw 228 rfl) (tw_ hw 229 rfl) (tw_ hw 11 rfl) (by decide) e37 (g := (mkF m 241 #[vr tm, vr x1, vn] [(.int (0 : Int32)), (.ref g1)])) rfl hml.symm (argsL := [(.ref g1), (.int (0 : Int32))]) (rest := []) (lenOf pd_10 rfl) rfl d28_241
  obtain ⟨rfl, Nq39, Kq39, Fq39⟩ := hQ39
  have N39 := Fr.app N37 Nq39
  obtain ⟨z40, Zz40, K40, O40⟩ := own_eK Kq39 Zz34 K34 O34 (allS (own_i 1 rfl) all0) (allS gg all0)
  refine own_gs ?_ (own_gs st39 ?_)
  · exact own_ic X37 Y d28_240 (Steps.refl _)
  have f41 := (f35.keep Kq39 (ninS (Ne.symm hgx) nin0))
  obtain ⟨T42, L42, X42, Nq42, e42, st42⟩ := own_pcall (own_par l Z a0 hW x1 (.ref p1) T39.heap n0 Zz40 O40 (own_N.f_parent f41) rfl) X39 hx hZH hown (tw_ hw 213 rfl) (tw_ hw 214 rfl) (tw_ hw 11 rfl) (tw_ hw 215 rfl) (by decide) rfl (g := (mkF m 246 #[vr tm, vr x1, vn] [(.ref x1), (.ref tm)])) rfl hml.symm (argsL := [(.ref x1)]) (rest := [(.ref tm)]) (lenOf pd_8 rfl) rfl (hb hby d28_246) (own_le rfl) (own_le rfl)
  have N42 := Fr.app N39 Nq42
  refine own_gs ?_ (own_gs st42 ?_)
  · refine own_a X39 Y d28_244 rfl rfl ?_
    exact own_a X39 Y d28_245 rfl rfl (Steps.refl _)
  have f43 := (Fq33.keep Kq39 (ninS (Ne.symm hgp) nin0))
  obtain ⟨T44, L44, X44, Nq44, e44, st44⟩ := own_pcall (own_par l Z a0 hW p1 (.ref g1) T39.heap n0 Zz40 O40 (own_N.f_parent f43) rfl) X42 hx hZH hown (tw_ hw 213 rfl) (tw_ hw 214 rfl) (tw_ hw 11 rfl) (tw_ hw 215 rfl) (by decide) e42 (g := (mkF m 249 #[vr tm, vr x1, vn] [(.ref p1), (.ref tm)])) rfl hml.symm (argsL := [(.ref p1)]) (rest := [(.ref tm)]) (lenOf pd_8 rfl) rfl (hb hby d28_249) (own_le rfl) (own_le rfl)
  have N44 := Fr.app N42 Nq44
  refine own_gs st44 ?_
  have f46 := ((f15.keep Kq33).keep Kq39)
  have f47 := ((own_N.ex Fq33).keep Kq39)
  have nc45 : own_Ne tm p1 := ne_exa f46 f47 (by decide)
  have nc48 : own_Ne tm g1 := ne_exa f46 (own_N.ex Fq39) (by decide)
  have f49 := ((f17.keep Kq33 (ninS nc45 nin0)).keep Kq39 (ninS nc48 nin0))
  obtain ⟨v50, T50, Lc50, X50, hQ50, st50⟩ := own_priv (own_rotLr l Z a0 hW tm g1 p1 mc sz kg vg .null kp vp (.ref x1) (0 : Int32) (1 : Int32) T39.heap n0 Zz40 O40 f49 Fq39 f43 gt gg gp hgp) X44 Y hZH hown (tw_ hw 230 rfl) (tw_ hw 231 rfl) (tw_ hw 232 rfl) (own_nf (notFace_of_selects (tw_ hw 109 rfl)) (tw_ hw 108 rfl) rfl) (tw_ hw 234 rfl) (tw_ hw 11 rfl) (by decide) e44 (own_T.ex f49) (g := (mkF m 252 #[vr tm, vr x1, vn] [(.ref g1), (.ref tm)])) rfl hml.symm (argsL := [(.ref g1)]) (rest := []) (lenOf pd_11 rfl) rfl d28_252
  obtain ⟨rfl, Nq50, Kq50, Tq50, Gq50, Xq50⟩ := hQ50
  have N50 := Fr.app N44 Nq50
  obtain ⟨z51, Zz51, K51, O51⟩ := own_eK Kq50 Zz40 K40 O40 (allS (own_i 0 rfl) (allS (own_i 1 rfl) (allS (own_i 2 rfl) all0))) (allS gt (allS gg (allS gp all0)))
  refine own_gs st50 ?_
  obtain ⟨T52, X52, e52, st52⟩ := own_gF X50 Y hZ hown (tw_ hw 115 rfl) rfl (own_T.f_root Tq50) (g := (mkF m 11 #[vr tm, vr x1, vn] [(.ref tm), (.ref x1)])) rfl rfl d28_11
  refine own_gs ?_ (own_go st52 ?_)
  · refine XS.goto X50.here hx rfl (pc0 := 255) (pc' := 5) rfl (hb hby d28_255) (by decide) (by decide) ?_
    refine own_a X50 Y d28_5 rfl rfl ?_
    refine XS.ifnullNo X50.here hx rfl (hb hby d28_6) rfl ?_
    refine own_a X50 Y d28_9 rfl rfl ?_
    exact own_a X50 Y d28_10 rfl rfl (Steps.refl _)
  have f54 := (f41.keep Kq50 (ninS (Ne.symm nc14) (ninS (Ne.symm hgx) (ninS (Ne.symm hpx) nin0))))
  obtain ⟨T53, X53, e53, st53⟩ := own_gF X52 Y hZ hown (tw_ hw 202 rfl) e52 (own_N.f_parent f54) (g := (mkF m 18 #[vr tm, vr x1, vn] [(.ref x1)])) rfl rfl d28_18
  refine own_gs ?_ (own_go st53 ?_)
  · refine Jvm.RoadKit.acmp (g := (mkF m 14 #[vr tm, vr x1, vn] [(.ref p1), (.ref x1)])) X52 hx rfl rfl rfl (pc0 := 14) (pc' := 17) (same := false) rfl (hb hby d28_14) rfl (decide_eq_false fun q => (Ne.symm hpx) (Value.ref.inj q)) (by decide) (by decide) ?_
    exact own_a X52 Y d28_17 rfl rfl (Steps.refl _)
  obtain ⟨T55, X55, e55, st55⟩ := own_gF X53 Y hZ hown (tw_ hw 201 rfl) e53 (own_N.f_color Xq50) (g := (mkF m 21 #[vr tm, vr x1, vn] [(.ref p1)])) rfl rfl d28_21
  refine own_go st55 ?_
  obtain ⟨T56, X56, e56, st56⟩ := own_gF X55 Y hZ hown (tw_ hw 115 rfl) e55 (own_T.f_root Tq50) (g := (mkF m 259 #[vr tm, vr x1, vn] [(.ref tm)])) rfl rfl d28_259
  refine own_gs ?_ (own_go st56 ?_)
  · refine XS.ifYes X55.here hx rfl (pc0 := 24) (pc' := 258) rfl (hb hby d28_24) rfl ((if0 _ _).trans (feq ((by decide) : ¬ ((1 : Int32) = (0 : Int32)))).2) (by decide) (by decide) ?_
    exact own_a X55 Y d28_258 rfl rfl (Steps.refl _)
  obtain ⟨T57, h57, X57, e57, W57, st57⟩ := own_pF X56 Y hZ hown (tw_ hw 201 rfl) e56 (own_N.f_color Xq50) (own_N.ex Xq50) (tw_ hw 164 rfl) (tw_ hw 156 rfl) (ty := .boolean) (by decide) rfl rfl (g := (mkF m 263 #[vr tm, vr x1, vn] [(.int (1 : Int32)), (.ref p1)])) rfl rfl d28_263
  have F57 := own_N.s_color hw Xq50 W57
  refine own_gs ?_ (own_go st57 ?_)
  · exact own_ic X56 Y d28_262 (Steps.refl _)
  obtain ⟨z58, Zz58, K58, O58, N58⟩ := own_eW W57 Zz51 K51 O51 N50 (own_i 2 rfl) gp
  have f59 := (Tq50.keep (Keep.of_wr W57) (ninS nc45 nin0))
  have f60 := (f54.keep (Keep.of_wr W57) (ninS (Ne.symm hpx) nin0))
  have f61 := (Gq50.keep (Keep.of_wr W57) (ninS hgp nin0))
  exact own_rV X57 Bd (hb hby d28_266) e57 (⟨rfl, N58, K58, f59, F57, f60, f61⟩) rfl rfl
def own_fiRi_Q (Z : State) (tm g1 p1 x1 : Nat) (mc sz : Int32) (kg vg kp vp kx vx : Value) (h0 : Heap) (n0 : Nat) (v : Option Value) (h : Heap) (L : List Loc) : Prop := v = none ∧ Fr n0 L ∧ Keep h0 h [tm, g1, p1, x1] ∧ own_T Z h tm (.ref x1) mc sz ∧ own_N Z h x1 kx vx (.ref g1) (.ref p1) .null 1 ∧ own_N Z h p1 kp vp .null .null (.ref x1) 0 ∧ own_N Z h g1 kg vg .null .null (.ref x1) 0
theorem ef_own_fiRi (m : MethodId) (x0 : Nat) (x1 : Nat) : entryFrame m #[(.ref x0), (.ref x1)] 3 = mkF m 0 #[vr x0, vr x1, .unset] [] := by first | (simp [entryFrame, mkF, argsToLocals, Value.category]; done) | rfl
theorem d28_215 : decode own_c28 215 = .ok (.aload_n 1, 1) := by decide +kernel
theorem d28_216 : decode own_c28 216 = .ok (.invokestatic 294, 3) := by decide +kernel
theorem d28_219 : decode own_c28 219 = .ok (.astore_n 1, 1) := by decide +kernel
theorem d28_220 : decode own_c28 220 = .ok (.aload_n 0, 1) := by decide +kernel
theorem d28_221 : decode own_c28 221 = .ok (.aload_n 1, 1) := by decide +kernel
theorem d28_222 : decode own_c28 222 = .ok (.invokevirtual 314, 3) := by decide +kernel
set_option maxRecDepth 65536 in
set_option maxHeartbeats 40000000 in
theorem own_fiRi (l : Launch) (Z : State) (a0 : Array Value) (hW : own_W Z a0) (tm g1 p1 x1 : Nat) (mc sz : Int32) (kg vg kp vp kx vx : Value) (h0 : Heap) (n0 : Nat) (Z0 : n0 ≤ h0.size) (O0 : Old Z n0 h0) (T1 : own_T Z h0 tm (.ref g1) mc sz) (G1 : own_N Z h0 g1 kg vg .null (.ref p1) .null 1) (P1 : own_N Z h0 p1 kp vp (.ref x1) .null (.ref g1) 0) (X1 : own_N Z h0 x1 kx vx .null .null (.ref p1) 1) (gt : n0 ≤ tm) (gg : n0 ≤ g1) (gp : n0 ≤ p1) (gx : n0 ≤ x1) (hgp : own_Ne g1 p1) (hgx : own_Ne g1 x1) (hpx : own_Ne p1 x1) :
    own_MH l own_y28 own_c28 3 none (own_r 1 0 0 24) #[(.ref tm), (.ref x1)] Z h0 (own_fiRi_Q Z tm g1 p1 x1 mc sz kg vg kp vp kx vx h0 n0) := by
  refine own_enterH (own := "java/util/TreeMap") rfl (plainFor_of_name pn_java_util_TreeMap) (fun m => ef_own_fiRi m tm x1) ?_
  intro p e s m below meth c s₁ Bd hZH hh hx hby hml hown hnm X0 e0
  have hZ := hZH.wide
  have Y := And.intro hx hby
  have hw := hW.1
  have N0 := Fr.nil n0
  have K0 := Keep.refl h0 [tm, g1, p1, x1]
  have lttm := own_lt T1.lt
  have ltg1 := own_lt G1.lt
  have ltp1 := own_lt P1.lt
  have ltx1 := own_lt X1.lt
  obtain ⟨T11, h11, X11, e11, W11, st11⟩ := own_pF X0 Y hZ hown (tw_ hw 201 rfl) e0 (own_N.f_color X1) (own_N.ex X1) (tw_ hw 164 rfl) (tw_ hw 156 rfl) (ty := .boolean) (by decide) rfl rfl (g := (mkF m 2 #[vr tm, vr x1, uu] [(.int (0 : Int32)), (.ref x1)])) rfl rfl d28_2
  have F11 := own_N.s_color hw X1 W11
  refine own_gs ?_ (own_go st11 ?_)
  · refine own_a X0 Y d28_0 rfl rfl ?_
    exact own_ic X0 Y d28_1 (Steps.refl _)
  obtain ⟨z12, Zz12, K12, O12, N12⟩ := own_eW W11 Z0 K0 O0 N0 (own_i 3 rfl) gx
  have f15 := ((own_T.ex T1).wr W11)
  have f16 := ((own_N.ex X1).wr W11)
  have nc14 : own_Ne tm x1 := ne_exa f15 f16 (by decide)
  have f17 := (T1.keep (Keep.of_wr W11) (ninS nc14 nin0))
  obtain ⟨T13, X13, e13, st13⟩ := own_gF X11 Y hZ hown (tw_ hw 115 rfl) e11 (own_T.f_root f17) (g := (mkF m 11 #[vr tm, vr x1, uu] [(.ref tm), (.ref x1)])) rfl rfl d28_11
  refine own_gs ?_ (own_go st13 ?_)
  · refine own_a X11 Y d28_5 rfl rfl ?_
    refine XS.ifnullNo X11.here hx rfl (hb hby d28_6) rfl ?_
    refine own_a X11 Y d28_9 rfl rfl ?_
    exact own_a X11 Y d28_10 rfl rfl (Steps.refl _)
  obtain ⟨T18, X18, e18, st18⟩ := own_gF X13 Y hZ hown (tw_ hw 202 rfl) e13 (own_N.f_parent F11) (g := (mkF m 18 #[vr tm, vr x1, uu] [(.ref x1)])) rfl rfl d28_18
  refine own_gs ?_ (own_go st18 ?_)
  · refine Jvm.RoadKit.acmp (g := (mkF m 14 #[vr tm, vr x1, uu] [(.ref g1), (.ref x1)])) X13 hx rfl rfl rfl (pc0 := 14) (pc' := 17) (same := false) rfl (hb hby d28_14) rfl (decide_eq_false fun q => (Ne.symm hgx) (Value.ref.inj q)) (by decide) (by decide) ?_
    exact own_a X13 Y d28_17 rfl rfl (Steps.refl _)
  have f20 := (P1.keep (Keep.of_wr W11) (ninS hpx nin0))
  obtain ⟨T19, X19, e19, st19⟩ := own_gF X18 Y hZ hown (tw_ hw 201 rfl) e18 (own_N.f_color f20) (g := (mkF m 21 #[vr tm, vr x1, uu] [(.ref p1)])) rfl rfl d28_21
  refine own_go st19 ?_
  obtain ⟨T21, L21, X21, Nq21, e21, st21⟩ := own_pcall (own_par l Z a0 hW x1 (.ref p1) h11 n0 Zz12 O12 (own_N.f_parent F11) rfl) X19 hx hZH hown (tw_ hw 213 rfl) (tw_ hw 214 rfl) (tw_ hw 11 rfl) (tw_ hw 215 rfl) (by decide) e19 (g := (mkF m 28 #[vr tm, vr x1, uu] [(.ref x1)])) rfl hml.symm (argsL := [(.ref x1)]) (rest := []) (lenOf pd_8 rfl) rfl (hb hby d28_28) (own_le rfl) (own_le rfl)
  have N21 := Fr.app N12 Nq21
  refine own_gs ?_ (own_gs st21 ?_)
  · refine XS.ifNo X19.here hx rfl (hb hby d28_24) rfl ((if0 _ _).trans (teq ((by decide) : (0 : Int32) = (0 : Int32))).2) ?_
    exact own_a X19 Y d28_27 rfl rfl (Steps.refl _)
  obtain ⟨T22, L22, X22, Nq22, e22, st22⟩ := own_pcall (own_par l Z a0 hW x1 (.ref p1) h11 n0 Zz12 O12 (own_N.f_parent F11) rfl) X21 hx hZH hown (tw_ hw 213 rfl) (tw_ hw 214 rfl) (tw_ hw 11 rfl) (tw_ hw 215 rfl) (by decide) e21 (g := (mkF m 32 #[vr tm, vr x1, uu] [(.ref x1), (.ref p1)])) rfl hml.symm (argsL := [(.ref x1)]) (rest := [(.ref p1)]) (lenOf pd_8 rfl) rfl (hb hby d28_32) (own_le rfl) (own_le rfl)
  have N22 := Fr.app N21 Nq22
  refine own_gs ?_ (own_gs st22 ?_)
  · exact own_a X21 Y d28_31 rfl rfl (Steps.refl _)
  obtain ⟨T23, L23, X23, Nq23, e23, st23⟩ := own_pcall (own_par l Z a0 hW p1 (.ref g1) h11 n0 Zz12 O12 (own_N.f_parent f20) rfl) X22 hx hZH hown (tw_ hw 213 rfl) (tw_ hw 214 rfl) (tw_ hw 11 rfl) (tw_ hw 215 rfl) (by decide) e22 (g := (mkF m 35 #[vr tm, vr x1, uu] [(.ref p1), (.ref p1)])) rfl hml.symm (argsL := [(.ref p1)]) (rest := [(.ref p1)]) (lenOf pd_8 rfl) rfl (hb hby d28_35) (own_le rfl) (own_le rfl)
  have N23 := Fr.app N22 Nq23
  refine own_gs st23 ?_
  have f24 := (G1.keep (Keep.of_wr W11) (ninS hgx nin0))
  obtain ⟨T25, L25, X25, Nq25, e25, st25⟩ := own_pcall (own_lft l Z a0 hW g1 .null h11 n0 Zz12 O12 (own_N.f_left f24) rfl) X23 hx hZH hown (tw_ hw 216 rfl) (tw_ hw 217 rfl) (tw_ hw 11 rfl) (tw_ hw 218 rfl) (by decide) e23 (g := (mkF m 38 #[vr tm, vr x1, uu] [(.ref g1), (.ref p1)])) rfl hml.symm (argsL := [(.ref g1)]) (rest := [(.ref p1)]) (lenOf pd_8 rfl) rfl (hb hby d28_38) (own_le rfl) (own_le rfl)
  have N25 := Fr.app N23 Nq25
  refine own_gs st25 ?_
  obtain ⟨T26, L26, X26, Nq26, e26, st26⟩ := own_pcall (own_par l Z a0 hW x1 (.ref p1) h11 n0 Zz12 O12 (own_N.f_parent F11) rfl) X25 hx hZH hown (tw_ hw 213 rfl) (tw_ hw 214 rfl) (tw_ hw 11 rfl) (tw_ hw 215 rfl) (by decide) e25 (g := (mkF m 152 #[vr tm, vr x1, uu] [(.ref x1)])) rfl hml.symm (argsL := [(.ref x1)]) (rest := []) (lenOf pd_8 rfl) rfl (hb hby d28_152) (own_le rfl) (own_le rfl)
  have N26 := Fr.app N25 Nq26
  refine own_gs ?_ (own_gs st26 ?_)
  · refine Jvm.RoadKit.acmp (g := (mkF m 41 #[vr tm, vr x1, uu] [.null, (.ref p1)])) X25 hx rfl rfl rfl (pc0 := 41) (pc' := 151) (same := false) rfl (hb hby d28_41) rfl (decide_eq_false nofun) (by decide) (by decide) ?_
    exact own_a X25 Y d28_151 rfl rfl (Steps.refl _)
  obtain ⟨T27, L27, X27, Nq27, e27, st27⟩ := own_pcall (own_par l Z a0 hW p1 (.ref g1) h11 n0 Zz12 O12 (own_N.f_parent f20) rfl) X26 hx hZH hown (tw_ hw 213 rfl) (tw_ hw 214 rfl) (tw_ hw 11 rfl) (tw_ hw 215 rfl) (by decide) e26 (g := (mkF m 155 #[vr tm, vr x1, uu] [(.ref p1)])) rfl hml.symm (argsL := [(.ref p1)]) (rest := []) (lenOf pd_8 rfl) rfl (hb hby d28_155) (own_le rfl) (own_le rfl)
  have N27 := Fr.app N26 Nq27
  refine own_gs st27 ?_
  obtain ⟨T28, L28, X28, Nq28, e28, st28⟩ := own_pcall (own_lft l Z a0 hW g1 .null h11 n0 Zz12 O12 (own_N.f_left f24) rfl) X27 hx hZH hown (tw_ hw 216 rfl) (tw_ hw 217 rfl) (tw_ hw 11 rfl) (tw_ hw 218 rfl) (by decide) e27 (g := (mkF m 158 #[vr tm, vr x1, uu] [(.ref g1)])) rfl hml.symm (argsL := [(.ref g1)]) (rest := []) (lenOf pd_8 rfl) rfl (hb hby d28_158) (own_le rfl) (own_le rfl)
  have N28 := Fr.app N27 Nq28
  refine own_gs st28 ?_
  obtain ⟨T29, L29, X29, Nq29, e29, st29⟩ := own_pcall (own_coln l Z a0 hW h11 n0 Zz12 O12 ) X28 hx hZH hown (tw_ hw 219 rfl) (tw_ hw 220 rfl) (tw_ hw 11 rfl) (tw_ hw 221 rfl) (by decide) e28 (g := (mkF m 163 #[vr tm, vr x1, vn] [.null])) rfl hml.symm (argsL := [.null]) (rest := []) (lenOf pd_9 rfl) rfl (hb hby d28_163) (own_le rfl) (own_le rfl)
  have N29 := Fr.app N28 Nq29
  refine own_gs ?_ (own_gs st29 ?_)
  · refine XS.astoreN X28.here hx rfl (hb hby d28_161) rfl rfl (l' := #[vr tm, vr x1, vn]) rfl ?_
    exact own_a X28 Y d28_162 rfl rfl (Steps.refl _)
  obtain ⟨T30, L30, X30, Nq30, e30, st30⟩ := own_pcall (own_par l Z a0 hW x1 (.ref p1) h11 n0 Zz12 O12 (own_N.f_parent F11) rfl) X29 hx hZH hown (tw_ hw 213 rfl) (tw_ hw 214 rfl) (tw_ hw 11 rfl) (tw_ hw 215 rfl) (by decide) e29 (g := (mkF m 206 #[vr tm, vr x1, vn] [(.ref x1), (.ref x1)])) rfl hml.symm (argsL := [(.ref x1)]) (rest := [(.ref x1)]) (lenOf pd_8 rfl) rfl (hb hby d28_206) (own_le rfl) (own_le rfl)
  have N30 := Fr.app N29 Nq30
  refine own_gs ?_ (own_gs st30 ?_)
  · refine XS.ifYes X29.here hx rfl (pc0 := 166) (pc' := 204) rfl (hb hby d28_166) rfl ((if0 _ _).trans (feq ((by decide) : ¬ ((1 : Int32) = (0 : Int32)))).2) (by decide) (by decide) ?_
    refine own_a X29 Y d28_204 rfl rfl ?_
    exact own_a X29 Y d28_205 rfl rfl (Steps.refl _)
  obtain ⟨T31, L31, X31, Nq31, e31, st31⟩ := own_pcall (own_lft l Z a0 hW p1 (.ref x1) h11 n0 Zz12 O12 (own_N.f_left f20) rfl) X30 hx hZH hown (tw_ hw 216 rfl) (tw_ hw 217 rfl) (tw_ hw 11 rfl) (tw_ hw 218 rfl) (by decide) e30 (g := (mkF m 209 #[vr tm, vr x1, vn] [(.ref p1), (.ref x1)])) rfl hml.symm (argsL := [(.ref p1)]) (rest := [(.ref x1)]) (lenOf pd_8 rfl) rfl (hb hby d28_209) (own_le rfl) (own_le rfl)
  have N31 := Fr.app N30 Nq31
  refine own_gs st31 ?_
  obtain ⟨T32, L32, X32, Nq32, e32, st32⟩ := own_pcall (own_par l Z a0 hW x1 (.ref p1) h11 n0 Zz12 O12 (own_N.f_parent F11) rfl) X31 hx hZH hown (tw_ hw 213 rfl) (tw_ hw 214 rfl) (tw_ hw 11 rfl) (tw_ hw 215 rfl) (by decide) e31 (g := (mkF m 216 #[vr tm, vr x1, vn] [(.ref x1)])) rfl hml.symm (argsL := [(.ref x1)]) (rest := []) (lenOf pd_8 rfl) rfl (hb hby d28_216) (own_le rfl) (own_le rfl)
  have N32 := Fr.app N31 Nq32
  refine own_gs ?_ (own_gs st32 ?_)
  · refine Jvm.RoadKit.acmp (g := (mkF m 212 #[vr tm, vr x1, vn] [(.ref x1), (.ref x1)])) X31 hx rfl rfl rfl (pc0 := 212) (pc' := 215) (same := true) rfl (hb hby d28_212) rfl (decide_eq_true rfl) (by decide) (by decide) ?_
    exact own_a X31 Y d28_215 rfl rfl (Steps.refl _)
  obtain ⟨v33, T33, Lc33, X33, hQ33, st33⟩ := own_priv (own_rotRi l Z a0 hW tm g1 p1 x1 mc sz (.ref g1) kg vg .null .null kp vp .null kx vx .null (1 : Int32) (0 : Int32) (0 : Int32) h11 n0 Zz12 O12 f17 f24 f20 F11 gg gp gx hgp hgx hpx) X32 Y hZH hown (tw_ hw 222 rfl) (tw_ hw 223 rfl) (tw_ hw 224 rfl) (own_nf (notFace_of_selects (tw_ hw 109 rfl)) (tw_ hw 108 rfl) rfl) (tw_ hw 226 rfl) (tw_ hw 11 rfl) (by decide) e32 (own_T.ex f17) (g := (mkF m 222 #[vr tm, vr p1, vn] [(.ref p1), (.ref tm)])) rfl hml.symm (argsL := [(.ref p1)]) (rest := []) (lenOf pd_11 rfl) rfl d28_222
  obtain ⟨rfl, Nq33, Kq33, Gq33, Pq33, Xq33⟩ := hQ33
  have N33 := Fr.app N32 Nq33
  obtain ⟨z34, Zz34, K34, O34⟩ := own_eK Kq33 Zz12 K12 O12 (allS (own_i 1 rfl) (allS (own_i 2 rfl) (allS (own_i 3 rfl) all0))) (allS gg (allS gp (allS gx all0)))
  refine own_gs ?_ (own_gs st33 ?_)
  · refine XS.astoreN X32.here hx rfl (hb hby d28_219) rfl rfl (l' := #[vr tm, vr p1, vn]) rfl ?_
    refine own_a X32 Y d28_220 rfl rfl ?_
    exact own_a X32 Y d28_221 rfl rfl (Steps.refl _)
  obtain ⟨T35, L35, X35, Nq35, e35, st35⟩ := own_pcall (own_par l Z a0 hW p1 (.ref x1) T33.heap n0 Zz34 O34 (own_N.f_parent Pq33) rfl) X33 hx hZH hown (tw_ hw 213 rfl) (tw_ hw 214 rfl) (tw_ hw 11 rfl) (tw_ hw 215 rfl) (by decide) rfl (g := (mkF m 226 #[vr tm, vr p1, vn] [(.ref p1)])) rfl hml.symm (argsL := [(.ref p1)]) (rest := []) (lenOf pd_8 rfl) rfl (hb hby d28_226) (own_le rfl) (own_le rfl)
  have N35 := Fr.app N33 Nq35
  refine own_gs ?_ (own_gs st35 ?_)
  · exact own_a X33 Y d28_225 rfl rfl (Steps.refl _)
  obtain ⟨v36, T36, Lc36, X36, hQ36, st36⟩ := own_stat (own_sco1 l Z a0 hW x1 kx vx .null (.ref p1) (.ref g1) (0 : Int32) T33.heap n0 Zz34 O34 Xq33 gx) X35 Y hZH hown (tw_ hw 227 rfl) (tw_ hw 228 rfl) (tw_ hw 229 rfl) (tw_ hw 11 rfl) (by decide) e35 (g := (mkF m 230 #[vr tm, vr p1, vn] [(.int (1 : Int32)), (.ref x1)])) rfl hml.symm (argsL := [(.ref x1), (.int (1 : Int32))]) (rest := []) (lenOf pd_10 rfl) rfl d28_230
  obtain ⟨rfl, Nq36, Kq36, Fq36⟩ := hQ36
  have N36 := Fr.app N35 Nq36
  obtain ⟨z37, Zz37, K37, O37⟩ := own_eK Kq36 Zz34 K34 O34 (allS (own_i 3 rfl) all0) (allS gx all0)
  refine own_gs ?_ (own_gs st36 ?_)
  · exact own_ic X35 Y d28_229 (Steps.refl _)
  have f38 := (Pq33.keep Kq36 (ninS hpx nin0))
  obtain ⟨T39, L39, X39, Nq39, e39, st39⟩ := own_pcall (own_par l Z a0 hW p1 (.ref x1) T36.heap n0 Zz37 O37 (own_N.f_parent f38) rfl) X36 hx hZH hown (tw_ hw 213 rfl) (tw_ hw 214 rfl) (tw_ hw 11 rfl) (tw_ hw 215 rfl) (by decide) rfl (g := (mkF m 234 #[vr tm, vr p1, vn] [(.ref p1)])) rfl hml.symm (argsL := [(.ref p1)]) (rest := []) (lenOf pd_8 rfl) rfl (hb hby d28_234) (own_le rfl) (own_le rfl)
  have N39 := Fr.app N36 Nq39
  refine own_gs ?_ (own_gs st39 ?_)
  · exact own_a X36 Y d28_233 rfl rfl (Steps.refl _)
  obtain ⟨T40, L40, X40, Nq40, e40, st40⟩ := own_pcall (own_par l Z a0 hW x1 (.ref g1) T36.heap n0 Zz37 O37 (own_N.f_parent Fq36) rfl) X39 hx hZH hown (tw_ hw 213 rfl) (tw_ hw 214 rfl) (tw_ hw 11 rfl) (tw_ hw 215 rfl) (by decide) e39 (g := (mkF m 237 #[vr tm, vr p1, vn] [(.ref x1)])) rfl hml.symm (argsL := [(.ref x1)]) (rest := []) (lenOf pd_8 rfl) rfl (hb hby d28_237) (own_le rfl) (own_le rfl)
  have N40 := Fr.app N39 Nq40
  refine own_gs st40 ?_
  have f41 := (Gq33.keep Kq36 (ninS hgx nin0))
  obtain ⟨v42, T42, Lc42, X42, hQ42, st42⟩ := own_stat (own_sco0 l Z a0 hW g1 kg vg .null (.ref x1) .null (1 : Int32) T36.heap n0 Zz37 O37 f41 gg) X40 Y hZH hown (tw_ hw 227 rfl) (tw_ hw 228 rfl) (tw_ hw 229 rfl) (tw_ hw 11 rfl) (by decide) e40 (g := (mkF m 241 #[vr tm, vr p1, vn] [(.int (0 : Int32)), (.ref g1)])) rfl hml.symm (argsL := [(.ref g1), (.int (0 : Int32))]) (rest := []) (lenOf pd_10 rfl) rfl d28_241
  obtain ⟨rfl, Nq42, Kq42, Fq42⟩ := hQ42
  have N42 := Fr.app N40 Nq42
  obtain ⟨z43, Zz43, K43, O43⟩ := own_eK Kq42 Zz37 K37 O37 (allS (own_i 1 rfl) all0) (allS gg all0)
  refine own_gs ?_ (own_gs st42 ?_)
  · exact own_ic X40 Y d28_240 (Steps.refl _)
  have f44 := (f38.keep Kq42 (ninS (Ne.symm hgp) nin0))
  obtain ⟨T45, L45, X45, Nq45, e45, st45⟩ := own_pcall (own_par l Z a0 hW p1 (.ref x1) T42.heap n0 Zz43 O43 (own_N.f_parent f44) rfl) X42 hx hZH hown (tw_ hw 213 rfl) (tw_ hw 214 rfl) (tw_ hw 11 rfl) (tw_ hw 215 rfl) (by decide) rfl (g := (mkF m 246 #[vr tm, vr p1, vn] [(.ref p1), (.ref tm)])) rfl hml.symm (argsL := [(.ref p1)]) (rest := [(.ref tm)]) (lenOf pd_8 rfl) rfl (hb hby d28_246) (own_le rfl) (own_le rfl)
  have N45 := Fr.app N42 Nq45
  refine own_gs ?_ (own_gs st45 ?_)
  · refine own_a X42 Y d28_244 rfl rfl ?_
    exact own_a X42 Y d28_245 rfl rfl (Steps.refl _)
  have f46 := (Fq36.keep Kq42 (ninS (Ne.symm hgx) nin0))
  obtain ⟨T47, L47, X47, Nq47, e47, st47⟩ := own_pcall (own_par l Z a0 hW x1 (.ref g1) T42.heap n0 Zz43 O43 (own_N.f_parent f46) rfl) X45 hx hZH hown (tw_ hw 213 rfl) (tw_ hw 214 rfl) (tw_ hw 11 rfl) (tw_ hw 215 rfl) (by decide) e45 (g := (mkF m 249 #[vr tm, vr p1, vn] [(.ref x1), (.ref tm)])) rfl hml.symm (argsL := [(.ref x1)]) (rest := [(.ref tm)]) (lenOf pd_8 rfl) rfl (hb hby d28_249) (own_le rfl) (own_le rfl)
  have N47 := Fr.app N45 Nq47
  refine own_gs st47 ?_
  have f49 := (((f15.keep Kq33).keep Kq36).keep Kq42)
  have f50 := (((own_N.ex Pq33).keep Kq36).keep Kq42)
  have nc48 : own_Ne tm p1 := ne_exa f49 f50 (by decide)
  have nc51 : own_Ne tm g1 := ne_exa f49 (own_N.ex Fq42) (by decide)
  have f52 := (((f17.keep Kq33 (ninS nc51 (ninS nc48 (ninS nc14 nin0)))).keep Kq36 (ninS nc14 nin0)).keep Kq42 (ninS nc51 nin0))
  obtain ⟨v53, T53, Lc53, X53, hQ53, st53⟩ := own_priv (own_rotLr l Z a0 hW tm g1 x1 mc sz kg vg .null kx vx (.ref p1) (0 : Int32) (1 : Int32) T42.heap n0 Zz43 O43 f52 Fq42 f46 gt gg gx hgx) X47 Y hZH hown (tw_ hw 230 rfl) (tw_ hw 231 rfl) (tw_ hw 232 rfl) (own_nf (notFace_of_selects (tw_ hw 109 rfl)) (tw_ hw 108 rfl) rfl) (tw_ hw 234 rfl) (tw_ hw 11 rfl) (by decide) e47 (own_T.ex f52) (g := (mkF m 252 #[vr tm, vr p1, vn] [(.ref g1), (.ref tm)])) rfl hml.symm (argsL := [(.ref g1)]) (rest := []) (lenOf pd_11 rfl) rfl d28_252
  obtain ⟨rfl, Nq53, Kq53, Tq53, Gq53, Xq53⟩ := hQ53
  have N53 := Fr.app N47 Nq53
  obtain ⟨z54, Zz54, K54, O54⟩ := own_eK Kq53 Zz43 K43 O43 (allS (own_i 0 rfl) (allS (own_i 1 rfl) (allS (own_i 3 rfl) all0))) (allS gt (allS gg (allS gx all0)))
  refine own_gs st53 ?_
  obtain ⟨T55, X55, e55, st55⟩ := own_gF X53 Y hZ hown (tw_ hw 115 rfl) rfl (own_T.f_root Tq53) (g := (mkF m 11 #[vr tm, vr p1, vn] [(.ref tm), (.ref p1)])) rfl rfl d28_11
  refine own_gs ?_ (own_go st55 ?_)
  · refine XS.goto X53.here hx rfl (pc0 := 255) (pc' := 5) rfl (hb hby d28_255) (by decide) (by decide) ?_
    refine own_a X53 Y d28_5 rfl rfl ?_
    refine XS.ifnullNo X53.here hx rfl (hb hby d28_6) rfl ?_
    refine own_a X53 Y d28_9 rfl rfl ?_
    exact own_a X53 Y d28_10 rfl rfl (Steps.refl _)
  have f57 := (f44.keep Kq53 (ninS (Ne.symm nc48) (ninS (Ne.symm hgp) (ninS hpx nin0))))
  obtain ⟨T56, X56, e56, st56⟩ := own_gF X55 Y hZ hown (tw_ hw 202 rfl) e55 (own_N.f_parent f57) (g := (mkF m 18 #[vr tm, vr p1, vn] [(.ref p1)])) rfl rfl d28_18
  refine own_gs ?_ (own_go st56 ?_)
  · refine Jvm.RoadKit.acmp (g := (mkF m 14 #[vr tm, vr p1, vn] [(.ref x1), (.ref p1)])) X55 hx rfl rfl rfl (pc0 := 14) (pc' := 17) (same := false) rfl (hb hby d28_14) rfl (decide_eq_false fun q => hpx (Value.ref.inj q)) (by decide) (by decide) ?_
    exact own_a X55 Y d28_17 rfl rfl (Steps.refl _)
  obtain ⟨T58, X58, e58, st58⟩ := own_gF X56 Y hZ hown (tw_ hw 201 rfl) e56 (own_N.f_color Xq53) (g := (mkF m 21 #[vr tm, vr p1, vn] [(.ref x1)])) rfl rfl d28_21
  refine own_go st58 ?_
  obtain ⟨T59, X59, e59, st59⟩ := own_gF X58 Y hZ hown (tw_ hw 115 rfl) e58 (own_T.f_root Tq53) (g := (mkF m 259 #[vr tm, vr p1, vn] [(.ref tm)])) rfl rfl d28_259
  refine own_gs ?_ (own_go st59 ?_)
  · refine XS.ifYes X58.here hx rfl (pc0 := 24) (pc' := 258) rfl (hb hby d28_24) rfl ((if0 _ _).trans (feq ((by decide) : ¬ ((1 : Int32) = (0 : Int32)))).2) (by decide) (by decide) ?_
    exact own_a X58 Y d28_258 rfl rfl (Steps.refl _)
  obtain ⟨T60, h60, X60, e60, W60, st60⟩ := own_pF X59 Y hZ hown (tw_ hw 201 rfl) e59 (own_N.f_color Xq53) (own_N.ex Xq53) (tw_ hw 164 rfl) (tw_ hw 156 rfl) (ty := .boolean) (by decide) rfl rfl (g := (mkF m 263 #[vr tm, vr p1, vn] [(.int (1 : Int32)), (.ref x1)])) rfl rfl d28_263
  have F60 := own_N.s_color hw Xq53 W60
  refine own_gs ?_ (own_go st60 ?_)
  · exact own_ic X59 Y d28_262 (Steps.refl _)
  obtain ⟨z61, Zz61, K61, O61, N61⟩ := own_eW W60 Zz54 K54 O54 N53 (own_i 3 rfl) gx
  have f62 := (Tq53.keep (Keep.of_wr W60) (ninS nc14 nin0))
  have f63 := (f57.keep (Keep.of_wr W60) (ninS hpx nin0))
  have f64 := (Gq53.keep (Keep.of_wr W60) (ninS hgx nin0))
  exact own_rV X60 Bd (hb hby d28_266) e60 (⟨rfl, N61, K61, f62, F60, f63, f64⟩) rfl rfl
abbrev own_c29 : ByteArray := jdk_2736_method_1_code
def own_tei0_Q (Z : State) (b1 k1 d1 : Nat) (h0 : Heap) (n0 : Nat) (v : Option Value) (h : Heap) (L : List Loc) : Prop := v = none ∧ Fr n0 L ∧ Keep h0 h [b1] ∧ own_N Z h b1 (.ref k1) (.ref d1) .null .null .null 1
theorem pn_java_util_TreeMap_Entry : plainName "java/util/TreeMap$Entry" = true := by first | (simp [plainName, overriddenIn]; done) | decide +kernel
theorem ef_own_tei0 (m : MethodId) (x0 : Nat) (x1 : Nat) (x2 : Nat) : entryFrame m #[(.ref x0), (.ref x1), (.ref x2), .null] 4 = mkF m 0 #[vr x0, vr x1, vr x2, vn] [] := by first | (simp [entryFrame, mkF, argsToLocals, Value.category]; done) | rfl
abbrev own_y29 : MethodName := ⟨"java/util/TreeMap$Entry", "<init>", "(Ljava/lang/Object;Ljava/lang/Object;Ljava/util/TreeMap$Entry;)V"⟩
theorem d29_0 : decode own_c29 0 = .ok (.aload_n 0, 1) := by decide +kernel
theorem d29_1 : decode own_c29 1 = .ok (.invokespecial 3, 3) := by decide +kernel
theorem d29_4 : decode own_c29 4 = .ok (.aload_n 0, 1) := by decide +kernel
theorem d29_5 : decode own_c29 5 = .ok (.iconst 1, 1) := by decide +kernel
theorem d29_6 : decode own_c29 6 = .ok (.putfield 9, 3) := by decide +kernel
theorem d29_9 : decode own_c29 9 = .ok (.aload_n 0, 1) := by decide +kernel
theorem d29_10 : decode own_c29 10 = .ok (.aload_n 1, 1) := by decide +kernel
theorem d29_11 : decode own_c29 11 = .ok (.putfield 15, 3) := by decide +kernel
theorem d29_14 : decode own_c29 14 = .ok (.aload_n 0, 1) := by decide +kernel
theorem d29_15 : decode own_c29 15 = .ok (.aload_n 2, 1) := by decide +kernel
theorem d29_16 : decode own_c29 16 = .ok (.putfield 19, 3) := by decide +kernel
theorem d29_19 : decode own_c29 19 = .ok (.aload_n 0, 1) := by decide +kernel
theorem d29_20 : decode own_c29 20 = .ok (.aload_n 3, 1) := by decide +kernel
theorem d29_21 : decode own_c29 21 = .ok (.putfield 22, 3) := by decide +kernel
theorem d29_24 : decode own_c29 24 = .ok (.return_, 1) := by decide +kernel
set_option maxRecDepth 65536 in
set_option maxHeartbeats 40000000 in
theorem own_tei0 (l : Launch) (Z : State) (a0 : Array Value) (hW : own_W Z a0) (b1 k1 d1 : Nat) (h0 : Heap) (n0 : Nat) (Z0 : n0 ≤ h0.size) (O0 : Old Z n0 h0) (F1 : own_N Z h0 b1 .null .null .null .null .null 0) (g1 : n0 ≤ b1) :
    own_MH l own_y29 own_c29 4 none (own_r 1 0 0 20) #[(.ref b1), (.ref k1), (.ref d1), .null] Z h0 (own_tei0_Q Z b1 k1 d1 h0 n0) := by
  refine own_enterH (own := "java/util/TreeMap$Entry") rfl (plainFor_of_name pn_java_util_TreeMap_Entry) (fun m => ef_own_tei0 m b1 k1 d1) ?_
  intro p e s m below meth c s₁ Bd hZH hh hx hby hml hown hnm X0 e0
  have hZ := hZH.wide
  have Y := And.intro hx hby
  have hw := hW.1
  have N0 := Fr.nil n0
  have K0 := Keep.refl h0 [b1]
  have ltb1 := own_lt F1.lt
  obtain ⟨T11, X11, e11, st11⟩ := initO X0 hx hZ hown (tw_ hw 162 rfl) (tw_ hw 7 rfl) (tw_ hw 8 rfl) e0 (g := (mkF m 1 #[vr b1, vr k1, vr d1, vn] [(.ref b1)])) rfl (by rw [hml]; rfl) rfl (hb hby d29_1) (by decide) (W := 0) (own_le rfl) (by decide)
  refine own_gs ?_ (own_go st11 ?_)
  · exact own_a X0 Y d29_0 rfl rfl (Steps.refl _)
  obtain ⟨T12, h12, X12, e12, W12, st12⟩ := own_pF X11 Y hZ hown (tw_ hw 163 rfl) e11 (own_N.f_color F1) (own_N.ex F1) (tw_ hw 164 rfl) (tw_ hw 156 rfl) (ty := .boolean) (by decide) rfl rfl (g := (mkF m 6 #[vr b1, vr k1, vr d1, vn] [(.int (1 : Int32)), (.ref b1)])) rfl rfl d29_6
  have F12 := own_N.s_color hw F1 W12
  refine own_gs ?_ (own_go st12 ?_)
  · refine own_a X11 Y d29_4 rfl rfl ?_
    exact own_ic X11 Y d29_5 (Steps.refl _)
  obtain ⟨z13, Zz13, K13, O13, N13⟩ := own_eW W12 Z0 K0 O0 N0 (own_i 0 rfl) g1
  obtain ⟨T14, h14, X14, e14, W14, st14⟩ := own_pF X12 Y hZ hown (tw_ hw 165 rfl) e12 (own_N.f_key F12) (own_N.ex F12) (tw_ hw 166 rfl) (tw_ hw 156 rfl) (ty := (.object "java/lang/Object")) (by decide) rfl rfl (g := (mkF m 11 #[vr b1, vr k1, vr d1, vn] [(.ref k1), (.ref b1)])) rfl rfl d29_11
  have F14 := own_N.s_key hw F12 W14
  refine own_gs ?_ (own_go st14 ?_)
  · refine own_a X12 Y d29_9 rfl rfl ?_
    exact own_a X12 Y d29_10 rfl rfl (Steps.refl _)
  obtain ⟨z15, Zz15, K15, O15, N15⟩ := own_eW W14 Zz13 K13 O13 N13 (own_i 0 rfl) g1
  obtain ⟨T16, h16, X16, e16, W16, st16⟩ := own_pF X14 Y hZ hown (tw_ hw 167 rfl) e14 (own_N.f_value F14) (own_N.ex F14) (tw_ hw 168 rfl) (tw_ hw 156 rfl) (ty := (.object "java/lang/Object")) (by decide) rfl rfl (g := (mkF m 16 #[vr b1, vr k1, vr d1, vn] [(.ref d1), (.ref b1)])) rfl rfl d29_16
  have F16 := own_N.s_value hw F14 W16
  refine own_gs ?_ (own_go st16 ?_)
  · refine own_a X14 Y d29_14 rfl rfl ?_
    exact own_a X14 Y d29_15 rfl rfl (Steps.refl _)
  obtain ⟨z17, Zz17, K17, O17, N17⟩ := own_eW W16 Zz15 K15 O15 N15 (own_i 0 rfl) g1
  obtain ⟨T18, h18, X18, e18, W18, st18⟩ := own_pF X16 Y hZ hown (tw_ hw 169 rfl) e16 (own_N.f_parent F16) (own_N.ex F16) (tw_ hw 170 rfl) (tw_ hw 156 rfl) (ty := (.object "java/util/TreeMap$Entry")) (by decide) rfl rfl (g := (mkF m 21 #[vr b1, vr k1, vr d1, vn] [.null, (.ref b1)])) rfl rfl d29_21
  have F18 := own_N.s_parent hw F16 W18
  refine own_gs ?_ (own_go st18 ?_)
  · refine own_a X16 Y d29_19 rfl rfl ?_
    exact own_a X16 Y d29_20 rfl rfl (Steps.refl _)
  obtain ⟨z19, Zz19, K19, O19, N19⟩ := own_eW W18 Zz17 K17 O17 N17 (own_i 0 rfl) g1
  exact own_rV X18 Bd (hb hby d29_24) e18 (⟨rfl, N19, K19, F18⟩) rfl rfl
def own_tei1_Q (Z : State) (b1 k1 d1 p1 : Nat) (h0 : Heap) (n0 : Nat) (v : Option Value) (h : Heap) (L : List Loc) : Prop := v = none ∧ Fr n0 L ∧ Keep h0 h [b1] ∧ own_N Z h b1 (.ref k1) (.ref d1) .null .null (.ref p1) 1
theorem ef_own_tei1 (m : MethodId) (x0 : Nat) (x1 : Nat) (x2 : Nat) (x3 : Nat) : entryFrame m #[(.ref x0), (.ref x1), (.ref x2), (.ref x3)] 4 = mkF m 0 #[vr x0, vr x1, vr x2, vr x3] [] := by first | (simp [entryFrame, mkF, argsToLocals, Value.category]; done) | rfl
set_option maxRecDepth 65536 in
set_option maxHeartbeats 40000000 in
theorem own_tei1 (l : Launch) (Z : State) (a0 : Array Value) (hW : own_W Z a0) (b1 k1 d1 p1 : Nat) (h0 : Heap) (n0 : Nat) (Z0 : n0 ≤ h0.size) (O0 : Old Z n0 h0) (F1 : own_N Z h0 b1 .null .null .null .null .null 0) (g1 : n0 ≤ b1) :
    own_MH l own_y29 own_c29 4 none (own_r 1 0 0 20) #[(.ref b1), (.ref k1), (.ref d1), (.ref p1)] Z h0 (own_tei1_Q Z b1 k1 d1 p1 h0 n0) := by
  refine own_enterH (own := "java/util/TreeMap$Entry") rfl (plainFor_of_name pn_java_util_TreeMap_Entry) (fun m => ef_own_tei1 m b1 k1 d1 p1) ?_
  intro p e s m below meth c s₁ Bd hZH hh hx hby hml hown hnm X0 e0
  have hZ := hZH.wide
  have Y := And.intro hx hby
  have hw := hW.1
  have N0 := Fr.nil n0
  have K0 := Keep.refl h0 [b1]
  have ltb1 := own_lt F1.lt
  obtain ⟨T11, X11, e11, st11⟩ := initO X0 hx hZ hown (tw_ hw 162 rfl) (tw_ hw 7 rfl) (tw_ hw 8 rfl) e0 (g := (mkF m 1 #[vr b1, vr k1, vr d1, vr p1] [(.ref b1)])) rfl (by rw [hml]; rfl) rfl (hb hby d29_1) (by decide) (W := 0) (own_le rfl) (by decide)
  refine own_gs ?_ (own_go st11 ?_)
  · exact own_a X0 Y d29_0 rfl rfl (Steps.refl _)
  obtain ⟨T12, h12, X12, e12, W12, st12⟩ := own_pF X11 Y hZ hown (tw_ hw 163 rfl) e11 (own_N.f_color F1) (own_N.ex F1) (tw_ hw 164 rfl) (tw_ hw 156 rfl) (ty := .boolean) (by decide) rfl rfl (g := (mkF m 6 #[vr b1, vr k1, vr d1, vr p1] [(.int (1 : Int32)), (.ref b1)])) rfl rfl d29_6
  have F12 := own_N.s_color hw F1 W12
  refine own_gs ?_ (own_go st12 ?_)
  · refine own_a X11 Y d29_4 rfl rfl ?_
    exact own_ic X11 Y d29_5 (Steps.refl _)
  obtain ⟨z13, Zz13, K13, O13, N13⟩ := own_eW W12 Z0 K0 O0 N0 (own_i 0 rfl) g1
  obtain ⟨T14, h14, X14, e14, W14, st14⟩ := own_pF X12 Y hZ hown (tw_ hw 165 rfl) e12 (own_N.f_key F12) (own_N.ex F12) (tw_ hw 166 rfl) (tw_ hw 156 rfl) (ty := (.object "java/lang/Object")) (by decide) rfl rfl (g := (mkF m 11 #[vr b1, vr k1, vr d1, vr p1] [(.ref k1), (.ref b1)])) rfl rfl d29_11
  have F14 := own_N.s_key hw F12 W14
  refine own_gs ?_ (own_go st14 ?_)
  · refine own_a X12 Y d29_9 rfl rfl ?_
    exact own_a X12 Y d29_10 rfl rfl (Steps.refl _)
  obtain ⟨z15, Zz15, K15, O15, N15⟩ := own_eW W14 Zz13 K13 O13 N13 (own_i 0 rfl) g1
  obtain ⟨T16, h16, X16, e16, W16, st16⟩ := own_pF X14 Y hZ hown (tw_ hw 167 rfl) e14 (own_N.f_value F14) (own_N.ex F14) (tw_ hw 168 rfl) (tw_ hw 156 rfl) (ty := (.object "java/lang/Object")) (by decide) rfl rfl (g := (mkF m 16 #[vr b1, vr k1, vr d1, vr p1] [(.ref d1), (.ref b1)])) rfl rfl d29_16
  have F16 := own_N.s_value hw F14 W16
  refine own_gs ?_ (own_go st16 ?_)
  · refine own_a X14 Y d29_14 rfl rfl ?_
    exact own_a X14 Y d29_15 rfl rfl (Steps.refl _)
  obtain ⟨z17, Zz17, K17, O17, N17⟩ := own_eW W16 Zz15 K15 O15 N15 (own_i 0 rfl) g1
  obtain ⟨T18, h18, X18, e18, W18, st18⟩ := own_pF X16 Y hZ hown (tw_ hw 169 rfl) e16 (own_N.f_parent F16) (own_N.ex F16) (tw_ hw 170 rfl) (tw_ hw 156 rfl) (ty := (.object "java/util/TreeMap$Entry")) (by decide) rfl rfl (g := (mkF m 21 #[vr b1, vr k1, vr d1, vr p1] [(.ref p1), (.ref b1)])) rfl rfl d29_21
  have F18 := own_N.s_parent hw F16 W18
  refine own_gs ?_ (own_go st18 ?_)
  · refine own_a X16 Y d29_19 rfl rfl ?_
    exact own_a X16 Y d29_20 rfl rfl (Steps.refl _)
  obtain ⟨z19, Zz19, K19, O19, N19⟩ := own_eW W18 Zz17 K17 O17 N17 (own_i 0 rfl) g1
  exact own_rV X18 Bd (hb hby d29_24) e18 (⟨rfl, N19, K19, F18⟩) rfl rfl
abbrev own_c30 : ByteArray := jdk_2729_method_67_code
def own_tcmp_Q (Z : State) (tm a1 a2 : Nat) (x y : Int64) (root : Value) (mc sz : Int32) (h0 : Heap) (n0 : Nat) (v : Option Value) (h : Heap) (L : List Loc) : Prop := ((v = some (.int (-1 : Int32)) ∧ x < y) ∨ (v = some (.int (0 : Int32)) ∧ x = y) ∨ (v = some (.int (1 : Int32)) ∧ y < x)) ∧ Fr n0 L ∧ h = h0
theorem ef_own_tcmp (m : MethodId) (x0 : Nat) (x1 : Nat) (x2 : Nat) : entryFrame m #[(.ref x0), (.ref x1), (.ref x2)] 3 = mkF m 0 #[vr x0, vr x1, vr x2] [] := by first | (simp [entryFrame, mkF, argsToLocals, Value.category]; done) | rfl
abbrev own_y30 : MethodName := ⟨"java/util/TreeMap", "compare", "(Ljava/lang/Object;Ljava/lang/Object;)I"⟩
theorem d30_0 : decode own_c30 0 = .ok (.aload_n 0, 1) := by decide +kernel
theorem d30_1 : decode own_c30 1 = .ok (.getfield 16, 3) := by decide +kernel
theorem d30_4 : decode own_c30 4 = .ok (.ifnonnull 16, 3) := by decide +kernel
theorem d30_7 : decode own_c30 7 = .ok (.aload_n 1, 1) := by decide +kernel
theorem d30_8 : decode own_c30 8 = .ok (.checkcast 99, 3) := by decide +kernel
theorem d30_11 : decode own_c30 11 = .ok (.aload_n 2, 1) := by decide +kernel
theorem d30_12 : decode own_c30 12 = .ok (.invokeinterface 107 2, 5) := by decide +kernel
theorem pd_12 : parseMethodDescriptor "(Ljava/lang/Object;)I" = some ⟨[(.object "java/lang/Object")], some .int⟩ := by decide +kernel
abbrev own_y31 : MethodName := ⟨"java/lang/Comparable", "compareTo", "(Ljava/lang/Object;)I"⟩
theorem d30_17 : decode own_c30 17 = .ok (.goto 14, 3) := by decide +kernel
theorem d30_31 : decode own_c30 31 = .ok (.ireturn, 1) := by decide +kernel
set_option maxRecDepth 65536 in
set_option maxHeartbeats 40000000 in
theorem own_tcmp (l : Launch) (Z : State) (a0 : Array Value) (hW : own_W Z a0) (tm a1 a2 : Nat) (x y : Int64) (root : Value) (mc sz : Int32) (h0 : Heap) (n0 : Nat) (Z0 : n0 ≤ h0.size) (O0 : Old Z n0 h0) (T1 : own_T Z h0 tm root mc sz) (E1 : Exa Z h0 a1 "java/lang/Long") (F1 : Fld Z h0 a1 "java/lang/Long" "value" "J" (.long x)) (E2 : Exa Z h0 a2 "java/lang/Long") (F2 : Fld Z h0 a2 "java/lang/Long" "value" "J" (.long y)) :
    own_MH l own_y30 own_c30 3 (some .int) (own_r 3 0 0 59) #[(.ref tm), (.ref a1), (.ref a2)] Z h0 (own_tcmp_Q Z tm a1 a2 x y root mc sz h0 n0) := by
  refine own_enterH (own := "java/util/TreeMap") rfl (plainFor_of_name pn_java_util_TreeMap) (fun m => ef_own_tcmp m tm a1 a2) ?_
  intro p e s m below meth c s₁ Bd hZH hh hx hby hml hown hnm X0 e0
  have hZ := hZH.wide
  have Y := And.intro hx hby
  have hw := hW.1
  have N0 := Fr.nil n0
  have K0 := Keep.refl h0 []
  have lttm := own_lt T1.lt
  obtain ⟨T11, X11, e11, st11⟩ := own_gF X0 Y hZ hown (tw_ hw 26 rfl) e0 (own_T.f_comparator T1) (g := (mkF m 1 #[vr tm, vr a1, vr a2] [(.ref tm)])) rfl rfl d30_1
  refine own_gs ?_ (own_go st11 ?_)
  · exact own_a X0 Y d30_0 rfl rfl (Steps.refl _)
  obtain ⟨T12, X12, e12, st12⟩ := castY X11 hx hZ hown (tw_ hw 137 rfl) e11 (Ins.of_exa E1 (tw_ hw 138 rfl)) (g := (mkF m 8 #[vr tm, vr a1, vr a2] [(.ref a1)])) rfl rfl (hb hby d30_8)
  refine own_gs ?_ (own_go st12 ?_)
  · refine XS.ifnonnullNo X11.here hx rfl (hb hby d30_4) rfl ?_
    exact own_a X11 Y d30_7 rfl rfl (Steps.refl _)
  obtain ⟨v13, T13, Lc13, X13, hQ13, st13⟩ := own_face (xi := own_y31) (own_ct l Z a0 hW a1 a2 x y h0 n0 Z0 O0 E1 F1 E2 F2) X12 Y hZH hown (tw_ hw 139 rfl) (tw_ hw 140 rfl) (mvT hZ (tw_ hw 141 rfl)) (tw_ hw 142 rfl) (tw_ hw 143 rfl) (tw_ hw 144 rfl) (tw_ hw 145 rfl) (tw_ hw 138 rfl) (tw_ hw 146 rfl) (tw_ hw 85 rfl) (by decide) e12 E1 (g := (mkF m 12 #[vr tm, vr a1, vr a2] [(.ref a2), (.ref a1)])) rfl hml.symm (argsL := [(.ref a2)]) (rest := []) (lenOf pd_12 rfl) rfl d30_12
  obtain ⟨hor13, Nq13, eh13⟩ := hQ13
  have N13 := Fr.app N0 Nq13
  refine own_gs (cur' := T12.setTop (mkF m 12 #[vr tm, vr a1, vr a2] [(.ref a2), (.ref a1)])) ?_ ?_
  · exact own_a X12 Y d30_11 rfl rfl (Steps.refl _)
  rcases hor13 with ⟨rfl, ho13⟩ | ⟨rfl, ho13⟩ | ⟨rfl, ho13⟩
  · refine own_gs st13 ?_
    refine own_gs (cur' := T13.setTop (mkF m 31 #[vr tm, vr a1, vr a2] [(.int (-1 : Int32))])) ?_ ?_
    · exact XS.goto X13.here hx rfl (pc0 := 17) (pc' := 31) rfl (hb hby d30_17) (by decide) (by decide) (Steps.refl _)
    exact own_rI X13 Bd (hb hby d30_31) eh13 (⟨Or.inl ⟨rfl, ho13⟩, N13, rfl⟩) rfl rfl
  · refine own_gs st13 ?_
    refine own_gs (cur' := T13.setTop (mkF m 31 #[vr tm, vr a1, vr a2] [(.int (0 : Int32))])) ?_ ?_
    · exact XS.goto X13.here hx rfl (pc0 := 17) (pc' := 31) rfl (hb hby d30_17) (by decide) (by decide) (Steps.refl _)
    exact own_rI X13 Bd (hb hby d30_31) eh13 (⟨Or.inr (Or.inl ⟨rfl, ho13⟩), N13, rfl⟩) rfl rfl
  · refine own_gs st13 ?_
    refine own_gs (cur' := T13.setTop (mkF m 31 #[vr tm, vr a1, vr a2] [(.int (1 : Int32))])) ?_ ?_
    · exact XS.goto X13.here hx rfl (pc0 := 17) (pc' := 31) rfl (hb hby d30_17) (by decide) (by decide) (Steps.refl _)
    exact own_rI X13 Bd (hb hby d30_31) eh13 (⟨Or.inr (Or.inr ⟨rfl, ho13⟩), N13, rfl⟩) rfl rfl
abbrev own_c31 : ByteArray := jdk_2729_method_30_code
def own_aee_Q (Z : State) (tm k1 d1 : Nat) (x : Int64) (mc sz : Int32) (h0 : Heap) (n0 : Nat) (v : Option Value) (h : Heap) (L : List Loc) : Prop := ∃ (n1 : Nat) (mc1 sz1 : Int32), v = none ∧ Fr n0 L ∧ Keep h0 h [tm] ∧ own_T Z h tm (.ref n1) mc1 sz1 ∧ own_N Z h n1 (.ref k1) (.ref d1) .null .null .null 1 ∧ h0.size ≤ n1
theorem ef_own_aee (m : MethodId) (x0 : Nat) (x1 : Nat) (x2 : Nat) : entryFrame m #[(.ref x0), (.ref x1), (.ref x2)] 3 = mkF m 0 #[vr x0, vr x1, vr x2] [] := by first | (simp [entryFrame, mkF, argsToLocals, Value.category]; done) | rfl
abbrev own_y32 : MethodName := ⟨"java/util/TreeMap", "addEntryToEmptyMap", "(Ljava/lang/Object;Ljava/lang/Object;)V"⟩
theorem d31_0 : decode own_c31 0 = .ok (.aload_n 0, 1) := by decide +kernel
theorem d31_1 : decode own_c31 1 = .ok (.aload_n 1, 1) := by decide +kernel
theorem d31_2 : decode own_c31 2 = .ok (.aload_n 1, 1) := by decide +kernel
theorem d31_3 : decode own_c31 3 = .ok (.invokevirtual 123, 3) := by decide +kernel
theorem pd_13 : parseMethodDescriptor "(Ljava/lang/Object;Ljava/lang/Object;)I" = some ⟨[(.object "java/lang/Object"), (.object "java/lang/Object")], some .int⟩ := by decide +kernel
theorem d31_6 : decode own_c31 6 = .ok (.pop, 1) := by decide +kernel
theorem d31_7 : decode own_c31 7 = .ok (.aload_n 0, 1) := by decide +kernel
theorem d31_8 : decode own_c31 8 = .ok (.new 59, 3) := by decide +kernel
theorem d31_11 : decode own_c31 11 = .ok (.dup, 1) := by decide +kernel
theorem d31_12 : decode own_c31 12 = .ok (.aload_n 1, 1) := by decide +kernel
theorem d31_13 : decode own_c31 13 = .ok (.aload_n 2, 1) := by decide +kernel
theorem d31_14 : decode own_c31 14 = .ok (.aconst_null, 1) := by decide +kernel
theorem d31_15 : decode own_c31 15 = .ok (.invokespecial 167, 3) := by decide +kernel
theorem pd_14 : parseMethodDescriptor "(Ljava/lang/Object;Ljava/lang/Object;Ljava/util/TreeMap$Entry;)V" = some ⟨[(.object "java/lang/Object"), (.object "java/lang/Object"), (.object "java/util/TreeMap$Entry")], none⟩ := by decide +kernel
theorem d31_18 : decode own_c31 18 = .ok (.putfield 101, 3) := by decide +kernel
theorem d31_21 : decode own_c31 21 = .ok (.aload_n 0, 1) := by decide +kernel
theorem d31_22 : decode own_c31 22 = .ok (.iconst 1, 1) := by decide +kernel
theorem d31_23 : decode own_c31 23 = .ok (.putfield 7, 3) := by decide +kernel
theorem d31_26 : decode own_c31 26 = .ok (.aload_n 0, 1) := by decide +kernel
theorem d31_27 : decode own_c31 27 = .ok (.dup, 1) := by decide +kernel
theorem d31_28 : decode own_c31 28 = .ok (.getfield 13, 3) := by decide +kernel
theorem d31_31 : decode own_c31 31 = .ok (.iconst 1, 1) := by decide +kernel
theorem d31_32 : decode own_c31 32 = .ok (.iadd, 1) := by decide +kernel
theorem d31_33 : decode own_c31 33 = .ok (.putfield 13, 3) := by decide +kernel
theorem d31_36 : decode own_c31 36 = .ok (.return_, 1) := by decide +kernel
set_option maxRecDepth 65536 in
set_option maxHeartbeats 40000000 in
theorem own_aee (l : Launch) (Z : State) (a0 : Array Value) (hW : own_W Z a0) (tm k1 d1 : Nat) (x : Int64) (mc sz : Int32) (h0 : Heap) (n0 : Nat) (Z0 : n0 ≤ h0.size) (O0 : Old Z n0 h0) (T1 : own_T Z h0 tm .null mc sz) (E1 : Exa Z h0 k1 "java/lang/Long") (F1 : Fld Z h0 k1 "java/lang/Long" "value" "J" (.long x)) (gt : n0 ≤ tm) :
    own_MH l own_y32 own_c31 3 none (own_r 4 1 6 79) #[(.ref tm), (.ref k1), (.ref d1)] Z h0 (own_aee_Q Z tm k1 d1 x mc sz h0 n0) := by
  refine own_enterH (own := "java/util/TreeMap") rfl (plainFor_of_name pn_java_util_TreeMap) (fun m => ef_own_aee m tm k1 d1) ?_
  intro p e s m below meth c s₁ Bd hZH hh hx hby hml hown hnm X0 e0
  have hZ := hZH.wide
  have Y := And.intro hx hby
  have hw := hW.1
  have N0 := Fr.nil n0
  have K0 := Keep.refl h0 [tm]
  have lttm := own_lt T1.lt
  obtain ⟨v11, T11, Lc11, X11, hQ11, st11⟩ := own_virt (own_tcmp l Z a0 hW tm k1 k1 x x .null mc sz h0 n0 Z0 O0 T1 E1 F1 E1 F1) X0 Y hZH hown (tw_ hw 132 rfl) (tw_ hw 133 rfl) (tw_ hw 135 rfl) (tw_ hw 134 rfl) (tw_ hw 136 rfl) (tw_ hw 11 rfl) (by decide) e0 (own_T.ex T1) (g := (mkF m 3 #[vr tm, vr k1, vr d1] [(.ref k1), (.ref k1), (.ref tm)])) rfl hml.symm (argsL := [(.ref k1), (.ref k1)]) (rest := []) (lenOf pd_13 rfl) rfl d31_3
  obtain ⟨hor11, Nq11, eh11⟩ := hQ11
  obtain ⟨r11, rfl⟩ : ∃ r, v11 = some (.int r) := by rcases hor11 with ⟨h, -⟩ | ⟨h, -⟩ | ⟨h, -⟩ <;> exact ⟨_, h⟩
  have N11 := Fr.app N0 Nq11
  refine own_gs ?_ (own_gs st11 ?_)
  · refine own_a X0 Y d31_0 rfl rfl ?_
    refine own_a X0 Y d31_1 rfl rfl ?_
    exact own_a X0 Y d31_2 rfl rfl (Steps.refl _)
  obtain ⟨T12, h12, X12, e12, E12, A12, D12, -, st12⟩ := newO X11 hx hZ hown (tw_ hw 155 rfl) (tw_ hw 156 rfl) (tw_ hw 157 rfl) eh11 (g := (mkF m 8 #[vr tm, vr k1, vr d1] [(.ref tm)])) rfl (hb hby d31_8) (by decide) (by decide)
  obtain ⟨b12, g12⟩ : ∃ z, z = h0.size := ⟨_, rfl⟩
  rw [← g12] at A12 D12 st12
  have lt12 := own_lt A12.lt
  refine own_gs ?_ (own_go st12 ?_)
  · refine XS.pop X11.here hx rfl (hb hby d31_6) rfl rfl ?_
    exact own_a X11 Y d31_7 rfl rfl (Steps.refl _)
  have z13 := E12.1
  have Zz13 := Nat.le_trans Z0 z13
  have K13 := K0.ext E12
  have O13 := O0.ext E12
  have F12_color : Fld Z h12 b12 "java/util/TreeMap$Entry" "color" "Z" (.int (0 : Int32)) := D12 (Or.inl (tw_ hw 164 rfl)) (ty := .boolean) (by decide)
  have F12_key : Fld Z h12 b12 "java/util/TreeMap$Entry" "key" "Ljava/lang/Object;" .null := D12 (Or.inl (tw_ hw 166 rfl)) (ty := (.object "java/lang/Object")) (by decide)
  have F12_value : Fld Z h12 b12 "java/util/TreeMap$Entry" "value" "Ljava/lang/Object;" .null := D12 (Or.inl (tw_ hw 168 rfl)) (ty := (.object "java/lang/Object")) (by decide)
  have F12_parent : Fld Z h12 b12 "java/util/TreeMap$Entry" "parent" "Ljava/util/TreeMap$Entry;" .null := D12 (Or.inl (tw_ hw 170 rfl)) (ty := (.object "java/util/TreeMap$Entry")) (by decide)
  have F12_right : Fld Z h12 b12 "java/util/TreeMap$Entry" "right" "Ljava/util/TreeMap$Entry;" .null := D12 (Or.inl (tw_ hw 190 rfl)) (ty := (.object "java/util/TreeMap$Entry")) (by decide)
  have F12_left : Fld Z h12 b12 "java/util/TreeMap$Entry" "left" "Ljava/util/TreeMap$Entry;" .null := D12 (Or.inl (tw_ hw 212 rfl)) (ty := (.object "java/util/TreeMap$Entry")) (by decide)
  have P12 : own_N Z h12 b12 .null .null .null .null .null (0 : Int32) := ⟨A12, F12_key, F12_value, F12_left, F12_right, F12_parent, F12_color⟩
  obtain ⟨v14, T14, Lc14, X14, hQ14, st14⟩ := own_make (own_tei0 l Z a0 hW b12 k1 d1 h12 n0 Zz13 O13 P12 (by omega)) X12 Y hZH hown (tw_ hw 158 rfl) (tw_ hw 159 rfl) (tw_ hw 161 rfl) (tw_ hw 157 rfl) (by decide) rfl e12 (a := b12) (g := (mkF m 15 #[vr tm, vr k1, vr d1] [.null, (.ref d1), (.ref k1), (.ref b12), (.ref b12), (.ref tm)])) rfl hml.symm (argsL := [(.ref k1), (.ref d1), .null]) (rest := [(.ref b12), (.ref tm)]) (lenOf pd_14 rfl) rfl d31_15
  obtain ⟨rfl, Nq14, Kq14, Fq14⟩ := hQ14
  have N14 := Fr.app N11 Nq14
  obtain ⟨z15, Zz15, K15, O15⟩ := own_eK Kq14 Zz13 K13 O13 (allS (Or.inr (by omega)) all0) (allS (by omega) all0)
  refine own_gs ?_ (own_gs st14 ?_)
  · refine own_du X12 Y d31_11 rfl rfl ?_
    refine own_a X12 Y d31_12 rfl rfl ?_
    refine own_a X12 Y d31_13 rfl rfl ?_
    exact XS.aconstNull X12.here hx rfl (hb hby d31_14) (Steps.refl _)
  have f18 := (((own_T.ex T1).ext E12).keep Kq14)
  have nc17 : own_Ne tm b12 := ne_exa f18 (own_N.ex Fq14) (by decide)
  have f19 := ((T1.ext E12).keep Kq14 (ninS nc17 nin0))
  obtain ⟨T16, h16, X16, e16, W16, st16⟩ := own_pF X14 Y hZ hown (tw_ hw 115 rfl) rfl (own_T.f_root f19) (own_T.ex f19) (tw_ hw 116 rfl) (tw_ hw 10 rfl) (ty := (.object "java/util/TreeMap$Entry")) (by decide) rfl rfl (g := (mkF m 18 #[vr tm, vr k1, vr d1] [(.ref b12), (.ref tm)])) rfl rfl d31_18
  have F16 := own_T.s_root hw f19 W16
  refine own_go st16 ?_
  obtain ⟨z20, Zz20, K20, O20, N20⟩ := own_eW W16 Zz15 K15 O15 N14 (own_i 0 rfl) gt
  obtain ⟨T21, h21, X21, e21, W21, st21⟩ := own_pF X16 Y hZ hown (tw_ hw 22 rfl) e16 (own_T.f_size F16) (own_T.ex F16) (tw_ hw 23 rfl) (tw_ hw 10 rfl) (ty := .int) (by decide) rfl rfl (g := (mkF m 23 #[vr tm, vr k1, vr d1] [(.int (1 : Int32)), (.ref tm)])) rfl rfl d31_23
  have F21 := own_T.s_size hw F16 W21
  refine own_gs ?_ (own_go st21 ?_)
  · refine own_a X16 Y d31_21 rfl rfl ?_
    exact own_ic X16 Y d31_22 (Steps.refl _)
  obtain ⟨z22, Zz22, K22, O22, N22⟩ := own_eW W21 Zz20 K20 O20 N20 (own_i 0 rfl) gt
  obtain ⟨T23, X23, e23, st23⟩ := own_gF X21 Y hZ hown (tw_ hw 24 rfl) e21 (own_T.f_modCount F21) (g := (mkF m 28 #[vr tm, vr k1, vr d1] [(.ref tm), (.ref tm)])) rfl rfl d31_28
  refine own_gs ?_ (own_go st23 ?_)
  · refine own_a X21 Y d31_26 rfl rfl ?_
    exact own_du X21 Y d31_27 rfl rfl (Steps.refl _)
  obtain ⟨T24, h24, X24, e24, W24, st24⟩ := own_pF X23 Y hZ hown (tw_ hw 24 rfl) e23 (own_T.f_modCount F21) (own_T.ex F21) (tw_ hw 25 rfl) (tw_ hw 10 rfl) (ty := .int) (by decide) rfl rfl (g := (mkF m 33 #[vr tm, vr k1, vr d1] [(.int (mc + (1 : Int32))), (.ref tm)])) rfl rfl d31_33
  have F24 := own_T.s_modCount hw F21 W24
  refine own_gs ?_ (own_go st24 ?_)
  · refine own_ic X23 Y d31_31 ?_
    exact XS.iadd X23.here hx rfl (hb hby d31_32) rfl (Steps.refl _)
  obtain ⟨z25, Zz25, K25, O25, N25⟩ := own_eW W24 Zz22 K22 O22 N22 (own_i 0 rfl) gt
  have f26 := (((Fq14.keep (Keep.of_wr W16) (ninS (Ne.symm nc17) nin0)).keep (Keep.of_wr W21) (ninS (Ne.symm nc17) nin0)).keep (Keep.of_wr W24) (ninS (Ne.symm nc17) nin0))
  exact own_rV X24 Bd (hb hby d31_36) e24 (⟨_, _, _, rfl, N25, K25, F24, f26, (by omega)⟩) rfl rfl
abbrev own_c32 : ByteArray := jdk_2729_method_29_code
def own_aeL_Q (Z : State) (tm p1 k1 d1 : Nat) (mc sz : Int32) (kp vp sp : Value) (h0 : Heap) (n0 : Nat) (v : Option Value) (h : Heap) (L : List Loc) : Prop := ∃ (n1 : Nat) (mc1 sz1 : Int32), v = none ∧ Fr n0 L ∧ Keep h0 h [tm, p1] ∧ own_T Z h tm (.ref p1) mc1 sz1 ∧ own_N Z h p1 kp vp (.ref n1) sp .null 1 ∧ own_N Z h n1 (.ref k1) (.ref d1) .null .null (.ref p1) 0 ∧ h0.size ≤ n1
theorem ef_own_aeL (m : MethodId) (x0 : Nat) (x1 : Nat) (x2 : Nat) (x3 : Nat) (x4 : Int32) : entryFrame m #[(.ref x0), (.ref x1), (.ref x2), (.ref x3), (.int x4)] 6 = mkF m 0 #[vr x0, vr x1, vr x2, vr x3, vi x4, .unset] [] := by first | (simp [entryFrame, mkF, argsToLocals, Value.category]; done) | rfl
abbrev own_y33 : MethodName := ⟨"java/util/TreeMap", "addEntry", "(Ljava/lang/Object;Ljava/lang/Object;Ljava/util/TreeMap$Entry;Z)V"⟩
theorem d32_0 : decode own_c32 0 = .ok (.new 59, 3) := by decide +kernel
theorem d32_3 : decode own_c32 3 = .ok (.dup, 1) := by decide +kernel
theorem d32_4 : decode own_c32 4 = .ok (.aload_n 1, 1) := by decide +kernel
theorem d32_5 : decode own_c32 5 = .ok (.aload_n 2, 1) := by decide +kernel
theorem d32_6 : decode own_c32 6 = .ok (.aload_n 3, 1) := by decide +kernel
theorem d32_7 : decode own_c32 7 = .ok (.invokespecial 167, 3) := by decide +kernel
theorem d32_10 : decode own_c32 10 = .ok (.astore 5, 2) := by decide +kernel
theorem d32_12 : decode own_c32 12 = .ok (.iload 4, 2) := by decide +kernel
theorem d32_14 : decode own_c32 14 = .ok (.ifCond .eq 12, 3) := by decide +kernel
theorem d32_17 : decode own_c32 17 = .ok (.aload_n 3, 1) := by decide +kernel
theorem d32_18 : decode own_c32 18 = .ok (.aload 5, 2) := by decide +kernel
theorem d32_20 : decode own_c32 20 = .ok (.putfield 111, 3) := by decide +kernel
theorem d32_23 : decode own_c32 23 = .ok (.goto 9, 3) := by decide +kernel
theorem d32_32 : decode own_c32 32 = .ok (.aload_n 0, 1) := by decide +kernel
theorem d32_33 : decode own_c32 33 = .ok (.aload 5, 2) := by decide +kernel
theorem d32_35 : decode own_c32 35 = .ok (.invokevirtual 170, 3) := by decide +kernel
theorem d32_38 : decode own_c32 38 = .ok (.aload_n 0, 1) := by decide +kernel
theorem d32_39 : decode own_c32 39 = .ok (.dup, 1) := by decide +kernel
theorem d32_40 : decode own_c32 40 = .ok (.getfield 7, 3) := by decide +kernel
theorem d32_43 : decode own_c32 43 = .ok (.iconst 1, 1) := by decide +kernel
theorem d32_44 : decode own_c32 44 = .ok (.iadd, 1) := by decide +kernel
theorem d32_45 : decode own_c32 45 = .ok (.putfield 7, 3) := by decide +kernel
theorem d32_48 : decode own_c32 48 = .ok (.aload_n 0, 1) := by decide +kernel
theorem d32_49 : decode own_c32 49 = .ok (.dup, 1) := by decide +kernel
theorem d32_50 : decode own_c32 50 = .ok (.getfield 13, 3) := by decide +kernel
theorem d32_53 : decode own_c32 53 = .ok (.iconst 1, 1) := by decide +kernel
theorem d32_54 : decode own_c32 54 = .ok (.iadd, 1) := by decide +kernel
theorem d32_55 : decode own_c32 55 = .ok (.putfield 13, 3) := by decide +kernel
theorem d32_58 : decode own_c32 58 = .ok (.return_, 1) := by decide +kernel
set_option maxRecDepth 65536 in
set_option maxHeartbeats 40000000 in
theorem own_aeL (l : Launch) (Z : State) (a0 : Array Value) (hW : own_W Z a0) (tm p1 k1 d1 : Nat) (mc sz : Int32) (kp vp sp : Value) (h0 : Heap) (n0 : Nat) (Z0 : n0 ≤ h0.size) (O0 : Old Z n0 h0) (T1 : own_T Z h0 tm (.ref p1) mc sz) (P1 : own_N Z h0 p1 kp vp .null sp .null 1) (gt : n0 ≤ tm) (gp : n0 ≤ p1) :
    own_MH l own_y33 own_c32 6 none (own_r 2 1 6 41) #[(.ref tm), (.ref k1), (.ref d1), (.ref p1), (.int (1 : Int32))] Z h0 (own_aeL_Q Z tm p1 k1 d1 mc sz kp vp sp h0 n0) := by
  refine own_enterH (own := "java/util/TreeMap") rfl (plainFor_of_name pn_java_util_TreeMap) (fun m => ef_own_aeL m tm k1 d1 p1 (1 : Int32)) ?_
  intro p e s m below meth c s₁ Bd hZH hh hx hby hml hown hnm X0 e0
  have hZ := hZH.wide
  have Y := And.intro hx hby
  have hw := hW.1
  have N0 := Fr.nil n0
  have K0 := Keep.refl h0 [tm, p1]
  have lttm := own_lt T1.lt
  have ltp1 := own_lt P1.lt
  obtain ⟨T11, h11, X11, e11, E11, A11, D11, -, st11⟩ := newO X0 hx hZ hown (tw_ hw 155 rfl) (tw_ hw 156 rfl) (tw_ hw 157 rfl) e0 (g := (mkF m 0 #[vr tm, vr k1, vr d1, vr p1, vi (1 : Int32), uu] [])) rfl (hb hby d32_0) (by decide) (by decide)
  obtain ⟨b11, g11⟩ : ∃ z, z = h0.size := ⟨_, rfl⟩
  rw [← g11] at A11 D11 st11
  have lt11 := own_lt A11.lt
  refine own_go st11 ?_
  have z12 := E11.1
  have Zz12 := Nat.le_trans Z0 z12
  have K12 := K0.ext E11
  have O12 := O0.ext E11
  have F11_color : Fld Z h11 b11 "java/util/TreeMap$Entry" "color" "Z" (.int (0 : Int32)) := D11 (Or.inl (tw_ hw 164 rfl)) (ty := .boolean) (by decide)
  have F11_key : Fld Z h11 b11 "java/util/TreeMap$Entry" "key" "Ljava/lang/Object;" .null := D11 (Or.inl (tw_ hw 166 rfl)) (ty := (.object "java/lang/Object")) (by decide)
  have F11_value : Fld Z h11 b11 "java/util/TreeMap$Entry" "value" "Ljava/lang/Object;" .null := D11 (Or.inl (tw_ hw 168 rfl)) (ty := (.object "java/lang/Object")) (by decide)
  have F11_parent : Fld Z h11 b11 "java/util/TreeMap$Entry" "parent" "Ljava/util/TreeMap$Entry;" .null := D11 (Or.inl (tw_ hw 170 rfl)) (ty := (.object "java/util/TreeMap$Entry")) (by decide)
  have F11_right : Fld Z h11 b11 "java/util/TreeMap$Entry" "right" "Ljava/util/TreeMap$Entry;" .null := D11 (Or.inl (tw_ hw 190 rfl)) (ty := (.object "java/util/TreeMap$Entry")) (by decide)
  have F11_left : Fld Z h11 b11 "java/util/TreeMap$Entry" "left" "Ljava/util/TreeMap$Entry;" .null := D11 (Or.inl (tw_ hw 212 rfl)) (ty := (.object "java/util/TreeMap$Entry")) (by decide)
  have P11 : own_N Z h11 b11 .null .null .null .null .null (0 : Int32) := ⟨A11, F11_key, F11_value, F11_left, F11_right, F11_parent, F11_color⟩
  obtain ⟨v13, T13, Lc13, X13, hQ13, st13⟩ := own_make (own_tei1 l Z a0 hW b11 k1 d1 p1 h11 n0 Zz12 O12 P11 (by omega)) X11 Y hZH hown (tw_ hw 158 rfl) (tw_ hw 159 rfl) (tw_ hw 161 rfl) (tw_ hw 157 rfl) (by decide) rfl e11 (a := b11) (g := (mkF m 7 #[vr tm, vr k1, vr d1, vr p1, vi (1 : Int32), uu] [(.ref p1), (.ref d1), (.ref k1), (.ref b11), (.ref b11)])) rfl hml.symm (argsL := [(.ref k1), (.ref d1), (.ref p1)]) (rest := [(.ref b11)]) (lenOf pd_14 rfl) rfl d32_7
  obtain ⟨rfl, Nq13, Kq13, Fq13⟩ := hQ13
  have N13 := Fr.app N0 Nq13
  obtain ⟨z14, Zz14, K14, O14⟩ := own_eK Kq13 Zz12 K12 O12 (allS (Or.inr (by omega)) all0) (allS (by omega) all0)
  refine own_gs ?_ (own_gs st13 ?_)
  · refine own_du X11 Y d32_3 rfl rfl ?_
    refine own_a X11 Y d32_4 rfl rfl ?_
    refine own_a X11 Y d32_5 rfl rfl ?_
    exact own_a X11 Y d32_6 rfl rfl (Steps.refl _)
  have f16 := ((P1.ext E11).keep Kq13 (ninS (own_ne (a := p1) (b := b11) (by omega)) nin0))
  obtain ⟨T15, h15, X15, e15, W15, st15⟩ := own_pF X13 Y hZ hown (tw_ hw 211 rfl) rfl (own_N.f_left f16) (own_N.ex f16) (tw_ hw 212 rfl) (tw_ hw 156 rfl) (ty := (.object "java/util/TreeMap$Entry")) (by decide) rfl rfl (g := (mkF m 20 #[vr tm, vr k1, vr d1, vr p1, vi (1 : Int32), vr b11] [(.ref b11), (.ref p1)])) rfl rfl d32_20
  have F15 := own_N.s_left hw f16 W15
  refine own_gs ?_ (own_go st15 ?_)
  · refine XS.astore X13.here hx rfl (hb hby d32_10) rfl rfl (l' := #[vr tm, vr k1, vr d1, vr p1, vi (1 : Int32), vr b11]) rfl ?_
    refine own_il X13 Y d32_12 rfl ?_
    refine XS.ifNo X13.here hx rfl (hb hby d32_14) rfl ((if0 _ _).trans (feq ((by decide) : ¬ ((1 : Int32) = (0 : Int32)))).1) ?_
    refine own_a X13 Y d32_17 rfl rfl ?_
    exact own_al X13 Y d32_18 rfl rfl (Steps.refl _)
  obtain ⟨z17, Zz17, K17, O17, N17⟩ := own_eW W15 Zz14 K14 O14 N13 (own_i 1 rfl) gp
  have f19 := ((((own_T.ex T1).ext E11).keep Kq13).wr W15)
  have f20 := ((own_N.ex Fq13).wr W15)
  have nc18 : own_Ne tm b11 := ne_exa f19 f20 (by decide)
  have f22 := ((((own_N.ex P1).ext E11).keep Kq13).wr W15)
  have nc21 : own_Ne tm p1 := ne_exa f19 f22 (by decide)
  have f23 := (((T1.ext E11).keep Kq13 (ninS nc18 nin0)).keep (Keep.of_wr W15) (ninS nc21 nin0))
  have f24 := (Fq13.keep (Keep.of_wr W15) (ninS (own_ne (a := b11) (b := p1) (by omega)) nin0))
  obtain ⟨v25, T25, Lc25, X25, hQ25, st25⟩ := own_priv (own_fib l Z a0 hW tm p1 b11 mc sz kp vp (.ref b11) sp .null (.ref k1) (.ref d1) .null .null (1 : Int32) h15 n0 Zz17 O17 f23 F15 f24 gp (by omega) (own_ne (by omega))) X15 Y hZH hown (tw_ hw 196 rfl) (tw_ hw 197 rfl) (tw_ hw 198 rfl) (own_nf (notFace_of_selects (tw_ hw 109 rfl)) (tw_ hw 108 rfl) rfl) (tw_ hw 200 rfl) (tw_ hw 11 rfl) (by decide) e15 (own_T.ex f23) (g := (mkF m 35 #[vr tm, vr k1, vr d1, vr p1, vi (1 : Int32), vr b11] [(.ref b11), (.ref tm)])) rfl hml.symm (argsL := [(.ref b11)]) (rest := []) (lenOf pd_11 rfl) rfl d32_35
  obtain ⟨rfl, Nq25, Kq25, Rq25, Xq25⟩ := hQ25
  have N25 := Fr.app N17 Nq25
  obtain ⟨z26, Zz26, K26, O26⟩ := own_eK Kq25 Zz17 K17 O17 (allS (Or.inr (by omega)) (allS (own_i 1 rfl) all0)) (allS (by omega) (allS gp all0))
  refine own_gs ?_ (own_gs st25 ?_)
  · refine XS.goto X15.here hx rfl (pc0 := 23) (pc' := 32) rfl (hb hby d32_23) (by decide) (by decide) ?_
    refine own_a X15 Y d32_32 rfl rfl ?_
    exact own_al X15 Y d32_33 rfl rfl (Steps.refl _)
  have f28 := (f23.keep Kq25 (ninS nc18 (ninS nc21 nin0)))
  obtain ⟨T27, X27, e27, st27⟩ := own_gF X25 Y hZ hown (tw_ hw 22 rfl) rfl (own_T.f_size f28) (g := (mkF m 40 #[vr tm, vr k1, vr d1, vr p1, vi (1 : Int32), vr b11] [(.ref tm), (.ref tm)])) rfl rfl d32_40
  refine own_gs ?_ (own_go st27 ?_)
  · refine own_a X25 Y d32_38 rfl rfl ?_
    exact own_du X25 Y d32_39 rfl rfl (Steps.refl _)
  obtain ⟨T29, h29, X29, e29, W29, st29⟩ := own_pF X27 Y hZ hown (tw_ hw 22 rfl) e27 (own_T.f_size f28) (own_T.ex f28) (tw_ hw 23 rfl) (tw_ hw 10 rfl) (ty := .int) (by decide) rfl rfl (g := (mkF m 45 #[vr tm, vr k1, vr d1, vr p1, vi (1 : Int32), vr b11] [(.int (sz + (1 : Int32))), (.ref tm)])) rfl rfl d32_45
  have F29 := own_T.s_size hw f28 W29
  refine own_gs ?_ (own_go st29 ?_)
  · refine own_ic X27 Y d32_43 ?_
    exact XS.iadd X27.here hx rfl (hb hby d32_44) rfl (Steps.refl _)
  obtain ⟨z30, Zz30, K30, O30, N30⟩ := own_eW W29 Zz26 K26 O26 N25 (own_i 0 rfl) gt
  obtain ⟨T31, X31, e31, st31⟩ := own_gF X29 Y hZ hown (tw_ hw 24 rfl) e29 (own_T.f_modCount F29) (g := (mkF m 50 #[vr tm, vr k1, vr d1, vr p1, vi (1 : Int32), vr b11] [(.ref tm), (.ref tm)])) rfl rfl d32_50
  refine own_gs ?_ (own_go st31 ?_)
  · refine own_a X29 Y d32_48 rfl rfl ?_
    exact own_du X29 Y d32_49 rfl rfl (Steps.refl _)
  obtain ⟨T32, h32, X32, e32, W32, st32⟩ := own_pF X31 Y hZ hown (tw_ hw 24 rfl) e31 (own_T.f_modCount F29) (own_T.ex F29) (tw_ hw 25 rfl) (tw_ hw 10 rfl) (ty := .int) (by decide) rfl rfl (g := (mkF m 55 #[vr tm, vr k1, vr d1, vr p1, vi (1 : Int32), vr b11] [(.int (mc + (1 : Int32))), (.ref tm)])) rfl rfl d32_55
  have F32 := own_T.s_modCount hw F29 W32
  refine own_gs ?_ (own_go st32 ?_)
  · refine own_ic X31 Y d32_53 ?_
    exact XS.iadd X31.here hx rfl (hb hby d32_54) rfl (Steps.refl _)
  obtain ⟨z33, Zz33, K33, O33, N33⟩ := own_eW W32 Zz30 K30 O30 N30 (own_i 0 rfl) gt
  have f34 := ((Rq25.keep (Keep.of_wr W29) (ninS (Ne.symm nc21) nin0)).keep (Keep.of_wr W32) (ninS (Ne.symm nc21) nin0))
  have f35 := ((Xq25.keep (Keep.of_wr W29) (ninS (Ne.symm nc18) nin0)).keep (Keep.of_wr W32) (ninS (Ne.symm nc18) nin0))
  exact own_rV X32 Bd (hb hby d32_58) e32 (⟨_, _, _, rfl, N33, K33, F32, f34, f35, (by omega)⟩) rfl rfl
def own_aeR_Q (Z : State) (tm p1 k1 d1 : Nat) (mc sz : Int32) (kp vp sp : Value) (h0 : Heap) (n0 : Nat) (v : Option Value) (h : Heap) (L : List Loc) : Prop := ∃ (n1 : Nat) (mc1 sz1 : Int32), v = none ∧ Fr n0 L ∧ Keep h0 h [tm, p1] ∧ own_T Z h tm (.ref p1) mc1 sz1 ∧ own_N Z h p1 kp vp sp (.ref n1) .null 1 ∧ own_N Z h n1 (.ref k1) (.ref d1) .null .null (.ref p1) 0 ∧ h0.size ≤ n1
theorem ef_own_aeR (m : MethodId) (x0 : Nat) (x1 : Nat) (x2 : Nat) (x3 : Nat) (x4 : Int32) : entryFrame m #[(.ref x0), (.ref x1), (.ref x2), (.ref x3), (.int x4)] 6 = mkF m 0 #[vr x0, vr x1, vr x2, vr x3, vi x4, .unset] [] := by first | (simp [entryFrame, mkF, argsToLocals, Value.category]; done) | rfl
theorem d32_26 : decode own_c32 26 = .ok (.aload_n 3, 1) := by decide +kernel
theorem d32_27 : decode own_c32 27 = .ok (.aload 5, 2) := by decide +kernel
theorem d32_29 : decode own_c32 29 = .ok (.putfield 114, 3) := by decide +kernel
set_option maxRecDepth 65536 in
set_option maxHeartbeats 40000000 in
theorem own_aeR (l : Launch) (Z : State) (a0 : Array Value) (hW : own_W Z a0) (tm p1 k1 d1 : Nat) (mc sz : Int32) (kp vp sp : Value) (h0 : Heap) (n0 : Nat) (Z0 : n0 ≤ h0.size) (O0 : Old Z n0 h0) (T1 : own_T Z h0 tm (.ref p1) mc sz) (P1 : own_N Z h0 p1 kp vp sp .null .null 1) (gt : n0 ≤ tm) (gp : n0 ≤ p1) :
    own_MH l own_y33 own_c32 6 none (own_r 2 1 6 41) #[(.ref tm), (.ref k1), (.ref d1), (.ref p1), (.int (0 : Int32))] Z h0 (own_aeR_Q Z tm p1 k1 d1 mc sz kp vp sp h0 n0) := by
  refine own_enterH (own := "java/util/TreeMap") rfl (plainFor_of_name pn_java_util_TreeMap) (fun m => ef_own_aeR m tm k1 d1 p1 (0 : Int32)) ?_
  intro p e s m below meth c s₁ Bd hZH hh hx hby hml hown hnm X0 e0
  have hZ := hZH.wide
  have Y := And.intro hx hby
  have hw := hW.1
  have N0 := Fr.nil n0
  have K0 := Keep.refl h0 [tm, p1]
  have lttm := own_lt T1.lt
  have ltp1 := own_lt P1.lt
  obtain ⟨T11, h11, X11, e11, E11, A11, D11, -, st11⟩ := newO X0 hx hZ hown (tw_ hw 155 rfl) (tw_ hw 156 rfl) (tw_ hw 157 rfl) e0 (g := (mkF m 0 #[vr tm, vr k1, vr d1, vr p1, vi (0 : Int32), uu] [])) rfl (hb hby d32_0) (by decide) (by decide)
  obtain ⟨b11, g11⟩ : ∃ z, z = h0.size := ⟨_, rfl⟩
  rw [← g11] at A11 D11 st11
  have lt11 := own_lt A11.lt
  refine own_go st11 ?_
  have z12 := E11.1
  have Zz12 := Nat.le_trans Z0 z12
  have K12 := K0.ext E11
  have O12 := O0.ext E11
  have F11_color : Fld Z h11 b11 "java/util/TreeMap$Entry" "color" "Z" (.int (0 : Int32)) := D11 (Or.inl (tw_ hw 164 rfl)) (ty := .boolean) (by decide)
  have F11_key : Fld Z h11 b11 "java/util/TreeMap$Entry" "key" "Ljava/lang/Object;" .null := D11 (Or.inl (tw_ hw 166 rfl)) (ty := (.object "java/lang/Object")) (by decide)
  have F11_value : Fld Z h11 b11 "java/util/TreeMap$Entry" "value" "Ljava/lang/Object;" .null := D11 (Or.inl (tw_ hw 168 rfl)) (ty := (.object "java/lang/Object")) (by decide)
  have F11_parent : Fld Z h11 b11 "java/util/TreeMap$Entry" "parent" "Ljava/util/TreeMap$Entry;" .null := D11 (Or.inl (tw_ hw 170 rfl)) (ty := (.object "java/util/TreeMap$Entry")) (by decide)
  have F11_right : Fld Z h11 b11 "java/util/TreeMap$Entry" "right" "Ljava/util/TreeMap$Entry;" .null := D11 (Or.inl (tw_ hw 190 rfl)) (ty := (.object "java/util/TreeMap$Entry")) (by decide)
  have F11_left : Fld Z h11 b11 "java/util/TreeMap$Entry" "left" "Ljava/util/TreeMap$Entry;" .null := D11 (Or.inl (tw_ hw 212 rfl)) (ty := (.object "java/util/TreeMap$Entry")) (by decide)
  have P11 : own_N Z h11 b11 .null .null .null .null .null (0 : Int32) := ⟨A11, F11_key, F11_value, F11_left, F11_right, F11_parent, F11_color⟩
  obtain ⟨v13, T13, Lc13, X13, hQ13, st13⟩ := own_make (own_tei1 l Z a0 hW b11 k1 d1 p1 h11 n0 Zz12 O12 P11 (by omega)) X11 Y hZH hown (tw_ hw 158 rfl) (tw_ hw 159 rfl) (tw_ hw 161 rfl) (tw_ hw 157 rfl) (by decide) rfl e11 (a := b11) (g := (mkF m 7 #[vr tm, vr k1, vr d1, vr p1, vi (0 : Int32), uu] [(.ref p1), (.ref d1), (.ref k1), (.ref b11), (.ref b11)])) rfl hml.symm (argsL := [(.ref k1), (.ref d1), (.ref p1)]) (rest := [(.ref b11)]) (lenOf pd_14 rfl) rfl d32_7
  obtain ⟨rfl, Nq13, Kq13, Fq13⟩ := hQ13
  have N13 := Fr.app N0 Nq13
  obtain ⟨z14, Zz14, K14, O14⟩ := own_eK Kq13 Zz12 K12 O12 (allS (Or.inr (by omega)) all0) (allS (by omega) all0)
  refine own_gs ?_ (own_gs st13 ?_)
  · refine own_du X11 Y d32_3 rfl rfl ?_
    refine own_a X11 Y d32_4 rfl rfl ?_
    refine own_a X11 Y d32_5 rfl rfl ?_
    exact own_a X11 Y d32_6 rfl rfl (Steps.refl _)
  have f16 := ((P1.ext E11).keep Kq13 (ninS (own_ne (a := p1) (b := b11) (by omega)) nin0))
  obtain ⟨T15, h15, X15, e15, W15, st15⟩ := own_pF X13 Y hZ hown (tw_ hw 189 rfl) rfl (own_N.f_right f16) (own_N.ex f16) (tw_ hw 190 rfl) (tw_ hw 156 rfl) (ty := (.object "java/util/TreeMap$Entry")) (by decide) rfl rfl (g := (mkF m 29 #[vr tm, vr k1, vr d1, vr p1, vi (0 : Int32), vr b11] [(.ref b11), (.ref p1)])) rfl rfl d32_29
  have F15 := own_N.s_right hw f16 W15
  refine own_gs ?_ (own_go st15 ?_)
  · refine XS.astore X13.here hx rfl (hb hby d32_10) rfl rfl (l' := #[vr tm, vr k1, vr d1, vr p1, vi (0 : Int32), vr b11]) rfl ?_
    refine own_il X13 Y d32_12 rfl ?_
    refine XS.ifYes X13.here hx rfl (pc0 := 14) (pc' := 26) rfl (hb hby d32_14) rfl ((if0 _ _).trans (teq ((by decide) : (0 : Int32) = (0 : Int32))).1) (by decide) (by decide) ?_
    refine own_a X13 Y d32_26 rfl rfl ?_
    exact own_al X13 Y d32_27 rfl rfl (Steps.refl _)
  obtain ⟨z17, Zz17, K17, O17, N17⟩ := own_eW W15 Zz14 K14 O14 N13 (own_i 1 rfl) gp
  have f19 := ((((own_T.ex T1).ext E11).keep Kq13).wr W15)
  have f20 := ((own_N.ex Fq13).wr W15)
  have nc18 : own_Ne tm b11 := ne_exa f19 f20 (by decide)
  have f22 := ((((own_N.ex P1).ext E11).keep Kq13).wr W15)
  have nc21 : own_Ne tm p1 := ne_exa f19 f22 (by decide)
  have f23 := (((T1.ext E11).keep Kq13 (ninS nc18 nin0)).keep (Keep.of_wr W15) (ninS nc21 nin0))
  have f24 := (Fq13.keep (Keep.of_wr W15) (ninS (own_ne (a := b11) (b := p1) (by omega)) nin0))
  obtain ⟨v25, T25, Lc25, X25, hQ25, st25⟩ := own_priv (own_fib l Z a0 hW tm p1 b11 mc sz kp vp sp (.ref b11) .null (.ref k1) (.ref d1) .null .null (1 : Int32) h15 n0 Zz17 O17 f23 F15 f24 gp (by omega) (own_ne (by omega))) X15 Y hZH hown (tw_ hw 196 rfl) (tw_ hw 197 rfl) (tw_ hw 198 rfl) (own_nf (notFace_of_selects (tw_ hw 109 rfl)) (tw_ hw 108 rfl) rfl) (tw_ hw 200 rfl) (tw_ hw 11 rfl) (by decide) e15 (own_T.ex f23) (g := (mkF m 35 #[vr tm, vr k1, vr d1, vr p1, vi (0 : Int32), vr b11] [(.ref b11), (.ref tm)])) rfl hml.symm (argsL := [(.ref b11)]) (rest := []) (lenOf pd_11 rfl) rfl d32_35
  obtain ⟨rfl, Nq25, Kq25, Rq25, Xq25⟩ := hQ25
  have N25 := Fr.app N17 Nq25
  obtain ⟨z26, Zz26, K26, O26⟩ := own_eK Kq25 Zz17 K17 O17 (allS (Or.inr (by omega)) (allS (own_i 1 rfl) all0)) (allS (by omega) (allS gp all0))
  refine own_gs ?_ (own_gs st25 ?_)
  · refine own_a X15 Y d32_32 rfl rfl ?_
    exact own_al X15 Y d32_33 rfl rfl (Steps.refl _)
  have f28 := (f23.keep Kq25 (ninS nc18 (ninS nc21 nin0)))
  obtain ⟨T27, X27, e27, st27⟩ := own_gF X25 Y hZ hown (tw_ hw 22 rfl) rfl (own_T.f_size f28) (g := (mkF m 40 #[vr tm, vr k1, vr d1, vr p1, vi (0 : Int32), vr b11] [(.ref tm), (.ref tm)])) rfl rfl d32_40
  refine own_gs ?_ (own_go st27 ?_)
  · refine own_a X25 Y d32_38 rfl rfl ?_
    exact own_du X25 Y d32_39 rfl rfl (Steps.refl _)
  obtain ⟨T29, h29, X29, e29, W29, st29⟩ := own_pF X27 Y hZ hown (tw_ hw 22 rfl) e27 (own_T.f_size f28) (own_T.ex f28) (tw_ hw 23 rfl) (tw_ hw 10 rfl) (ty := .int) (by decide) rfl rfl (g := (mkF m 45 #[vr tm, vr k1, vr d1, vr p1, vi (0 : Int32), vr b11] [(.int (sz + (1 : Int32))), (.ref tm)])) rfl rfl d32_45
  have F29 := own_T.s_size hw f28 W29
  refine own_gs ?_ (own_go st29 ?_)
  · refine own_ic X27 Y d32_43 ?_
    exact XS.iadd X27.here hx rfl (hb hby d32_44) rfl (Steps.refl _)
  obtain ⟨z30, Zz30, K30, O30, N30⟩ := own_eW W29 Zz26 K26 O26 N25 (own_i 0 rfl) gt
  obtain ⟨T31, X31, e31, st31⟩ := own_gF X29 Y hZ hown (tw_ hw 24 rfl) e29 (own_T.f_modCount F29) (g := (mkF m 50 #[vr tm, vr k1, vr d1, vr p1, vi (0 : Int32), vr b11] [(.ref tm), (.ref tm)])) rfl rfl d32_50
  refine own_gs ?_ (own_go st31 ?_)
  · refine own_a X29 Y d32_48 rfl rfl ?_
    exact own_du X29 Y d32_49 rfl rfl (Steps.refl _)
  obtain ⟨T32, h32, X32, e32, W32, st32⟩ := own_pF X31 Y hZ hown (tw_ hw 24 rfl) e31 (own_T.f_modCount F29) (own_T.ex F29) (tw_ hw 25 rfl) (tw_ hw 10 rfl) (ty := .int) (by decide) rfl rfl (g := (mkF m 55 #[vr tm, vr k1, vr d1, vr p1, vi (0 : Int32), vr b11] [(.int (mc + (1 : Int32))), (.ref tm)])) rfl rfl d32_55
  have F32 := own_T.s_modCount hw F29 W32
  refine own_gs ?_ (own_go st32 ?_)
  · refine own_ic X31 Y d32_53 ?_
    exact XS.iadd X31.here hx rfl (hb hby d32_54) rfl (Steps.refl _)
  obtain ⟨z33, Zz33, K33, O33, N33⟩ := own_eW W32 Zz30 K30 O30 N30 (own_i 0 rfl) gt
  have f34 := ((Rq25.keep (Keep.of_wr W29) (ninS (Ne.symm nc21) nin0)).keep (Keep.of_wr W32) (ninS (Ne.symm nc21) nin0))
  have f35 := ((Xq25.keep (Keep.of_wr W29) (ninS (Ne.symm nc18) nin0)).keep (Keep.of_wr W32) (ninS (Ne.symm nc18) nin0))
  exact own_rV X32 Bd (hb hby d32_58) e32 (⟨_, _, _, rfl, N33, K33, F32, f34, f35, (by omega)⟩) rfl rfl
def own_alLo_Q (Z : State) (tm g1 p1 k1 d1 : Nat) (mc sz : Int32) (kg vg kp vp : Value) (h0 : Heap) (n0 : Nat) (v : Option Value) (h : Heap) (L : List Loc) : Prop := ∃ (n1 : Nat) (mc1 sz1 : Int32), v = none ∧ Fr n0 L ∧ Keep h0 h [tm, g1, p1] ∧ own_T Z h tm (.ref p1) mc1 sz1 ∧ own_N Z h p1 kp vp (.ref n1) (.ref g1) .null 1 ∧ own_N Z h n1 (.ref k1) (.ref d1) .null .null (.ref p1) 0 ∧ own_N Z h g1 kg vg .null .null (.ref p1) 0 ∧ h0.size ≤ n1
theorem ef_own_alLo (m : MethodId) (x0 : Nat) (x1 : Nat) (x2 : Nat) (x3 : Nat) (x4 : Int32) : entryFrame m #[(.ref x0), (.ref x1), (.ref x2), (.ref x3), (.int x4)] 6 = mkF m 0 #[vr x0, vr x1, vr x2, vr x3, vi x4, .unset] [] := by first | (simp [entryFrame, mkF, argsToLocals, Value.category]; done) | rfl
set_option maxRecDepth 65536 in
set_option maxHeartbeats 40000000 in
theorem own_alLo (l : Launch) (Z : State) (a0 : Array Value) (hW : own_W Z a0) (tm g1 p1 k1 d1 : Nat) (mc sz : Int32) (kg vg kp vp : Value) (h0 : Heap) (n0 : Nat) (Z0 : n0 ≤ h0.size) (O0 : Old Z n0 h0) (T1 : own_T Z h0 tm (.ref g1) mc sz) (G1 : own_N Z h0 g1 kg vg (.ref p1) .null .null 1) (P1 : own_N Z h0 p1 kp vp .null .null (.ref g1) 0) (gt : n0 ≤ tm) (gg : n0 ≤ g1) (gp : n0 ≤ p1) (hgp : own_Ne g1 p1) :
    own_MH l own_y33 own_c32 6 none (own_r 2 1 6 44) #[(.ref tm), (.ref k1), (.ref d1), (.ref p1), (.int (1 : Int32))] Z h0 (own_alLo_Q Z tm g1 p1 k1 d1 mc sz kg vg kp vp h0 n0) := by
  refine own_enterH (own := "java/util/TreeMap") rfl (plainFor_of_name pn_java_util_TreeMap) (fun m => ef_own_alLo m tm k1 d1 p1 (1 : Int32)) ?_
  intro p e s m below meth c s₁ Bd hZH hh hx hby hml hown hnm X0 e0
  have hZ := hZH.wide
  have Y := And.intro hx hby
  have hw := hW.1
  have N0 := Fr.nil n0
  have K0 := Keep.refl h0 [tm, g1, p1]
  have lttm := own_lt T1.lt
  have ltg1 := own_lt G1.lt
  have ltp1 := own_lt P1.lt
  obtain ⟨T11, h11, X11, e11, E11, A11, D11, -, st11⟩ := newO X0 hx hZ hown (tw_ hw 155 rfl) (tw_ hw 156 rfl) (tw_ hw 157 rfl) e0 (g := (mkF m 0 #[vr tm, vr k1, vr d1, vr p1, vi (1 : Int32), uu] [])) rfl (hb hby d32_0) (by decide) (by decide)
  obtain ⟨b11, g11⟩ : ∃ z, z = h0.size := ⟨_, rfl⟩
  rw [← g11] at A11 D11 st11
  have lt11 := own_lt A11.lt
  refine own_go st11 ?_
  have z12 := E11.1
  have Zz12 := Nat.le_trans Z0 z12
  have K12 := K0.ext E11
  have O12 := O0.ext E11
  have F11_color : Fld Z h11 b11 "java/util/TreeMap$Entry" "color" "Z" (.int (0 : Int32)) := D11 (Or.inl (tw_ hw 164 rfl)) (ty := .boolean) (by decide)
  have F11_key : Fld Z h11 b11 "java/util/TreeMap$Entry" "key" "Ljava/lang/Object;" .null := D11 (Or.inl (tw_ hw 166 rfl)) (ty := (.object "java/lang/Object")) (by decide)
  have F11_value : Fld Z h11 b11 "java/util/TreeMap$Entry" "value" "Ljava/lang/Object;" .null := D11 (Or.inl (tw_ hw 168 rfl)) (ty := (.object "java/lang/Object")) (by decide)
  have F11_parent : Fld Z h11 b11 "java/util/TreeMap$Entry" "parent" "Ljava/util/TreeMap$Entry;" .null := D11 (Or.inl (tw_ hw 170 rfl)) (ty := (.object "java/util/TreeMap$Entry")) (by decide)
  have F11_right : Fld Z h11 b11 "java/util/TreeMap$Entry" "right" "Ljava/util/TreeMap$Entry;" .null := D11 (Or.inl (tw_ hw 190 rfl)) (ty := (.object "java/util/TreeMap$Entry")) (by decide)
  have F11_left : Fld Z h11 b11 "java/util/TreeMap$Entry" "left" "Ljava/util/TreeMap$Entry;" .null := D11 (Or.inl (tw_ hw 212 rfl)) (ty := (.object "java/util/TreeMap$Entry")) (by decide)
  have P11 : own_N Z h11 b11 .null .null .null .null .null (0 : Int32) := ⟨A11, F11_key, F11_value, F11_left, F11_right, F11_parent, F11_color⟩
  obtain ⟨v13, T13, Lc13, X13, hQ13, st13⟩ := own_make (own_tei1 l Z a0 hW b11 k1 d1 p1 h11 n0 Zz12 O12 P11 (by omega)) X11 Y hZH hown (tw_ hw 158 rfl) (tw_ hw 159 rfl) (tw_ hw 161 rfl) (tw_ hw 157 rfl) (by decide) rfl e11 (a := b11) (g := (mkF m 7 #[vr tm, vr k1, vr d1, vr p1, vi (1 : Int32), uu] [(.ref p1), (.ref d1), (.ref k1), (.ref b11), (.ref b11)])) rfl hml.symm (argsL := [(.ref k1), (.ref d1), (.ref p1)]) (rest := [(.ref b11)]) (lenOf pd_14 rfl) rfl d32_7
  obtain ⟨rfl, Nq13, Kq13, Fq13⟩ := hQ13
  have N13 := Fr.app N0 Nq13
  obtain ⟨z14, Zz14, K14, O14⟩ := own_eK Kq13 Zz12 K12 O12 (allS (Or.inr (by omega)) all0) (allS (by omega) all0)
  refine own_gs ?_ (own_gs st13 ?_)
  · refine own_du X11 Y d32_3 rfl rfl ?_
    refine own_a X11 Y d32_4 rfl rfl ?_
    refine own_a X11 Y d32_5 rfl rfl ?_
    exact own_a X11 Y d32_6 rfl rfl (Steps.refl _)
  have f16 := ((P1.ext E11).keep Kq13 (ninS (own_ne (a := p1) (b := b11) (by omega)) nin0))
  obtain ⟨T15, h15, X15, e15, W15, st15⟩ := own_pF X13 Y hZ hown (tw_ hw 211 rfl) rfl (own_N.f_left f16) (own_N.ex f16) (tw_ hw 212 rfl) (tw_ hw 156 rfl) (ty := (.object "java/util/TreeMap$Entry")) (by decide) rfl rfl (g := (mkF m 20 #[vr tm, vr k1, vr d1, vr p1, vi (1 : Int32), vr b11] [(.ref b11), (.ref p1)])) rfl rfl d32_20
  have F15 := own_N.s_left hw f16 W15
  refine own_gs ?_ (own_go st15 ?_)
  · refine XS.astore X13.here hx rfl (hb hby d32_10) rfl rfl (l' := #[vr tm, vr k1, vr d1, vr p1, vi (1 : Int32), vr b11]) rfl ?_
    refine own_il X13 Y d32_12 rfl ?_
    refine XS.ifNo X13.here hx rfl (hb hby d32_14) rfl ((if0 _ _).trans (feq ((by decide) : ¬ ((1 : Int32) = (0 : Int32)))).1) ?_
    refine own_a X13 Y d32_17 rfl rfl ?_
    exact own_al X13 Y d32_18 rfl rfl (Steps.refl _)
  obtain ⟨z17, Zz17, K17, O17, N17⟩ := own_eW W15 Zz14 K14 O14 N13 (own_i 2 rfl) gp
  have f19 := ((((own_T.ex T1).ext E11).keep Kq13).wr W15)
  have f20 := ((own_N.ex Fq13).wr W15)
  have nc18 : own_Ne tm b11 := ne_exa f19 f20 (by decide)
  have f22 := ((((own_N.ex P1).ext E11).keep Kq13).wr W15)
  have nc21 : own_Ne tm p1 := ne_exa f19 f22 (by decide)
  have f23 := (((T1.ext E11).keep Kq13 (ninS nc18 nin0)).keep (Keep.of_wr W15) (ninS nc21 nin0))
  have f24 := (((G1.ext E11).keep Kq13 (ninS (own_ne (a := g1) (b := b11) (by omega)) nin0)).keep (Keep.of_wr W15) (ninS hgp nin0))
  have f25 := (Fq13.keep (Keep.of_wr W15) (ninS (own_ne (a := b11) (b := p1) (by omega)) nin0))
  obtain ⟨v26, T26, Lc26, X26, hQ26, st26⟩ := own_priv (own_fiLo l Z a0 hW tm g1 p1 b11 mc sz kg vg kp vp (.ref k1) (.ref d1) h15 n0 Zz17 O17 f23 f24 F15 f25 gt gg gp (by omega) hgp (own_ne (by omega)) (own_ne (by omega))) X15 Y hZH hown (tw_ hw 196 rfl) (tw_ hw 197 rfl) (tw_ hw 198 rfl) (own_nf (notFace_of_selects (tw_ hw 109 rfl)) (tw_ hw 108 rfl) rfl) (tw_ hw 200 rfl) (tw_ hw 11 rfl) (by decide) e15 (own_T.ex f23) (g := (mkF m 35 #[vr tm, vr k1, vr d1, vr p1, vi (1 : Int32), vr b11] [(.ref b11), (.ref tm)])) rfl hml.symm (argsL := [(.ref b11)]) (rest := []) (lenOf pd_11 rfl) rfl d32_35
  obtain ⟨rfl, Nq26, Kq26, Tq26, Aq26, Bq26, Gq26⟩ := hQ26
  have N26 := Fr.app N17 Nq26
  obtain ⟨z27, Zz27, K27, O27⟩ := own_eK Kq26 Zz17 K17 O17 (allS (own_i 0 rfl) (allS (own_i 1 rfl) (allS (own_i 2 rfl) (allS (Or.inr (by omega)) all0)))) (allS gt (allS gg (allS gp (allS (by omega) all0))))
  refine own_gs ?_ (own_gs st26 ?_)
  · refine XS.goto X15.here hx rfl (pc0 := 23) (pc' := 32) rfl (hb hby d32_23) (by decide) (by decide) ?_
    refine own_a X15 Y d32_32 rfl rfl ?_
    exact own_al X15 Y d32_33 rfl rfl (Steps.refl _)
  obtain ⟨T28, X28, e28, st28⟩ := own_gF X26 Y hZ hown (tw_ hw 22 rfl) rfl (own_T.f_size Tq26) (g := (mkF m 40 #[vr tm, vr k1, vr d1, vr p1, vi (1 : Int32), vr b11] [(.ref tm), (.ref tm)])) rfl rfl d32_40
  refine own_gs ?_ (own_go st28 ?_)
  · refine own_a X26 Y d32_38 rfl rfl ?_
    exact own_du X26 Y d32_39 rfl rfl (Steps.refl _)
  obtain ⟨T29, h29, X29, e29, W29, st29⟩ := own_pF X28 Y hZ hown (tw_ hw 22 rfl) e28 (own_T.f_size Tq26) (own_T.ex Tq26) (tw_ hw 23 rfl) (tw_ hw 10 rfl) (ty := .int) (by decide) rfl rfl (g := (mkF m 45 #[vr tm, vr k1, vr d1, vr p1, vi (1 : Int32), vr b11] [(.int (sz + (1 : Int32))), (.ref tm)])) rfl rfl d32_45
  have F29 := own_T.s_size hw Tq26 W29
  refine own_gs ?_ (own_go st29 ?_)
  · refine own_ic X28 Y d32_43 ?_
    exact XS.iadd X28.here hx rfl (hb hby d32_44) rfl (Steps.refl _)
  obtain ⟨z30, Zz30, K30, O30, N30⟩ := own_eW W29 Zz27 K27 O27 N26 (own_i 0 rfl) gt
  obtain ⟨T31, X31, e31, st31⟩ := own_gF X29 Y hZ hown (tw_ hw 24 rfl) e29 (own_T.f_modCount F29) (g := (mkF m 50 #[vr tm, vr k1, vr d1, vr p1, vi (1 : Int32), vr b11] [(.ref tm), (.ref tm)])) rfl rfl d32_50
  refine own_gs ?_ (own_go st31 ?_)
  · refine own_a X29 Y d32_48 rfl rfl ?_
    exact own_du X29 Y d32_49 rfl rfl (Steps.refl _)
  obtain ⟨T32, h32, X32, e32, W32, st32⟩ := own_pF X31 Y hZ hown (tw_ hw 24 rfl) e31 (own_T.f_modCount F29) (own_T.ex F29) (tw_ hw 25 rfl) (tw_ hw 10 rfl) (ty := .int) (by decide) rfl rfl (g := (mkF m 55 #[vr tm, vr k1, vr d1, vr p1, vi (1 : Int32), vr b11] [(.int (mc + (1 : Int32))), (.ref tm)])) rfl rfl d32_55
  have F32 := own_T.s_modCount hw F29 W32
  refine own_gs ?_ (own_go st32 ?_)
  · refine own_ic X31 Y d32_53 ?_
    exact XS.iadd X31.here hx rfl (hb hby d32_54) rfl (Steps.refl _)
  obtain ⟨z33, Zz33, K33, O33, N33⟩ := own_eW W32 Zz30 K30 O30 N30 (own_i 0 rfl) gt
  have f34 := ((Aq26.keep (Keep.of_wr W29) (ninS (Ne.symm nc21) nin0)).keep (Keep.of_wr W32) (ninS (Ne.symm nc21) nin0))
  have f35 := ((Bq26.keep (Keep.of_wr W29) (ninS (Ne.symm nc18) nin0)).keep (Keep.of_wr W32) (ninS (Ne.symm nc18) nin0))
  have f37 := (((own_N.ex Gq26).wr W29).wr W32)
  have f38 := (((own_T.ex Tq26).wr W29).wr W32)
  have nc36 : own_Ne g1 tm := ne_exa f37 f38 (by decide)
  have f39 := ((Gq26.keep (Keep.of_wr W29) (ninS nc36 nin0)).keep (Keep.of_wr W32) (ninS nc36 nin0))
  exact own_rV X32 Bd (hb hby d32_58) e32 (⟨_, _, _, rfl, N33, K33, F32, f34, f35, f39, (by omega)⟩) rfl rfl
def own_alLi_Q (Z : State) (tm g1 p1 k1 d1 : Nat) (mc sz : Int32) (kg vg kp vp : Value) (h0 : Heap) (n0 : Nat) (v : Option Value) (h : Heap) (L : List Loc) : Prop := ∃ (n1 : Nat) (mc1 sz1 : Int32), v = none ∧ Fr n0 L ∧ Keep h0 h [tm, g1, p1] ∧ own_T Z h tm (.ref n1) mc1 sz1 ∧ own_N Z h n1 (.ref k1) (.ref d1) (.ref p1) (.ref g1) .null 1 ∧ own_N Z h p1 kp vp .null .null (.ref n1) 0 ∧ own_N Z h g1 kg vg .null .null (.ref n1) 0 ∧ h0.size ≤ n1
theorem ef_own_alLi (m : MethodId) (x0 : Nat) (x1 : Nat) (x2 : Nat) (x3 : Nat) (x4 : Int32) : entryFrame m #[(.ref x0), (.ref x1), (.ref x2), (.ref x3), (.int x4)] 6 = mkF m 0 #[vr x0, vr x1, vr x2, vr x3, vi x4, .unset] [] := by first | (simp [entryFrame, mkF, argsToLocals, Value.category]; done) | rfl
set_option maxRecDepth 65536 in
set_option maxHeartbeats 40000000 in
theorem own_alLi (l : Launch) (Z : State) (a0 : Array Value) (hW : own_W Z a0) (tm g1 p1 k1 d1 : Nat) (mc sz : Int32) (kg vg kp vp : Value) (h0 : Heap) (n0 : Nat) (Z0 : n0 ≤ h0.size) (O0 : Old Z n0 h0) (T1 : own_T Z h0 tm (.ref g1) mc sz) (G1 : own_N Z h0 g1 kg vg (.ref p1) .null .null 1) (P1 : own_N Z h0 p1 kp vp .null .null (.ref g1) 0) (gt : n0 ≤ tm) (gg : n0 ≤ g1) (gp : n0 ≤ p1) (hgp : own_Ne g1 p1) :
    own_MH l own_y33 own_c32 6 none (own_r 2 1 6 44) #[(.ref tm), (.ref k1), (.ref d1), (.ref p1), (.int (0 : Int32))] Z h0 (own_alLi_Q Z tm g1 p1 k1 d1 mc sz kg vg kp vp h0 n0) := by
  refine own_enterH (own := "java/util/TreeMap") rfl (plainFor_of_name pn_java_util_TreeMap) (fun m => ef_own_alLi m tm k1 d1 p1 (0 : Int32)) ?_
  intro p e s m below meth c s₁ Bd hZH hh hx hby hml hown hnm X0 e0
  have hZ := hZH.wide
  have Y := And.intro hx hby
  have hw := hW.1
  have N0 := Fr.nil n0
  have K0 := Keep.refl h0 [tm, g1, p1]
  have lttm := own_lt T1.lt
  have ltg1 := own_lt G1.lt
  have ltp1 := own_lt P1.lt
  obtain ⟨T11, h11, X11, e11, E11, A11, D11, -, st11⟩ := newO X0 hx hZ hown (tw_ hw 155 rfl) (tw_ hw 156 rfl) (tw_ hw 157 rfl) e0 (g := (mkF m 0 #[vr tm, vr k1, vr d1, vr p1, vi (0 : Int32), uu] [])) rfl (hb hby d32_0) (by decide) (by decide)
  obtain ⟨b11, g11⟩ : ∃ z, z = h0.size := ⟨_, rfl⟩
  rw [← g11] at A11 D11 st11
  have lt11 := own_lt A11.lt
  refine own_go st11 ?_
  have z12 := E11.1
  have Zz12 := Nat.le_trans Z0 z12
  have K12 := K0.ext E11
  have O12 := O0.ext E11
  have F11_color : Fld Z h11 b11 "java/util/TreeMap$Entry" "color" "Z" (.int (0 : Int32)) := D11 (Or.inl (tw_ hw 164 rfl)) (ty := .boolean) (by decide)
  have F11_key : Fld Z h11 b11 "java/util/TreeMap$Entry" "key" "Ljava/lang/Object;" .null := D11 (Or.inl (tw_ hw 166 rfl)) (ty := (.object "java/lang/Object")) (by decide)
  have F11_value : Fld Z h11 b11 "java/util/TreeMap$Entry" "value" "Ljava/lang/Object;" .null := D11 (Or.inl (tw_ hw 168 rfl)) (ty := (.object "java/lang/Object")) (by decide)
  have F11_parent : Fld Z h11 b11 "java/util/TreeMap$Entry" "parent" "Ljava/util/TreeMap$Entry;" .null := D11 (Or.inl (tw_ hw 170 rfl)) (ty := (.object "java/util/TreeMap$Entry")) (by decide)
  have F11_right : Fld Z h11 b11 "java/util/TreeMap$Entry" "right" "Ljava/util/TreeMap$Entry;" .null := D11 (Or.inl (tw_ hw 190 rfl)) (ty := (.object "java/util/TreeMap$Entry")) (by decide)
  have F11_left : Fld Z h11 b11 "java/util/TreeMap$Entry" "left" "Ljava/util/TreeMap$Entry;" .null := D11 (Or.inl (tw_ hw 212 rfl)) (ty := (.object "java/util/TreeMap$Entry")) (by decide)
  have P11 : own_N Z h11 b11 .null .null .null .null .null (0 : Int32) := ⟨A11, F11_key, F11_value, F11_left, F11_right, F11_parent, F11_color⟩
  obtain ⟨v13, T13, Lc13, X13, hQ13, st13⟩ := own_make (own_tei1 l Z a0 hW b11 k1 d1 p1 h11 n0 Zz12 O12 P11 (by omega)) X11 Y hZH hown (tw_ hw 158 rfl) (tw_ hw 159 rfl) (tw_ hw 161 rfl) (tw_ hw 157 rfl) (by decide) rfl e11 (a := b11) (g := (mkF m 7 #[vr tm, vr k1, vr d1, vr p1, vi (0 : Int32), uu] [(.ref p1), (.ref d1), (.ref k1), (.ref b11), (.ref b11)])) rfl hml.symm (argsL := [(.ref k1), (.ref d1), (.ref p1)]) (rest := [(.ref b11)]) (lenOf pd_14 rfl) rfl d32_7
  obtain ⟨rfl, Nq13, Kq13, Fq13⟩ := hQ13
  have N13 := Fr.app N0 Nq13
  obtain ⟨z14, Zz14, K14, O14⟩ := own_eK Kq13 Zz12 K12 O12 (allS (Or.inr (by omega)) all0) (allS (by omega) all0)
  refine own_gs ?_ (own_gs st13 ?_)
  · refine own_du X11 Y d32_3 rfl rfl ?_
    refine own_a X11 Y d32_4 rfl rfl ?_
    refine own_a X11 Y d32_5 rfl rfl ?_
    exact own_a X11 Y d32_6 rfl rfl (Steps.refl _)
  have f16 := ((P1.ext E11).keep Kq13 (ninS (own_ne (a := p1) (b := b11) (by omega)) nin0))
  obtain ⟨T15, h15, X15, e15, W15, st15⟩ := own_pF X13 Y hZ hown (tw_ hw 189 rfl) rfl (own_N.f_right f16) (own_N.ex f16) (tw_ hw 190 rfl) (tw_ hw 156 rfl) (ty := (.object "java/util/TreeMap$Entry")) (by decide) rfl rfl (g := (mkF m 29 #[vr tm, vr k1, vr d1, vr p1, vi (0 : Int32), vr b11] [(.ref b11), (.ref p1)])) rfl rfl d32_29
  have F15 := own_N.s_right hw f16 W15
  refine own_gs ?_ (own_go st15 ?_)
  · refine XS.astore X13.here hx rfl (hb hby d32_10) rfl rfl (l' := #[vr tm, vr k1, vr d1, vr p1, vi (0 : Int32), vr b11]) rfl ?_
    refine own_il X13 Y d32_12 rfl ?_
    refine XS.ifYes X13.here hx rfl (pc0 := 14) (pc' := 26) rfl (hb hby d32_14) rfl ((if0 _ _).trans (teq ((by decide) : (0 : Int32) = (0 : Int32))).1) (by decide) (by decide) ?_
    refine own_a X13 Y d32_26 rfl rfl ?_
    exact own_al X13 Y d32_27 rfl rfl (Steps.refl _)
  obtain ⟨z17, Zz17, K17, O17, N17⟩ := own_eW W15 Zz14 K14 O14 N13 (own_i 2 rfl) gp
  have f19 := ((((own_T.ex T1).ext E11).keep Kq13).wr W15)
  have f20 := ((own_N.ex Fq13).wr W15)
  have nc18 : own_Ne tm b11 := ne_exa f19 f20 (by decide)
  have f22 := ((((own_N.ex P1).ext E11).keep Kq13).wr W15)
  have nc21 : own_Ne tm p1 := ne_exa f19 f22 (by decide)
  have f23 := (((T1.ext E11).keep Kq13 (ninS nc18 nin0)).keep (Keep.of_wr W15) (ninS nc21 nin0))
  have f24 := (((G1.ext E11).keep Kq13 (ninS (own_ne (a := g1) (b := b11) (by omega)) nin0)).keep (Keep.of_wr W15) (ninS hgp nin0))
  have f25 := (Fq13.keep (Keep.of_wr W15) (ninS (own_ne (a := b11) (b := p1) (by omega)) nin0))
  obtain ⟨v26, T26, Lc26, X26, hQ26, st26⟩ := own_priv (own_fiLi l Z a0 hW tm g1 p1 b11 mc sz kg vg kp vp (.ref k1) (.ref d1) h15 n0 Zz17 O17 f23 f24 F15 f25 gt gg gp (by omega) hgp (own_ne (by omega)) (own_ne (by omega))) X15 Y hZH hown (tw_ hw 196 rfl) (tw_ hw 197 rfl) (tw_ hw 198 rfl) (own_nf (notFace_of_selects (tw_ hw 109 rfl)) (tw_ hw 108 rfl) rfl) (tw_ hw 200 rfl) (tw_ hw 11 rfl) (by decide) e15 (own_T.ex f23) (g := (mkF m 35 #[vr tm, vr k1, vr d1, vr p1, vi (0 : Int32), vr b11] [(.ref b11), (.ref tm)])) rfl hml.symm (argsL := [(.ref b11)]) (rest := []) (lenOf pd_11 rfl) rfl d32_35
  obtain ⟨rfl, Nq26, Kq26, Tq26, Aq26, Bq26, Gq26⟩ := hQ26
  have N26 := Fr.app N17 Nq26
  obtain ⟨z27, Zz27, K27, O27⟩ := own_eK Kq26 Zz17 K17 O17 (allS (own_i 0 rfl) (allS (own_i 1 rfl) (allS (own_i 2 rfl) (allS (Or.inr (by omega)) all0)))) (allS gt (allS gg (allS gp (allS (by omega) all0))))
  refine own_gs ?_ (own_gs st26 ?_)
  · refine own_a X15 Y d32_32 rfl rfl ?_
    exact own_al X15 Y d32_33 rfl rfl (Steps.refl _)
  obtain ⟨T28, X28, e28, st28⟩ := own_gF X26 Y hZ hown (tw_ hw 22 rfl) rfl (own_T.f_size Tq26) (g := (mkF m 40 #[vr tm, vr k1, vr d1, vr p1, vi (0 : Int32), vr b11] [(.ref tm), (.ref tm)])) rfl rfl d32_40
  refine own_gs ?_ (own_go st28 ?_)
  · refine own_a X26 Y d32_38 rfl rfl ?_
    exact own_du X26 Y d32_39 rfl rfl (Steps.refl _)
  obtain ⟨T29, h29, X29, e29, W29, st29⟩ := own_pF X28 Y hZ hown (tw_ hw 22 rfl) e28 (own_T.f_size Tq26) (own_T.ex Tq26) (tw_ hw 23 rfl) (tw_ hw 10 rfl) (ty := .int) (by decide) rfl rfl (g := (mkF m 45 #[vr tm, vr k1, vr d1, vr p1, vi (0 : Int32), vr b11] [(.int (sz + (1 : Int32))), (.ref tm)])) rfl rfl d32_45
  have F29 := own_T.s_size hw Tq26 W29
  refine own_gs ?_ (own_go st29 ?_)
  · refine own_ic X28 Y d32_43 ?_
    exact XS.iadd X28.here hx rfl (hb hby d32_44) rfl (Steps.refl _)
  obtain ⟨z30, Zz30, K30, O30, N30⟩ := own_eW W29 Zz27 K27 O27 N26 (own_i 0 rfl) gt
  obtain ⟨T31, X31, e31, st31⟩ := own_gF X29 Y hZ hown (tw_ hw 24 rfl) e29 (own_T.f_modCount F29) (g := (mkF m 50 #[vr tm, vr k1, vr d1, vr p1, vi (0 : Int32), vr b11] [(.ref tm), (.ref tm)])) rfl rfl d32_50
  refine own_gs ?_ (own_go st31 ?_)
  · refine own_a X29 Y d32_48 rfl rfl ?_
    exact own_du X29 Y d32_49 rfl rfl (Steps.refl _)
  obtain ⟨T32, h32, X32, e32, W32, st32⟩ := own_pF X31 Y hZ hown (tw_ hw 24 rfl) e31 (own_T.f_modCount F29) (own_T.ex F29) (tw_ hw 25 rfl) (tw_ hw 10 rfl) (ty := .int) (by decide) rfl rfl (g := (mkF m 55 #[vr tm, vr k1, vr d1, vr p1, vi (0 : Int32), vr b11] [(.int (mc + (1 : Int32))), (.ref tm)])) rfl rfl d32_55
  have F32 := own_T.s_modCount hw F29 W32
  refine own_gs ?_ (own_go st32 ?_)
  · refine own_ic X31 Y d32_53 ?_
    exact XS.iadd X31.here hx rfl (hb hby d32_54) rfl (Steps.refl _)
  obtain ⟨z33, Zz33, K33, O33, N33⟩ := own_eW W32 Zz30 K30 O30 N30 (own_i 0 rfl) gt
  have f34 := ((Aq26.keep (Keep.of_wr W29) (ninS (Ne.symm nc18) nin0)).keep (Keep.of_wr W32) (ninS (Ne.symm nc18) nin0))
  have f35 := ((Bq26.keep (Keep.of_wr W29) (ninS (Ne.symm nc21) nin0)).keep (Keep.of_wr W32) (ninS (Ne.symm nc21) nin0))
  have f37 := (((own_N.ex Gq26).wr W29).wr W32)
  have f38 := (((own_T.ex Tq26).wr W29).wr W32)
  have nc36 : own_Ne g1 tm := ne_exa f37 f38 (by decide)
  have f39 := ((Gq26.keep (Keep.of_wr W29) (ninS nc36 nin0)).keep (Keep.of_wr W32) (ninS nc36 nin0))
  exact own_rV X32 Bd (hb hby d32_58) e32 (⟨_, _, _, rfl, N33, K33, F32, f34, f35, f39, (by omega)⟩) rfl rfl
def own_alRo_Q (Z : State) (tm g1 p1 k1 d1 : Nat) (mc sz : Int32) (kg vg kp vp : Value) (h0 : Heap) (n0 : Nat) (v : Option Value) (h : Heap) (L : List Loc) : Prop := ∃ (n1 : Nat) (mc1 sz1 : Int32), v = none ∧ Fr n0 L ∧ Keep h0 h [tm, g1, p1] ∧ own_T Z h tm (.ref p1) mc1 sz1 ∧ own_N Z h p1 kp vp (.ref g1) (.ref n1) .null 1 ∧ own_N Z h n1 (.ref k1) (.ref d1) .null .null (.ref p1) 0 ∧ own_N Z h g1 kg vg .null .null (.ref p1) 0 ∧ h0.size ≤ n1
theorem ef_own_alRo (m : MethodId) (x0 : Nat) (x1 : Nat) (x2 : Nat) (x3 : Nat) (x4 : Int32) : entryFrame m #[(.ref x0), (.ref x1), (.ref x2), (.ref x3), (.int x4)] 6 = mkF m 0 #[vr x0, vr x1, vr x2, vr x3, vi x4, .unset] [] := by first | (simp [entryFrame, mkF, argsToLocals, Value.category]; done) | rfl
set_option maxRecDepth 65536 in
set_option maxHeartbeats 40000000 in
theorem own_alRo (l : Launch) (Z : State) (a0 : Array Value) (hW : own_W Z a0) (tm g1 p1 k1 d1 : Nat) (mc sz : Int32) (kg vg kp vp : Value) (h0 : Heap) (n0 : Nat) (Z0 : n0 ≤ h0.size) (O0 : Old Z n0 h0) (T1 : own_T Z h0 tm (.ref g1) mc sz) (G1 : own_N Z h0 g1 kg vg .null (.ref p1) .null 1) (P1 : own_N Z h0 p1 kp vp .null .null (.ref g1) 0) (gt : n0 ≤ tm) (gg : n0 ≤ g1) (gp : n0 ≤ p1) (hgp : own_Ne g1 p1) :
    own_MH l own_y33 own_c32 6 none (own_r 2 1 6 44) #[(.ref tm), (.ref k1), (.ref d1), (.ref p1), (.int (0 : Int32))] Z h0 (own_alRo_Q Z tm g1 p1 k1 d1 mc sz kg vg kp vp h0 n0) := by
  refine own_enterH (own := "java/util/TreeMap") rfl (plainFor_of_name pn_java_util_TreeMap) (fun m => ef_own_alRo m tm k1 d1 p1 (0 : Int32)) ?_
  intro p e s m below meth c s₁ Bd hZH hh hx hby hml hown hnm X0 e0
  have hZ := hZH.wide
  have Y := And.intro hx hby
  have hw := hW.1
  have N0 := Fr.nil n0
  have K0 := Keep.refl h0 [tm, g1, p1]
  have lttm := own_lt T1.lt
  have ltg1 := own_lt G1.lt
  have ltp1 := own_lt P1.lt
  obtain ⟨T11, h11, X11, e11, E11, A11, D11, -, st11⟩ := newO X0 hx hZ hown (tw_ hw 155 rfl) (tw_ hw 156 rfl) (tw_ hw 157 rfl) e0 (g := (mkF m 0 #[vr tm, vr k1, vr d1, vr p1, vi (0 : Int32), uu] [])) rfl (hb hby d32_0) (by decide) (by decide)
  obtain ⟨b11, g11⟩ : ∃ z, z = h0.size := ⟨_, rfl⟩
  rw [← g11] at A11 D11 st11
  have lt11 := own_lt A11.lt
  refine own_go st11 ?_
  have z12 := E11.1
  have Zz12 := Nat.le_trans Z0 z12
  have K12 := K0.ext E11
  have O12 := O0.ext E11
  have F11_color : Fld Z h11 b11 "java/util/TreeMap$Entry" "color" "Z" (.int (0 : Int32)) := D11 (Or.inl (tw_ hw 164 rfl)) (ty := .boolean) (by decide)
  have F11_key : Fld Z h11 b11 "java/util/TreeMap$Entry" "key" "Ljava/lang/Object;" .null := D11 (Or.inl (tw_ hw 166 rfl)) (ty := (.object "java/lang/Object")) (by decide)
  have F11_value : Fld Z h11 b11 "java/util/TreeMap$Entry" "value" "Ljava/lang/Object;" .null := D11 (Or.inl (tw_ hw 168 rfl)) (ty := (.object "java/lang/Object")) (by decide)
  have F11_parent : Fld Z h11 b11 "java/util/TreeMap$Entry" "parent" "Ljava/util/TreeMap$Entry;" .null := D11 (Or.inl (tw_ hw 170 rfl)) (ty := (.object "java/util/TreeMap$Entry")) (by decide)
  have F11_right : Fld Z h11 b11 "java/util/TreeMap$Entry" "right" "Ljava/util/TreeMap$Entry;" .null := D11 (Or.inl (tw_ hw 190 rfl)) (ty := (.object "java/util/TreeMap$Entry")) (by decide)
  have F11_left : Fld Z h11 b11 "java/util/TreeMap$Entry" "left" "Ljava/util/TreeMap$Entry;" .null := D11 (Or.inl (tw_ hw 212 rfl)) (ty := (.object "java/util/TreeMap$Entry")) (by decide)
  have P11 : own_N Z h11 b11 .null .null .null .null .null (0 : Int32) := ⟨A11, F11_key, F11_value, F11_left, F11_right, F11_parent, F11_color⟩
  obtain ⟨v13, T13, Lc13, X13, hQ13, st13⟩ := own_make (own_tei1 l Z a0 hW b11 k1 d1 p1 h11 n0 Zz12 O12 P11 (by omega)) X11 Y hZH hown (tw_ hw 158 rfl) (tw_ hw 159 rfl) (tw_ hw 161 rfl) (tw_ hw 157 rfl) (by decide) rfl e11 (a := b11) (g := (mkF m 7 #[vr tm, vr k1, vr d1, vr p1, vi (0 : Int32), uu] [(.ref p1), (.ref d1), (.ref k1), (.ref b11), (.ref b11)])) rfl hml.symm (argsL := [(.ref k1), (.ref d1), (.ref p1)]) (rest := [(.ref b11)]) (lenOf pd_14 rfl) rfl d32_7
  obtain ⟨rfl, Nq13, Kq13, Fq13⟩ := hQ13
  have N13 := Fr.app N0 Nq13
  obtain ⟨z14, Zz14, K14, O14⟩ := own_eK Kq13 Zz12 K12 O12 (allS (Or.inr (by omega)) all0) (allS (by omega) all0)
  refine own_gs ?_ (own_gs st13 ?_)
  · refine own_du X11 Y d32_3 rfl rfl ?_
    refine own_a X11 Y d32_4 rfl rfl ?_
    refine own_a X11 Y d32_5 rfl rfl ?_
    exact own_a X11 Y d32_6 rfl rfl (Steps.refl _)
  have f16 := ((P1.ext E11).keep Kq13 (ninS (own_ne (a := p1) (b := b11) (by omega)) nin0))
  obtain ⟨T15, h15, X15, e15, W15, st15⟩ := own_pF X13 Y hZ hown (tw_ hw 189 rfl) rfl (own_N.f_right f16) (own_N.ex f16) (tw_ hw 190 rfl) (tw_ hw 156 rfl) (ty := (.object "java/util/TreeMap$Entry")) (by decide) rfl rfl (g := (mkF m 29 #[vr tm, vr k1, vr d1, vr p1, vi (0 : Int32), vr b11] [(.ref b11), (.ref p1)])) rfl rfl d32_29
  have F15 := own_N.s_right hw f16 W15
  refine own_gs ?_ (own_go st15 ?_)
  · refine XS.astore X13.here hx rfl (hb hby d32_10) rfl rfl (l' := #[vr tm, vr k1, vr d1, vr p1, vi (0 : Int32), vr b11]) rfl ?_
    refine own_il X13 Y d32_12 rfl ?_
    refine XS.ifYes X13.here hx rfl (pc0 := 14) (pc' := 26) rfl (hb hby d32_14) rfl ((if0 _ _).trans (teq ((by decide) : (0 : Int32) = (0 : Int32))).1) (by decide) (by decide) ?_
    refine own_a X13 Y d32_26 rfl rfl ?_
    exact own_al X13 Y d32_27 rfl rfl (Steps.refl _)
  obtain ⟨z17, Zz17, K17, O17, N17⟩ := own_eW W15 Zz14 K14 O14 N13 (own_i 2 rfl) gp
  have f19 := ((((own_T.ex T1).ext E11).keep Kq13).wr W15)
  have f20 := ((own_N.ex Fq13).wr W15)
  have nc18 : own_Ne tm b11 := ne_exa f19 f20 (by decide)
  have f22 := ((((own_N.ex P1).ext E11).keep Kq13).wr W15)
  have nc21 : own_Ne tm p1 := ne_exa f19 f22 (by decide)
  have f23 := (((T1.ext E11).keep Kq13 (ninS nc18 nin0)).keep (Keep.of_wr W15) (ninS nc21 nin0))
  have f24 := (((G1.ext E11).keep Kq13 (ninS (own_ne (a := g1) (b := b11) (by omega)) nin0)).keep (Keep.of_wr W15) (ninS hgp nin0))
  have f25 := (Fq13.keep (Keep.of_wr W15) (ninS (own_ne (a := b11) (b := p1) (by omega)) nin0))
  obtain ⟨v26, T26, Lc26, X26, hQ26, st26⟩ := own_priv (own_fiRo l Z a0 hW tm g1 p1 b11 mc sz kg vg kp vp (.ref k1) (.ref d1) h15 n0 Zz17 O17 f23 f24 F15 f25 gt gg gp (by omega) hgp (own_ne (by omega)) (own_ne (by omega))) X15 Y hZH hown (tw_ hw 196 rfl) (tw_ hw 197 rfl) (tw_ hw 198 rfl) (own_nf (notFace_of_selects (tw_ hw 109 rfl)) (tw_ hw 108 rfl) rfl) (tw_ hw 200 rfl) (tw_ hw 11 rfl) (by decide) e15 (own_T.ex f23) (g := (mkF m 35 #[vr tm, vr k1, vr d1, vr p1, vi (0 : Int32), vr b11] [(.ref b11), (.ref tm)])) rfl hml.symm (argsL := [(.ref b11)]) (rest := []) (lenOf pd_11 rfl) rfl d32_35
  obtain ⟨rfl, Nq26, Kq26, Tq26, Aq26, Bq26, Gq26⟩ := hQ26
  have N26 := Fr.app N17 Nq26
  obtain ⟨z27, Zz27, K27, O27⟩ := own_eK Kq26 Zz17 K17 O17 (allS (own_i 0 rfl) (allS (own_i 1 rfl) (allS (own_i 2 rfl) (allS (Or.inr (by omega)) all0)))) (allS gt (allS gg (allS gp (allS (by omega) all0))))
  refine own_gs ?_ (own_gs st26 ?_)
  · refine own_a X15 Y d32_32 rfl rfl ?_
    exact own_al X15 Y d32_33 rfl rfl (Steps.refl _)
  obtain ⟨T28, X28, e28, st28⟩ := own_gF X26 Y hZ hown (tw_ hw 22 rfl) rfl (own_T.f_size Tq26) (g := (mkF m 40 #[vr tm, vr k1, vr d1, vr p1, vi (0 : Int32), vr b11] [(.ref tm), (.ref tm)])) rfl rfl d32_40
  refine own_gs ?_ (own_go st28 ?_)
  · refine own_a X26 Y d32_38 rfl rfl ?_
    exact own_du X26 Y d32_39 rfl rfl (Steps.refl _)
  obtain ⟨T29, h29, X29, e29, W29, st29⟩ := own_pF X28 Y hZ hown (tw_ hw 22 rfl) e28 (own_T.f_size Tq26) (own_T.ex Tq26) (tw_ hw 23 rfl) (tw_ hw 10 rfl) (ty := .int) (by decide) rfl rfl (g := (mkF m 45 #[vr tm, vr k1, vr d1, vr p1, vi (0 : Int32), vr b11] [(.int (sz + (1 : Int32))), (.ref tm)])) rfl rfl d32_45
  have F29 := own_T.s_size hw Tq26 W29
  refine own_gs ?_ (own_go st29 ?_)
  · refine own_ic X28 Y d32_43 ?_
    exact XS.iadd X28.here hx rfl (hb hby d32_44) rfl (Steps.refl _)
  obtain ⟨z30, Zz30, K30, O30, N30⟩ := own_eW W29 Zz27 K27 O27 N26 (own_i 0 rfl) gt
  obtain ⟨T31, X31, e31, st31⟩ := own_gF X29 Y hZ hown (tw_ hw 24 rfl) e29 (own_T.f_modCount F29) (g := (mkF m 50 #[vr tm, vr k1, vr d1, vr p1, vi (0 : Int32), vr b11] [(.ref tm), (.ref tm)])) rfl rfl d32_50
  refine own_gs ?_ (own_go st31 ?_)
  · refine own_a X29 Y d32_48 rfl rfl ?_
    exact own_du X29 Y d32_49 rfl rfl (Steps.refl _)
  obtain ⟨T32, h32, X32, e32, W32, st32⟩ := own_pF X31 Y hZ hown (tw_ hw 24 rfl) e31 (own_T.f_modCount F29) (own_T.ex F29) (tw_ hw 25 rfl) (tw_ hw 10 rfl) (ty := .int) (by decide) rfl rfl (g := (mkF m 55 #[vr tm, vr k1, vr d1, vr p1, vi (0 : Int32), vr b11] [(.int (mc + (1 : Int32))), (.ref tm)])) rfl rfl d32_55
  have F32 := own_T.s_modCount hw F29 W32
  refine own_gs ?_ (own_go st32 ?_)
  · refine own_ic X31 Y d32_53 ?_
    exact XS.iadd X31.here hx rfl (hb hby d32_54) rfl (Steps.refl _)
  obtain ⟨z33, Zz33, K33, O33, N33⟩ := own_eW W32 Zz30 K30 O30 N30 (own_i 0 rfl) gt
  have f34 := ((Aq26.keep (Keep.of_wr W29) (ninS (Ne.symm nc21) nin0)).keep (Keep.of_wr W32) (ninS (Ne.symm nc21) nin0))
  have f35 := ((Bq26.keep (Keep.of_wr W29) (ninS (Ne.symm nc18) nin0)).keep (Keep.of_wr W32) (ninS (Ne.symm nc18) nin0))
  have f37 := (((own_N.ex Gq26).wr W29).wr W32)
  have f38 := (((own_T.ex Tq26).wr W29).wr W32)
  have nc36 : own_Ne g1 tm := ne_exa f37 f38 (by decide)
  have f39 := ((Gq26.keep (Keep.of_wr W29) (ninS nc36 nin0)).keep (Keep.of_wr W32) (ninS nc36 nin0))
  exact own_rV X32 Bd (hb hby d32_58) e32 (⟨_, _, _, rfl, N33, K33, F32, f34, f35, f39, (by omega)⟩) rfl rfl
def own_alRi_Q (Z : State) (tm g1 p1 k1 d1 : Nat) (mc sz : Int32) (kg vg kp vp : Value) (h0 : Heap) (n0 : Nat) (v : Option Value) (h : Heap) (L : List Loc) : Prop := ∃ (n1 : Nat) (mc1 sz1 : Int32), v = none ∧ Fr n0 L ∧ Keep h0 h [tm, g1, p1] ∧ own_T Z h tm (.ref n1) mc1 sz1 ∧ own_N Z h n1 (.ref k1) (.ref d1) (.ref g1) (.ref p1) .null 1 ∧ own_N Z h p1 kp vp .null .null (.ref n1) 0 ∧ own_N Z h g1 kg vg .null .null (.ref n1) 0 ∧ h0.size ≤ n1
theorem ef_own_alRi (m : MethodId) (x0 : Nat) (x1 : Nat) (x2 : Nat) (x3 : Nat) (x4 : Int32) : entryFrame m #[(.ref x0), (.ref x1), (.ref x2), (.ref x3), (.int x4)] 6 = mkF m 0 #[vr x0, vr x1, vr x2, vr x3, vi x4, .unset] [] := by first | (simp [entryFrame, mkF, argsToLocals, Value.category]; done) | rfl
set_option maxRecDepth 65536 in
set_option maxHeartbeats 40000000 in
theorem own_alRi (l : Launch) (Z : State) (a0 : Array Value) (hW : own_W Z a0) (tm g1 p1 k1 d1 : Nat) (mc sz : Int32) (kg vg kp vp : Value) (h0 : Heap) (n0 : Nat) (Z0 : n0 ≤ h0.size) (O0 : Old Z n0 h0) (T1 : own_T Z h0 tm (.ref g1) mc sz) (G1 : own_N Z h0 g1 kg vg .null (.ref p1) .null 1) (P1 : own_N Z h0 p1 kp vp .null .null (.ref g1) 0) (gt : n0 ≤ tm) (gg : n0 ≤ g1) (gp : n0 ≤ p1) (hgp : own_Ne g1 p1) :
    own_MH l own_y33 own_c32 6 none (own_r 2 1 6 44) #[(.ref tm), (.ref k1), (.ref d1), (.ref p1), (.int (1 : Int32))] Z h0 (own_alRi_Q Z tm g1 p1 k1 d1 mc sz kg vg kp vp h0 n0) := by
  refine own_enterH (own := "java/util/TreeMap") rfl (plainFor_of_name pn_java_util_TreeMap) (fun m => ef_own_alRi m tm k1 d1 p1 (1 : Int32)) ?_
  intro p e s m below meth c s₁ Bd hZH hh hx hby hml hown hnm X0 e0
  have hZ := hZH.wide
  have Y := And.intro hx hby
  have hw := hW.1
  have N0 := Fr.nil n0
  have K0 := Keep.refl h0 [tm, g1, p1]
  have lttm := own_lt T1.lt
  have ltg1 := own_lt G1.lt
  have ltp1 := own_lt P1.lt
  obtain ⟨T11, h11, X11, e11, E11, A11, D11, -, st11⟩ := newO X0 hx hZ hown (tw_ hw 155 rfl) (tw_ hw 156 rfl) (tw_ hw 157 rfl) e0 (g := (mkF m 0 #[vr tm, vr k1, vr d1, vr p1, vi (1 : Int32), uu] [])) rfl (hb hby d32_0) (by decide) (by decide)
  obtain ⟨b11, g11⟩ : ∃ z, z = h0.size := ⟨_, rfl⟩
  rw [← g11] at A11 D11 st11
  have lt11 := own_lt A11.lt
  refine own_go st11 ?_
  have z12 := E11.1
  have Zz12 := Nat.le_trans Z0 z12
  have K12 := K0.ext E11
  have O12 := O0.ext E11
  have F11_color : Fld Z h11 b11 "java/util/TreeMap$Entry" "color" "Z" (.int (0 : Int32)) := D11 (Or.inl (tw_ hw 164 rfl)) (ty := .boolean) (by decide)
  have F11_key : Fld Z h11 b11 "java/util/TreeMap$Entry" "key" "Ljava/lang/Object;" .null := D11 (Or.inl (tw_ hw 166 rfl)) (ty := (.object "java/lang/Object")) (by decide)
  have F11_value : Fld Z h11 b11 "java/util/TreeMap$Entry" "value" "Ljava/lang/Object;" .null := D11 (Or.inl (tw_ hw 168 rfl)) (ty := (.object "java/lang/Object")) (by decide)
  have F11_parent : Fld Z h11 b11 "java/util/TreeMap$Entry" "parent" "Ljava/util/TreeMap$Entry;" .null := D11 (Or.inl (tw_ hw 170 rfl)) (ty := (.object "java/util/TreeMap$Entry")) (by decide)
  have F11_right : Fld Z h11 b11 "java/util/TreeMap$Entry" "right" "Ljava/util/TreeMap$Entry;" .null := D11 (Or.inl (tw_ hw 190 rfl)) (ty := (.object "java/util/TreeMap$Entry")) (by decide)
  have F11_left : Fld Z h11 b11 "java/util/TreeMap$Entry" "left" "Ljava/util/TreeMap$Entry;" .null := D11 (Or.inl (tw_ hw 212 rfl)) (ty := (.object "java/util/TreeMap$Entry")) (by decide)
  have P11 : own_N Z h11 b11 .null .null .null .null .null (0 : Int32) := ⟨A11, F11_key, F11_value, F11_left, F11_right, F11_parent, F11_color⟩
  obtain ⟨v13, T13, Lc13, X13, hQ13, st13⟩ := own_make (own_tei1 l Z a0 hW b11 k1 d1 p1 h11 n0 Zz12 O12 P11 (by omega)) X11 Y hZH hown (tw_ hw 158 rfl) (tw_ hw 159 rfl) (tw_ hw 161 rfl) (tw_ hw 157 rfl) (by decide) rfl e11 (a := b11) (g := (mkF m 7 #[vr tm, vr k1, vr d1, vr p1, vi (1 : Int32), uu] [(.ref p1), (.ref d1), (.ref k1), (.ref b11), (.ref b11)])) rfl hml.symm (argsL := [(.ref k1), (.ref d1), (.ref p1)]) (rest := [(.ref b11)]) (lenOf pd_14 rfl) rfl d32_7
  obtain ⟨rfl, Nq13, Kq13, Fq13⟩ := hQ13
  have N13 := Fr.app N0 Nq13
  obtain ⟨z14, Zz14, K14, O14⟩ := own_eK Kq13 Zz12 K12 O12 (allS (Or.inr (by omega)) all0) (allS (by omega) all0)
  refine own_gs ?_ (own_gs st13 ?_)
  · refine own_du X11 Y d32_3 rfl rfl ?_
    refine own_a X11 Y d32_4 rfl rfl ?_
    refine own_a X11 Y d32_5 rfl rfl ?_
    exact own_a X11 Y d32_6 rfl rfl (Steps.refl _)
  have f16 := ((P1.ext E11).keep Kq13 (ninS (own_ne (a := p1) (b := b11) (by omega)) nin0))
  obtain ⟨T15, h15, X15, e15, W15, st15⟩ := own_pF X13 Y hZ hown (tw_ hw 211 rfl) rfl (own_N.f_left f16) (own_N.ex f16) (tw_ hw 212 rfl) (tw_ hw 156 rfl) (ty := (.object "java/util/TreeMap$Entry")) (by decide) rfl rfl (g := (mkF m 20 #[vr tm, vr k1, vr d1, vr p1, vi (1 : Int32), vr b11] [(.ref b11), (.ref p1)])) rfl rfl d32_20
  have F15 := own_N.s_left hw f16 W15
  refine own_gs ?_ (own_go st15 ?_)
  · refine XS.astore X13.here hx rfl (hb hby d32_10) rfl rfl (l' := #[vr tm, vr k1, vr d1, vr p1, vi (1 : Int32), vr b11]) rfl ?_
    refine own_il X13 Y d32_12 rfl ?_
    refine XS.ifNo X13.here hx rfl (hb hby d32_14) rfl ((if0 _ _).trans (feq ((by decide) : ¬ ((1 : Int32) = (0 : Int32)))).1) ?_
    refine own_a X13 Y d32_17 rfl rfl ?_
    exact own_al X13 Y d32_18 rfl rfl (Steps.refl _)
  obtain ⟨z17, Zz17, K17, O17, N17⟩ := own_eW W15 Zz14 K14 O14 N13 (own_i 2 rfl) gp
  have f19 := ((((own_T.ex T1).ext E11).keep Kq13).wr W15)
  have f20 := ((own_N.ex Fq13).wr W15)
  have nc18 : own_Ne tm b11 := ne_exa f19 f20 (by decide)
  have f22 := ((((own_N.ex P1).ext E11).keep Kq13).wr W15)
  have nc21 : own_Ne tm p1 := ne_exa f19 f22 (by decide)
  have f23 := (((T1.ext E11).keep Kq13 (ninS nc18 nin0)).keep (Keep.of_wr W15) (ninS nc21 nin0))
  have f24 := (((G1.ext E11).keep Kq13 (ninS (own_ne (a := g1) (b := b11) (by omega)) nin0)).keep (Keep.of_wr W15) (ninS hgp nin0))
  have f25 := (Fq13.keep (Keep.of_wr W15) (ninS (own_ne (a := b11) (b := p1) (by omega)) nin0))
  obtain ⟨v26, T26, Lc26, X26, hQ26, st26⟩ := own_priv (own_fiRi l Z a0 hW tm g1 p1 b11 mc sz kg vg kp vp (.ref k1) (.ref d1) h15 n0 Zz17 O17 f23 f24 F15 f25 gt gg gp (by omega) hgp (own_ne (by omega)) (own_ne (by omega))) X15 Y hZH hown (tw_ hw 196 rfl) (tw_ hw 197 rfl) (tw_ hw 198 rfl) (own_nf (notFace_of_selects (tw_ hw 109 rfl)) (tw_ hw 108 rfl) rfl) (tw_ hw 200 rfl) (tw_ hw 11 rfl) (by decide) e15 (own_T.ex f23) (g := (mkF m 35 #[vr tm, vr k1, vr d1, vr p1, vi (1 : Int32), vr b11] [(.ref b11), (.ref tm)])) rfl hml.symm (argsL := [(.ref b11)]) (rest := []) (lenOf pd_11 rfl) rfl d32_35
  obtain ⟨rfl, Nq26, Kq26, Tq26, Aq26, Bq26, Gq26⟩ := hQ26
  have N26 := Fr.app N17 Nq26
  obtain ⟨z27, Zz27, K27, O27⟩ := own_eK Kq26 Zz17 K17 O17 (allS (own_i 0 rfl) (allS (own_i 1 rfl) (allS (own_i 2 rfl) (allS (Or.inr (by omega)) all0)))) (allS gt (allS gg (allS gp (allS (by omega) all0))))
  refine own_gs ?_ (own_gs st26 ?_)
  · refine XS.goto X15.here hx rfl (pc0 := 23) (pc' := 32) rfl (hb hby d32_23) (by decide) (by decide) ?_
    refine own_a X15 Y d32_32 rfl rfl ?_
    exact own_al X15 Y d32_33 rfl rfl (Steps.refl _)
  obtain ⟨T28, X28, e28, st28⟩ := own_gF X26 Y hZ hown (tw_ hw 22 rfl) rfl (own_T.f_size Tq26) (g := (mkF m 40 #[vr tm, vr k1, vr d1, vr p1, vi (1 : Int32), vr b11] [(.ref tm), (.ref tm)])) rfl rfl d32_40
  refine own_gs ?_ (own_go st28 ?_)
  · refine own_a X26 Y d32_38 rfl rfl ?_
    exact own_du X26 Y d32_39 rfl rfl (Steps.refl _)
  obtain ⟨T29, h29, X29, e29, W29, st29⟩ := own_pF X28 Y hZ hown (tw_ hw 22 rfl) e28 (own_T.f_size Tq26) (own_T.ex Tq26) (tw_ hw 23 rfl) (tw_ hw 10 rfl) (ty := .int) (by decide) rfl rfl (g := (mkF m 45 #[vr tm, vr k1, vr d1, vr p1, vi (1 : Int32), vr b11] [(.int (sz + (1 : Int32))), (.ref tm)])) rfl rfl d32_45
  have F29 := own_T.s_size hw Tq26 W29
  refine own_gs ?_ (own_go st29 ?_)
  · refine own_ic X28 Y d32_43 ?_
    exact XS.iadd X28.here hx rfl (hb hby d32_44) rfl (Steps.refl _)
  obtain ⟨z30, Zz30, K30, O30, N30⟩ := own_eW W29 Zz27 K27 O27 N26 (own_i 0 rfl) gt
  obtain ⟨T31, X31, e31, st31⟩ := own_gF X29 Y hZ hown (tw_ hw 24 rfl) e29 (own_T.f_modCount F29) (g := (mkF m 50 #[vr tm, vr k1, vr d1, vr p1, vi (1 : Int32), vr b11] [(.ref tm), (.ref tm)])) rfl rfl d32_50
  refine own_gs ?_ (own_go st31 ?_)
  · refine own_a X29 Y d32_48 rfl rfl ?_
    exact own_du X29 Y d32_49 rfl rfl (Steps.refl _)
  obtain ⟨T32, h32, X32, e32, W32, st32⟩ := own_pF X31 Y hZ hown (tw_ hw 24 rfl) e31 (own_T.f_modCount F29) (own_T.ex F29) (tw_ hw 25 rfl) (tw_ hw 10 rfl) (ty := .int) (by decide) rfl rfl (g := (mkF m 55 #[vr tm, vr k1, vr d1, vr p1, vi (1 : Int32), vr b11] [(.int (mc + (1 : Int32))), (.ref tm)])) rfl rfl d32_55
  have F32 := own_T.s_modCount hw F29 W32
  refine own_gs ?_ (own_go st32 ?_)
  · refine own_ic X31 Y d32_53 ?_
    exact XS.iadd X31.here hx rfl (hb hby d32_54) rfl (Steps.refl _)
  obtain ⟨z33, Zz33, K33, O33, N33⟩ := own_eW W32 Zz30 K30 O30 N30 (own_i 0 rfl) gt
  have f34 := ((Aq26.keep (Keep.of_wr W29) (ninS (Ne.symm nc18) nin0)).keep (Keep.of_wr W32) (ninS (Ne.symm nc18) nin0))
  have f35 := ((Bq26.keep (Keep.of_wr W29) (ninS (Ne.symm nc21) nin0)).keep (Keep.of_wr W32) (ninS (Ne.symm nc21) nin0))
  have f37 := (((own_N.ex Gq26).wr W29).wr W32)
  have f38 := (((own_T.ex Tq26).wr W29).wr W32)
  have nc36 : own_Ne g1 tm := ne_exa f37 f38 (by decide)
  have f39 := ((Gq26.keep (Keep.of_wr W29) (ninS nc36 nin0)).keep (Keep.of_wr W32) (ninS nc36 nin0))
  exact own_rV X32 Bd (hb hby d32_58) e32 (⟨_, _, _, rfl, N33, K33, F32, f34, f35, f39, (by omega)⟩) rfl rfl
/-! ## the tree, the deques, the queue -/
def own_Lg (Z : State) (h : Heap) (k : Nat) (x : Int64) : Prop := Exa Z h k "java/lang/Long" ∧ Fld Z h k "java/lang/Long" "value" "J" (.long x)
def own_B1 (Z : State) (h : Heap) (n0 tm r kr : Nat) (x : Int64) (d : Nat) (mc sz : Int32) : Prop := own_T Z h tm (.ref r) mc sz ∧ own_N Z h r (.ref kr) (.ref d) .null .null .null 1 ∧ n0 ≤ r ∧ own_Lg Z h kr x
def own_BL (Z : State) (h : Heap) (n0 tm r c kr kc : Nat) (xr : Int64) (dr : Nat) (xc : Int64) (dc : Nat) (mc sz : Int32) : Prop := own_T Z h tm (.ref r) mc sz ∧ own_N Z h r (.ref kr) (.ref dr) (.ref c) .null .null 1 ∧ own_N Z h c (.ref kc) (.ref dc) .null .null (.ref r) 0 ∧ n0 ≤ r ∧ n0 ≤ c ∧ own_Ne r c ∧ own_Lg Z h kr xr ∧ own_Lg Z h kc xc
def own_BR (Z : State) (h : Heap) (n0 tm r c kr kc : Nat) (xr : Int64) (dr : Nat) (xc : Int64) (dc : Nat) (mc sz : Int32) : Prop := own_T Z h tm (.ref r) mc sz ∧ own_N Z h r (.ref kr) (.ref dr) .null (.ref c) .null 1 ∧ own_N Z h c (.ref kc) (.ref dc) .null .null (.ref r) 0 ∧ n0 ≤ r ∧ n0 ≤ c ∧ own_Ne r c ∧ own_Lg Z h kr xr ∧ own_Lg Z h kc xc
def own_B3 (Z : State) (h : Heap) (n0 tm r a b kr ka kb : Nat) (xr : Int64) (dr : Nat) (xa : Int64) (da : Nat) (xb : Int64) (db : Nat) (mc sz : Int32) : Prop := own_T Z h tm (.ref r) mc sz ∧ own_N Z h r (.ref kr) (.ref dr) (.ref a) (.ref b) .null 1 ∧ own_N Z h a (.ref ka) (.ref da) .null .null (.ref r) 0 ∧ own_N Z h b (.ref kb) (.ref db) .null .null (.ref r) 0 ∧ n0 ≤ r ∧ n0 ≤ a ∧ n0 ≤ b ∧ own_Ne r a ∧ own_Ne r b ∧ own_Ne a b ∧ own_Lg Z h kr xr ∧ own_Lg Z h ka xa ∧ own_Lg Z h kb xb
/-- the map holds these keys, in their order, with these deques -/
def own_Tr (Z : State) (h : Heap) (n0 tm : Nat) : List (Int64 × Nat) → Prop
  | [] => n0 ≤ tm ∧ ∃ mc sz, own_T Z h tm .null mc sz
  | [(x, d)] => n0 ≤ tm ∧ ∃ r kr mc sz, own_B1 Z h n0 tm r kr x d mc sz
  | [(x, d), (y, f)] => n0 ≤ tm ∧ x < y ∧ ∃ r c kr kc mc sz, own_BL Z h n0 tm r c kr kc y f x d mc sz ∨ own_BR Z h n0 tm r c kr kc x d y f mc sz
  | [(x, d), (y, f), (z, g)] => n0 ≤ tm ∧ x < y ∧ y < z ∧ ∃ r a b kr ka kb mc sz, own_B3 Z h n0 tm r a b kr ka kb y f x d z g mc sz
  | _ => False
def own_off (Z : State) (h : Heap) (ws : List Addr) : Prop := ∀ (a : Nat) (C : String), Exa Z h a C → C = "java/util/TreeMap" ∨ C = "java/util/TreeMap$Entry" ∨ C = "java/lang/Long" → a ∉ ws
def own_KT (Z : State) (n0 : Nat) (h h' : Heap) : Prop := ∃ ws : List Addr, Keep h h' ws ∧ ∀ w ∈ ws, n0 ≤ w ∧ (Exa Z h w "java/util/TreeMap" ∨ Exa Z h w "java/util/TreeMap$Entry")
def own_Et (Z : State) (n0 : Nat) (h : Heap) (e : Nat) : Prop := n0 ≤ e ∧ Exa Z h e "com/example/capow/capow/service/AdmissionQueue$Entry" ∧ (∃ r : Int32, Fld Z h e "com/example/capow/capow/service/AdmissionQueue$Entry" "removed" "Z" (.int r)) ∧ ∃ q : Nat, Fld Z h e "com/example/capow/capow/service/AdmissionQueue$Entry" "request" "Ljava/lang/Object;" (.ref q)
def own_Go (Z : State) (n0 : Nat) (h h' : Heap) : Prop := ∀ e, own_Et Z n0 h e → own_Et Z n0 h' e
/-- the deque d, with its array t, holds c entries; at most B have ever come -/
def own_Qd (Z : State) (h : Heap) (n0 B d t c : Nat) : Prop := ∃ (k : ClassId) (a b : Nat) (vs : List Value), own_D Z h d t k a b vs ∧ vs.length = 17 ∧ a + c = b ∧ b ≤ B ∧ n0 ≤ d ∧ n0 ≤ t ∧ ∀ i, a ≤ i → i < b → ∃ e : Nat, vs.getD i .null = .ref e ∧ own_Et Z n0 h e
def own_Ds (Z : State) (h : Heap) (n0 B : Nat) (M : List (Nat × Nat × Nat)) : Prop := (∀ m ∈ M, own_Qd Z h n0 B m.1 m.2.1 m.2.2) ∧ (M.map (·.1)).Nodup ∧ (M.map (·.2.1)).Nodup
abbrev own_kd (M : List (Int64 × Nat × Nat × Nat)) : List (Int64 × Nat) := M.map fun m => (m.1, m.2.1)
abbrev own_dd (M : List (Int64 × Nat × Nat × Nat)) : List (Nat × Nat × Nat) := M.map fun m => m.2
abbrev own_sm (M : List (Int64 × Nat × Nat × Nat)) : Nat := (M.map fun m => m.2.2.2).sum
section OwnTr
variable {Z : State} {h h' : Heap} {n0 tm d t c e B B' : Nat} {k : ClassId} {a b : Nat} {vs : List Value} {ws : List Addr} {a0 : Array Value}
theorem own_Lg.keep {k : Nat} {x : Int64} (F : own_Lg Z h k x) (K : Keep h h' ws) (q : k ∉ ws) : own_Lg Z h' k x := ⟨F.1.keep K, F.2.keep K q⟩
theorem own_Lg.kt {k : Nat} {x : Int64} (F : own_Lg Z h k x) (K : own_KT Z n0 h h') : own_Lg Z h' k x := by
  obtain ⟨ws, K, q⟩ := K
  exact F.keep K fun m => (q _ m).2.elim (fun G => ne_exa F.1 G (by decide) rfl) fun G => ne_exa F.1 G (by decide) rfl
theorem own_Tr.keep {M : List (Int64 × Nat)} (F : own_Tr Z h n0 tm M) (K : Keep h h' ws) (q : own_off Z h ws) : own_Tr Z h' n0 tm M := by
  have qT : ∀ {e root mc sz}, own_T Z h e root mc sz → own_T Z h' e root mc sz := fun F => F.keep K (q _ _ F.1 (Or.inl rfl))
  have qN : ∀ {e kk vv ll rr pp c}, own_N Z h e kk vv ll rr pp c → own_N Z h' e kk vv ll rr pp c := fun F => F.keep K (q _ _ F.1 (Or.inr (Or.inl rfl)))
  have qL : ∀ {k x}, own_Lg Z h k x → own_Lg Z h' k x := fun F => F.keep K (q _ _ F.1 (Or.inr (Or.inr rfl)))
  match M, F with
  | [], ⟨g, mc, sz, F⟩ => exact ⟨g, mc, sz, qT F⟩
  | [(_, _)], ⟨g, r, kr, mc, sz, f1, f2, f3, f4⟩ => exact ⟨g, r, kr, mc, sz, qT f1, qN f2, f3, qL f4⟩
  | [(_, _), (_, _)], ⟨g, hx, r, c, kr, kc, mc, sz, F⟩ =>
    refine ⟨g, hx, r, c, kr, kc, mc, sz, ?_⟩
    rcases F with ⟨f1, f2, f3, f4, f5, f6, f7, f8⟩ | ⟨f1, f2, f3, f4, f5, f6, f7, f8⟩
    · exact Or.inl ⟨qT f1, qN f2, qN f3, f4, f5, f6, qL f7, qL f8⟩
    · exact Or.inr ⟨qT f1, qN f2, qN f3, f4, f5, f6, qL f7, qL f8⟩
  | [(_, _), (_, _), (_, _)], ⟨g, hx, hy, r, a, b, kr, ka, kb, mc, sz, f1, f2, f3, f4, f5, f6, f7, f8, f9, f10, f11, f12, f13⟩ =>
    exact ⟨g, hx, hy, r, a, b, kr, ka, kb, mc, sz, qT f1, qN f2, qN f3, qN f4, f5, f6, f7, f8, f9, f10, qL f11, qL f12, qL f13⟩
  | _ :: _ :: _ :: _ :: _, F => exact False.elim F
theorem own_off.nil : own_off Z h [] := fun _ _ _ _ m => nomatch m
theorem own_off.one {q : Nat} {C : String} (E : Exa Z h q C) (hc : ¬ (C = "java/util/TreeMap" ∨ C = "java/util/TreeMap$Entry" ∨ C = "java/lang/Long")) : own_off Z h [q] := fun a C' E' tc m => by
  cases List.mem_singleton.mp m
  refine ne_exa E' E ?_ rfl
  rintro rfl
  exact hc tc
theorem own_arrNe {C D : String} {kk : Nat} {ty : FieldType} {n : Int32} {dv : Value} (wi : (Cond.instantiable C kk).before a0 Z = true) (V : Arv Z h t k ty n vs dv) (ov : Ovr Z k D) (E : Exa Z h e C) : t ≠ e := by
  rintro rfl
  obtain ⟨c, ⟨h1, -, -⟩, rfl, -⟩ := V
  obtain ⟨cell, k', e1, e2, e3, -, -⟩ := E
  cases h1.symm.trans e1
  obtain ⟨kA, comp, o1, o2, -⟩ := ov
  obtain ⟨c2, k2, i1, i2, i3, -⟩ := Cond.instantiable_spec wi
  cases e2.symm.trans i1
  cases o1.symm.trans i2
  rw [o2] at i3
  cases i3
theorem own_D.ne (hw : ∀ d ∈ tables_1, d.before a0 Z = true) (F : own_D Z h d t k a b vs) : d ≠ t := (own_arrNe (tw_ hw 31 rfl) F.2.2.2.2.1 F.2.2.2.2.2 F.1).symm
theorem own_D.off (hw : ∀ d ∈ tables_1, d.before a0 Z = true) (F : own_D Z h d t k a b vs) : own_off Z h [d, t] := fun x C E tc m => by
  rcases List.mem_cons.mp m with rfl | m
  · rcases tc with rfl | rfl | rfl <;> exact ne_exa E F.1 (by decide) rfl
  · cases List.mem_singleton.mp m
    rcases tc with rfl | rfl | rfl
    · exact own_arrNe (tw_ hw 10 rfl) F.2.2.2.2.1 F.2.2.2.2.2 E rfl
    · exact own_arrNe (tw_ hw 156 rfl) F.2.2.2.2.1 F.2.2.2.2.2 E rfl
    · exact own_arrNe (tw_ hw 89 rfl) F.2.2.2.2.1 F.2.2.2.2.2 E rfl
theorem own_KT.old (K : own_KT Z n0 h h') (O : Old Z n0 h) : Old Z n0 h' := by
  obtain ⟨ws, K, q⟩ := K
  exact O.keep K fun x hx => (q x hx).1
theorem own_KT.size (K : own_KT Z n0 h h') : h.size ≤ h'.size := by
  obtain ⟨ws, K, q⟩ := K
  exact K.1
theorem own_KT.exa {C : String} (K : own_KT Z n0 h h') (E : Exa Z h e C) : Exa Z h' e C := by
  obtain ⟨ws, K, q⟩ := K
  exact E.keep K
theorem own_KT.fld {C O f ds : String} {v : Value} (K : own_KT Z n0 h h') (F : Fld Z h e O f ds v) (E : Exa Z h e C) (h1 : C ≠ "java/util/TreeMap") (h2 : C ≠ "java/util/TreeMap$Entry") : Fld Z h' e O f ds v := by
  obtain ⟨ws, K, q⟩ := K
  exact F.keep K fun m => (q _ m).2.elim (fun G => ne_exa E G h1 rfl) fun G => ne_exa E G h2 rfl
theorem own_KT.dq (hw : ∀ d ∈ tables_1, d.before a0 Z = true) (K : own_KT Z n0 h h') (F : own_D Z h d t k a b vs) : own_D Z h' d t k a b vs := by
  obtain ⟨ws, K, q⟩ := K
  refine F.keep K (fun m => (q _ m).2.elim (fun G => ne_exa F.1 G (by decide) rfl) fun G => ne_exa F.1 G (by decide) rfl) (fun m => (q _ m).2.elim (fun G => ?_) fun G => ?_)
  · exact own_arrNe (tw_ hw 10 rfl) F.2.2.2.2.1 F.2.2.2.2.2 G rfl
  · exact own_arrNe (tw_ hw 156 rfl) F.2.2.2.2.1 F.2.2.2.2.2 G rfl
theorem own_Go.keep (K : Keep h h' ws) (q : ∀ e, Exa Z h e "com/example/capow/capow/service/AdmissionQueue$Entry" → e ∉ ws) : own_Go Z n0 h h' := fun e ⟨gE, E, ⟨r, F⟩, w, G⟩ => ⟨gE, E.keep K, ⟨r, F.keep K (q e E)⟩, w, G.keep K (q e E)⟩
theorem own_Go.kt (K : own_KT Z n0 h h') : own_Go Z n0 h h' := fun e ⟨gE, E, ⟨r, F⟩, w, G⟩ => ⟨gE, K.exa E, ⟨r, K.fld F E (by decide) (by decide)⟩, w, K.fld G E (by decide) (by decide)⟩
theorem own_Go.one {q : Nat} {C : String} (K : Keep h h' [q]) (E : Exa Z h q C) (hc : C ≠ "com/example/capow/capow/service/AdmissionQueue$Entry") : own_Go Z n0 h h' := own_Go.keep K fun e E' m => by
  cases List.mem_singleton.mp m
  exact ne_exa E E' hc rfl
theorem own_Go.dq (hw : ∀ d ∈ tables_1, d.before a0 Z = true) (F : own_D Z h d t k a b vs) (K : Keep h h' [d, t]) : own_Go Z n0 h h' := own_Go.keep K fun e E m => by
  rcases List.mem_cons.mp m with rfl | m
  · exact ne_exa E F.1 (by decide) rfl
  · cases List.mem_singleton.mp m
    exact own_arrNe (tw_ hw 71 rfl) F.2.2.2.2.1 F.2.2.2.2.2 E rfl
theorem own_Go.wr (hw : ∀ d ∈ tables_1, d.before a0 Z = true) {x : Int32} (W : Wr h h' e (RoadKit.slotOf Z "com/example/capow/capow/service/AdmissionQueue$Entry" "removed" "Z") (.int x)) : own_Go Z n0 h h' := fun y ⟨gE, E, ⟨r, F⟩, w, G⟩ => by
  by_cases q : y = e
  · subst q
    exact ⟨gE, E.wr W, ⟨_, F.same W⟩, w, G.other W (Or.inr (slot_ne (Or.inr (tw_ hw 78 rfl)) (Or.inl (tw_ hw 304 rfl)) (by decide) (t := (.object "java/lang/Object")) (t' := .boolean) (by decide) (by decide)))⟩
  · exact ⟨gE, E.wr W, ⟨r, F.other W (Or.inl q)⟩, w, G.other W (Or.inl q)⟩
theorem own_Qd.keep (F : own_Qd Z h n0 B d t c) (K : Keep h h' ws) (q1 : d ∉ ws) (q2 : t ∉ ws) (G : own_Go Z n0 h h') (hB : B ≤ B') : own_Qd Z h' n0 B' d t c := by
  obtain ⟨k, a, b, vs, D, f1, f2, f3, f4, f5, f6⟩ := F
  refine ⟨k, a, b, vs, D.keep K q1 q2, f1, f2, Nat.le_trans f3 hB, f4, f5, fun i hi hj => ?_⟩
  obtain ⟨e, g1, g2⟩ := f6 i hi hj
  exact ⟨e, g1, G e g2⟩
theorem own_Qd.kt (hw : ∀ d ∈ tables_1, d.before a0 Z = true) (F : own_Qd Z h n0 B d t c) (K : own_KT Z n0 h h') : own_Qd Z h' n0 B d t c := by
  obtain ⟨k, a, b, vs, D, f1, f2, f3, f4, f5, f6⟩ := F
  refine ⟨k, a, b, vs, K.dq hw D, f1, f2, f3, f4, f5, fun i hi hj => ?_⟩
  obtain ⟨e, g1, g2⟩ := f6 i hi hj
  exact ⟨e, g1, own_Go.kt K e g2⟩
theorem own_Qd.ex (F : own_Qd Z h n0 B d t c) : Exa Z h d "java/util/ArrayDeque" := by
  obtain ⟨k, a, b, vs, D, -⟩ := F
  exact D.1
theorem own_Qd.lt (F : own_Qd Z h n0 B d t c) : d < h.size ∧ t < h.size := by
  obtain ⟨k, a, b, vs, D, -⟩ := F
  exact D.lt
theorem own_Qd.ge (F : own_Qd Z h n0 B d t c) : n0 ≤ d ∧ n0 ≤ t := by
  obtain ⟨k, a, b, vs, D, f1, f2, f3, f4, f5, f6⟩ := F
  exact ⟨f4, f5⟩
theorem own_Qd.off (hw : ∀ d ∈ tables_1, d.before a0 Z = true) (F : own_Qd Z h n0 B d t c) : own_off Z h [d, t] := by
  obtain ⟨k, a, b, vs, D, -⟩ := F
  exact D.off hw
theorem own_Qd.oneNe (hw : ∀ d ∈ tables_1, d.before a0 Z = true) (F : own_Qd Z h n0 B d t c) {d' t' c' : Nat} (F' : own_Qd Z h n0 B' d' t' c') : d' ≠ t ∧ t' ≠ d := by
  obtain ⟨k, a, b, vs, D, -⟩ := F
  obtain ⟨k', a', b', vs', D', -⟩ := F'
  exact ⟨(own_arrNe (tw_ hw 31 rfl) D.2.2.2.2.1 D.2.2.2.2.2 D'.1).symm, own_arrNe (tw_ hw 31 rfl) D'.2.2.2.2.1 D'.2.2.2.2.2 D.1⟩
theorem own_Qd.one (hw : ∀ d ∈ tables_1, d.before a0 Z = true) (F : own_Qd Z h n0 B d t c) {q : Nat} (K : Keep h h' [q]) (G : own_Go Z n0 h h') (E : Exa Z h q "com/example/capow/capow/service/AdmissionQueue" ∨ Exa Z h q "com/example/capow/capow/service/AdmissionQueue$Entry") : own_Qd Z h' n0 B d t c := by
  obtain ⟨k, a, b, vs, D, hr⟩ := id F
  refine F.keep K (fun m => ?_) (fun m => ?_) G (Nat.le_refl _)
  · cases List.mem_singleton.mp m
    rcases E with E | E <;> exact ne_exa D.1 E (by decide) rfl
  · cases List.mem_singleton.mp m
    rcases E with E | E
    · exact own_arrNe (tw_ hw 1 rfl) D.2.2.2.2.1 D.2.2.2.2.2 E rfl
    · exact own_arrNe (tw_ hw 71 rfl) D.2.2.2.2.1 D.2.2.2.2.2 E rfl
variable {M A R : List (Nat × Nat × Nat)}
theorem own_Ds.all (F : own_Ds Z h n0 B M) (G : ∀ d t c, own_Qd Z h n0 B d t c → own_Qd Z h' n0 B' d t c) : own_Ds Z h' n0 B' M := ⟨fun m hm => G _ _ _ (F.1 m hm), F.2.1, F.2.2⟩
theorem own_Ds.kt (hw : ∀ d ∈ tables_1, d.before a0 Z = true) (F : own_Ds Z h n0 B M) (K : own_KT Z n0 h h') : own_Ds Z h' n0 B M := F.all fun _ _ _ Q => Q.kt hw K
theorem own_Ds.one (hw : ∀ d ∈ tables_1, d.before a0 Z = true) (F : own_Ds Z h n0 B M) {q : Nat} (K : Keep h h' [q]) (G : own_Go Z n0 h h') (E : Exa Z h q "com/example/capow/capow/service/AdmissionQueue" ∨ Exa Z h q "com/example/capow/capow/service/AdmissionQueue$Entry") : own_Ds Z h' n0 B M := F.all fun _ _ _ Q => Q.one hw K G E
theorem own_Ds.at (F : own_Ds Z h n0 B (A ++ (d, t, c) :: R)) : own_Qd Z h n0 B d t c := F.1 (d, t, c) (List.mem_append.mpr (Or.inr (List.mem_cons_self ..)))
theorem own_nd {f : Nat × Nat × Nat → Nat} {x : Nat × Nat × Nat} (h : ((A ++ x :: R).map f).Nodup) : (∀ m ∈ A, f m ≠ f x) ∧ ∀ m ∈ R, f m ≠ f x := by
  rw [List.map_append, List.map_cons, List.nodup_append, List.nodup_cons] at h
  refine ⟨fun m hm => h.2.2 _ (List.mem_map.mpr ⟨m, hm, rfl⟩) _ (List.mem_cons_self ..), fun m hm q => h.2.1.1 ?_⟩
  rw [← q]
  exact List.mem_map.mpr ⟨m, hm, rfl⟩
theorem own_Ds.upd (hw : ∀ d ∈ tables_1, d.before a0 Z = true) {c' : Nat} (F : own_Ds Z h n0 B (A ++ (d, t, c) :: R)) (K : Keep h h' [d, t]) (G : own_Go Z n0 h h') (Q : own_Qd Z h' n0 B' d t c') (hB : B ≤ B') : own_Ds Z h' n0 B' (A ++ (d, t, c') :: R) := by
  have n1 := own_nd F.2.1
  have n2 := own_nd (f := (·.2.1)) F.2.2
  have q0 : ∀ m : Nat × Nat × Nat, own_Qd Z h n0 B m.1 m.2.1 m.2.2 → m.1 ≠ d → m.2.1 ≠ t → own_Qd Z h' n0 B' m.1 m.2.1 m.2.2 := fun m hm h1 h2 => by
    have := F.at.oneNe hw hm
    exact hm.keep K (ninS h1 (ninS this.1 nin0)) (ninS this.2 (ninS h2 nin0)) G hB
  refine ⟨fun m hm => ?_, by simpa using F.2.1, by simpa using F.2.2⟩
  rcases List.mem_append.mp hm with hm | hm
  · exact q0 m (F.1 m (List.mem_append.mpr (Or.inl hm))) (n1.1 m hm) (n2.1 m hm)
  · rcases List.mem_cons.mp hm with rfl | hm
    · exact Q
    · exact q0 m (F.1 m (List.mem_append.mpr (Or.inr (List.mem_cons_of_mem _ hm)))) (n1.2 m hm) (n2.2 m hm)
theorem own_nodup_ins {α : Type} {x : α} {A R : List α} (h : (A ++ R).Nodup) (q : x ∉ A ++ R) : (A ++ x :: R).Nodup := by
  rw [List.nodup_append] at h ⊢
  rw [List.mem_append] at q
  refine ⟨h.1, List.nodup_cons.mpr ⟨fun m => q (Or.inr m), h.2.1⟩, fun a ha b hb => ?_⟩
  rcases List.mem_cons.mp hb with rfl | hb
  · rintro rfl
    exact q (Or.inl ha)
  · exact h.2.2 a ha b hb
theorem own_Ds.ins (F : own_Ds Z h n0 B (A ++ R)) (Q : own_Qd Z h n0 B d t c) (h1 : ∀ m ∈ A ++ R, m.1 ≠ d) (h2 : ∀ m ∈ A ++ R, m.2.1 ≠ t) : own_Ds Z h n0 B (A ++ (d, t, c) :: R) := by
  refine ⟨fun m hm => ?_, ?_, ?_⟩
  · rcases List.mem_append.mp hm with hm | hm
    · exact F.1 m (List.mem_append.mpr (Or.inl hm))
    · rcases List.mem_cons.mp hm with rfl | hm
      · exact Q
      · exact F.1 m (List.mem_append.mpr (Or.inr hm))
  · have := F.2.1
    rw [List.map_append] at this
    rw [List.map_append, List.map_cons]
    refine own_nodup_ins this fun q => ?_
    rw [← List.map_append] at q
    obtain ⟨m, hm, e⟩ := List.mem_map.mp q
    exact h1 m hm e
  · have := F.2.2
    rw [List.map_append] at this
    rw [List.map_append, List.map_cons]
    refine own_nodup_ins this fun q => ?_
    rw [← List.map_append] at q
    obtain ⟨m, hm, e⟩ := List.mem_map.mp q
    exact h2 m hm e
theorem own_Ds.del (F : own_Ds Z h n0 B (A ++ (d, t, c) :: R)) : own_Ds Z h n0 B (A ++ R) := by
  have s : (A ++ R).Sublist (A ++ (d, t, c) :: R) := List.Sublist.append (List.Sublist.refl _) (List.sublist_cons_self _ _)
  exact ⟨fun m hm => F.1 m (s.subset hm), F.2.1.sublist (s.map _), F.2.2.sublist (s.map _)⟩
theorem own_Qd.new (D : own_D Z h d t k 0 0 (List.replicate 17 .null)) (h1 : n0 ≤ d) (h2 : n0 ≤ t) : own_Qd Z h n0 B d t 0 := ⟨k, 0, 0, _, D, by simp, rfl, Nat.zero_le _, h1, h2, fun i h1 h2 => absurd h2 (Nat.not_lt.mpr h1)⟩
/-- what comes of computeIfAbsent -/
def own_CI (Z : State) (n0 : Nat) (h0 : Heap) (tm : Nat) (x : Int64) (M : List (Int64 × Nat)) (v : Option Value) (h : Heap) (L : List Loc) : Prop := ∃ d : Nat, v = some (.ref d) ∧ Fr n0 L ∧ own_KT Z n0 h0 h ∧ ((own_Tr Z h n0 tm M ∧ (x, d) ∈ M) ∨ ∃ (t : Nat) (k : ClassId) (A R : List (Int64 × Nat)), M = A ++ R ∧ own_Tr Z h n0 tm (A ++ (x, d) :: R) ∧ own_D Z h d t k 0 0 (List.replicate 17 .null) ∧ h0.size ≤ d ∧ h0.size ≤ t)
theorem own_CI.join (hw : ∀ d ∈ tables_1, d.before a0 Z = true) {bd bt cb : Nat} {x : Int64} {M : List (Int64 × Nat × Nat × Nat)} {v : Option Value} {L : List Loc} (hz : n0 ≤ h.size) (F : own_Ds Z h n0 B ((bd, bt, cb) :: own_dd M)) (hp : ∀ m ∈ M, 0 < m.2.2.2) (C : own_CI Z n0 h tm x (own_kd M) v h' L) :
    ∃ (A R : List (Int64 × Nat × Nat × Nat)) (d t c : Nat), v = some (.ref d) ∧ Fr n0 L ∧ own_KT Z n0 h h' ∧ own_Tr Z h' n0 tm (own_kd A ++ (x, d) :: own_kd R) ∧ own_Ds Z h' n0 B ((bd, bt, cb) :: (own_dd A ++ (d, t, c) :: own_dd R)) ∧ (∀ m ∈ A ++ R, 0 < m.2.2.2) ∧ own_sm M = own_sm (A ++ R) + c := by
  obtain ⟨d, rfl, hN, K, C⟩ := C
  rcases C with ⟨T, hm⟩ | ⟨t, k, A', R', eM, T, D, g1, g2⟩
  · obtain ⟨m, hm2, e⟩ := List.mem_map.mp hm
    obtain ⟨x', d', t', c'⟩ := m
    cases e
    obtain ⟨A, R, rfl⟩ := List.append_of_mem hm2
    refine ⟨A, R, d', t', c', rfl, hN, K, by simpa [own_kd] using T, by simpa [own_dd] using F.kt hw K, fun m hm => hp m ?_, ?_⟩
    · rcases List.mem_append.mp hm with h | h
      · exact List.mem_append.mpr (Or.inl h)
      · exact List.mem_append.mpr (Or.inr (List.mem_cons_of_mem _ h))
    · simp [own_sm]
      omega
  · obtain ⟨A, R, rfl, rfl, rfl⟩ := List.map_eq_append_iff.mp eM
    have F' := F.kt hw K
    refine ⟨A, R, d, t, 0, rfl, hN, K, T, ?_, hp, by simp [own_sm]⟩
    have e2 : (bd, bt, cb) :: own_dd (A ++ R) = ((bd, bt, cb) :: own_dd A) ++ own_dd R := by simp [own_dd]
    rw [e2] at F F'
    refine own_Ds.ins (A := (bd, bt, cb) :: own_dd A) F' (own_Qd.new D (Nat.le_trans hz g1) (Nat.le_trans hz g2)) (fun m hm => ?_) (fun m hm => ?_)
    · exact Nat.ne_of_lt (Nat.lt_of_lt_of_le (F.1 m hm).lt.1 g1)
    · exact Nat.ne_of_lt (Nat.lt_of_lt_of_le (F.1 m hm).lt.2 g2)
def own_RM (Z : State) (n0 : Nat) (h0 : Heap) (tm : Nat) (M : List (Int64 × Nat)) (v : Option Value) (h : Heap) (L : List Loc) : Prop := (∃ d : Nat, v = some (.ref d)) ∧ Fr n0 L ∧ own_KT Z n0 h0 h ∧ own_Tr Z h n0 tm M
theorem own_Tr.ex {M : List (Int64 × Nat)} (F : own_Tr Z h n0 tm M) : Exa Z h tm "java/util/TreeMap" := by
  match M, F with
  | [], ⟨g, mc, sz, F⟩ => exact F.1
  | [(_, _)], ⟨g, r, kr, mc, sz, f1, _⟩ => exact f1.1
  | [(_, _), (_, _)], ⟨g, hx, r, c, kr, kc, mc, sz, Or.inl F⟩ => exact F.1.1
  | [(_, _), (_, _)], ⟨g, hx, r, c, kr, kc, mc, sz, Or.inr F⟩ => exact F.1.1
  | [(_, _), (_, _), (_, _)], ⟨g, hx, hy, r, a, b, kr, ka, kb, mc, sz, f1, _⟩ => exact f1.1
  | _ :: _ :: _ :: _ :: _, F => exact False.elim F
theorem own_Et.keep (F : own_Et Z n0 h e) (K : Keep h h' ws) (q : e ∉ ws) : own_Et Z n0 h' e := by
  obtain ⟨g, E, ⟨r, F⟩, w, G⟩ := F
  exact ⟨g, E.keep K, ⟨r, F.keep K q⟩, w, G.keep K q⟩
theorem own_Ds.nil (F : own_Ds Z h n0 B M) (K : Keep h h' []) : own_Ds Z h' n0 B M := F.all fun _ _ _ Q => Q.keep K nin0 nin0 (own_Go.keep K fun _ _ => nin0) (Nat.le_refl _)
theorem own_Qd.le (F : own_Qd Z h n0 B d t c) : c ≤ B := by
  obtain ⟨k, a, b, vs, D, f1, f2, f3, f4, f5, f6⟩ := F
  omega
theorem own_Qd.ninQ (hw : ∀ d ∈ tables_1, d.before a0 Z = true) (F : own_Qd Z h n0 B d t c) {q : Nat} (E : Exa Z h q "com/example/capow/capow/service/AdmissionQueue") : q ∉ [d, t] := by
  obtain ⟨k, a, b, vs, D, -⟩ := F
  exact ninS (ne_exa E D.1 (by decide)) (ninS (own_arrNe (tw_ hw 1 rfl) D.2.2.2.2.1 D.2.2.2.2.2 E).symm nin0)
theorem own_Ds.single (Q : own_Qd Z h n0 B d t c) : own_Ds Z h n0 B [(d, t, c)] := ⟨fun m hm => by cases List.mem_singleton.mp hm; exact Q, by simp, by simp⟩
theorem own_len {M : List (Int64 × Nat × Nat × Nat)} (hp : ∀ m ∈ M, 0 < m.2.2.2) : (own_kd M).length ≤ own_sm M := by
  induction M with
  | nil => exact Nat.le_refl _
  | cons m M ih =>
    have h1 := hp m (List.mem_cons_self ..)
    have h2 := ih fun x hx => hp x (List.mem_cons_of_mem _ hx)
    simp only [own_kd, own_sm, List.map_cons, List.length_cons, List.sum_cons, List.length_map] at h2 ⊢
    omega
theorem own_first {bd bt cb n : Nat} {x : Int64} {A R : List (Int64 × Nat × Nat × Nat)} (T : own_Tr Z h n0 tm (own_kd A ++ (x, d) :: own_kd R)) (D : own_Ds Z h n0 B ((bd, bt, cb) :: (own_dd A ++ (d, t, c + 1) :: own_dd R))) (hp : ∀ m ∈ A ++ R, 0 < m.2.2.2) (hs : own_sm (A ++ R) + c = n) :
    ∃ (x1 : Int64) (d1 t1 c1 : Nat) (M1 : List (Int64 × Nat × Nat × Nat)), own_Tr Z h n0 tm ((x1, d1) :: own_kd M1) ∧ own_Ds Z h n0 B ((bd, bt, cb) :: (d1, t1, c1 + 1) :: own_dd M1) ∧ (∀ m ∈ M1, 0 < m.2.2.2) ∧ own_sm M1 + c1 = n := by
  cases A with
  | nil => exact ⟨x, d, t, c, R, T, D, hp, hs⟩
  | cons m A =>
    obtain ⟨x1, d1, t1, c1⟩ := m
    have h1 : 0 < c1 := hp _ (List.mem_cons_self ..)
    obtain ⟨c2, rfl⟩ : ∃ c2, c1 = c2 + 1 := ⟨c1 - 1, by omega⟩
    refine ⟨x1, d1, t1, c2, A ++ (x, d, t, c + 1) :: R, by simpa [own_kd] using T, by simpa [own_dd] using D, fun m hm => ?_, ?_⟩
    · rcases List.mem_append.mp hm with q | q
      · exact hp m (List.mem_cons_of_mem _ (List.mem_append.mpr (Or.inl q)))
      · rcases List.mem_cons.mp q with rfl | q
        · exact Nat.succ_pos _
        · exact hp m (List.mem_cons_of_mem _ (List.mem_append.mpr (Or.inr q)))
    · simp [own_sm] at hs ⊢
      omega
theorem own_last {bd bt cb n : Nat} {M : List (Int64 × Nat × Nat × Nat)} (T : own_Tr Z h n0 tm (own_kd M)) (D : own_Ds Z h n0 B ((bd, bt, cb) :: own_dd M)) (hp : ∀ m ∈ M, 0 < m.2.2.2) (hs : own_sm M = n + 1) :
    ∃ (x1 : Int64) (d1 t1 c1 : Nat) (M1 : List (Int64 × Nat × Nat × Nat)), own_Tr Z h n0 tm (own_kd M1 ++ [(x1, d1)]) ∧ own_Ds Z h n0 B ((bd, bt, cb) :: (own_dd M1 ++ [(d1, t1, c1 + 1)])) ∧ (∀ m ∈ M1 ++ [], 0 < m.2.2.2) ∧ own_sm (M1 ++ []) + c1 = n := by
  rcases List.eq_nil_or_concat M with rfl | ⟨M1, ⟨x1, d1, t1, c1⟩, eM⟩
  · simp [own_sm] at hs
  · rw [List.concat_eq_append] at eM
    subst eM
    have h1 : 0 < c1 := hp (x1, d1, t1, c1) (List.mem_append.mpr (Or.inr (List.mem_cons_self ..)))
    obtain ⟨c2, rfl⟩ : ∃ c2, c1 = c2 + 1 := ⟨c1 - 1, by omega⟩
    refine ⟨x1, d1, t1, c2, M1, by simpa [own_kd] using T, by simpa [own_dd] using D, fun m hm => hp m (List.mem_append.mpr (Or.inl (by simpa using hm))), ?_⟩
    simp [own_sm] at hs ⊢
    omega
end OwnTr
/-- the queue: its depth, its size, how many were added -/
def own_AQ (Z : State) (h : Heap) (n0 q : Nat) (dp : Int64) (n B : Nat) : Prop := ∃ (tm bd bt cb : Nat) (M : List (Int64 × Nat × Nat × Nat)), n0 ≤ q ∧ Exa Z h q "com/example/capow/capow/service/AdmissionQueue" ∧ Fld Z h q "com/example/capow/capow/service/AdmissionQueue" "byEffort" "Ljava/util/TreeMap;" (.ref tm) ∧ Fld Z h q "com/example/capow/capow/service/AdmissionQueue" "byArrival" "Ljava/util/ArrayDeque;" (.ref bd) ∧ Fld Z h q "com/example/capow/capow/service/AdmissionQueue" "depth" "J" (.long dp) ∧ Fld Z h q "com/example/capow/capow/service/AdmissionQueue" "size" "J" (.long (Int64.ofNat n)) ∧ own_Tr Z h n0 tm (own_kd M) ∧ own_Ds Z h n0 B ((bd, bt, cb) :: own_dd M) ∧ (∀ m ∈ M, 0 < m.2.2.2) ∧ own_sm M = n
/-- the same; the key x is the first or the last -/
def own_AX (Z : State) (h : Heap) (n0 q : Nat) (dp : Int64) (n B : Nat) (x : Int64) : Prop := ∃ (tm bd bt cb : Nat) (A R : List (Int64 × Nat × Nat × Nat)) (d t c : Nat), n0 ≤ q ∧ Exa Z h q "com/example/capow/capow/service/AdmissionQueue" ∧ Fld Z h q "com/example/capow/capow/service/AdmissionQueue" "byEffort" "Ljava/util/TreeMap;" (.ref tm) ∧ Fld Z h q "com/example/capow/capow/service/AdmissionQueue" "byArrival" "Ljava/util/ArrayDeque;" (.ref bd) ∧ Fld Z h q "com/example/capow/capow/service/AdmissionQueue" "depth" "J" (.long dp) ∧ Fld Z h q "com/example/capow/capow/service/AdmissionQueue" "size" "J" (.long (Int64.ofNat (n + 1))) ∧ own_Tr Z h n0 tm (own_kd A ++ (x, d) :: own_kd R) ∧ own_Ds Z h n0 B ((bd, bt, cb) :: (own_dd A ++ (d, t, c + 1) :: own_dd R)) ∧ (∀ m ∈ A ++ R, 0 < m.2.2.2) ∧ own_sm (A ++ R) + c = n ∧ (A = [] ∨ R = [])
theorem own_MHm {l : Launch} {y : MethodName} {by' : ByteArray} {mx : Nat} {re' : Option FieldType} {r : Room} {A : Array Value} {Z : State} {h0 : Heap} {Q Q' : Option Value → Heap → List Loc → Prop} (H : own_MH l y by' mx re' r A Z h0 Q) (hq : ∀ v h L, Q v h L → Q' v h L) : own_MH l y by' mx re' r A Z h0 Q' :=
  MetFree.mono H (fun _ _ h => h) (fun _ _ _ _ _ h => h) fun _ _ _ _ _ ⟨v, L, h1, h2, h3⟩ => ⟨v, L, h1, hq _ _ _ h2, h3⟩
theorem own_cL {x y : Int64} {v : Option Value} (h : x < y) (H : (v = some (.int (-1 : Int32)) ∧ x < y) ∨ (v = some (.int (0 : Int32)) ∧ x = y) ∨ (v = some (.int (1 : Int32)) ∧ y < x)) : v = some (.int (-1 : Int32)) := by
  rw [Int64.lt_iff_toInt_lt] at h
  rcases H with ⟨h1, -⟩ | ⟨-, rfl⟩ | ⟨-, h2⟩
  · exact h1
  · omega
  · rw [Int64.lt_iff_toInt_lt] at h2
    omega
theorem own_cE {x y : Int64} {v : Option Value} (h : x = y) (H : (v = some (.int (-1 : Int32)) ∧ x < y) ∨ (v = some (.int (0 : Int32)) ∧ x = y) ∨ (v = some (.int (1 : Int32)) ∧ y < x)) : v = some (.int (0 : Int32)) := by
  subst h
  rcases H with ⟨-, h2⟩ | ⟨h1, -⟩ | ⟨-, h2⟩
  · rw [Int64.lt_iff_toInt_lt] at h2
    omega
  · exact h1
  · rw [Int64.lt_iff_toInt_lt] at h2
    omega
theorem own_cG {x y : Int64} {v : Option Value} (h : y < x) (H : (v = some (.int (-1 : Int32)) ∧ x < y) ∨ (v = some (.int (0 : Int32)) ∧ x = y) ∨ (v = some (.int (1 : Int32)) ∧ y < x)) : v = some (.int (1 : Int32)) := by
  rw [Int64.lt_iff_toInt_lt] at h
  rcases H with ⟨-, h2⟩ | ⟨-, rfl⟩ | ⟨h1, -⟩
  · rw [Int64.lt_iff_toInt_lt] at h2
    omega
  · omega
  · exact h1
section OwnQ
variable {Z : State} {h : Heap} {n0 q tm bd bt cb n B : Nat} {dp : Int64}
theorem own_AQ.ex (F : own_AQ Z h n0 q dp n B) : Exa Z h q "com/example/capow/capow/service/AdmissionQueue" := by
  obtain ⟨_, _, _, _, _, _, E, _⟩ := F
  exact E
theorem own_AQ.sz (F : own_AQ Z h n0 q dp n B) : Fld Z h q "com/example/capow/capow/service/AdmissionQueue" "size" "J" (.long (Int64.ofNat n)) := by
  obtain ⟨_, _, _, _, _, _, _, _, _, _, F, _⟩ := F
  exact F
theorem own_AQ.of {x : Int64} {d t c : Nat} {A R : List (Int64 × Nat × Nat × Nat)} (gq : n0 ≤ q) (E : Exa Z h q "com/example/capow/capow/service/AdmissionQueue") (F1 : Fld Z h q "com/example/capow/capow/service/AdmissionQueue" "byEffort" "Ljava/util/TreeMap;" (.ref tm)) (F2 : Fld Z h q "com/example/capow/capow/service/AdmissionQueue" "byArrival" "Ljava/util/ArrayDeque;" (.ref bd)) (F3 : Fld Z h q "com/example/capow/capow/service/AdmissionQueue" "depth" "J" (.long dp)) (F4 : Fld Z h q "com/example/capow/capow/service/AdmissionQueue" "size" "J" (.long (Int64.ofNat n)))
    (T : own_Tr Z h n0 tm (own_kd A ++ (x, d) :: own_kd R)) (D : own_Ds Z h n0 B ((bd, bt, cb) :: (own_dd A ++ (d, t, c + 1) :: own_dd R))) (hp : ∀ m ∈ A ++ R, 0 < m.2.2.2) (hs : own_sm (A ++ R) + (c + 1) = n) : own_AQ Z h n0 q dp n B := by
  refine ⟨tm, bd, bt, cb, A ++ (x, d, t, c + 1) :: R, gq, E, F1, F2, F3, F4, by simpa [own_kd] using T, by simpa [own_dd] using D, fun m hm => ?_, ?_⟩
  · rcases List.mem_append.mp hm with q | q
    · exact hp m (List.mem_append.mpr (Or.inl q))
    · rcases List.mem_cons.mp q with rfl | q
      · exact Nat.succ_pos _
      · exact hp m (List.mem_append.mpr (Or.inr q))
  · simp [own_sm] at hs ⊢
    omega
end OwnQ
theorem own_s1 (n : Nat) : Int64.ofNat n + (1 : Int64) = Int64.ofNat (n + 1) := (Int64.ofNat_add n 1).symm
theorem own_s2 (n : Nat) : Int64.ofNat (n + 1) - (1 : Int64) = Int64.ofNat n := by
  rw [Int64.ofNat_add]
  exact Int64.add_sub_cancel _ _
theorem own_o64 {n : Nat} (h : n ≤ 100000) : (Int64.ofNat n).toInt = n := Int64.toInt_ofNat_of_lt (by omega)
theorem own_o64n {n : Nat} (h0 : 0 < n) (h : n ≤ 100000) : ¬ Int64.ofNat n = (0 : Int64) := fun q => by
  have := congrArg Int64.toInt q
  rw [own_o64 h] at this
  have e0 : (0 : Int64).toInt = 0 := rfl
  omega
theorem own_o64z {n : Nat} (h : n = 0) : Int64.ofNat n = (0 : Int64) := by
  subst h
  rfl
theorem own_szle {n c : Nat} (hn : n ≤ 100) (hc : c ≤ 16) : ¬ (((2 : Int64) * (Int64.ofNat n)) + (16 : Int64) < ((Int32.ofNat c).toInt64)) := by
  have e2 : (2 : Int64) * Int64.ofNat n + (16 : Int64) = Int64.ofNat (2 * n + 16) := by rw [Int64.ofNat_add, Int64.ofNat_mul]; rfl
  rw [Int64.lt_iff_toInt_lt, e2, own_o64 (by omega), Int32.toInt_toInt64, own_n32 (by omega)]
  omega
theorem own_set1 {vs : List Value} {b : Nat} {x d : Value} (h : b < vs.length) : (vs.set b x).getD b d = x := by simp [List.getD, h]
theorem own_set2 {vs : List Value} {b i : Nat} {x d : Value} (h : ¬ i = b) : (vs.set b x).getD i d = vs.getD i d := by
  have : b ≠ i := fun q => h q.symm
  simp [List.getD, List.getElem?_set, this]

theorem own_T.s_comparator {Z : State} {h h' : Heap} {e : Nat} {root : Value} {mc sz : Int32} {a0 : Array Value} (hw : ∀ d ∈ tables_1, d.before a0 Z = true) (F : own_T Z h e root mc sz) (W : Wr h h' e (RoadKit.slotOf Z "java/util/TreeMap" "comparator" "Ljava/util/Comparator;") .null) : own_T Z h' e root mc sz := ⟨F.1.wr W, F.2.1.other W (Or.inr (slot_ne (Or.inl (tw_ hw 116 rfl)) (Or.inr (tw_ hw 27 rfl)) (by decide) (t := (.object "java/util/TreeMap$Entry")) (t' := (.object "java/util/Comparator")) (by decide) (by decide))), F.2.2.1.same W, F.2.2.2.1.other W (Or.inr (slot_ne (Or.inl (tw_ hw 25 rfl)) (Or.inr (tw_ hw 27 rfl)) (by decide) (t := .int) (t' := (.object "java/util/Comparator")) (by decide) (by decide))), F.2.2.2.2.other W (Or.inr (slot_ne (Or.inl (tw_ hw 23 rfl)) (Or.inr (tw_ hw 27 rfl)) (by decide) (t := .int) (t' := (.object "java/util/Comparator")) (by decide) (by decide)))⟩
abbrev own_c33 : ByteArray := jdk_2729_method_1_code
def own_tmi_Q (Z : State) (tm : Nat) (h0 : Heap) (n0 : Nat) (v : Option Value) (h : Heap) (L : List Loc) : Prop := v = none ∧ Fr n0 L ∧ Keep h0 h [tm] ∧ own_T Z h tm .null 0 0
theorem ef_own_tmi (m : MethodId) (x0 : Nat) : entryFrame m #[(.ref x0)] 1 = mkF m 0 #[vr x0] [] := by first | (simp [entryFrame, mkF, argsToLocals, Value.category]; done) | rfl
abbrev own_y34 : MethodName := ⟨"java/util/TreeMap", "<init>", "()V"⟩
theorem d33_0 : decode own_c33 0 = .ok (.aload_n 0, 1) := by decide +kernel
theorem d33_1 : decode own_c33 1 = .ok (.invokespecial 1, 3) := by decide +kernel
theorem d33_4 : decode own_c33 4 = .ok (.aload_n 0, 1) := by decide +kernel
theorem d33_5 : decode own_c33 5 = .ok (.iconst 0, 1) := by decide +kernel
theorem d33_6 : decode own_c33 6 = .ok (.putfield 7, 3) := by decide +kernel
theorem d33_9 : decode own_c33 9 = .ok (.aload_n 0, 1) := by decide +kernel
theorem d33_10 : decode own_c33 10 = .ok (.iconst 0, 1) := by decide +kernel
theorem d33_11 : decode own_c33 11 = .ok (.putfield 13, 3) := by decide +kernel
theorem d33_14 : decode own_c33 14 = .ok (.aload_n 0, 1) := by decide +kernel
theorem d33_15 : decode own_c33 15 = .ok (.aconst_null, 1) := by decide +kernel
theorem d33_16 : decode own_c33 16 = .ok (.putfield 16, 3) := by decide +kernel
theorem d33_19 : decode own_c33 19 = .ok (.return_, 1) := by decide +kernel
set_option maxRecDepth 65536 in
set_option maxHeartbeats 40000000 in
theorem own_tmi (l : Launch) (Z : State) (a0 : Array Value) (hW : own_W Z a0) (tm : Nat) (h0 : Heap) (n0 : Nat) (Z0 : n0 ≤ h0.size) (O0 : Old Z n0 h0) (T1 : own_T Z h0 tm .null 0 0) (gt : n0 ≤ tm) :
    own_MH l own_y34 own_c33 1 none (own_r 2 0 0 31) #[(.ref tm)] Z h0 (own_tmi_Q Z tm h0 n0) := by
  refine own_enterH (own := "java/util/TreeMap") rfl (plainFor_of_name pn_java_util_TreeMap) (fun m => ef_own_tmi m tm) ?_
  intro p e s m below meth c s₁ Bd hZH hh hx hby hml hown hnm X0 e0
  have hZ := hZH.wide
  have Y := And.intro hx hby
  have hw := hW.1
  have N0 := Fr.nil n0
  have K0 := Keep.refl h0 [tm]
  have lttm := own_lt T1.lt
  obtain ⟨v11, T11, Lc11, X11, hQ11, st11⟩ := own_make (own_ami l Z a0 hW tm h0 n0 Z0 O0) X0 Y hZH hown (tw_ hw 15 rfl) (tw_ hw 16 rfl) (tw_ hw 20 rfl) (tw_ hw 19 rfl) (by decide) rfl e0 (a := tm) (g := (mkF m 1 #[vr tm] [(.ref tm)])) rfl hml.symm (argsL := []) (rest := []) (lenOf pd_2 rfl) rfl d33_1
  obtain ⟨rfl, Nq11, eh11⟩ := hQ11
  have N11 := Fr.app N0 Nq11
  refine own_gs ?_ (own_gs st11 ?_)
  · exact own_a X0 Y d33_0 rfl rfl (Steps.refl _)
  obtain ⟨T12, h12, X12, e12, W12, st12⟩ := own_pF X11 Y hZ hown (tw_ hw 22 rfl) eh11 (own_T.f_size T1) (own_T.ex T1) (tw_ hw 23 rfl) (tw_ hw 10 rfl) (ty := .int) (by decide) rfl rfl (g := (mkF m 6 #[vr tm] [(.int (0 : Int32)), (.ref tm)])) rfl rfl d33_6
  have F12 := own_T.s_size hw T1 W12
  refine own_gs ?_ (own_go st12 ?_)
  · refine own_a X11 Y d33_4 rfl rfl ?_
    exact own_ic X11 Y d33_5 (Steps.refl _)
  obtain ⟨z13, Zz13, K13, O13, N13⟩ := own_eW W12 Z0 K0 O0 N11 (own_i 0 rfl) gt
  obtain ⟨T14, h14, X14, e14, W14, st14⟩ := own_pF X12 Y hZ hown (tw_ hw 24 rfl) e12 (own_T.f_modCount F12) (own_T.ex F12) (tw_ hw 25 rfl) (tw_ hw 10 rfl) (ty := .int) (by decide) rfl rfl (g := (mkF m 11 #[vr tm] [(.int (0 : Int32)), (.ref tm)])) rfl rfl d33_11
  have F14 := own_T.s_modCount hw F12 W14
  refine own_gs ?_ (own_go st14 ?_)
  · refine own_a X12 Y d33_9 rfl rfl ?_
    exact own_ic X12 Y d33_10 (Steps.refl _)
  obtain ⟨z15, Zz15, K15, O15, N15⟩ := own_eW W14 Zz13 K13 O13 N13 (own_i 0 rfl) gt
  obtain ⟨T16, h16, X16, e16, W16, st16⟩ := putF X14 hx hZ hown (host := "") (Or.inl (tw_ hw 26 rfl)) Via.refl e14 (own_T.f_comparator F14) (own_T.ex F14) (Or.inr ⟨(tw_ hw 27 rfl), rfl, hnm⟩) (tw_ hw 10 rfl) (ty := (.object "java/util/Comparator")) (by decide) rfl rfl (g := (mkF m 16 #[vr tm] [.null, (.ref tm)])) rfl rfl (hb hby d33_16)
  have F16 := own_T.s_comparator hw F14 W16
  refine own_gs ?_ (own_go st16 ?_)
  · refine own_a X14 Y d33_14 rfl rfl ?_
    exact XS.aconstNull X14.here hx rfl (hb hby d33_15) (Steps.refl _)
  obtain ⟨z17, Zz17, K17, O17, N17⟩ := own_eW W16 Zz15 K15 O15 N15 (own_i 0 rfl) gt
  exact own_rV X16 Bd (hb hby d33_19) e16 (⟨rfl, N17, K17, F16⟩) rfl rfl
abbrev own_c34 : ByteArray := prog_37_method_9_code
def own_lam_Q (Z : State) (k1 : Nat) (h0 : Heap) (n0 : Nat) (v : Option Value) (h : Heap) (L : List Loc) : Prop := ∃ (d t : Nat) (k : ClassId), v = some (.ref d) ∧ Fr n0 L ∧ Keep h0 h [] ∧ own_D Z h d t k 0 0 (List.replicate 17 .null) ∧ h0.size ≤ d ∧ h0.size ≤ t
theorem pn_com_example_capow_capow_service_AdmissionQueue : plainName "com/example/capow/capow/service/AdmissionQueue" = true := by first | (simp [plainName, overriddenIn]; done) | decide +kernel
theorem ef_own_lam (m : MethodId) (x0 : Nat) : entryFrame m #[(.ref x0)] 1 = mkF m 0 #[vr x0] [] := by first | (simp [entryFrame, mkF, argsToLocals, Value.category]; done) | rfl
abbrev own_y35 : MethodName := ⟨"com/example/capow/capow/service/AdmissionQueue", "lambda$add$0", "(Ljava/lang/Long;)Ljava/util/ArrayDeque;"⟩
theorem d34_0 : decode own_c34 0 = .ok (.new 16, 3) := by decide +kernel
theorem d34_3 : decode own_c34 3 = .ok (.dup, 1) := by decide +kernel
theorem d34_4 : decode own_c34 4 = .ok (.invokespecial 18, 3) := by decide +kernel
theorem d34_7 : decode own_c34 7 = .ok (.areturn, 1) := by decide +kernel
set_option maxRecDepth 65536 in
set_option maxHeartbeats 40000000 in
theorem own_lam (l : Launch) (Z : State) (a0 : Array Value) (hW : own_W Z a0) (k1 : Nat) (h0 : Heap) (n0 : Nat) (Z0 : n0 ≤ h0.size) (O0 : Old Z n0 h0)  :
    own_MH l own_y35 own_c34 1 (some (.object "java/util/ArrayDeque")) (own_r 3 2 20 49) #[(.ref k1)] Z h0 (own_lam_Q Z k1 h0 n0) := by
  refine own_enterH (own := "com/example/capow/capow/service/AdmissionQueue") rfl (plainFor_of_name pn_com_example_capow_capow_service_AdmissionQueue) (fun m => ef_own_lam m k1) ?_
  intro p e s m below meth c s₁ Bd hZH hh hx hby hml hown hnm X0 e0
  have hZ := hZH.wide
  have Y := And.intro hx hby
  have hw := hW.1
  have N0 := Fr.nil n0
  have K0 := Keep.refl h0 []
  obtain ⟨T11, h11, X11, e11, E11, A11, D11, -, st11⟩ := newO X0 hx hZ hown (tw_ hw 30 rfl) (tw_ hw 31 rfl) (tw_ hw 32 rfl) e0 (g := (mkF m 0 #[vr k1] [])) rfl (hb hby d34_0) (by decide) (by decide)
  obtain ⟨b11, g11⟩ : ∃ z, z = h0.size := ⟨_, rfl⟩
  rw [← g11] at A11 D11 st11
  have lt11 := own_lt A11.lt
  refine own_go st11 ?_
  have z12 := E11.1
  have Zz12 := Nat.le_trans Z0 z12
  have K12 := K0.ext E11
  have O12 := O0.ext E11
  have F11_elements : Fld Z h11 b11 "java/util/ArrayDeque" "elements" "[Ljava/lang/Object;" .null := D11 (Or.inl (tw_ hw 46 rfl)) (ty := (.array (.object "java/lang/Object"))) (by decide)
  have F11_tail : Fld Z h11 b11 "java/util/ArrayDeque" "tail" "I" (.int (0 : Int32)) := D11 (Or.inl (tw_ hw 178 rfl)) (ty := .int) (by decide)
  have F11_head : Fld Z h11 b11 "java/util/ArrayDeque" "head" "I" (.int (0 : Int32)) := D11 (Or.inl (tw_ hw 181 rfl)) (ty := .int) (by decide)
  obtain ⟨v13, T13, Lc13, X13, hQ13, st13⟩ := own_make (own_adi l Z a0 hW b11 h11 n0 Zz12 O12 A11 F11_elements F11_head F11_tail (by omega)) X11 Y hZH hown (tw_ hw 33 rfl) (tw_ hw 34 rfl) (tw_ hw 35 rfl) (tw_ hw 32 rfl) (by decide) rfl e11 (a := b11) (g := (mkF m 4 #[vr k1] [(.ref b11), (.ref b11)])) rfl hml.symm (argsL := []) (rest := [(.ref b11)]) (lenOf pd_2 rfl) rfl d34_4
  obtain ⟨t13, kt13, rfl, Nq13, Kq13, Dq13, gq13⟩ := hQ13
  have N13 := Fr.app N0 Nq13
  obtain ⟨z14, Zz14, K14, O14⟩ := own_eK Kq13 Zz12 K12 O12 (allS (Or.inr (by omega)) all0) (allS (by omega) all0)
  refine own_gs ?_ (own_gs st13 ?_)
  · exact own_du X11 Y d34_3 rfl rfl (Steps.refl _)
  exact own_rA X13 Bd rfl (v := (.ref b11)) rfl (hb hby d34_7) rfl (⟨_, _, _, rfl, N13, K14, Dq13, (by omega), (by omega)⟩) rfl rfl
abbrev own_sh : Lambda.Shape := (Jvm.Lambda.Shape.mk "java/util/function/Function" "apply" (Jvm.ClassFile.MethodDescriptor.mk ([(Jvm.ClassFile.FieldType.object "java/lang/Object")] : List Jvm.ClassFile.FieldType) (Option.some (Jvm.ClassFile.FieldType.object "java/lang/Object"))) ([] : List Jvm.ClassFile.FieldType) (6 : Nat) "com/example/capow/capow/service/AdmissionQueue" "lambda$add$0" (Jvm.ClassFile.MethodDescriptor.mk ([(Jvm.ClassFile.FieldType.object "java/lang/Long")] : List Jvm.ClassFile.FieldType) (Option.some (Jvm.ClassFile.FieldType.object "java/util/ArrayDeque"))) false (Jvm.ClassFile.MethodDescriptor.mk ([(Jvm.ClassFile.FieldType.object "java/lang/Long")] : List Jvm.ClassFile.FieldType) (Option.some (Jvm.ClassFile.FieldType.object "java/util/ArrayDeque"))))
def own_fcode : ByteArray := ⟨#[0x2b, 0xc0, 0x00, 0x0e, 0xb8, 0x00, 0x14, 0xb0]⟩
theorem own_fwd : LamKit.fwdOK own_sh "com/example/capow/capow/service/AdmissionQueue" own_fcode 2 (some (.object "java/lang/Object")) 20 16 = true := by decide +kernel
theorem own_cast14 : LamKit.own_castOK own_sh "com/example/capow/capow/service/AdmissionQueue" 14 "java/lang/Long" = true := by decide +kernel
theorem own_fc0 : decode own_fcode 0 = .ok (.aload_n 1, 1) := by decide +kernel
theorem own_fc1 : decode own_fcode 1 = .ok (.checkcast 14, 3) := by decide +kernel
theorem own_fc4 : decode own_fcode 4 = .ok (.invokestatic 20, 3) := by decide +kernel
theorem own_fc7 : decode own_fcode 7 = .ok (.areturn, 1) := by decide +kernel
theorem own_lamM (l : Launch) (Z : State) (a0 : Array Value) (hW : own_W Z a0) (k1 : Nat) (h0 : Heap) (n0 : Nat) (Z0 : n0 ≤ h0.size) (O0 : Old Z n0 h0) : Met l own_y35 [Jvm.Cond.code own_y35 own_c34 1 (some (.object "java/util/ArrayDeque"))] (own_r 3 2 20 49) (fun a U => a = #[.ref k1] ∧ Z.WarmedH U.vm ∧ U.heap = h0) (fun _ _ o t => ∃ v L, o = .returned v ∧ own_lam_Q Z k1 h0 n0 v t.heap L) 2 20 (fun q => n0 ≤ q) :=
  MetFree.mono (own_lam l Z a0 hW k1 h0 n0 Z0 O0) (fun _ _ h => h) (fun _ _ _ _ _ h => h) fun _ _ _ _ _ ⟨v, L, h1, h2, h3⟩ => ⟨⟨v, L, h1, h2⟩, L, h3, by obtain ⟨_, _, _, _, hN, _⟩ := h2; exact hN⟩
abbrev own_c35 : ByteArray := jdk_2729_method_27_code
def own_cmf_Q (Z : State) (tm k1 f1 : Nat) (x : Int64) (root : Value) (mc sz : Int32) (cK : ClassId) (h0 : Heap) (n0 : Nat) (v : Option Value) (h : Heap) (L : List Loc) : Prop := ∃ (d t : Nat) (k : ClassId), v = some (.ref d) ∧ Fr n0 L ∧ Keep h0 h [] ∧ own_D Z h d t k 0 0 (List.replicate 17 .null) ∧ h0.size ≤ d ∧ h0.size ≤ t
theorem ef_own_cmf (m : MethodId) (x0 : Nat) (x1 : Nat) (x2 : Nat) : entryFrame m #[(.ref x0), (.ref x1), (.ref x2)] 5 = mkF m 0 #[vr x0, vr x1, vr x2, .unset, .unset] [] := by first | (simp [entryFrame, mkF, argsToLocals, Value.category]; done) | rfl
abbrev own_y36 : MethodName := ⟨"java/util/TreeMap", "callMappingFunctionWithCheck", "(Ljava/lang/Object;Ljava/util/function/Function;)Ljava/lang/Object;"⟩
theorem d35_0 : decode own_c35 0 = .ok (.aload_n 0, 1) := by decide +kernel
theorem d35_1 : decode own_c35 1 = .ok (.getfield 13, 3) := by decide +kernel
theorem d35_4 : decode own_c35 4 = .ok (.istore_n 3, 1) := by decide +kernel
theorem d35_5 : decode own_c35 5 = .ok (.aload_n 2, 1) := by decide +kernel
theorem d35_6 : decode own_c35 6 = .ok (.aload_n 1, 1) := by decide +kernel
theorem d35_7 : decode own_c35 7 = .ok (.invokeinterface 154 2, 5) := by decide +kernel
abbrev own_y37 : MethodName := ⟨"java/util/function/Function", "apply", "(Ljava/lang/Object;)Ljava/lang/Object;"⟩
theorem pd_15 : parseMethodDescriptor "(Ljava/lang/Object;)Ljava/lang/Object;" = some ⟨[(.object "java/lang/Object")], some (.object "java/lang/Object")⟩ := by decide +kernel
theorem pd_16 : parseMethodDescriptor "(Ljava/lang/Long;)Ljava/util/ArrayDeque;" = some ⟨[(.object "java/lang/Long")], some (.object "java/util/ArrayDeque")⟩ := by decide +kernel
theorem d35_12 : decode own_c35 12 = .ok (.astore 4, 2) := by decide +kernel
theorem d35_14 : decode own_c35 14 = .ok (.iload_n 3, 1) := by decide +kernel
theorem d35_15 : decode own_c35 15 = .ok (.aload_n 0, 1) := by decide +kernel
theorem d35_16 : decode own_c35 16 = .ok (.getfield 13, 3) := by decide +kernel
theorem d35_19 : decode own_c35 19 = .ok (.if_icmp .eq 11, 3) := by decide +kernel
theorem d35_30 : decode own_c35 30 = .ok (.aload 4, 2) := by decide +kernel
theorem d35_32 : decode own_c35 32 = .ok (.areturn, 1) := by decide +kernel
set_option maxRecDepth 65536 in
set_option maxHeartbeats 40000000 in
theorem own_cmf (l : Launch) (Z : State) (a0 : Array Value) (hW : own_W Z a0) (tm k1 f1 : Nat) (x : Int64) (root : Value) (mc sz : Int32) (cK : ClassId) (h0 : Heap) (n0 : Nat) (Z0 : n0 ≤ h0.size) (O0 : Old Z n0 h0) (T1 : own_T Z h0 tm root mc sz) (E1 : Exa Z h0 k1 "java/lang/Long") (F1 : Fld Z h0 k1 "java/lang/Long" "value" "J" (.long x)) (hm : LamKit.Made Z "com/example/capow/capow/service/AdmissionQueue" own_sh cK) (hfn : LamKit.FnAt Z.heap f1 cK) :
    own_MH l own_y36 own_c35 5 (some (.object "java/lang/Object")) (own_r 5 2 20 80) #[(.ref tm), (.ref k1), (.ref f1)] Z h0 (own_cmf_Q Z tm k1 f1 x root mc sz cK h0 n0) := by
  refine own_enterH (own := "java/util/TreeMap") rfl (plainFor_of_name pn_java_util_TreeMap) (fun m => ef_own_cmf m tm k1 f1) ?_
  intro p e s m below meth c s₁ Bd hZH hh hx hby hml hown hnm X0 e0
  have hZ := hZH.wide
  have Y := And.intro hx hby
  have hw := hW.1
  have N0 := Fr.nil n0
  have K0 := Keep.refl h0 []
  have lttm := own_lt T1.lt
  obtain ⟨T11, X11, e11, st11⟩ := own_gF X0 Y hZ hown (tw_ hw 24 rfl) e0 (own_T.f_modCount T1) (g := (mkF m 1 #[vr tm, vr k1, vr f1, uu, uu] [(.ref tm)])) rfl rfl d35_1
  refine own_gs ?_ (own_go st11 ?_)
  · exact own_a X0 Y d35_0 rfl rfl (Steps.refl _)
  refine own_gs (cur' := T11.setTop (mkF m 7 #[vr tm, vr k1, vr f1, vi mc, uu] [(.ref k1), (.ref f1)])) ?_ ?_
  · refine XS.istoreN X11.here hx rfl (hb hby d35_4) rfl (l' := #[vr tm, vr k1, vr f1, vi mc, uu]) rfl ?_
    refine own_a X11 Y d35_5 rfl rfl ?_
    exact own_a X11 Y d35_6 rfl rfl (Steps.refl _)
  obtain ⟨v12, st12, tt12, T12, L12, X12, hL12, eh12, es12, hq12, sp12⟩ := LamKit.callLamS X11 hx (own := "java/util/TreeMap") (host := "com/example/capow/capow/service/AdmissionQueue") (index := 154) (count := 2) (xi := own_y37) (y := own_y35) (σ := own_sh) (own_lamM l Z a0 hW k1 h0 n0 Z0 O0) (fun _ _ _ _ h => h) rfl rfl
    (fun w' hw' a' U hU => by rw [List.mem_singleton.mp hw']; exact mv (State.WarmedH.trans hZH hU).wide (tw_ hw 126 rfl)) (List.mem_singleton.mpr rfl)
    hown (mvT hZ (tw_ hw 122 rfl)) (mvT hZ (tw_ hw 123 rfl)) (mvT hZ (tw_ hw 124 rfl)) (mvT hZ (tw_ hw 126 rfl)) (mvT hZ (tw_ hw 125 rfl)) (mvT hZ (tw_ hw 2 rfl)) (by decide +kernel) (by decide +kernel) (by decide) (LamKit.own_made hZH hm) (by rw [e11]; exact LamKit.own_fnExt hfn O0.2) own_fwd own_fc4 own_fc7
    (g := (mkF m 7 #[vr tm, vr k1, vr f1, vi mc, uu] [(.ref k1), (.ref f1)])) rfl (by rw [hml]; rfl) (argsL := [.ref k1]) (argsT := [.ref k1]) (rest := []) (L0 := #[vr f1, vr k1]) (lenOf pd_15 rfl) (lenOf pd_16 rfl) rfl (hb hby d35_7) (fun _ => rfl) rfl
    (fun U ck bl target hU hck hh hWU k => XS.aloadN hU hx rfl (hb hck own_fc0) rfl rfl (LamKit.own_fcast hU hx (LamKit.own_made hZH hm) own_cast14 hZH hWU (hh.trans e11) E1 rfl (hb hck own_fc1) rfl k))
    (fun st w t h => by obtain ⟨_, _, e1, d, _, _, e2, _⟩ := h; cases e1; exact Or.inr (Or.inr (Or.inl ⟨_, _, rfl, rfl, rfl, rfl, e2⟩))) (own_le rfl) (own_le rfl) (own_le rfl) (own_le rfl) (fun U hU hh => ⟨rfl, State.WarmedH.trans hZH hU, hh.trans e11⟩)
  obtain ⟨_, _, e112, d12, t12, kt12, e212, -, Kq12, Dq12, ga12, gb12⟩ := hq12
  cases e112
  subst e212
  rw [← eh12] at Kq12 Dq12
  have N12 := Fr.app N0 hL12
  refine own_go sp12 ?_
  obtain ⟨z13, Zz13, K13, O13⟩ := own_eK Kq12 Z0 K0 O0 all0 all0
  have f15 := (T1.keep Kq12 nin0)
  obtain ⟨T14, X14, e14, st14⟩ := own_gF X12 Y hZ hown (tw_ hw 24 rfl) rfl (own_T.f_modCount f15) (g := (mkF m 16 #[vr tm, vr k1, vr f1, vi mc, vr d12] [(.ref tm), (.int mc)])) rfl rfl d35_16
  refine own_gs ?_ (own_go st14 ?_)
  · refine XS.astore X12.here hx rfl (hb hby d35_12) rfl rfl (l' := #[vr tm, vr k1, vr f1, vi mc, vr d12]) rfl ?_
    refine XS.iloadN X12.here hx rfl (hb hby d35_14) rfl ?_
    exact own_a X12 Y d35_15 rfl rfl (Steps.refl _)
  refine own_gs (cur' := T14.setTop (mkF m 32 #[vr tm, vr k1, vr f1, vi mc, vr d12] [(.ref d12)])) ?_ ?_
  · refine XS.icmpYes X14.here hx rfl (pc0 := 19) (pc' := 30) rfl (hb hby d35_19) rfl (teq (rfl : mc = mc)).1 (by decide) (by decide) ?_
    exact own_al X14 Y d35_30 rfl rfl (Steps.refl _)
  exact own_rA X14 Bd rfl (v := (.ref d12)) rfl (hb hby d35_32) e14 (⟨_, _, _, rfl, N12, K13, Dq12, (by omega), (by omega)⟩) rfl rfl
abbrev own_c36 : ByteArray := jdk_2729_method_23_code
def own_ci0_Q (Z : State) (tm k1 f1 : Nat) (x : Int64) (mc sz : Int32) (cK : ClassId) (h0 : Heap) (n0 : Nat) (v : Option Value) (h : Heap) (L : List Loc) : Prop := own_CI Z n0 h0 tm x [] v h L
theorem ef_own_ci0 (m : MethodId) (x0 : Nat) (x1 : Nat) (x2 : Nat) : entryFrame m #[(.ref x0), (.ref x1), (.ref x2)] 9 = mkF m 0 #[vr x0, vr x1, vr x2, .unset, .unset, .unset, .unset, .unset, .unset] [] := by first | (simp [entryFrame, mkF, argsToLocals, Value.category]; done) | rfl
abbrev own_y38 : MethodName := ⟨"java/util/TreeMap", "computeIfAbsent", "(Ljava/lang/Object;Ljava/util/function/Function;)Ljava/lang/Object;"⟩
theorem d36_0 : decode own_c36 0 = .ok (.aload_n 2, 1) := by decide +kernel
theorem d36_1 : decode own_c36 1 = .ok (.invokestatic 95, 3) := by decide +kernel
theorem d36_4 : decode own_c36 4 = .ok (.pop, 1) := by decide +kernel
theorem d36_5 : decode own_c36 5 = .ok (.aload_n 0, 1) := by decide +kernel
theorem d36_6 : decode own_c36 6 = .ok (.getfield 101, 3) := by decide +kernel
theorem d36_9 : decode own_c36 9 = .ok (.astore 4, 2) := by decide +kernel
theorem d36_11 : decode own_c36 11 = .ok (.aload 4, 2) := by decide +kernel
theorem d36_13 : decode own_c36 13 = .ok (.ifnonnull 24, 3) := by decide +kernel
theorem d36_16 : decode own_c36 16 = .ok (.aload_n 0, 1) := by decide +kernel
theorem d36_17 : decode own_c36 17 = .ok (.aload_n 1, 1) := by decide +kernel
theorem d36_18 : decode own_c36 18 = .ok (.aload_n 2, 1) := by decide +kernel
theorem d36_19 : decode own_c36 19 = .ok (.invokevirtual 131, 3) := by decide +kernel
theorem pd_17 : parseMethodDescriptor "(Ljava/lang/Object;Ljava/util/function/Function;)Ljava/lang/Object;" = some ⟨[(.object "java/lang/Object"), (.object "java/util/function/Function")], some (.object "java/lang/Object")⟩ := by decide +kernel
theorem d36_22 : decode own_c36 22 = .ok (.astore_n 3, 1) := by decide +kernel
theorem d36_23 : decode own_c36 23 = .ok (.aload_n 3, 1) := by decide +kernel
theorem d36_24 : decode own_c36 24 = .ok (.ifnull 11, 3) := by decide +kernel
theorem d36_27 : decode own_c36 27 = .ok (.aload_n 0, 1) := by decide +kernel
theorem d36_28 : decode own_c36 28 = .ok (.aload_n 1, 1) := by decide +kernel
theorem d36_29 : decode own_c36 29 = .ok (.aload_n 3, 1) := by decide +kernel
theorem d36_30 : decode own_c36 30 = .ok (.invokevirtual 135, 3) := by decide +kernel
theorem pd_18 : parseMethodDescriptor "(Ljava/lang/Object;Ljava/lang/Object;)V" = some ⟨[(.object "java/lang/Object"), (.object "java/lang/Object")], none⟩ := by decide +kernel
theorem d36_33 : decode own_c36 33 = .ok (.aload_n 3, 1) := by decide +kernel
theorem d36_34 : decode own_c36 34 = .ok (.areturn, 1) := by decide +kernel
set_option maxRecDepth 65536 in
set_option maxHeartbeats 40000000 in
theorem own_ci0 (l : Launch) (Z : State) (a0 : Array Value) (hW : own_W Z a0) (tm k1 f1 : Nat) (x : Int64) (mc sz : Int32) (cK : ClassId) (h0 : Heap) (n0 : Nat) (Z0 : n0 ≤ h0.size) (O0 : Old Z n0 h0) (gt : n0 ≤ tm) (K1 : own_Lg Z h0 k1 x) (B1 : own_T Z h0 tm .null mc sz) (hm : LamKit.Made Z "com/example/capow/capow/service/AdmissionQueue" own_sh cK) (hfn : LamKit.FnAt Z.heap f1 cK) :
    own_MH l own_y38 own_c36 9 (some (.object "java/lang/Object")) (own_r 6 3 26 102) #[(.ref tm), (.ref k1), (.ref f1)] Z h0 (own_ci0_Q Z tm k1 f1 x mc sz cK h0 n0) := by
  refine own_enterH (own := "java/util/TreeMap") rfl (plainFor_of_name pn_java_util_TreeMap) (fun m => ef_own_ci0 m tm k1 f1) ?_
  intro p e s m below meth c s₁ Bd hZH hh hx hby hml hown hnm X0 e0
  have hZ := hZH.wide
  have Y := And.intro hx hby
  have hw := hW.1
  have N0 := Fr.nil n0
  have K0 := Keep.refl h0 [tm]
  have lttm := own_lt B1.lt
  obtain ⟨T11, L11, X11, Nq11, e11, st11⟩ := own_pcall (own_rnn l Z a0 hW f1 h0 n0 Z0 O0) X0 hx hZH hown (tw_ hw 111 rfl) (tw_ hw 112 rfl) (tw_ hw 113 rfl) (tw_ hw 114 rfl) (by decide) e0 (g := (mkF m 1 #[vr tm, vr k1, vr f1, uu, uu, uu, uu, uu, uu] [(.ref f1)])) rfl hml.symm (argsL := [(.ref f1)]) (rest := []) (lenOf pd_15 rfl) rfl (hb hby d36_1) (own_le rfl) (own_le rfl)
  have N11 := Fr.app N0 Nq11
  refine own_gs ?_ (own_gs st11 ?_)
  · exact own_a X0 Y d36_0 rfl rfl (Steps.refl _)
  obtain ⟨T12, X12, e12, st12⟩ := own_gF X11 Y hZ hown (tw_ hw 115 rfl) e11 (own_T.f_root B1) (g := (mkF m 6 #[vr tm, vr k1, vr f1, uu, uu, uu, uu, uu, uu] [(.ref tm)])) rfl rfl d36_6
  refine own_gs ?_ (own_go st12 ?_)
  · refine XS.pop X11.here hx rfl (hb hby d36_4) rfl rfl ?_
    exact own_a X11 Y d36_5 rfl rfl (Steps.refl _)
  obtain ⟨v13, T13, Lc13, X13, hQ13, st13⟩ := own_priv (own_cmf l Z a0 hW tm k1 f1 x .null mc sz cK h0 n0 Z0 O0 B1 K1.1 K1.2 hm hfn) X12 Y hZH hown (tw_ hw 117 rfl) (tw_ hw 118 rfl) (tw_ hw 119 rfl) (own_nf (notFace_of_selects (tw_ hw 109 rfl)) (tw_ hw 108 rfl) rfl) (tw_ hw 121 rfl) (tw_ hw 11 rfl) (by decide) e12 (own_T.ex B1) (g := (mkF m 19 #[vr tm, vr k1, vr f1, uu, vn, uu, uu, uu, uu] [(.ref f1), (.ref k1), (.ref tm)])) rfl hml.symm (argsL := [(.ref k1), (.ref f1)]) (rest := []) (lenOf pd_17 rfl) rfl d36_19
  obtain ⟨d13, t13, kt13, rfl, Nq13, Kq13, Dq13, ga13, gb13⟩ := hQ13
  have N13 := Fr.app N11 Nq13
  obtain ⟨z14, Zz14, K14, O14⟩ := own_eK Kq13 Z0 K0 O0 all0 all0
  have ltd13 := Dq13.lt
  refine own_gs ?_ (own_gs st13 ?_)
  · refine XS.astore X12.here hx rfl (hb hby d36_9) rfl rfl (l' := #[vr tm, vr k1, vr f1, uu, vn, uu, uu, uu, uu]) rfl ?_
    refine own_al X12 Y d36_11 rfl rfl ?_
    refine XS.ifnonnullNo X12.here hx rfl (hb hby d36_13) rfl ?_
    refine own_a X12 Y d36_16 rfl rfl ?_
    refine own_a X12 Y d36_17 rfl rfl ?_
    exact own_a X12 Y d36_18 rfl rfl (Steps.refl _)
  have f15 := (B1.keep Kq13 nin0)
  have f16 := (K1.1.keep Kq13)
  have f17 := (K1.2.keep Kq13 nin0)
  obtain ⟨v18, T18, Lc18, X18, hQ18, st18⟩ := own_priv (own_aee l Z a0 hW tm k1 d13 x mc sz T13.heap n0 Zz14 O14 f15 f16 f17 gt) X13 Y hZH hown (tw_ hw 127 rfl) (tw_ hw 128 rfl) (tw_ hw 129 rfl) (own_nf (notFace_of_selects (tw_ hw 109 rfl)) (tw_ hw 108 rfl) rfl) (tw_ hw 131 rfl) (tw_ hw 11 rfl) (by decide) rfl (own_T.ex f15) (g := (mkF m 30 #[vr tm, vr k1, vr f1, vr d13, vn, uu, uu, uu, uu] [(.ref d13), (.ref k1), (.ref tm)])) rfl hml.symm (argsL := [(.ref k1), (.ref d13)]) (rest := []) (lenOf pd_18 rfl) rfl d36_30
  obtain ⟨n18, mc18, sz18, rfl, Nq18, Kq18, Tq18, Xq18, gn18⟩ := hQ18
  have N18 := Fr.app N13 Nq18
  obtain ⟨z19, Zz19, K19, O19⟩ := own_eK Kq18 Zz14 K14 O14 (allS (own_i 0 rfl) all0) (allS gt all0)
  have ltn18 := own_lt Xq18.lt
  refine own_gs ?_ (own_gs st18 ?_)
  · refine XS.astoreN X13.here hx rfl (hb hby d36_22) rfl rfl (l' := #[vr tm, vr k1, vr f1, vr d13, vn, uu, uu, uu, uu]) rfl ?_
    refine own_a X13 Y d36_23 rfl rfl ?_
    refine XS.ifnullNo X13.here hx rfl (hb hby d36_24) rfl ?_
    refine own_a X13 Y d36_27 rfl rfl ?_
    refine own_a X13 Y d36_28 rfl rfl ?_
    exact own_a X13 Y d36_29 rfl rfl (Steps.refl _)
  have f20 := (f16.keep Kq18)
  have nc21 : own_Ne k1 tm := ne_exa f20 (own_T.ex Tq18) (by decide)
  have f22 := (f17.keep Kq18 (ninS nc21 nin0))
  have f24 := (Dq13.1.keep Kq18)
  have nc23 : own_Ne d13 tm := ne_exa f24 (own_T.ex Tq18) (by decide)
  have f25 := (Dq13.keep Kq18 (ninS nc23 nin0) (ninS (own_ne (a := t13) (b := tm) (by omega)) nin0))
  refine own_gs (cur' := T18.setTop (mkF m 34 #[vr tm, vr k1, vr f1, vr d13, vn, uu, uu, uu, uu] [(.ref d13)])) ?_ ?_
  · exact own_a X18 Y d36_33 rfl rfl (Steps.refl _)
  exact own_rA X18 Bd rfl (v := (.ref d13)) rfl (hb hby d36_34) rfl (⟨_, rfl, N18, ⟨_, K19, (allS ⟨gt, Or.inl (own_T.ex B1)⟩ all0)⟩, Or.inr ⟨_, _, [], _, rfl, ⟨gt, _, _, _, _, Tq18, Xq18, (by omega), ⟨f20, f22⟩⟩, f25, (by omega), (by omega)⟩⟩) rfl rfl
def own_ci1_Q (Z : State) (tm k1 f1 : Nat) (x : Int64) (r1 kr : Nat) (xr : Int64) (dr : Nat) (mc sz : Int32) (cK : ClassId) (h0 : Heap) (n0 : Nat) (v : Option Value) (h : Heap) (L : List Loc) : Prop := own_CI Z n0 h0 tm x [(xr, dr)] v h L
theorem ef_own_ci1 (m : MethodId) (x0 : Nat) (x1 : Nat) (x2 : Nat) : entryFrame m #[(.ref x0), (.ref x1), (.ref x2)] 9 = mkF m 0 #[vr x0, vr x1, vr x2, .unset, .unset, .unset, .unset, .unset, .unset] [] := by first | (simp [entryFrame, mkF, argsToLocals, Value.category]; done) | rfl
theorem d36_37 : decode own_c36 37 = .ok (.aload_n 0, 1) := by decide +kernel
theorem d36_38 : decode own_c36 38 = .ok (.getfield 16, 3) := by decide +kernel
theorem d36_41 : decode own_c36 41 = .ok (.astore 7, 2) := by decide +kernel
theorem d36_43 : decode own_c36 43 = .ok (.aload 7, 2) := by decide +kernel
theorem d36_45 : decode own_c36 45 = .ok (.ifnull 85, 3) := by decide +kernel
theorem d36_130 : decode own_c36 130 = .ok (.aload_n 1, 1) := by decide +kernel
theorem d36_131 : decode own_c36 131 = .ok (.invokestatic 95, 3) := by decide +kernel
theorem d36_134 : decode own_c36 134 = .ok (.pop, 1) := by decide +kernel
theorem d36_135 : decode own_c36 135 = .ok (.aload_n 1, 1) := by decide +kernel
theorem d36_136 : decode own_c36 136 = .ok (.checkcast 99, 3) := by decide +kernel
theorem d36_139 : decode own_c36 139 = .ok (.astore 8, 2) := by decide +kernel
theorem d36_141 : decode own_c36 141 = .ok (.aload 4, 2) := by decide +kernel
theorem d36_143 : decode own_c36 143 = .ok (.astore 6, 2) := by decide +kernel
theorem d36_145 : decode own_c36 145 = .ok (.aload 8, 2) := by decide +kernel
theorem d36_147 : decode own_c36 147 = .ok (.aload 4, 2) := by decide +kernel
theorem d36_149 : decode own_c36 149 = .ok (.getfield 105, 3) := by decide +kernel
theorem d36_152 : decode own_c36 152 = .ok (.invokeinterface 107 2, 5) := by decide +kernel
theorem d36_157 : decode own_c36 157 = .ok (.istore 5, 2) := by decide +kernel
theorem d36_159 : decode own_c36 159 = .ok (.iload 5, 2) := by decide +kernel
theorem d36_161 : decode own_c36 161 = .ok (.ifCond .ge 13, 3) := by decide +kernel
theorem d36_164 : decode own_c36 164 = .ok (.aload 4, 2) := by decide +kernel
theorem d36_166 : decode own_c36 166 = .ok (.getfield 111, 3) := by decide +kernel
theorem d36_169 : decode own_c36 169 = .ok (.astore 4, 2) := by decide +kernel
theorem d36_171 : decode own_c36 171 = .ok (.goto 43, 3) := by decide +kernel
theorem d36_214 : decode own_c36 214 = .ok (.aload 4, 2) := by decide +kernel
theorem d36_216 : decode own_c36 216 = .ok (.ifnonnull (-75), 3) := by decide +kernel
theorem d36_219 : decode own_c36 219 = .ok (.aload_n 0, 1) := by decide +kernel
theorem d36_220 : decode own_c36 220 = .ok (.aload_n 1, 1) := by decide +kernel
theorem d36_221 : decode own_c36 221 = .ok (.aload_n 2, 1) := by decide +kernel
theorem d36_222 : decode own_c36 222 = .ok (.invokevirtual 131, 3) := by decide +kernel
theorem d36_225 : decode own_c36 225 = .ok (.astore_n 3, 1) := by decide +kernel
theorem d36_226 : decode own_c36 226 = .ok (.aload_n 3, 1) := by decide +kernel
theorem d36_227 : decode own_c36 227 = .ok (.ifnull 23, 3) := by decide +kernel
theorem d36_230 : decode own_c36 230 = .ok (.aload_n 0, 1) := by decide +kernel
theorem d36_231 : decode own_c36 231 = .ok (.aload_n 1, 1) := by decide +kernel
theorem d36_232 : decode own_c36 232 = .ok (.aload_n 3, 1) := by decide +kernel
theorem d36_233 : decode own_c36 233 = .ok (.aload 6, 2) := by decide +kernel
theorem d36_235 : decode own_c36 235 = .ok (.iload 5, 2) := by decide +kernel
theorem d36_237 : decode own_c36 237 = .ok (.ifCond .ge 7, 3) := by decide +kernel
theorem d36_240 : decode own_c36 240 = .ok (.iconst 1, 1) := by decide +kernel
theorem d36_241 : decode own_c36 241 = .ok (.goto 4, 3) := by decide +kernel
theorem d36_245 : decode own_c36 245 = .ok (.invokevirtual 139, 3) := by decide +kernel
theorem pd_19 : parseMethodDescriptor "(Ljava/lang/Object;Ljava/lang/Object;Ljava/util/TreeMap$Entry;Z)V" = some ⟨[(.object "java/lang/Object"), (.object "java/lang/Object"), (.object "java/util/TreeMap$Entry"), .boolean], none⟩ := by decide +kernel
theorem d36_248 : decode own_c36 248 = .ok (.aload_n 3, 1) := by decide +kernel
theorem d36_249 : decode own_c36 249 = .ok (.areturn, 1) := by decide +kernel
theorem d36_174 : decode own_c36 174 = .ok (.iload 5, 2) := by decide +kernel
theorem d36_176 : decode own_c36 176 = .ok (.ifCond .le 13, 3) := by decide +kernel
theorem d36_189 : decode own_c36 189 = .ok (.aload 4, 2) := by decide +kernel
theorem d36_191 : decode own_c36 191 = .ok (.getfield 58, 3) := by decide +kernel
theorem d36_194 : decode own_c36 194 = .ok (.ifnonnull 14, 3) := by decide +kernel
theorem d36_208 : decode own_c36 208 = .ok (.aload 4, 2) := by decide +kernel
theorem d36_210 : decode own_c36 210 = .ok (.getfield 58, 3) := by decide +kernel
theorem d36_213 : decode own_c36 213 = .ok (.areturn, 1) := by decide +kernel
theorem d36_179 : decode own_c36 179 = .ok (.aload 4, 2) := by decide +kernel
theorem d36_181 : decode own_c36 181 = .ok (.getfield 114, 3) := by decide +kernel
theorem d36_184 : decode own_c36 184 = .ok (.astore 4, 2) := by decide +kernel
theorem d36_186 : decode own_c36 186 = .ok (.goto 28, 3) := by decide +kernel
theorem d36_244 : decode own_c36 244 = .ok (.iconst 0, 1) := by decide +kernel
set_option maxRecDepth 65536 in
set_option maxHeartbeats 40000000 in
theorem own_ci1 (l : Launch) (Z : State) (a0 : Array Value) (hW : own_W Z a0) (tm k1 f1 : Nat) (x : Int64) (r1 kr : Nat) (xr : Int64) (dr : Nat) (mc sz : Int32) (cK : ClassId) (h0 : Heap) (n0 : Nat) (Z0 : n0 ≤ h0.size) (O0 : Old Z n0 h0) (gt : n0 ≤ tm) (K1 : own_Lg Z h0 k1 x) (B1 : own_B1 Z h0 n0 tm r1 kr xr dr mc sz) (hm : LamKit.Made Z "com/example/capow/capow/service/AdmissionQueue" own_sh cK) (hfn : LamKit.FnAt Z.heap f1 cK) :
    own_MH l own_y38 own_c36 9 (some (.object "java/lang/Object")) (own_r 6 3 26 102) #[(.ref tm), (.ref k1), (.ref f1)] Z h0 (own_ci1_Q Z tm k1 f1 x r1 kr xr dr mc sz cK h0 n0) := by
  refine own_enterH (own := "java/util/TreeMap") rfl (plainFor_of_name pn_java_util_TreeMap) (fun m => ef_own_ci1 m tm k1 f1) ?_
  intro p e s m below meth c s₁ Bd hZH hh hx hby hml hown hnm X0 e0
  have hZ := hZH.wide
  have Y := And.intro hx hby
  have hw := hW.1
  have N0 := Fr.nil n0
  have K0 := Keep.refl h0 [tm, r1]
  obtain ⟨T1, R1, gr, Kr⟩ := id B1
  have lttm := own_lt T1.lt
  have ltr1 := own_lt R1.lt
  obtain ⟨T11, L11, X11, Nq11, e11, st11⟩ := own_pcall (own_rnn l Z a0 hW f1 h0 n0 Z0 O0) X0 hx hZH hown (tw_ hw 111 rfl) (tw_ hw 112 rfl) (tw_ hw 113 rfl) (tw_ hw 114 rfl) (by decide) e0 (g := (mkF m 1 #[vr tm, vr k1, vr f1, uu, uu, uu, uu, uu, uu] [(.ref f1)])) rfl hml.symm (argsL := [(.ref f1)]) (rest := []) (lenOf pd_15 rfl) rfl (hb hby d36_1) (own_le rfl) (own_le rfl)
  have N11 := Fr.app N0 Nq11
  refine own_gs ?_ (own_gs st11 ?_)
  · exact own_a X0 Y d36_0 rfl rfl (Steps.refl _)
  obtain ⟨T12, X12, e12, st12⟩ := own_gF X11 Y hZ hown (tw_ hw 115 rfl) e11 (own_T.f_root T1) (g := (mkF m 6 #[vr tm, vr k1, vr f1, uu, uu, uu, uu, uu, uu] [(.ref tm)])) rfl rfl d36_6
  refine own_gs ?_ (own_go st12 ?_)
  · refine XS.pop X11.here hx rfl (hb hby d36_4) rfl rfl ?_
    exact own_a X11 Y d36_5 rfl rfl (Steps.refl _)
  obtain ⟨T13, X13, e13, st13⟩ := own_gF X12 Y hZ hown (tw_ hw 26 rfl) e12 (own_T.f_comparator T1) (g := (mkF m 38 #[vr tm, vr k1, vr f1, uu, vr r1, uu, uu, uu, uu] [(.ref tm)])) rfl rfl d36_38
  refine own_gs ?_ (own_go st13 ?_)
  · refine XS.astore X12.here hx rfl (hb hby d36_9) rfl rfl (l' := #[vr tm, vr k1, vr f1, uu, vr r1, uu, uu, uu, uu]) rfl ?_
    refine own_al X12 Y d36_11 rfl rfl ?_
    refine XS.ifnonnullYes X12.here hx rfl (pc0 := 13) (pc' := 37) rfl (hb hby d36_13) rfl (by decide) (by decide) ?_
    exact own_a X12 Y d36_37 rfl rfl (Steps.refl _)
  obtain ⟨T14, L14, X14, Nq14, e14, st14⟩ := own_pcall (own_rnn l Z a0 hW k1 h0 n0 Z0 O0) X13 hx hZH hown (tw_ hw 111 rfl) (tw_ hw 112 rfl) (tw_ hw 113 rfl) (tw_ hw 114 rfl) (by decide) e13 (g := (mkF m 131 #[vr tm, vr k1, vr f1, uu, vr r1, uu, uu, vn, uu] [(.ref k1)])) rfl hml.symm (argsL := [(.ref k1)]) (rest := []) (lenOf pd_15 rfl) rfl (hb hby d36_131) (own_le rfl) (own_le rfl)
  have N14 := Fr.app N11 Nq14
  refine own_gs ?_ (own_gs st14 ?_)
  · refine XS.astore X13.here hx rfl (hb hby d36_41) rfl rfl (l' := #[vr tm, vr k1, vr f1, uu, vr r1, uu, uu, vn, uu]) rfl ?_
    refine own_al X13 Y d36_43 rfl rfl ?_
    refine XS.ifnullYes X13.here hx rfl (pc0 := 45) (pc' := 130) rfl (hb hby d36_45) rfl (by decide) (by decide) ?_
    exact own_a X13 Y d36_130 rfl rfl (Steps.refl _)
  obtain ⟨T15, X15, e15, st15⟩ := castY X14 hx hZ hown (tw_ hw 137 rfl) e14 (Ins.of_exa K1.1 (tw_ hw 138 rfl)) (g := (mkF m 136 #[vr tm, vr k1, vr f1, uu, vr r1, uu, uu, vn, uu] [(.ref k1)])) rfl rfl (hb hby d36_136)
  refine own_gs ?_ (own_go st15 ?_)
  · refine XS.pop X14.here hx rfl (hb hby d36_134) rfl rfl ?_
    exact own_a X14 Y d36_135 rfl rfl (Steps.refl _)
  obtain ⟨T16, X16, e16, st16⟩ := own_gF X15 Y hZ hown (tw_ hw 188 rfl) e15 (own_N.f_key R1) (g := (mkF m 149 #[vr tm, vr k1, vr f1, uu, vr r1, uu, vr r1, vn, vr k1] [(.ref r1), (.ref k1)])) rfl rfl d36_149
  refine own_gs ?_ (own_go st16 ?_)
  · refine XS.astore X15.here hx rfl (hb hby d36_139) rfl rfl (l' := #[vr tm, vr k1, vr f1, uu, vr r1, uu, uu, vn, vr k1]) rfl ?_
    refine own_al X15 Y d36_141 rfl rfl ?_
    refine XS.astore X15.here hx rfl (hb hby d36_143) rfl rfl (l' := #[vr tm, vr k1, vr f1, uu, vr r1, uu, vr r1, vn, vr k1]) rfl ?_
    refine own_al X15 Y d36_145 rfl rfl ?_
    exact own_al X15 Y d36_147 rfl rfl (Steps.refl _)
  obtain ⟨v17, T17, Lc17, X17, hQ17, st17⟩ := own_face (xi := own_y31) (own_ct l Z a0 hW k1 kr x xr h0 n0 Z0 O0 K1.1 K1.2 Kr.1 Kr.2) X16 Y hZH hown (tw_ hw 139 rfl) (tw_ hw 140 rfl) (mvT hZ (tw_ hw 141 rfl)) (tw_ hw 142 rfl) (tw_ hw 143 rfl) (tw_ hw 144 rfl) (tw_ hw 145 rfl) (tw_ hw 138 rfl) (tw_ hw 146 rfl) (tw_ hw 85 rfl) (by decide) e16 K1.1 (g := (mkF m 152 #[vr tm, vr k1, vr f1, uu, vr r1, uu, vr r1, vn, vr k1] [(.ref kr), (.ref k1)])) rfl hml.symm (argsL := [(.ref kr)]) (rest := []) (lenOf pd_12 rfl) rfl d36_152
  obtain ⟨hor17, Nq17, eh17⟩ := hQ17
  have N17 := Fr.app N14 Nq17
  rcases hor17 with ⟨rfl, ho17⟩ | ⟨rfl, ho17⟩ | ⟨rfl, ho17⟩
  · refine own_gs st17 ?_
    obtain ⟨T18, X18, e18, st18⟩ := own_gF X17 Y hZ hown (tw_ hw 211 rfl) eh17 (own_N.f_left R1) (g := (mkF m 166 #[vr tm, vr k1, vr f1, uu, vr r1, vi (-1 : Int32), vr r1, vn, vr k1] [(.ref r1)])) rfl rfl d36_166
    refine own_gs ?_ (own_go st18 ?_)
    · refine XS.istore X17.here hx rfl (hb hby d36_157) rfl (l' := #[vr tm, vr k1, vr f1, uu, vr r1, vi (-1 : Int32), vr r1, vn, vr k1]) rfl ?_
      refine own_il X17 Y d36_159 rfl ?_
      refine XS.ifNo X17.here hx rfl (hb hby d36_161) rfl ((if0 _ _).trans (tlt ((by decide) : (-1 : Int32) < (0 : Int32))).2.1) ?_
      exact own_al X17 Y d36_164 rfl rfl (Steps.refl _)
    obtain ⟨v19, T19, Lc19, X19, hQ19, st19⟩ := own_priv (own_cmf l Z a0 hW tm k1 f1 x (.ref r1) mc sz cK h0 n0 Z0 O0 T1 K1.1 K1.2 hm hfn) X18 Y hZH hown (tw_ hw 117 rfl) (tw_ hw 118 rfl) (tw_ hw 119 rfl) (own_nf (notFace_of_selects (tw_ hw 109 rfl)) (tw_ hw 108 rfl) rfl) (tw_ hw 121 rfl) (tw_ hw 11 rfl) (by decide) e18 (own_T.ex T1) (g := (mkF m 222 #[vr tm, vr k1, vr f1, uu, vn, vi (-1 : Int32), vr r1, vn, vr k1] [(.ref f1), (.ref k1), (.ref tm)])) rfl hml.symm (argsL := [(.ref k1), (.ref f1)]) (rest := []) (lenOf pd_17 rfl) rfl d36_222
    obtain ⟨d19, t19, kt19, rfl, Nq19, Kq19, Dq19, ga19, gb19⟩ := hQ19
    have N19 := Fr.app N17 Nq19
    obtain ⟨z20, Zz20, K20, O20⟩ := own_eK Kq19 Z0 K0 O0 all0 all0
    have ltd19 := Dq19.lt
    refine own_gs ?_ (own_gs st19 ?_)
    · refine XS.astore X18.here hx rfl (hb hby d36_169) rfl rfl (l' := #[vr tm, vr k1, vr f1, uu, vn, vi (-1 : Int32), vr r1, vn, vr k1]) rfl ?_
      refine XS.goto X18.here hx rfl (pc0 := 171) (pc' := 214) rfl (hb hby d36_171) (by decide) (by decide) ?_
      refine own_al X18 Y d36_214 rfl rfl ?_
      refine XS.ifnonnullNo X18.here hx rfl (hb hby d36_216) rfl ?_
      refine own_a X18 Y d36_219 rfl rfl ?_
      refine own_a X18 Y d36_220 rfl rfl ?_
      exact own_a X18 Y d36_221 rfl rfl (Steps.refl _)
    have f21 := (T1.keep Kq19 nin0)
    have f22 := (R1.keep Kq19 nin0)
    obtain ⟨v23, T23, Lc23, X23, hQ23, st23⟩ := own_priv (own_aeL l Z a0 hW tm r1 k1 d19 mc sz (.ref kr) (.ref dr) .null T19.heap n0 Zz20 O20 f21 f22 gt gr) X19 Y hZH hown (tw_ hw 191 rfl) (tw_ hw 192 rfl) (tw_ hw 193 rfl) (own_nf (notFace_of_selects (tw_ hw 109 rfl)) (tw_ hw 108 rfl) rfl) (tw_ hw 195 rfl) (tw_ hw 11 rfl) (by decide) rfl (own_T.ex f21) (g := (mkF m 245 #[vr tm, vr k1, vr f1, vr d19, vn, vi (-1 : Int32), vr r1, vn, vr k1] [(.int (1 : Int32)), (.ref r1), (.ref d19), (.ref k1), (.ref tm)])) rfl hml.symm (argsL := [(.ref k1), (.ref d19), (.ref r1), (.int (1 : Int32))]) (rest := []) (lenOf pd_19 rfl) rfl d36_245
    obtain ⟨n23, mc23, sz23, rfl, Nq23, Kq23, Tq23, Pq23, Xq23, gn23⟩ := hQ23
    have N23 := Fr.app N19 Nq23
    obtain ⟨z24, Zz24, K24, O24⟩ := own_eK Kq23 Zz20 K20 O20 (allS (own_i 0 rfl) (allS (own_i 1 rfl) all0)) (allS gt (allS gr all0))
    have ltn23 := own_lt Xq23.lt
    refine own_gs ?_ (own_gs st23 ?_)
    · refine XS.astoreN X19.here hx rfl (hb hby d36_225) rfl rfl (l' := #[vr tm, vr k1, vr f1, vr d19, vn, vi (-1 : Int32), vr r1, vn, vr k1]) rfl ?_
      refine own_a X19 Y d36_226 rfl rfl ?_
      refine XS.ifnullNo X19.here hx rfl (hb hby d36_227) rfl ?_
      refine own_a X19 Y d36_230 rfl rfl ?_
      refine own_a X19 Y d36_231 rfl rfl ?_
      refine own_a X19 Y d36_232 rfl rfl ?_
      refine own_al X19 Y d36_233 rfl rfl ?_
      refine own_il X19 Y d36_235 rfl ?_
      refine XS.ifNo X19.here hx rfl (hb hby d36_237) rfl ((if0 _ _).trans (tlt ((by decide) : (-1 : Int32) < (0 : Int32))).2.1) ?_
      refine own_ic X19 Y d36_240 ?_
      exact XS.goto X19.here hx rfl (pc0 := 241) (pc' := 245) rfl (hb hby d36_241) (by decide) (by decide) (Steps.refl _)
    have f25 := ((Kr.1.keep Kq19).keep Kq23)
    have nc26 : own_Ne kr r1 := ne_exa f25 (own_N.ex Pq23) (by decide)
    have nc27 : own_Ne kr tm := ne_exa f25 (own_T.ex Tq23) (by decide)
    have f28 := ((Kr.2.keep Kq19 nin0).keep Kq23 (ninS nc27 (ninS nc26 nin0)))
    have f29 := ((K1.1.keep Kq19).keep Kq23)
    have nc30 : own_Ne k1 r1 := ne_exa f29 (own_N.ex Pq23) (by decide)
    have nc31 : own_Ne k1 tm := ne_exa f29 (own_T.ex Tq23) (by decide)
    have f32 := ((K1.2.keep Kq19 nin0).keep Kq23 (ninS nc31 (ninS nc30 nin0)))
    have f34 := (Dq19.1.keep Kq23)
    have nc33 : own_Ne d19 r1 := ne_exa f34 (own_N.ex Pq23) (by decide)
    have nc35 : own_Ne d19 tm := ne_exa f34 (own_T.ex Tq23) (by decide)
    have f36 := (Dq19.keep Kq23 (ninS nc35 (ninS nc33 nin0)) (ninS (own_ne (a := t19) (b := tm) (by omega)) (ninS (own_ne (a := t19) (b := r1) (by omega)) nin0)))
    refine own_gs (cur' := T23.setTop (mkF m 249 #[vr tm, vr k1, vr f1, vr d19, vn, vi (-1 : Int32), vr r1, vn, vr k1] [(.ref d19)])) ?_ ?_
    · exact own_a X23 Y d36_248 rfl rfl (Steps.refl _)
    exact own_rA X23 Bd rfl (v := (.ref d19)) rfl (hb hby d36_249) rfl (⟨_, rfl, N23, ⟨_, K24, (allS ⟨gt, Or.inl (own_T.ex T1)⟩ (allS ⟨gr, Or.inr (own_N.ex R1)⟩ all0))⟩, Or.inr ⟨_, _, [], _, rfl, ⟨gt, ho17, _, _, _, _, _, _, Or.inl ⟨Tq23, Pq23, Xq23, gr, (by omega), (own_ne (a := r1) (b := n23) (by omega)), ⟨f25, f28⟩, ⟨f29, f32⟩⟩⟩, f36, (by omega), (by omega)⟩⟩) rfl rfl
  · refine own_gs st17 ?_
    obtain ⟨T37, X37, e37, st37⟩ := own_gF X17 Y hZ hown (tw_ hw 273 rfl) eh17 (own_N.f_value R1) (g := (mkF m 191 #[vr tm, vr k1, vr f1, uu, vr r1, vi (0 : Int32), vr r1, vn, vr k1] [(.ref r1)])) rfl rfl d36_191
    refine own_gs ?_ (own_go st37 ?_)
    · refine XS.istore X17.here hx rfl (hb hby d36_157) rfl (l' := #[vr tm, vr k1, vr f1, uu, vr r1, vi (0 : Int32), vr r1, vn, vr k1]) rfl ?_
      refine own_il X17 Y d36_159 rfl ?_
      refine XS.ifYes X17.here hx rfl (pc0 := 161) (pc' := 174) rfl (hb hby d36_161) rfl ((if0 _ _).trans (flt ((by decide) : ¬ ((0 : Int32) < (0 : Int32)))).2.1) (by decide) (by decide) ?_
      refine own_il X17 Y d36_174 rfl ?_
      refine XS.ifYes X17.here hx rfl (pc0 := 176) (pc' := 189) rfl (hb hby d36_176) rfl ((if0 _ _).trans (flt ((by decide) : ¬ ((0 : Int32) < (0 : Int32)))).2.2.2) (by decide) (by decide) ?_
      exact own_al X17 Y d36_189 rfl rfl (Steps.refl _)
    obtain ⟨T38, X38, e38, st38⟩ := own_gF X37 Y hZ hown (tw_ hw 273 rfl) e37 (own_N.f_value R1) (g := (mkF m 210 #[vr tm, vr k1, vr f1, uu, vr r1, vi (0 : Int32), vr r1, vn, vr k1] [(.ref r1)])) rfl rfl d36_210
    refine own_gs ?_ (own_go st38 ?_)
    · refine XS.ifnonnullYes X37.here hx rfl (pc0 := 194) (pc' := 208) rfl (hb hby d36_194) rfl (by decide) (by decide) ?_
      exact own_al X37 Y d36_208 rfl rfl (Steps.refl _)
    exact own_rA X38 Bd rfl (v := (.ref dr)) rfl (hb hby d36_213) e38 (⟨_, rfl, N17, ⟨_, K0, (allS ⟨gt, Or.inl (own_T.ex T1)⟩ (allS ⟨gr, Or.inr (own_N.ex R1)⟩ all0))⟩, Or.inl ⟨⟨gt, _, _, _, _, T1, R1, gr, ⟨Kr.1, Kr.2⟩⟩, by rw [ho17]; exact (List.mem_cons_self ..)⟩⟩) rfl rfl
  · refine own_gs st17 ?_
    obtain ⟨T39, X39, e39, st39⟩ := own_gF X17 Y hZ hown (tw_ hw 189 rfl) eh17 (own_N.f_right R1) (g := (mkF m 181 #[vr tm, vr k1, vr f1, uu, vr r1, vi (1 : Int32), vr r1, vn, vr k1] [(.ref r1)])) rfl rfl d36_181
    refine own_gs ?_ (own_go st39 ?_)
    · refine XS.istore X17.here hx rfl (hb hby d36_157) rfl (l' := #[vr tm, vr k1, vr f1, uu, vr r1, vi (1 : Int32), vr r1, vn, vr k1]) rfl ?_
      refine own_il X17 Y d36_159 rfl ?_
      refine XS.ifYes X17.here hx rfl (pc0 := 161) (pc' := 174) rfl (hb hby d36_161) rfl ((if0 _ _).trans (flt ((by decide) : ¬ ((1 : Int32) < (0 : Int32)))).2.1) (by decide) (by decide) ?_
      refine own_il X17 Y d36_174 rfl ?_
      refine XS.ifNo X17.here hx rfl (hb hby d36_176) rfl ((if0 _ _).trans (tlt ((by decide) : (0 : Int32) < (1 : Int32))).2.2.2) ?_
      exact own_al X17 Y d36_179 rfl rfl (Steps.refl _)
    obtain ⟨v40, T40, Lc40, X40, hQ40, st40⟩ := own_priv (own_cmf l Z a0 hW tm k1 f1 x (.ref r1) mc sz cK h0 n0 Z0 O0 T1 K1.1 K1.2 hm hfn) X39 Y hZH hown (tw_ hw 117 rfl) (tw_ hw 118 rfl) (tw_ hw 119 rfl) (own_nf (notFace_of_selects (tw_ hw 109 rfl)) (tw_ hw 108 rfl) rfl) (tw_ hw 121 rfl) (tw_ hw 11 rfl) (by decide) e39 (own_T.ex T1) (g := (mkF m 222 #[vr tm, vr k1, vr f1, uu, vn, vi (1 : Int32), vr r1, vn, vr k1] [(.ref f1), (.ref k1), (.ref tm)])) rfl hml.symm (argsL := [(.ref k1), (.ref f1)]) (rest := []) (lenOf pd_17 rfl) rfl d36_222
    obtain ⟨d40, t40, kt40, rfl, Nq40, Kq40, Dq40, ga40, gb40⟩ := hQ40
    have N40 := Fr.app N17 Nq40
    obtain ⟨z41, Zz41, K41, O41⟩ := own_eK Kq40 Z0 K0 O0 all0 all0
    have ltd40 := Dq40.lt
    refine own_gs ?_ (own_gs st40 ?_)
    · refine XS.astore X39.here hx rfl (hb hby d36_184) rfl rfl (l' := #[vr tm, vr k1, vr f1, uu, vn, vi (1 : Int32), vr r1, vn, vr k1]) rfl ?_
      refine XS.goto X39.here hx rfl (pc0 := 186) (pc' := 214) rfl (hb hby d36_186) (by decide) (by decide) ?_
      refine own_al X39 Y d36_214 rfl rfl ?_
      refine XS.ifnonnullNo X39.here hx rfl (hb hby d36_216) rfl ?_
      refine own_a X39 Y d36_219 rfl rfl ?_
      refine own_a X39 Y d36_220 rfl rfl ?_
      exact own_a X39 Y d36_221 rfl rfl (Steps.refl _)
    have f42 := (T1.keep Kq40 nin0)
    have f43 := (R1.keep Kq40 nin0)
    obtain ⟨v44, T44, Lc44, X44, hQ44, st44⟩ := own_priv (own_aeR l Z a0 hW tm r1 k1 d40 mc sz (.ref kr) (.ref dr) .null T40.heap n0 Zz41 O41 f42 f43 gt gr) X40 Y hZH hown (tw_ hw 191 rfl) (tw_ hw 192 rfl) (tw_ hw 193 rfl) (own_nf (notFace_of_selects (tw_ hw 109 rfl)) (tw_ hw 108 rfl) rfl) (tw_ hw 195 rfl) (tw_ hw 11 rfl) (by decide) rfl (own_T.ex f42) (g := (mkF m 245 #[vr tm, vr k1, vr f1, vr d40, vn, vi (1 : Int32), vr r1, vn, vr k1] [(.int (0 : Int32)), (.ref r1), (.ref d40), (.ref k1), (.ref tm)])) rfl hml.symm (argsL := [(.ref k1), (.ref d40), (.ref r1), (.int (0 : Int32))]) (rest := []) (lenOf pd_19 rfl) rfl d36_245
    obtain ⟨n44, mc44, sz44, rfl, Nq44, Kq44, Tq44, Pq44, Xq44, gn44⟩ := hQ44
    have N44 := Fr.app N40 Nq44
    obtain ⟨z45, Zz45, K45, O45⟩ := own_eK Kq44 Zz41 K41 O41 (allS (own_i 0 rfl) (allS (own_i 1 rfl) all0)) (allS gt (allS gr all0))
    have ltn44 := own_lt Xq44.lt
    refine own_gs ?_ (own_gs st44 ?_)
    · refine XS.astoreN X40.here hx rfl (hb hby d36_225) rfl rfl (l' := #[vr tm, vr k1, vr f1, vr d40, vn, vi (1 : Int32), vr r1, vn, vr k1]) rfl ?_
      refine own_a X40 Y d36_226 rfl rfl ?_
      refine XS.ifnullNo X40.here hx rfl (hb hby d36_227) rfl ?_
      refine own_a X40 Y d36_230 rfl rfl ?_
      refine own_a X40 Y d36_231 rfl rfl ?_
      refine own_a X40 Y d36_232 rfl rfl ?_
      refine own_al X40 Y d36_233 rfl rfl ?_
      refine own_il X40 Y d36_235 rfl ?_
      refine XS.ifYes X40.here hx rfl (pc0 := 237) (pc' := 244) rfl (hb hby d36_237) rfl ((if0 _ _).trans (flt ((by decide) : ¬ ((1 : Int32) < (0 : Int32)))).2.1) (by decide) (by decide) ?_
      exact own_ic X40 Y d36_244 (Steps.refl _)
    have f46 := ((Kr.1.keep Kq40).keep Kq44)
    have nc47 : own_Ne kr r1 := ne_exa f46 (own_N.ex Pq44) (by decide)
    have nc48 : own_Ne kr tm := ne_exa f46 (own_T.ex Tq44) (by decide)
    have f49 := ((Kr.2.keep Kq40 nin0).keep Kq44 (ninS nc48 (ninS nc47 nin0)))
    have f50 := ((K1.1.keep Kq40).keep Kq44)
    have nc51 : own_Ne k1 r1 := ne_exa f50 (own_N.ex Pq44) (by decide)
    have nc52 : own_Ne k1 tm := ne_exa f50 (own_T.ex Tq44) (by decide)
    have f53 := ((K1.2.keep Kq40 nin0).keep Kq44 (ninS nc52 (ninS nc51 nin0)))
    have f55 := (Dq40.1.keep Kq44)
    have nc54 : own_Ne d40 r1 := ne_exa f55 (own_N.ex Pq44) (by decide)
    have nc56 : own_Ne d40 tm := ne_exa f55 (own_T.ex Tq44) (by decide)
    have f57 := (Dq40.keep Kq44 (ninS nc56 (ninS nc54 nin0)) (ninS (own_ne (a := t40) (b := tm) (by omega)) (ninS (own_ne (a := t40) (b := r1) (by omega)) nin0)))
    refine own_gs (cur' := T44.setTop (mkF m 249 #[vr tm, vr k1, vr f1, vr d40, vn, vi (1 : Int32), vr r1, vn, vr k1] [(.ref d40)])) ?_ ?_
    · exact own_a X44 Y d36_248 rfl rfl (Steps.refl _)
    exact own_rA X44 Bd rfl (v := (.ref d40)) rfl (hb hby d36_249) rfl (⟨_, rfl, N44, ⟨_, K45, (allS ⟨gt, Or.inl (own_T.ex T1)⟩ (allS ⟨gr, Or.inr (own_N.ex R1)⟩ all0))⟩, Or.inr ⟨_, _, [_], _, rfl, ⟨gt, ho17, _, _, _, _, _, _, Or.inr ⟨Tq44, Pq44, Xq44, gr, (by omega), (own_ne (a := r1) (b := n44) (by omega)), ⟨f46, f49⟩, ⟨f50, f53⟩⟩⟩, f57, (by omega), (by omega)⟩⟩) rfl rfl
def own_ciL_Q (Z : State) (tm k1 f1 : Nat) (x : Int64) (r1 c1 kr kc : Nat) (xr : Int64) (dr : Nat) (xc : Int64) (dc : Nat) (mc sz : Int32) (cK : ClassId) (h0 : Heap) (n0 : Nat) (v : Option Value) (h : Heap) (L : List Loc) : Prop := own_CI Z n0 h0 tm x [(xc, dc), (xr, dr)] v h L
theorem ef_own_ciL (m : MethodId) (x0 : Nat) (x1 : Nat) (x2 : Nat) : entryFrame m #[(.ref x0), (.ref x1), (.ref x2)] 9 = mkF m 0 #[vr x0, vr x1, vr x2, .unset, .unset, .unset, .unset, .unset, .unset] [] := by first | (simp [entryFrame, mkF, argsToLocals, Value.category]; done) | rfl
set_option maxRecDepth 65536 in
set_option maxHeartbeats 40000000 in
theorem own_ciL (l : Launch) (Z : State) (a0 : Array Value) (hW : own_W Z a0) (tm k1 f1 : Nat) (x : Int64) (r1 c1 kr kc : Nat) (xr : Int64) (dr : Nat) (xc : Int64) (dc : Nat) (mc sz : Int32) (cK : ClassId) (h0 : Heap) (n0 : Nat) (Z0 : n0 ≤ h0.size) (O0 : Old Z n0 h0) (gt : n0 ≤ tm) (K1 : own_Lg Z h0 k1 x) (B1 : own_BL Z h0 n0 tm r1 c1 kr kc xr dr xc dc mc sz) (hlt : xc < xr) (hm : LamKit.Made Z "com/example/capow/capow/service/AdmissionQueue" own_sh cK) (hfn : LamKit.FnAt Z.heap f1 cK) :
    own_MH l own_y38 own_c36 9 (some (.object "java/lang/Object")) (own_r 6 3 26 102) #[(.ref tm), (.ref k1), (.ref f1)] Z h0 (own_ciL_Q Z tm k1 f1 x r1 c1 kr kc xr dr xc dc mc sz cK h0 n0) := by
  refine own_enterH (own := "java/util/TreeMap") rfl (plainFor_of_name pn_java_util_TreeMap) (fun m => ef_own_ciL m tm k1 f1) ?_
  intro p e s m below meth c s₁ Bd hZH hh hx hby hml hown hnm X0 e0
  have hZ := hZH.wide
  have Y := And.intro hx hby
  have hw := hW.1
  have N0 := Fr.nil n0
  have K0 := Keep.refl h0 [tm, r1, c1]
  obtain ⟨T1, R1, C1, gr, gc, hrc, Kr, Kc⟩ := id B1
  have lttm := own_lt T1.lt
  have ltr1 := own_lt R1.lt
  have ltc1 := own_lt C1.lt
  obtain ⟨T11, L11, X11, Nq11, e11, st11⟩ := own_pcall (own_rnn l Z a0 hW f1 h0 n0 Z0 O0) X0 hx hZH hown (tw_ hw 111 rfl) (tw_ hw 112 rfl) (tw_ hw 113 rfl) (tw_ hw 114 rfl) (by decide) e0 (g := (mkF m 1 #[vr tm, vr k1, vr f1, uu, uu, uu, uu, uu, uu] [(.ref f1)])) rfl hml.symm (argsL := [(.ref f1)]) (rest := []) (lenOf pd_15 rfl) rfl (hb hby d36_1) (own_le rfl) (own_le rfl)
  have N11 := Fr.app N0 Nq11
  refine own_gs ?_ (own_gs st11 ?_)
  · exact own_a X0 Y d36_0 rfl rfl (Steps.refl _)
  obtain ⟨T12, X12, e12, st12⟩ := own_gF X11 Y hZ hown (tw_ hw 115 rfl) e11 (own_T.f_root T1) (g := (mkF m 6 #[vr tm, vr k1, vr f1, uu, uu, uu, uu, uu, uu] [(.ref tm)])) rfl rfl d36_6
  refine own_gs ?_ (own_go st12 ?_)
  · refine XS.pop X11.here hx rfl (hb hby d36_4) rfl rfl ?_
    exact own_a X11 Y d36_5 rfl rfl (Steps.refl _)
  obtain ⟨T13, X13, e13, st13⟩ := own_gF X12 Y hZ hown (tw_ hw 26 rfl) e12 (own_T.f_comparator T1) (g := (mkF m 38 #[vr tm, vr k1, vr f1, uu, vr r1, uu, uu, uu, uu] [(.ref tm)])) rfl rfl d36_38
  refine own_gs ?_ (own_go st13 ?_)
  · refine XS.astore X12.here hx rfl (hb hby d36_9) rfl rfl (l' := #[vr tm, vr k1, vr f1, uu, vr r1, uu, uu, uu, uu]) rfl ?_
    refine own_al X12 Y d36_11 rfl rfl ?_
    refine XS.ifnonnullYes X12.here hx rfl (pc0 := 13) (pc' := 37) rfl (hb hby d36_13) rfl (by decide) (by decide) ?_
    exact own_a X12 Y d36_37 rfl rfl (Steps.refl _)
  obtain ⟨T14, L14, X14, Nq14, e14, st14⟩ := own_pcall (own_rnn l Z a0 hW k1 h0 n0 Z0 O0) X13 hx hZH hown (tw_ hw 111 rfl) (tw_ hw 112 rfl) (tw_ hw 113 rfl) (tw_ hw 114 rfl) (by decide) e13 (g := (mkF m 131 #[vr tm, vr k1, vr f1, uu, vr r1, uu, uu, vn, uu] [(.ref k1)])) rfl hml.symm (argsL := [(.ref k1)]) (rest := []) (lenOf pd_15 rfl) rfl (hb hby d36_131) (own_le rfl) (own_le rfl)
  have N14 := Fr.app N11 Nq14
  refine own_gs ?_ (own_gs st14 ?_)
  · refine XS.astore X13.here hx rfl (hb hby d36_41) rfl rfl (l' := #[vr tm, vr k1, vr f1, uu, vr r1, uu, uu, vn, uu]) rfl ?_
    refine own_al X13 Y d36_43 rfl rfl ?_
    refine XS.ifnullYes X13.here hx rfl (pc0 := 45) (pc' := 130) rfl (hb hby d36_45) rfl (by decide) (by decide) ?_
    exact own_a X13 Y d36_130 rfl rfl (Steps.refl _)
  obtain ⟨T15, X15, e15, st15⟩ := castY X14 hx hZ hown (tw_ hw 137 rfl) e14 (Ins.of_exa K1.1 (tw_ hw 138 rfl)) (g := (mkF m 136 #[vr tm, vr k1, vr f1, uu, vr r1, uu, uu, vn, uu] [(.ref k1)])) rfl rfl (hb hby d36_136)
  refine own_gs ?_ (own_go st15 ?_)
  · refine XS.pop X14.here hx rfl (hb hby d36_134) rfl rfl ?_
    exact own_a X14 Y d36_135 rfl rfl (Steps.refl _)
  obtain ⟨T16, X16, e16, st16⟩ := own_gF X15 Y hZ hown (tw_ hw 188 rfl) e15 (own_N.f_key R1) (g := (mkF m 149 #[vr tm, vr k1, vr f1, uu, vr r1, uu, vr r1, vn, vr k1] [(.ref r1), (.ref k1)])) rfl rfl d36_149
  refine own_gs ?_ (own_go st16 ?_)
  · refine XS.astore X15.here hx rfl (hb hby d36_139) rfl rfl (l' := #[vr tm, vr k1, vr f1, uu, vr r1, uu, uu, vn, vr k1]) rfl ?_
    refine own_al X15 Y d36_141 rfl rfl ?_
    refine XS.astore X15.here hx rfl (hb hby d36_143) rfl rfl (l' := #[vr tm, vr k1, vr f1, uu, vr r1, uu, vr r1, vn, vr k1]) rfl ?_
    refine own_al X15 Y d36_145 rfl rfl ?_
    exact own_al X15 Y d36_147 rfl rfl (Steps.refl _)
  obtain ⟨v17, T17, Lc17, X17, hQ17, st17⟩ := own_face (xi := own_y31) (own_ct l Z a0 hW k1 kr x xr h0 n0 Z0 O0 K1.1 K1.2 Kr.1 Kr.2) X16 Y hZH hown (tw_ hw 139 rfl) (tw_ hw 140 rfl) (mvT hZ (tw_ hw 141 rfl)) (tw_ hw 142 rfl) (tw_ hw 143 rfl) (tw_ hw 144 rfl) (tw_ hw 145 rfl) (tw_ hw 138 rfl) (tw_ hw 146 rfl) (tw_ hw 85 rfl) (by decide) e16 K1.1 (g := (mkF m 152 #[vr tm, vr k1, vr f1, uu, vr r1, uu, vr r1, vn, vr k1] [(.ref kr), (.ref k1)])) rfl hml.symm (argsL := [(.ref kr)]) (rest := []) (lenOf pd_12 rfl) rfl d36_152
  obtain ⟨hor17, Nq17, eh17⟩ := hQ17
  have N17 := Fr.app N14 Nq17
  rcases hor17 with ⟨rfl, ho17⟩ | ⟨rfl, ho17⟩ | ⟨rfl, ho17⟩
  · refine own_gs st17 ?_
    obtain ⟨T18, X18, e18, st18⟩ := own_gF X17 Y hZ hown (tw_ hw 211 rfl) eh17 (own_N.f_left R1) (g := (mkF m 166 #[vr tm, vr k1, vr f1, uu, vr r1, vi (-1 : Int32), vr r1, vn, vr k1] [(.ref r1)])) rfl rfl d36_166
    refine own_gs ?_ (own_go st18 ?_)
    · refine XS.istore X17.here hx rfl (hb hby d36_157) rfl (l' := #[vr tm, vr k1, vr f1, uu, vr r1, vi (-1 : Int32), vr r1, vn, vr k1]) rfl ?_
      refine own_il X17 Y d36_159 rfl ?_
      refine XS.ifNo X17.here hx rfl (hb hby d36_161) rfl ((if0 _ _).trans (tlt ((by decide) : (-1 : Int32) < (0 : Int32))).2.1) ?_
      exact own_al X17 Y d36_164 rfl rfl (Steps.refl _)
    obtain ⟨T19, X19, e19, st19⟩ := own_gF X18 Y hZ hown (tw_ hw 188 rfl) e18 (own_N.f_key C1) (g := (mkF m 149 #[vr tm, vr k1, vr f1, uu, vr c1, vi (-1 : Int32), vr c1, vn, vr k1] [(.ref c1), (.ref k1)])) rfl rfl d36_149
    refine own_gs ?_ (own_go st19 ?_)
    · refine XS.astore X18.here hx rfl (hb hby d36_169) rfl rfl (l' := #[vr tm, vr k1, vr f1, uu, vr c1, vi (-1 : Int32), vr r1, vn, vr k1]) rfl ?_
      refine XS.goto X18.here hx rfl (pc0 := 171) (pc' := 214) rfl (hb hby d36_171) (by decide) (by decide) ?_
      refine own_al X18 Y d36_214 rfl rfl ?_
      refine XS.ifnonnullYes X18.here hx rfl (pc0 := 216) (pc' := 141) rfl (hb hby d36_216) rfl (by decide) (by decide) ?_
      refine own_al X18 Y d36_141 rfl rfl ?_
      refine XS.astore X18.here hx rfl (hb hby d36_143) rfl rfl (l' := #[vr tm, vr k1, vr f1, uu, vr c1, vi (-1 : Int32), vr c1, vn, vr k1]) rfl ?_
      refine own_al X18 Y d36_145 rfl rfl ?_
      exact own_al X18 Y d36_147 rfl rfl (Steps.refl _)
    obtain ⟨v20, T20, Lc20, X20, hQ20, st20⟩ := own_face (xi := own_y31) (own_ct l Z a0 hW k1 kc x xc h0 n0 Z0 O0 K1.1 K1.2 Kc.1 Kc.2) X19 Y hZH hown (tw_ hw 139 rfl) (tw_ hw 140 rfl) (mvT hZ (tw_ hw 141 rfl)) (tw_ hw 142 rfl) (tw_ hw 143 rfl) (tw_ hw 144 rfl) (tw_ hw 145 rfl) (tw_ hw 138 rfl) (tw_ hw 146 rfl) (tw_ hw 85 rfl) (by decide) e19 K1.1 (g := (mkF m 152 #[vr tm, vr k1, vr f1, uu, vr c1, vi (-1 : Int32), vr c1, vn, vr k1] [(.ref kc), (.ref k1)])) rfl hml.symm (argsL := [(.ref kc)]) (rest := []) (lenOf pd_12 rfl) rfl d36_152
    obtain ⟨hor20, Nq20, eh20⟩ := hQ20
    have N20 := Fr.app N17 Nq20
    rcases hor20 with ⟨rfl, ho20⟩ | ⟨rfl, ho20⟩ | ⟨rfl, ho20⟩
    · refine own_gs st20 ?_
      obtain ⟨T21, X21, e21, st21⟩ := own_gF X20 Y hZ hown (tw_ hw 211 rfl) eh20 (own_N.f_left C1) (g := (mkF m 166 #[vr tm, vr k1, vr f1, uu, vr c1, vi (-1 : Int32), vr c1, vn, vr k1] [(.ref c1)])) rfl rfl d36_166
      refine own_gs ?_ (own_go st21 ?_)
      · refine XS.istore X20.here hx rfl (hb hby d36_157) rfl (l' := #[vr tm, vr k1, vr f1, uu, vr c1, vi (-1 : Int32), vr c1, vn, vr k1]) rfl ?_
        refine own_il X20 Y d36_159 rfl ?_
        refine XS.ifNo X20.here hx rfl (hb hby d36_161) rfl ((if0 _ _).trans (tlt ((by decide) : (-1 : Int32) < (0 : Int32))).2.1) ?_
        exact own_al X20 Y d36_164 rfl rfl (Steps.refl _)
      obtain ⟨v22, T22, Lc22, X22, hQ22, st22⟩ := own_priv (own_cmf l Z a0 hW tm k1 f1 x (.ref r1) mc sz cK h0 n0 Z0 O0 T1 K1.1 K1.2 hm hfn) X21 Y hZH hown (tw_ hw 117 rfl) (tw_ hw 118 rfl) (tw_ hw 119 rfl) (own_nf (notFace_of_selects (tw_ hw 109 rfl)) (tw_ hw 108 rfl) rfl) (tw_ hw 121 rfl) (tw_ hw 11 rfl) (by decide) e21 (own_T.ex T1) (g := (mkF m 222 #[vr tm, vr k1, vr f1, uu, vn, vi (-1 : Int32), vr c1, vn, vr k1] [(.ref f1), (.ref k1), (.ref tm)])) rfl hml.symm (argsL := [(.ref k1), (.ref f1)]) (rest := []) (lenOf pd_17 rfl) rfl d36_222
      obtain ⟨d22, t22, kt22, rfl, Nq22, Kq22, Dq22, ga22, gb22⟩ := hQ22
      have N22 := Fr.app N20 Nq22
      obtain ⟨z23, Zz23, K23, O23⟩ := own_eK Kq22 Z0 K0 O0 all0 all0
      have ltd22 := Dq22.lt
      refine own_gs ?_ (own_gs st22 ?_)
      · refine XS.astore X21.here hx rfl (hb hby d36_169) rfl rfl (l' := #[vr tm, vr k1, vr f1, uu, vn, vi (-1 : Int32), vr c1, vn, vr k1]) rfl ?_
        refine XS.goto X21.here hx rfl (pc0 := 171) (pc' := 214) rfl (hb hby d36_171) (by decide) (by decide) ?_
        refine own_al X21 Y d36_214 rfl rfl ?_
        refine XS.ifnonnullNo X21.here hx rfl (hb hby d36_216) rfl ?_
        refine own_a X21 Y d36_219 rfl rfl ?_
        refine own_a X21 Y d36_220 rfl rfl ?_
        exact own_a X21 Y d36_221 rfl rfl (Steps.refl _)
      have f24 := (T1.keep Kq22 nin0)
      have f25 := (R1.keep Kq22 nin0)
      have f26 := (C1.keep Kq22 nin0)
      obtain ⟨v27, T27, Lc27, X27, hQ27, st27⟩ := own_priv (own_alLo l Z a0 hW tm r1 c1 k1 d22 mc sz (.ref kr) (.ref dr) (.ref kc) (.ref dc) T22.heap n0 Zz23 O23 f24 f25 f26 gt gr gc hrc) X22 Y hZH hown (tw_ hw 191 rfl) (tw_ hw 192 rfl) (tw_ hw 193 rfl) (own_nf (notFace_of_selects (tw_ hw 109 rfl)) (tw_ hw 108 rfl) rfl) (tw_ hw 195 rfl) (tw_ hw 11 rfl) (by decide) rfl (own_T.ex f24) (g := (mkF m 245 #[vr tm, vr k1, vr f1, vr d22, vn, vi (-1 : Int32), vr c1, vn, vr k1] [(.int (1 : Int32)), (.ref c1), (.ref d22), (.ref k1), (.ref tm)])) rfl hml.symm (argsL := [(.ref k1), (.ref d22), (.ref c1), (.int (1 : Int32))]) (rest := []) (lenOf pd_19 rfl) rfl d36_245
      obtain ⟨n27, mc27, sz27, rfl, Nq27, Kq27, Tq27, Aq27, Bq27, Gq27, gn27⟩ := hQ27
      have N27 := Fr.app N22 Nq27
      obtain ⟨z28, Zz28, K28, O28⟩ := own_eK Kq27 Zz23 K23 O23 (allS (own_i 0 rfl) (allS (own_i 1 rfl) (allS (own_i 2 rfl) all0))) (allS gt (allS gr (allS gc all0)))
      have ltn27 := own_lt Bq27.lt
      refine own_gs ?_ (own_gs st27 ?_)
      · refine XS.astoreN X22.here hx rfl (hb hby d36_225) rfl rfl (l' := #[vr tm, vr k1, vr f1, vr d22, vn, vi (-1 : Int32), vr c1, vn, vr k1]) rfl ?_
        refine own_a X22 Y d36_226 rfl rfl ?_
        refine XS.ifnullNo X22.here hx rfl (hb hby d36_227) rfl ?_
        refine own_a X22 Y d36_230 rfl rfl ?_
        refine own_a X22 Y d36_231 rfl rfl ?_
        refine own_a X22 Y d36_232 rfl rfl ?_
        refine own_al X22 Y d36_233 rfl rfl ?_
        refine own_il X22 Y d36_235 rfl ?_
        refine XS.ifNo X22.here hx rfl (hb hby d36_237) rfl ((if0 _ _).trans (tlt ((by decide) : (-1 : Int32) < (0 : Int32))).2.1) ?_
        refine own_ic X22 Y d36_240 ?_
        exact XS.goto X22.here hx rfl (pc0 := 241) (pc' := 245) rfl (hb hby d36_241) (by decide) (by decide) (Steps.refl _)
      have f29 := ((Kc.1.keep Kq22).keep Kq27)
      have nc30 : own_Ne kc c1 := ne_exa f29 (own_N.ex Aq27) (by decide)
      have nc31 : own_Ne kc r1 := ne_exa f29 (own_N.ex Gq27) (by decide)
      have nc32 : own_Ne kc tm := ne_exa f29 (own_T.ex Tq27) (by decide)
      have f33 := ((Kc.2.keep Kq22 nin0).keep Kq27 (ninS nc32 (ninS nc31 (ninS nc30 nin0))))
      have f34 := ((K1.1.keep Kq22).keep Kq27)
      have nc35 : own_Ne k1 c1 := ne_exa f34 (own_N.ex Aq27) (by decide)
      have nc36 : own_Ne k1 r1 := ne_exa f34 (own_N.ex Gq27) (by decide)
      have nc37 : own_Ne k1 tm := ne_exa f34 (own_T.ex Tq27) (by decide)
      have f38 := ((K1.2.keep Kq22 nin0).keep Kq27 (ninS nc37 (ninS nc36 (ninS nc35 nin0))))
      have f39 := ((Kr.1.keep Kq22).keep Kq27)
      have nc40 : own_Ne kr c1 := ne_exa f39 (own_N.ex Aq27) (by decide)
      have nc41 : own_Ne kr r1 := ne_exa f39 (own_N.ex Gq27) (by decide)
      have nc42 : own_Ne kr tm := ne_exa f39 (own_T.ex Tq27) (by decide)
      have f43 := ((Kr.2.keep Kq22 nin0).keep Kq27 (ninS nc42 (ninS nc41 (ninS nc40 nin0))))
      have f45 := (Dq22.1.keep Kq27)
      have nc44 : own_Ne d22 c1 := ne_exa f45 (own_N.ex Aq27) (by decide)
      have nc46 : own_Ne d22 r1 := ne_exa f45 (own_N.ex Gq27) (by decide)
      have nc47 : own_Ne d22 tm := ne_exa f45 (own_T.ex Tq27) (by decide)
      have f48 := (Dq22.keep Kq27 (ninS nc47 (ninS nc46 (ninS nc44 nin0))) (ninS (own_ne (a := t22) (b := tm) (by omega)) (ninS (own_ne (a := t22) (b := r1) (by omega)) (ninS (own_ne (a := t22) (b := c1) (by omega)) nin0))))
      refine own_gs (cur' := T27.setTop (mkF m 249 #[vr tm, vr k1, vr f1, vr d22, vn, vi (-1 : Int32), vr c1, vn, vr k1] [(.ref d22)])) ?_ ?_
      · exact own_a X27 Y d36_248 rfl rfl (Steps.refl _)
      exact own_rA X27 Bd rfl (v := (.ref d22)) rfl (hb hby d36_249) rfl (⟨_, rfl, N27, ⟨_, K28, (allS ⟨gt, Or.inl (own_T.ex T1)⟩ (allS ⟨gr, Or.inr (own_N.ex R1)⟩ (allS ⟨gc, Or.inr (own_N.ex C1)⟩ all0)))⟩, Or.inr ⟨_, _, [], _, rfl, ⟨gt, ho20, hlt, _, _, _, _, _, _, _, _, Tq27, Aq27, Bq27, Gq27, gc, (by omega), gr, (own_ne (a := c1) (b := n27) (by omega)), (Ne.symm hrc), (own_ne (a := n27) (b := r1) (by omega)), ⟨f29, f33⟩, ⟨f34, f38⟩, ⟨f39, f43⟩⟩, f48, (by omega), (by omega)⟩⟩) rfl rfl
    · refine own_gs st20 ?_
      obtain ⟨T49, X49, e49, st49⟩ := own_gF X20 Y hZ hown (tw_ hw 273 rfl) eh20 (own_N.f_value C1) (g := (mkF m 191 #[vr tm, vr k1, vr f1, uu, vr c1, vi (0 : Int32), vr c1, vn, vr k1] [(.ref c1)])) rfl rfl d36_191
      refine own_gs ?_ (own_go st49 ?_)
      · refine XS.istore X20.here hx rfl (hb hby d36_157) rfl (l' := #[vr tm, vr k1, vr f1, uu, vr c1, vi (0 : Int32), vr c1, vn, vr k1]) rfl ?_
        refine own_il X20 Y d36_159 rfl ?_
        refine XS.ifYes X20.here hx rfl (pc0 := 161) (pc' := 174) rfl (hb hby d36_161) rfl ((if0 _ _).trans (flt ((by decide) : ¬ ((0 : Int32) < (0 : Int32)))).2.1) (by decide) (by decide) ?_
        refine own_il X20 Y d36_174 rfl ?_
        refine XS.ifYes X20.here hx rfl (pc0 := 176) (pc' := 189) rfl (hb hby d36_176) rfl ((if0 _ _).trans (flt ((by decide) : ¬ ((0 : Int32) < (0 : Int32)))).2.2.2) (by decide) (by decide) ?_
        exact own_al X20 Y d36_189 rfl rfl (Steps.refl _)
      obtain ⟨T50, X50, e50, st50⟩ := own_gF X49 Y hZ hown (tw_ hw 273 rfl) e49 (own_N.f_value C1) (g := (mkF m 210 #[vr tm, vr k1, vr f1, uu, vr c1, vi (0 : Int32), vr c1, vn, vr k1] [(.ref c1)])) rfl rfl d36_210
      refine own_gs ?_ (own_go st50 ?_)
      · refine XS.ifnonnullYes X49.here hx rfl (pc0 := 194) (pc' := 208) rfl (hb hby d36_194) rfl (by decide) (by decide) ?_
        exact own_al X49 Y d36_208 rfl rfl (Steps.refl _)
      exact own_rA X50 Bd rfl (v := (.ref dc)) rfl (hb hby d36_213) e50 (⟨_, rfl, N20, ⟨_, K0, (allS ⟨gt, Or.inl (own_T.ex T1)⟩ (allS ⟨gr, Or.inr (own_N.ex R1)⟩ (allS ⟨gc, Or.inr (own_N.ex C1)⟩ all0)))⟩, Or.inl ⟨⟨gt, hlt, _, _, _, _, _, _, Or.inl ⟨T1, R1, C1, gr, gc, hrc, ⟨Kr.1, Kr.2⟩, ⟨Kc.1, Kc.2⟩⟩⟩, by rw [ho20]; exact (List.mem_cons_self ..)⟩⟩) rfl rfl
    · refine own_gs st20 ?_
      obtain ⟨T51, X51, e51, st51⟩ := own_gF X20 Y hZ hown (tw_ hw 189 rfl) eh20 (own_N.f_right C1) (g := (mkF m 181 #[vr tm, vr k1, vr f1, uu, vr c1, vi (1 : Int32), vr c1, vn, vr k1] [(.ref c1)])) rfl rfl d36_181
      refine own_gs ?_ (own_go st51 ?_)
      · refine XS.istore X20.here hx rfl (hb hby d36_157) rfl (l' := #[vr tm, vr k1, vr f1, uu, vr c1, vi (1 : Int32), vr c1, vn, vr k1]) rfl ?_
        refine own_il X20 Y d36_159 rfl ?_
        refine XS.ifYes X20.here hx rfl (pc0 := 161) (pc' := 174) rfl (hb hby d36_161) rfl ((if0 _ _).trans (flt ((by decide) : ¬ ((1 : Int32) < (0 : Int32)))).2.1) (by decide) (by decide) ?_
        refine own_il X20 Y d36_174 rfl ?_
        refine XS.ifNo X20.here hx rfl (hb hby d36_176) rfl ((if0 _ _).trans (tlt ((by decide) : (0 : Int32) < (1 : Int32))).2.2.2) ?_
        exact own_al X20 Y d36_179 rfl rfl (Steps.refl _)
      obtain ⟨v52, T52, Lc52, X52, hQ52, st52⟩ := own_priv (own_cmf l Z a0 hW tm k1 f1 x (.ref r1) mc sz cK h0 n0 Z0 O0 T1 K1.1 K1.2 hm hfn) X51 Y hZH hown (tw_ hw 117 rfl) (tw_ hw 118 rfl) (tw_ hw 119 rfl) (own_nf (notFace_of_selects (tw_ hw 109 rfl)) (tw_ hw 108 rfl) rfl) (tw_ hw 121 rfl) (tw_ hw 11 rfl) (by decide) e51 (own_T.ex T1) (g := (mkF m 222 #[vr tm, vr k1, vr f1, uu, vn, vi (1 : Int32), vr c1, vn, vr k1] [(.ref f1), (.ref k1), (.ref tm)])) rfl hml.symm (argsL := [(.ref k1), (.ref f1)]) (rest := []) (lenOf pd_17 rfl) rfl d36_222
      obtain ⟨d52, t52, kt52, rfl, Nq52, Kq52, Dq52, ga52, gb52⟩ := hQ52
      have N52 := Fr.app N20 Nq52
      obtain ⟨z53, Zz53, K53, O53⟩ := own_eK Kq52 Z0 K0 O0 all0 all0
      have ltd52 := Dq52.lt
      refine own_gs ?_ (own_gs st52 ?_)
      · refine XS.astore X51.here hx rfl (hb hby d36_184) rfl rfl (l' := #[vr tm, vr k1, vr f1, uu, vn, vi (1 : Int32), vr c1, vn, vr k1]) rfl ?_
        refine XS.goto X51.here hx rfl (pc0 := 186) (pc' := 214) rfl (hb hby d36_186) (by decide) (by decide) ?_
        refine own_al X51 Y d36_214 rfl rfl ?_
        refine XS.ifnonnullNo X51.here hx rfl (hb hby d36_216) rfl ?_
        refine own_a X51 Y d36_219 rfl rfl ?_
        refine own_a X51 Y d36_220 rfl rfl ?_
        exact own_a X51 Y d36_221 rfl rfl (Steps.refl _)
      have f54 := (T1.keep Kq52 nin0)
      have f55 := (R1.keep Kq52 nin0)
      have f56 := (C1.keep Kq52 nin0)
      obtain ⟨v57, T57, Lc57, X57, hQ57, st57⟩ := own_priv (own_alLi l Z a0 hW tm r1 c1 k1 d52 mc sz (.ref kr) (.ref dr) (.ref kc) (.ref dc) T52.heap n0 Zz53 O53 f54 f55 f56 gt gr gc hrc) X52 Y hZH hown (tw_ hw 191 rfl) (tw_ hw 192 rfl) (tw_ hw 193 rfl) (own_nf (notFace_of_selects (tw_ hw 109 rfl)) (tw_ hw 108 rfl) rfl) (tw_ hw 195 rfl) (tw_ hw 11 rfl) (by decide) rfl (own_T.ex f54) (g := (mkF m 245 #[vr tm, vr k1, vr f1, vr d52, vn, vi (1 : Int32), vr c1, vn, vr k1] [(.int (0 : Int32)), (.ref c1), (.ref d52), (.ref k1), (.ref tm)])) rfl hml.symm (argsL := [(.ref k1), (.ref d52), (.ref c1), (.int (0 : Int32))]) (rest := []) (lenOf pd_19 rfl) rfl d36_245
      obtain ⟨n57, mc57, sz57, rfl, Nq57, Kq57, Tq57, Aq57, Bq57, Gq57, gn57⟩ := hQ57
      have N57 := Fr.app N52 Nq57
      obtain ⟨z58, Zz58, K58, O58⟩ := own_eK Kq57 Zz53 K53 O53 (allS (own_i 0 rfl) (allS (own_i 1 rfl) (allS (own_i 2 rfl) all0))) (allS gt (allS gr (allS gc all0)))
      have ltn57 := own_lt Aq57.lt
      refine own_gs ?_ (own_gs st57 ?_)
      · refine XS.astoreN X52.here hx rfl (hb hby d36_225) rfl rfl (l' := #[vr tm, vr k1, vr f1, vr d52, vn, vi (1 : Int32), vr c1, vn, vr k1]) rfl ?_
        refine own_a X52 Y d36_226 rfl rfl ?_
        refine XS.ifnullNo X52.here hx rfl (hb hby d36_227) rfl ?_
        refine own_a X52 Y d36_230 rfl rfl ?_
        refine own_a X52 Y d36_231 rfl rfl ?_
        refine own_a X52 Y d36_232 rfl rfl ?_
        refine own_al X52 Y d36_233 rfl rfl ?_
        refine own_il X52 Y d36_235 rfl ?_
        refine XS.ifYes X52.here hx rfl (pc0 := 237) (pc' := 244) rfl (hb hby d36_237) rfl ((if0 _ _).trans (flt ((by decide) : ¬ ((1 : Int32) < (0 : Int32)))).2.1) (by decide) (by decide) ?_
        exact own_ic X52 Y d36_244 (Steps.refl _)
      have f59 := ((K1.1.keep Kq52).keep Kq57)
      have nc60 : own_Ne k1 c1 := ne_exa f59 (own_N.ex Bq57) (by decide)
      have nc61 : own_Ne k1 r1 := ne_exa f59 (own_N.ex Gq57) (by decide)
      have nc62 : own_Ne k1 tm := ne_exa f59 (own_T.ex Tq57) (by decide)
      have f63 := ((K1.2.keep Kq52 nin0).keep Kq57 (ninS nc62 (ninS nc61 (ninS nc60 nin0))))
      have f64 := ((Kc.1.keep Kq52).keep Kq57)
      have nc65 : own_Ne kc c1 := ne_exa f64 (own_N.ex Bq57) (by decide)
      have nc66 : own_Ne kc r1 := ne_exa f64 (own_N.ex Gq57) (by decide)
      have nc67 : own_Ne kc tm := ne_exa f64 (own_T.ex Tq57) (by decide)
      have f68 := ((Kc.2.keep Kq52 nin0).keep Kq57 (ninS nc67 (ninS nc66 (ninS nc65 nin0))))
      have f69 := ((Kr.1.keep Kq52).keep Kq57)
      have nc70 : own_Ne kr c1 := ne_exa f69 (own_N.ex Bq57) (by decide)
      have nc71 : own_Ne kr r1 := ne_exa f69 (own_N.ex Gq57) (by decide)
      have nc72 : own_Ne kr tm := ne_exa f69 (own_T.ex Tq57) (by decide)
      have f73 := ((Kr.2.keep Kq52 nin0).keep Kq57 (ninS nc72 (ninS nc71 (ninS nc70 nin0))))
      have f75 := (Dq52.1.keep Kq57)
      have nc74 : own_Ne d52 c1 := ne_exa f75 (own_N.ex Bq57) (by decide)
      have nc76 : own_Ne d52 r1 := ne_exa f75 (own_N.ex Gq57) (by decide)
      have nc77 : own_Ne d52 tm := ne_exa f75 (own_T.ex Tq57) (by decide)
      have f78 := (Dq52.keep Kq57 (ninS nc77 (ninS nc76 (ninS nc74 nin0))) (ninS (own_ne (a := t52) (b := tm) (by omega)) (ninS (own_ne (a := t52) (b := r1) (by omega)) (ninS (own_ne (a := t52) (b := c1) (by omega)) nin0))))
      refine own_gs (cur' := T57.setTop (mkF m 249 #[vr tm, vr k1, vr f1, vr d52, vn, vi (1 : Int32), vr c1, vn, vr k1] [(.ref d52)])) ?_ ?_
      · exact own_a X57 Y d36_248 rfl rfl (Steps.refl _)
      exact own_rA X57 Bd rfl (v := (.ref d52)) rfl (hb hby d36_249) rfl (⟨_, rfl, N57, ⟨_, K58, (allS ⟨gt, Or.inl (own_T.ex T1)⟩ (allS ⟨gr, Or.inr (own_N.ex R1)⟩ (allS ⟨gc, Or.inr (own_N.ex C1)⟩ all0)))⟩, Or.inr ⟨_, _, [_], _, rfl, ⟨gt, ho20, ho17, _, _, _, _, _, _, _, _, Tq57, Aq57, Bq57, Gq57, (by omega), gc, gr, (own_ne (a := n57) (b := c1) (by omega)), (own_ne (a := n57) (b := r1) (by omega)), (Ne.symm hrc), ⟨f59, f63⟩, ⟨f64, f68⟩, ⟨f69, f73⟩⟩, f78, (by omega), (by omega)⟩⟩) rfl rfl
  · refine own_gs st17 ?_
    obtain ⟨T79, X79, e79, st79⟩ := own_gF X17 Y hZ hown (tw_ hw 273 rfl) eh17 (own_N.f_value R1) (g := (mkF m 191 #[vr tm, vr k1, vr f1, uu, vr r1, vi (0 : Int32), vr r1, vn, vr k1] [(.ref r1)])) rfl rfl d36_191
    refine own_gs ?_ (own_go st79 ?_)
    · refine XS.istore X17.here hx rfl (hb hby d36_157) rfl (l' := #[vr tm, vr k1, vr f1, uu, vr r1, vi (0 : Int32), vr r1, vn, vr k1]) rfl ?_
      refine own_il X17 Y d36_159 rfl ?_
      refine XS.ifYes X17.here hx rfl (pc0 := 161) (pc' := 174) rfl (hb hby d36_161) rfl ((if0 _ _).trans (flt ((by decide) : ¬ ((0 : Int32) < (0 : Int32)))).2.1) (by decide) (by decide) ?_
      refine own_il X17 Y d36_174 rfl ?_
      refine XS.ifYes X17.here hx rfl (pc0 := 176) (pc' := 189) rfl (hb hby d36_176) rfl ((if0 _ _).trans (flt ((by decide) : ¬ ((0 : Int32) < (0 : Int32)))).2.2.2) (by decide) (by decide) ?_
      exact own_al X17 Y d36_189 rfl rfl (Steps.refl _)
    obtain ⟨T80, X80, e80, st80⟩ := own_gF X79 Y hZ hown (tw_ hw 273 rfl) e79 (own_N.f_value R1) (g := (mkF m 210 #[vr tm, vr k1, vr f1, uu, vr r1, vi (0 : Int32), vr r1, vn, vr k1] [(.ref r1)])) rfl rfl d36_210
    refine own_gs ?_ (own_go st80 ?_)
    · refine XS.ifnonnullYes X79.here hx rfl (pc0 := 194) (pc' := 208) rfl (hb hby d36_194) rfl (by decide) (by decide) ?_
      exact own_al X79 Y d36_208 rfl rfl (Steps.refl _)
    exact own_rA X80 Bd rfl (v := (.ref dr)) rfl (hb hby d36_213) e80 (⟨_, rfl, N17, ⟨_, K0, (allS ⟨gt, Or.inl (own_T.ex T1)⟩ (allS ⟨gr, Or.inr (own_N.ex R1)⟩ (allS ⟨gc, Or.inr (own_N.ex C1)⟩ all0)))⟩, Or.inl ⟨⟨gt, hlt, _, _, _, _, _, _, Or.inl ⟨T1, R1, C1, gr, gc, hrc, ⟨Kr.1, Kr.2⟩, ⟨Kc.1, Kc.2⟩⟩⟩, by rw [ho17]; exact (List.mem_cons_of_mem _ (List.mem_cons_self ..))⟩⟩) rfl rfl
  · refine own_gs st17 ?_
    obtain ⟨T81, X81, e81, st81⟩ := own_gF X17 Y hZ hown (tw_ hw 189 rfl) eh17 (own_N.f_right R1) (g := (mkF m 181 #[vr tm, vr k1, vr f1, uu, vr r1, vi (1 : Int32), vr r1, vn, vr k1] [(.ref r1)])) rfl rfl d36_181
    refine own_gs ?_ (own_go st81 ?_)
    · refine XS.istore X17.here hx rfl (hb hby d36_157) rfl (l' := #[vr tm, vr k1, vr f1, uu, vr r1, vi (1 : Int32), vr r1, vn, vr k1]) rfl ?_
      refine own_il X17 Y d36_159 rfl ?_
      refine XS.ifYes X17.here hx rfl (pc0 := 161) (pc' := 174) rfl (hb hby d36_161) rfl ((if0 _ _).trans (flt ((by decide) : ¬ ((1 : Int32) < (0 : Int32)))).2.1) (by decide) (by decide) ?_
      refine own_il X17 Y d36_174 rfl ?_
      refine XS.ifNo X17.here hx rfl (hb hby d36_176) rfl ((if0 _ _).trans (tlt ((by decide) : (0 : Int32) < (1 : Int32))).2.2.2) ?_
      exact own_al X17 Y d36_179 rfl rfl (Steps.refl _)
    obtain ⟨v82, T82, Lc82, X82, hQ82, st82⟩ := own_priv (own_cmf l Z a0 hW tm k1 f1 x (.ref r1) mc sz cK h0 n0 Z0 O0 T1 K1.1 K1.2 hm hfn) X81 Y hZH hown (tw_ hw 117 rfl) (tw_ hw 118 rfl) (tw_ hw 119 rfl) (own_nf (notFace_of_selects (tw_ hw 109 rfl)) (tw_ hw 108 rfl) rfl) (tw_ hw 121 rfl) (tw_ hw 11 rfl) (by decide) e81 (own_T.ex T1) (g := (mkF m 222 #[vr tm, vr k1, vr f1, uu, vn, vi (1 : Int32), vr r1, vn, vr k1] [(.ref f1), (.ref k1), (.ref tm)])) rfl hml.symm (argsL := [(.ref k1), (.ref f1)]) (rest := []) (lenOf pd_17 rfl) rfl d36_222
    obtain ⟨d82, t82, kt82, rfl, Nq82, Kq82, Dq82, ga82, gb82⟩ := hQ82
    have N82 := Fr.app N17 Nq82
    obtain ⟨z83, Zz83, K83, O83⟩ := own_eK Kq82 Z0 K0 O0 all0 all0
    have ltd82 := Dq82.lt
    refine own_gs ?_ (own_gs st82 ?_)
    · refine XS.astore X81.here hx rfl (hb hby d36_184) rfl rfl (l' := #[vr tm, vr k1, vr f1, uu, vn, vi (1 : Int32), vr r1, vn, vr k1]) rfl ?_
      refine XS.goto X81.here hx rfl (pc0 := 186) (pc' := 214) rfl (hb hby d36_186) (by decide) (by decide) ?_
      refine own_al X81 Y d36_214 rfl rfl ?_
      refine XS.ifnonnullNo X81.here hx rfl (hb hby d36_216) rfl ?_
      refine own_a X81 Y d36_219 rfl rfl ?_
      refine own_a X81 Y d36_220 rfl rfl ?_
      exact own_a X81 Y d36_221 rfl rfl (Steps.refl _)
    have f84 := (T1.keep Kq82 nin0)
    have f85 := (R1.keep Kq82 nin0)
    obtain ⟨v86, T86, Lc86, X86, hQ86, st86⟩ := own_priv (own_aeR l Z a0 hW tm r1 k1 d82 mc sz (.ref kr) (.ref dr) (.ref c1) T82.heap n0 Zz83 O83 f84 f85 gt gr) X82 Y hZH hown (tw_ hw 191 rfl) (tw_ hw 192 rfl) (tw_ hw 193 rfl) (own_nf (notFace_of_selects (tw_ hw 109 rfl)) (tw_ hw 108 rfl) rfl) (tw_ hw 195 rfl) (tw_ hw 11 rfl) (by decide) rfl (own_T.ex f84) (g := (mkF m 245 #[vr tm, vr k1, vr f1, vr d82, vn, vi (1 : Int32), vr r1, vn, vr k1] [(.int (0 : Int32)), (.ref r1), (.ref d82), (.ref k1), (.ref tm)])) rfl hml.symm (argsL := [(.ref k1), (.ref d82), (.ref r1), (.int (0 : Int32))]) (rest := []) (lenOf pd_19 rfl) rfl d36_245
    obtain ⟨n86, mc86, sz86, rfl, Nq86, Kq86, Tq86, Pq86, Xq86, gn86⟩ := hQ86
    have N86 := Fr.app N82 Nq86
    obtain ⟨z87, Zz87, K87, O87⟩ := own_eK Kq86 Zz83 K83 O83 (allS (own_i 0 rfl) (allS (own_i 1 rfl) all0)) (allS gt (allS gr all0))
    have ltn86 := own_lt Xq86.lt
    refine own_gs ?_ (own_gs st86 ?_)
    · refine XS.astoreN X82.here hx rfl (hb hby d36_225) rfl rfl (l' := #[vr tm, vr k1, vr f1, vr d82, vn, vi (1 : Int32), vr r1, vn, vr k1]) rfl ?_
      refine own_a X82 Y d36_226 rfl rfl ?_
      refine XS.ifnullNo X82.here hx rfl (hb hby d36_227) rfl ?_
      refine own_a X82 Y d36_230 rfl rfl ?_
      refine own_a X82 Y d36_231 rfl rfl ?_
      refine own_a X82 Y d36_232 rfl rfl ?_
      refine own_al X82 Y d36_233 rfl rfl ?_
      refine own_il X82 Y d36_235 rfl ?_
      refine XS.ifYes X82.here hx rfl (pc0 := 237) (pc' := 244) rfl (hb hby d36_237) rfl ((if0 _ _).trans (flt ((by decide) : ¬ ((1 : Int32) < (0 : Int32)))).2.1) (by decide) (by decide) ?_
      exact own_ic X82 Y d36_244 (Steps.refl _)
    have f89 := (((own_N.ex C1).keep Kq82).keep Kq86)
    have nc88 : own_Ne c1 tm := ne_exa f89 (own_T.ex Tq86) (by decide)
    have f90 := ((C1.keep Kq82 nin0).keep Kq86 (ninS nc88 (ninS (Ne.symm hrc) nin0)))
    have f91 := ((Kr.1.keep Kq82).keep Kq86)
    have nc92 : own_Ne kr r1 := ne_exa f91 (own_N.ex Pq86) (by decide)
    have nc93 : own_Ne kr tm := ne_exa f91 (own_T.ex Tq86) (by decide)
    have f94 := ((Kr.2.keep Kq82 nin0).keep Kq86 (ninS nc93 (ninS nc92 nin0)))
    have f95 := ((Kc.1.keep Kq82).keep Kq86)
    have nc96 : own_Ne kc r1 := ne_exa f95 (own_N.ex Pq86) (by decide)
    have nc97 : own_Ne kc tm := ne_exa f95 (own_T.ex Tq86) (by decide)
    have f98 := ((Kc.2.keep Kq82 nin0).keep Kq86 (ninS nc97 (ninS nc96 nin0)))
    have f99 := ((K1.1.keep Kq82).keep Kq86)
    have nc100 : own_Ne k1 r1 := ne_exa f99 (own_N.ex Pq86) (by decide)
    have nc101 : own_Ne k1 tm := ne_exa f99 (own_T.ex Tq86) (by decide)
    have f102 := ((K1.2.keep Kq82 nin0).keep Kq86 (ninS nc101 (ninS nc100 nin0)))
    have f104 := (Dq82.1.keep Kq86)
    have nc103 : own_Ne d82 r1 := ne_exa f104 (own_N.ex Pq86) (by decide)
    have nc105 : own_Ne d82 tm := ne_exa f104 (own_T.ex Tq86) (by decide)
    have f106 := (Dq82.keep Kq86 (ninS nc105 (ninS nc103 nin0)) (ninS (own_ne (a := t82) (b := tm) (by omega)) (ninS (own_ne (a := t82) (b := r1) (by omega)) nin0)))
    refine own_gs (cur' := T86.setTop (mkF m 249 #[vr tm, vr k1, vr f1, vr d82, vn, vi (1 : Int32), vr r1, vn, vr k1] [(.ref d82)])) ?_ ?_
    · exact own_a X86 Y d36_248 rfl rfl (Steps.refl _)
    exact own_rA X86 Bd rfl (v := (.ref d82)) rfl (hb hby d36_249) rfl (⟨_, rfl, N86, ⟨_, K87, (allS ⟨gt, Or.inl (own_T.ex T1)⟩ (allS ⟨gr, Or.inr (own_N.ex R1)⟩ (allS ⟨gc, Or.inr (own_N.ex C1)⟩ all0)))⟩, Or.inr ⟨_, _, [_, _], _, rfl, ⟨gt, hlt, ho17, _, _, _, _, _, _, _, _, Tq86, Pq86, f90, Xq86, gr, gc, (by omega), hrc, (own_ne (a := r1) (b := n86) (by omega)), (own_ne (a := c1) (b := n86) (by omega)), ⟨f91, f94⟩, ⟨f95, f98⟩, ⟨f99, f102⟩⟩, f106, (by omega), (by omega)⟩⟩) rfl rfl
def own_ciR_Q (Z : State) (tm k1 f1 : Nat) (x : Int64) (r1 c1 kr kc : Nat) (xr : Int64) (dr : Nat) (xc : Int64) (dc : Nat) (mc sz : Int32) (cK : ClassId) (h0 : Heap) (n0 : Nat) (v : Option Value) (h : Heap) (L : List Loc) : Prop := own_CI Z n0 h0 tm x [(xr, dr), (xc, dc)] v h L
theorem ef_own_ciR (m : MethodId) (x0 : Nat) (x1 : Nat) (x2 : Nat) : entryFrame m #[(.ref x0), (.ref x1), (.ref x2)] 9 = mkF m 0 #[vr x0, vr x1, vr x2, .unset, .unset, .unset, .unset, .unset, .unset] [] := by first | (simp [entryFrame, mkF, argsToLocals, Value.category]; done) | rfl
set_option maxRecDepth 65536 in
set_option maxHeartbeats 40000000 in
theorem own_ciR (l : Launch) (Z : State) (a0 : Array Value) (hW : own_W Z a0) (tm k1 f1 : Nat) (x : Int64) (r1 c1 kr kc : Nat) (xr : Int64) (dr : Nat) (xc : Int64) (dc : Nat) (mc sz : Int32) (cK : ClassId) (h0 : Heap) (n0 : Nat) (Z0 : n0 ≤ h0.size) (O0 : Old Z n0 h0) (gt : n0 ≤ tm) (K1 : own_Lg Z h0 k1 x) (B1 : own_BR Z h0 n0 tm r1 c1 kr kc xr dr xc dc mc sz) (hlt : xr < xc) (hm : LamKit.Made Z "com/example/capow/capow/service/AdmissionQueue" own_sh cK) (hfn : LamKit.FnAt Z.heap f1 cK) :
    own_MH l own_y38 own_c36 9 (some (.object "java/lang/Object")) (own_r 6 3 26 102) #[(.ref tm), (.ref k1), (.ref f1)] Z h0 (own_ciR_Q Z tm k1 f1 x r1 c1 kr kc xr dr xc dc mc sz cK h0 n0) := by
  refine own_enterH (own := "java/util/TreeMap") rfl (plainFor_of_name pn_java_util_TreeMap) (fun m => ef_own_ciR m tm k1 f1) ?_
  intro p e s m below meth c s₁ Bd hZH hh hx hby hml hown hnm X0 e0
  have hZ := hZH.wide
  have Y := And.intro hx hby
  have hw := hW.1
  have N0 := Fr.nil n0
  have K0 := Keep.refl h0 [tm, r1, c1]
  obtain ⟨T1, R1, C1, gr, gc, hrc, Kr, Kc⟩ := id B1
  have lttm := own_lt T1.lt
  have ltr1 := own_lt R1.lt
  have ltc1 := own_lt C1.lt
  obtain ⟨T11, L11, X11, Nq11, e11, st11⟩ := own_pcall (own_rnn l Z a0 hW f1 h0 n0 Z0 O0) X0 hx hZH hown (tw_ hw 111 rfl) (tw_ hw 112 rfl) (tw_ hw 113 rfl) (tw_ hw 114 rfl) (by decide) e0 (g := (mkF m 1 #[vr tm, vr k1, vr f1, uu, uu, uu, uu, uu, uu] [(.ref f1)])) rfl hml.symm (argsL := [(.ref f1)]) (rest := []) (lenOf pd_15 rfl) rfl (hb hby d36_1) (own_le rfl) (own_le rfl)
  have N11 := Fr.app N0 Nq11
  refine own_gs ?_ (own_gs st11 ?_)
  · exact own_a X0 Y d36_0 rfl rfl (Steps.refl _)
  obtain ⟨T12, X12, e12, st12⟩ := own_gF X11 Y hZ hown (tw_ hw 115 rfl) e11 (own_T.f_root T1) (g := (mkF m 6 #[vr tm, vr k1, vr f1, uu, uu, uu, uu, uu, uu] [(.ref tm)])) rfl rfl d36_6
  refine own_gs ?_ (own_go st12 ?_)
  · refine XS.pop X11.here hx rfl (hb hby d36_4) rfl rfl ?_
    exact own_a X11 Y d36_5 rfl rfl (Steps.refl _)
  obtain ⟨T13, X13, e13, st13⟩ := own_gF X12 Y hZ hown (tw_ hw 26 rfl) e12 (own_T.f_comparator T1) (g := (mkF m 38 #[vr tm, vr k1, vr f1, uu, vr r1, uu, uu, uu, uu] [(.ref tm)])) rfl rfl d36_38
  refine own_gs ?_ (own_go st13 ?_)
  · refine XS.astore X12.here hx rfl (hb hby d36_9) rfl rfl (l' := #[vr tm, vr k1, vr f1, uu, vr r1, uu, uu, uu, uu]) rfl ?_
    refine own_al X12 Y d36_11 rfl rfl ?_
    refine XS.ifnonnullYes X12.here hx rfl (pc0 := 13) (pc' := 37) rfl (hb hby d36_13) rfl (by decide) (by decide) ?_
    exact own_a X12 Y d36_37 rfl rfl (Steps.refl _)
  obtain ⟨T14, L14, X14, Nq14, e14, st14⟩ := own_pcall (own_rnn l Z a0 hW k1 h0 n0 Z0 O0) X13 hx hZH hown (tw_ hw 111 rfl) (tw_ hw 112 rfl) (tw_ hw 113 rfl) (tw_ hw 114 rfl) (by decide) e13 (g := (mkF m 131 #[vr tm, vr k1, vr f1, uu, vr r1, uu, uu, vn, uu] [(.ref k1)])) rfl hml.symm (argsL := [(.ref k1)]) (rest := []) (lenOf pd_15 rfl) rfl (hb hby d36_131) (own_le rfl) (own_le rfl)
  have N14 := Fr.app N11 Nq14
  refine own_gs ?_ (own_gs st14 ?_)
  · refine XS.astore X13.here hx rfl (hb hby d36_41) rfl rfl (l' := #[vr tm, vr k1, vr f1, uu, vr r1, uu, uu, vn, uu]) rfl ?_
    refine own_al X13 Y d36_43 rfl rfl ?_
    refine XS.ifnullYes X13.here hx rfl (pc0 := 45) (pc' := 130) rfl (hb hby d36_45) rfl (by decide) (by decide) ?_
    exact own_a X13 Y d36_130 rfl rfl (Steps.refl _)
  obtain ⟨T15, X15, e15, st15⟩ := castY X14 hx hZ hown (tw_ hw 137 rfl) e14 (Ins.of_exa K1.1 (tw_ hw 138 rfl)) (g := (mkF m 136 #[vr tm, vr k1, vr f1, uu, vr r1, uu, uu, vn, uu] [(.ref k1)])) rfl rfl (hb hby d36_136)
  refine own_gs ?_ (own_go st15 ?_)
  · refine XS.pop X14.here hx rfl (hb hby d36_134) rfl rfl ?_
    exact own_a X14 Y d36_135 rfl rfl (Steps.refl _)
  obtain ⟨T16, X16, e16, st16⟩ := own_gF X15 Y hZ hown (tw_ hw 188 rfl) e15 (own_N.f_key R1) (g := (mkF m 149 #[vr tm, vr k1, vr f1, uu, vr r1, uu, vr r1, vn, vr k1] [(.ref r1), (.ref k1)])) rfl rfl d36_149
  refine own_gs ?_ (own_go st16 ?_)
  · refine XS.astore X15.here hx rfl (hb hby d36_139) rfl rfl (l' := #[vr tm, vr k1, vr f1, uu, vr r1, uu, uu, vn, vr k1]) rfl ?_
    refine own_al X15 Y d36_141 rfl rfl ?_
    refine XS.astore X15.here hx rfl (hb hby d36_143) rfl rfl (l' := #[vr tm, vr k1, vr f1, uu, vr r1, uu, vr r1, vn, vr k1]) rfl ?_
    refine own_al X15 Y d36_145 rfl rfl ?_
    exact own_al X15 Y d36_147 rfl rfl (Steps.refl _)
  obtain ⟨v17, T17, Lc17, X17, hQ17, st17⟩ := own_face (xi := own_y31) (own_ct l Z a0 hW k1 kr x xr h0 n0 Z0 O0 K1.1 K1.2 Kr.1 Kr.2) X16 Y hZH hown (tw_ hw 139 rfl) (tw_ hw 140 rfl) (mvT hZ (tw_ hw 141 rfl)) (tw_ hw 142 rfl) (tw_ hw 143 rfl) (tw_ hw 144 rfl) (tw_ hw 145 rfl) (tw_ hw 138 rfl) (tw_ hw 146 rfl) (tw_ hw 85 rfl) (by decide) e16 K1.1 (g := (mkF m 152 #[vr tm, vr k1, vr f1, uu, vr r1, uu, vr r1, vn, vr k1] [(.ref kr), (.ref k1)])) rfl hml.symm (argsL := [(.ref kr)]) (rest := []) (lenOf pd_12 rfl) rfl d36_152
  obtain ⟨hor17, Nq17, eh17⟩ := hQ17
  have N17 := Fr.app N14 Nq17
  rcases hor17 with ⟨rfl, ho17⟩ | ⟨rfl, ho17⟩ | ⟨rfl, ho17⟩
  · refine own_gs st17 ?_
    obtain ⟨T18, X18, e18, st18⟩ := own_gF X17 Y hZ hown (tw_ hw 211 rfl) eh17 (own_N.f_left R1) (g := (mkF m 166 #[vr tm, vr k1, vr f1, uu, vr r1, vi (-1 : Int32), vr r1, vn, vr k1] [(.ref r1)])) rfl rfl d36_166
    refine own_gs ?_ (own_go st18 ?_)
    · refine XS.istore X17.here hx rfl (hb hby d36_157) rfl (l' := #[vr tm, vr k1, vr f1, uu, vr r1, vi (-1 : Int32), vr r1, vn, vr k1]) rfl ?_
      refine own_il X17 Y d36_159 rfl ?_
      refine XS.ifNo X17.here hx rfl (hb hby d36_161) rfl ((if0 _ _).trans (tlt ((by decide) : (-1 : Int32) < (0 : Int32))).2.1) ?_
      exact own_al X17 Y d36_164 rfl rfl (Steps.refl _)
    obtain ⟨v19, T19, Lc19, X19, hQ19, st19⟩ := own_priv (own_cmf l Z a0 hW tm k1 f1 x (.ref r1) mc sz cK h0 n0 Z0 O0 T1 K1.1 K1.2 hm hfn) X18 Y hZH hown (tw_ hw 117 rfl) (tw_ hw 118 rfl) (tw_ hw 119 rfl) (own_nf (notFace_of_selects (tw_ hw 109 rfl)) (tw_ hw 108 rfl) rfl) (tw_ hw 121 rfl) (tw_ hw 11 rfl) (by decide) e18 (own_T.ex T1) (g := (mkF m 222 #[vr tm, vr k1, vr f1, uu, vn, vi (-1 : Int32), vr r1, vn, vr k1] [(.ref f1), (.ref k1), (.ref tm)])) rfl hml.symm (argsL := [(.ref k1), (.ref f1)]) (rest := []) (lenOf pd_17 rfl) rfl d36_222
    obtain ⟨d19, t19, kt19, rfl, Nq19, Kq19, Dq19, ga19, gb19⟩ := hQ19
    have N19 := Fr.app N17 Nq19
    obtain ⟨z20, Zz20, K20, O20⟩ := own_eK Kq19 Z0 K0 O0 all0 all0
    have ltd19 := Dq19.lt
    refine own_gs ?_ (own_gs st19 ?_)
    · refine XS.astore X18.here hx rfl (hb hby d36_169) rfl rfl (l' := #[vr tm, vr k1, vr f1, uu, vn, vi (-1 : Int32), vr r1, vn, vr k1]) rfl ?_
      refine XS.goto X18.here hx rfl (pc0 := 171) (pc' := 214) rfl (hb hby d36_171) (by decide) (by decide) ?_
      refine own_al X18 Y d36_214 rfl rfl ?_
      refine XS.ifnonnullNo X18.here hx rfl (hb hby d36_216) rfl ?_
      refine own_a X18 Y d36_219 rfl rfl ?_
      refine own_a X18 Y d36_220 rfl rfl ?_
      exact own_a X18 Y d36_221 rfl rfl (Steps.refl _)
    have f21 := (T1.keep Kq19 nin0)
    have f22 := (R1.keep Kq19 nin0)
    obtain ⟨v23, T23, Lc23, X23, hQ23, st23⟩ := own_priv (own_aeL l Z a0 hW tm r1 k1 d19 mc sz (.ref kr) (.ref dr) (.ref c1) T19.heap n0 Zz20 O20 f21 f22 gt gr) X19 Y hZH hown (tw_ hw 191 rfl) (tw_ hw 192 rfl) (tw_ hw 193 rfl) (own_nf (notFace_of_selects (tw_ hw 109 rfl)) (tw_ hw 108 rfl) rfl) (tw_ hw 195 rfl) (tw_ hw 11 rfl) (by decide) rfl (own_T.ex f21) (g := (mkF m 245 #[vr tm, vr k1, vr f1, vr d19, vn, vi (-1 : Int32), vr r1, vn, vr k1] [(.int (1 : Int32)), (.ref r1), (.ref d19), (.ref k1), (.ref tm)])) rfl hml.symm (argsL := [(.ref k1), (.ref d19), (.ref r1), (.int (1 : Int32))]) (rest := []) (lenOf pd_19 rfl) rfl d36_245
    obtain ⟨n23, mc23, sz23, rfl, Nq23, Kq23, Tq23, Pq23, Xq23, gn23⟩ := hQ23
    have N23 := Fr.app N19 Nq23
    obtain ⟨z24, Zz24, K24, O24⟩ := own_eK Kq23 Zz20 K20 O20 (allS (own_i 0 rfl) (allS (own_i 1 rfl) all0)) (allS gt (allS gr all0))
    have ltn23 := own_lt Xq23.lt
    refine own_gs ?_ (own_gs st23 ?_)
    · refine XS.astoreN X19.here hx rfl (hb hby d36_225) rfl rfl (l' := #[vr tm, vr k1, vr f1, vr d19, vn, vi (-1 : Int32), vr r1, vn, vr k1]) rfl ?_
      refine own_a X19 Y d36_226 rfl rfl ?_
      refine XS.ifnullNo X19.here hx rfl (hb hby d36_227) rfl ?_
      refine own_a X19 Y d36_230 rfl rfl ?_
      refine own_a X19 Y d36_231 rfl rfl ?_
      refine own_a X19 Y d36_232 rfl rfl ?_
      refine own_al X19 Y d36_233 rfl rfl ?_
      refine own_il X19 Y d36_235 rfl ?_
      refine XS.ifNo X19.here hx rfl (hb hby d36_237) rfl ((if0 _ _).trans (tlt ((by decide) : (-1 : Int32) < (0 : Int32))).2.1) ?_
      refine own_ic X19 Y d36_240 ?_
      exact XS.goto X19.here hx rfl (pc0 := 241) (pc' := 245) rfl (hb hby d36_241) (by decide) (by decide) (Steps.refl _)
    have f26 := (((own_N.ex C1).keep Kq19).keep Kq23)
    have nc25 : own_Ne c1 tm := ne_exa f26 (own_T.ex Tq23) (by decide)
    have f27 := ((C1.keep Kq19 nin0).keep Kq23 (ninS nc25 (ninS (Ne.symm hrc) nin0)))
    have f28 := ((Kr.1.keep Kq19).keep Kq23)
    have nc29 : own_Ne kr r1 := ne_exa f28 (own_N.ex Pq23) (by decide)
    have nc30 : own_Ne kr tm := ne_exa f28 (own_T.ex Tq23) (by decide)
    have f31 := ((Kr.2.keep Kq19 nin0).keep Kq23 (ninS nc30 (ninS nc29 nin0)))
    have f32 := ((K1.1.keep Kq19).keep Kq23)
    have nc33 : own_Ne k1 r1 := ne_exa f32 (own_N.ex Pq23) (by decide)
    have nc34 : own_Ne k1 tm := ne_exa f32 (own_T.ex Tq23) (by decide)
    have f35 := ((K1.2.keep Kq19 nin0).keep Kq23 (ninS nc34 (ninS nc33 nin0)))
    have f36 := ((Kc.1.keep Kq19).keep Kq23)
    have nc37 : own_Ne kc r1 := ne_exa f36 (own_N.ex Pq23) (by decide)
    have nc38 : own_Ne kc tm := ne_exa f36 (own_T.ex Tq23) (by decide)
    have f39 := ((Kc.2.keep Kq19 nin0).keep Kq23 (ninS nc38 (ninS nc37 nin0)))
    have f41 := (Dq19.1.keep Kq23)
    have nc40 : own_Ne d19 r1 := ne_exa f41 (own_N.ex Pq23) (by decide)
    have nc42 : own_Ne d19 tm := ne_exa f41 (own_T.ex Tq23) (by decide)
    have f43 := (Dq19.keep Kq23 (ninS nc42 (ninS nc40 nin0)) (ninS (own_ne (a := t19) (b := tm) (by omega)) (ninS (own_ne (a := t19) (b := r1) (by omega)) nin0)))
    refine own_gs (cur' := T23.setTop (mkF m 249 #[vr tm, vr k1, vr f1, vr d19, vn, vi (-1 : Int32), vr r1, vn, vr k1] [(.ref d19)])) ?_ ?_
    · exact own_a X23 Y d36_248 rfl rfl (Steps.refl _)
    exact own_rA X23 Bd rfl (v := (.ref d19)) rfl (hb hby d36_249) rfl (⟨_, rfl, N23, ⟨_, K24, (allS ⟨gt, Or.inl (own_T.ex T1)⟩ (allS ⟨gr, Or.inr (own_N.ex R1)⟩ (allS ⟨gc, Or.inr (own_N.ex C1)⟩ all0)))⟩, Or.inr ⟨_, _, [], _, rfl, ⟨gt, ho17, hlt, _, _, _, _, _, _, _, _, Tq23, Pq23, Xq23, f27, gr, (by omega), gc, (own_ne (a := r1) (b := n23) (by omega)), hrc, (own_ne (a := n23) (b := c1) (by omega)), ⟨f28, f31⟩, ⟨f32, f35⟩, ⟨f36, f39⟩⟩, f43, (by omega), (by omega)⟩⟩) rfl rfl
  · refine own_gs st17 ?_
    obtain ⟨T44, X44, e44, st44⟩ := own_gF X17 Y hZ hown (tw_ hw 273 rfl) eh17 (own_N.f_value R1) (g := (mkF m 191 #[vr tm, vr k1, vr f1, uu, vr r1, vi (0 : Int32), vr r1, vn, vr k1] [(.ref r1)])) rfl rfl d36_191
    refine own_gs ?_ (own_go st44 ?_)
    · refine XS.istore X17.here hx rfl (hb hby d36_157) rfl (l' := #[vr tm, vr k1, vr f1, uu, vr r1, vi (0 : Int32), vr r1, vn, vr k1]) rfl ?_
      refine own_il X17 Y d36_159 rfl ?_
      refine XS.ifYes X17.here hx rfl (pc0 := 161) (pc' := 174) rfl (hb hby d36_161) rfl ((if0 _ _).trans (flt ((by decide) : ¬ ((0 : Int32) < (0 : Int32)))).2.1) (by decide) (by decide) ?_
      refine own_il X17 Y d36_174 rfl ?_
      refine XS.ifYes X17.here hx rfl (pc0 := 176) (pc' := 189) rfl (hb hby d36_176) rfl ((if0 _ _).trans (flt ((by decide) : ¬ ((0 : Int32) < (0 : Int32)))).2.2.2) (by decide) (by decide) ?_
      exact own_al X17 Y d36_189 rfl rfl (Steps.refl _)
    obtain ⟨T45, X45, e45, st45⟩ := own_gF X44 Y hZ hown (tw_ hw 273 rfl) e44 (own_N.f_value R1) (g := (mkF m 210 #[vr tm, vr k1, vr f1, uu, vr r1, vi (0 : Int32), vr r1, vn, vr k1] [(.ref r1)])) rfl rfl d36_210
    refine own_gs ?_ (own_go st45 ?_)
    · refine XS.ifnonnullYes X44.here hx rfl (pc0 := 194) (pc' := 208) rfl (hb hby d36_194) rfl (by decide) (by decide) ?_
      exact own_al X44 Y d36_208 rfl rfl (Steps.refl _)
    exact own_rA X45 Bd rfl (v := (.ref dr)) rfl (hb hby d36_213) e45 (⟨_, rfl, N17, ⟨_, K0, (allS ⟨gt, Or.inl (own_T.ex T1)⟩ (allS ⟨gr, Or.inr (own_N.ex R1)⟩ (allS ⟨gc, Or.inr (own_N.ex C1)⟩ all0)))⟩, Or.inl ⟨⟨gt, hlt, _, _, _, _, _, _, Or.inr ⟨T1, R1, C1, gr, gc, hrc, ⟨Kr.1, Kr.2⟩, ⟨Kc.1, Kc.2⟩⟩⟩, by rw [ho17]; exact (List.mem_cons_self ..)⟩⟩) rfl rfl
  · refine own_gs st17 ?_
    obtain ⟨T46, X46, e46, st46⟩ := own_gF X17 Y hZ hown (tw_ hw 189 rfl) eh17 (own_N.f_right R1) (g := (mkF m 181 #[vr tm, vr k1, vr f1, uu, vr r1, vi (1 : Int32), vr r1, vn, vr k1] [(.ref r1)])) rfl rfl d36_181
    refine own_gs ?_ (own_go st46 ?_)
    · refine XS.istore X17.here hx rfl (hb hby d36_157) rfl (l' := #[vr tm, vr k1, vr f1, uu, vr r1, vi (1 : Int32), vr r1, vn, vr k1]) rfl ?_
      refine own_il X17 Y d36_159 rfl ?_
      refine XS.ifYes X17.here hx rfl (pc0 := 161) (pc' := 174) rfl (hb hby d36_161) rfl ((if0 _ _).trans (flt ((by decide) : ¬ ((1 : Int32) < (0 : Int32)))).2.1) (by decide) (by decide) ?_
      refine own_il X17 Y d36_174 rfl ?_
      refine XS.ifNo X17.here hx rfl (hb hby d36_176) rfl ((if0 _ _).trans (tlt ((by decide) : (0 : Int32) < (1 : Int32))).2.2.2) ?_
      exact own_al X17 Y d36_179 rfl rfl (Steps.refl _)
    obtain ⟨T47, X47, e47, st47⟩ := own_gF X46 Y hZ hown (tw_ hw 188 rfl) e46 (own_N.f_key C1) (g := (mkF m 149 #[vr tm, vr k1, vr f1, uu, vr c1, vi (1 : Int32), vr c1, vn, vr k1] [(.ref c1), (.ref k1)])) rfl rfl d36_149
    refine own_gs ?_ (own_go st47 ?_)
    · refine XS.astore X46.here hx rfl (hb hby d36_184) rfl rfl (l' := #[vr tm, vr k1, vr f1, uu, vr c1, vi (1 : Int32), vr r1, vn, vr k1]) rfl ?_
      refine XS.goto X46.here hx rfl (pc0 := 186) (pc' := 214) rfl (hb hby d36_186) (by decide) (by decide) ?_
      refine own_al X46 Y d36_214 rfl rfl ?_
      refine XS.ifnonnullYes X46.here hx rfl (pc0 := 216) (pc' := 141) rfl (hb hby d36_216) rfl (by decide) (by decide) ?_
      refine own_al X46 Y d36_141 rfl rfl ?_
      refine XS.astore X46.here hx rfl (hb hby d36_143) rfl rfl (l' := #[vr tm, vr k1, vr f1, uu, vr c1, vi (1 : Int32), vr c1, vn, vr k1]) rfl ?_
      refine own_al X46 Y d36_145 rfl rfl ?_
      exact own_al X46 Y d36_147 rfl rfl (Steps.refl _)
    obtain ⟨v48, T48, Lc48, X48, hQ48, st48⟩ := own_face (xi := own_y31) (own_ct l Z a0 hW k1 kc x xc h0 n0 Z0 O0 K1.1 K1.2 Kc.1 Kc.2) X47 Y hZH hown (tw_ hw 139 rfl) (tw_ hw 140 rfl) (mvT hZ (tw_ hw 141 rfl)) (tw_ hw 142 rfl) (tw_ hw 143 rfl) (tw_ hw 144 rfl) (tw_ hw 145 rfl) (tw_ hw 138 rfl) (tw_ hw 146 rfl) (tw_ hw 85 rfl) (by decide) e47 K1.1 (g := (mkF m 152 #[vr tm, vr k1, vr f1, uu, vr c1, vi (1 : Int32), vr c1, vn, vr k1] [(.ref kc), (.ref k1)])) rfl hml.symm (argsL := [(.ref kc)]) (rest := []) (lenOf pd_12 rfl) rfl d36_152
    obtain ⟨hor48, Nq48, eh48⟩ := hQ48
    have N48 := Fr.app N17 Nq48
    rcases hor48 with ⟨rfl, ho48⟩ | ⟨rfl, ho48⟩ | ⟨rfl, ho48⟩
    · refine own_gs st48 ?_
      obtain ⟨T49, X49, e49, st49⟩ := own_gF X48 Y hZ hown (tw_ hw 211 rfl) eh48 (own_N.f_left C1) (g := (mkF m 166 #[vr tm, vr k1, vr f1, uu, vr c1, vi (-1 : Int32), vr c1, vn, vr k1] [(.ref c1)])) rfl rfl d36_166
      refine own_gs ?_ (own_go st49 ?_)
      · refine XS.istore X48.here hx rfl (hb hby d36_157) rfl (l' := #[vr tm, vr k1, vr f1, uu, vr c1, vi (-1 : Int32), vr c1, vn, vr k1]) rfl ?_
        refine own_il X48 Y d36_159 rfl ?_
        refine XS.ifNo X48.here hx rfl (hb hby d36_161) rfl ((if0 _ _).trans (tlt ((by decide) : (-1 : Int32) < (0 : Int32))).2.1) ?_
        exact own_al X48 Y d36_164 rfl rfl (Steps.refl _)
      obtain ⟨v50, T50, Lc50, X50, hQ50, st50⟩ := own_priv (own_cmf l Z a0 hW tm k1 f1 x (.ref r1) mc sz cK h0 n0 Z0 O0 T1 K1.1 K1.2 hm hfn) X49 Y hZH hown (tw_ hw 117 rfl) (tw_ hw 118 rfl) (tw_ hw 119 rfl) (own_nf (notFace_of_selects (tw_ hw 109 rfl)) (tw_ hw 108 rfl) rfl) (tw_ hw 121 rfl) (tw_ hw 11 rfl) (by decide) e49 (own_T.ex T1) (g := (mkF m 222 #[vr tm, vr k1, vr f1, uu, vn, vi (-1 : Int32), vr c1, vn, vr k1] [(.ref f1), (.ref k1), (.ref tm)])) rfl hml.symm (argsL := [(.ref k1), (.ref f1)]) (rest := []) (lenOf pd_17 rfl) rfl d36_222
      obtain ⟨d50, t50, kt50, rfl, Nq50, Kq50, Dq50, ga50, gb50⟩ := hQ50
      have N50 := Fr.app N48 Nq50
      obtain ⟨z51, Zz51, K51, O51⟩ := own_eK Kq50 Z0 K0 O0 all0 all0
      have ltd50 := Dq50.lt
      refine own_gs ?_ (own_gs st50 ?_)
      · refine XS.astore X49.here hx rfl (hb hby d36_169) rfl rfl (l' := #[vr tm, vr k1, vr f1, uu, vn, vi (-1 : Int32), vr c1, vn, vr k1]) rfl ?_
        refine XS.goto X49.here hx rfl (pc0 := 171) (pc' := 214) rfl (hb hby d36_171) (by decide) (by decide) ?_
        refine own_al X49 Y d36_214 rfl rfl ?_
        refine XS.ifnonnullNo X49.here hx rfl (hb hby d36_216) rfl ?_
        refine own_a X49 Y d36_219 rfl rfl ?_
        refine own_a X49 Y d36_220 rfl rfl ?_
        exact own_a X49 Y d36_221 rfl rfl (Steps.refl _)
      have f52 := (T1.keep Kq50 nin0)
      have f53 := (R1.keep Kq50 nin0)
      have f54 := (C1.keep Kq50 nin0)
      obtain ⟨v55, T55, Lc55, X55, hQ55, st55⟩ := own_priv (own_alRi l Z a0 hW tm r1 c1 k1 d50 mc sz (.ref kr) (.ref dr) (.ref kc) (.ref dc) T50.heap n0 Zz51 O51 f52 f53 f54 gt gr gc hrc) X50 Y hZH hown (tw_ hw 191 rfl) (tw_ hw 192 rfl) (tw_ hw 193 rfl) (own_nf (notFace_of_selects (tw_ hw 109 rfl)) (tw_ hw 108 rfl) rfl) (tw_ hw 195 rfl) (tw_ hw 11 rfl) (by decide) rfl (own_T.ex f52) (g := (mkF m 245 #[vr tm, vr k1, vr f1, vr d50, vn, vi (-1 : Int32), vr c1, vn, vr k1] [(.int (1 : Int32)), (.ref c1), (.ref d50), (.ref k1), (.ref tm)])) rfl hml.symm (argsL := [(.ref k1), (.ref d50), (.ref c1), (.int (1 : Int32))]) (rest := []) (lenOf pd_19 rfl) rfl d36_245
      obtain ⟨n55, mc55, sz55, rfl, Nq55, Kq55, Tq55, Aq55, Bq55, Gq55, gn55⟩ := hQ55
      have N55 := Fr.app N50 Nq55
      obtain ⟨z56, Zz56, K56, O56⟩ := own_eK Kq55 Zz51 K51 O51 (allS (own_i 0 rfl) (allS (own_i 1 rfl) (allS (own_i 2 rfl) all0))) (allS gt (allS gr (allS gc all0)))
      have ltn55 := own_lt Aq55.lt
      refine own_gs ?_ (own_gs st55 ?_)
      · refine XS.astoreN X50.here hx rfl (hb hby d36_225) rfl rfl (l' := #[vr tm, vr k1, vr f1, vr d50, vn, vi (-1 : Int32), vr c1, vn, vr k1]) rfl ?_
        refine own_a X50 Y d36_226 rfl rfl ?_
        refine XS.ifnullNo X50.here hx rfl (hb hby d36_227) rfl ?_
        refine own_a X50 Y d36_230 rfl rfl ?_
        refine own_a X50 Y d36_231 rfl rfl ?_
        refine own_a X50 Y d36_232 rfl rfl ?_
        refine own_al X50 Y d36_233 rfl rfl ?_
        refine own_il X50 Y d36_235 rfl ?_
        refine XS.ifNo X50.here hx rfl (hb hby d36_237) rfl ((if0 _ _).trans (tlt ((by decide) : (-1 : Int32) < (0 : Int32))).2.1) ?_
        refine own_ic X50 Y d36_240 ?_
        exact XS.goto X50.here hx rfl (pc0 := 241) (pc' := 245) rfl (hb hby d36_241) (by decide) (by decide) (Steps.refl _)
      have f57 := ((K1.1.keep Kq50).keep Kq55)
      have nc58 : own_Ne k1 c1 := ne_exa f57 (own_N.ex Bq55) (by decide)
      have nc59 : own_Ne k1 r1 := ne_exa f57 (own_N.ex Gq55) (by decide)
      have nc60 : own_Ne k1 tm := ne_exa f57 (own_T.ex Tq55) (by decide)
      have f61 := ((K1.2.keep Kq50 nin0).keep Kq55 (ninS nc60 (ninS nc59 (ninS nc58 nin0))))
      have f62 := ((Kr.1.keep Kq50).keep Kq55)
      have nc63 : own_Ne kr c1 := ne_exa f62 (own_N.ex Bq55) (by decide)
      have nc64 : own_Ne kr r1 := ne_exa f62 (own_N.ex Gq55) (by decide)
      have nc65 : own_Ne kr tm := ne_exa f62 (own_T.ex Tq55) (by decide)
      have f66 := ((Kr.2.keep Kq50 nin0).keep Kq55 (ninS nc65 (ninS nc64 (ninS nc63 nin0))))
      have f67 := ((Kc.1.keep Kq50).keep Kq55)
      have nc68 : own_Ne kc c1 := ne_exa f67 (own_N.ex Bq55) (by decide)
      have nc69 : own_Ne kc r1 := ne_exa f67 (own_N.ex Gq55) (by decide)
      have nc70 : own_Ne kc tm := ne_exa f67 (own_T.ex Tq55) (by decide)
      have f71 := ((Kc.2.keep Kq50 nin0).keep Kq55 (ninS nc70 (ninS nc69 (ninS nc68 nin0))))
      have f73 := (Dq50.1.keep Kq55)
      have nc72 : own_Ne d50 c1 := ne_exa f73 (own_N.ex Bq55) (by decide)
      have nc74 : own_Ne d50 r1 := ne_exa f73 (own_N.ex Gq55) (by decide)
      have nc75 : own_Ne d50 tm := ne_exa f73 (own_T.ex Tq55) (by decide)
      have f76 := (Dq50.keep Kq55 (ninS nc75 (ninS nc74 (ninS nc72 nin0))) (ninS (own_ne (a := t50) (b := tm) (by omega)) (ninS (own_ne (a := t50) (b := r1) (by omega)) (ninS (own_ne (a := t50) (b := c1) (by omega)) nin0))))
      refine own_gs (cur' := T55.setTop (mkF m 249 #[vr tm, vr k1, vr f1, vr d50, vn, vi (-1 : Int32), vr c1, vn, vr k1] [(.ref d50)])) ?_ ?_
      · exact own_a X55 Y d36_248 rfl rfl (Steps.refl _)
      exact own_rA X55 Bd rfl (v := (.ref d50)) rfl (hb hby d36_249) rfl (⟨_, rfl, N55, ⟨_, K56, (allS ⟨gt, Or.inl (own_T.ex T1)⟩ (allS ⟨gr, Or.inr (own_N.ex R1)⟩ (allS ⟨gc, Or.inr (own_N.ex C1)⟩ all0)))⟩, Or.inr ⟨_, _, [_], _, rfl, ⟨gt, ho17, ho48, _, _, _, _, _, _, _, _, Tq55, Aq55, Gq55, Bq55, (by omega), gr, gc, (own_ne (a := n55) (b := r1) (by omega)), (own_ne (a := n55) (b := c1) (by omega)), hrc, ⟨f57, f61⟩, ⟨f62, f66⟩, ⟨f67, f71⟩⟩, f76, (by omega), (by omega)⟩⟩) rfl rfl
    · refine own_gs st48 ?_
      obtain ⟨T77, X77, e77, st77⟩ := own_gF X48 Y hZ hown (tw_ hw 273 rfl) eh48 (own_N.f_value C1) (g := (mkF m 191 #[vr tm, vr k1, vr f1, uu, vr c1, vi (0 : Int32), vr c1, vn, vr k1] [(.ref c1)])) rfl rfl d36_191
      refine own_gs ?_ (own_go st77 ?_)
      · refine XS.istore X48.here hx rfl (hb hby d36_157) rfl (l' := #[vr tm, vr k1, vr f1, uu, vr c1, vi (0 : Int32), vr c1, vn, vr k1]) rfl ?_
        refine own_il X48 Y d36_159 rfl ?_
        refine XS.ifYes X48.here hx rfl (pc0 := 161) (pc' := 174) rfl (hb hby d36_161) rfl ((if0 _ _).trans (flt ((by decide) : ¬ ((0 : Int32) < (0 : Int32)))).2.1) (by decide) (by decide) ?_
        refine own_il X48 Y d36_174 rfl ?_
        refine XS.ifYes X48.here hx rfl (pc0 := 176) (pc' := 189) rfl (hb hby d36_176) rfl ((if0 _ _).trans (flt ((by decide) : ¬ ((0 : Int32) < (0 : Int32)))).2.2.2) (by decide) (by decide) ?_
        exact own_al X48 Y d36_189 rfl rfl (Steps.refl _)
      obtain ⟨T78, X78, e78, st78⟩ := own_gF X77 Y hZ hown (tw_ hw 273 rfl) e77 (own_N.f_value C1) (g := (mkF m 210 #[vr tm, vr k1, vr f1, uu, vr c1, vi (0 : Int32), vr c1, vn, vr k1] [(.ref c1)])) rfl rfl d36_210
      refine own_gs ?_ (own_go st78 ?_)
      · refine XS.ifnonnullYes X77.here hx rfl (pc0 := 194) (pc' := 208) rfl (hb hby d36_194) rfl (by decide) (by decide) ?_
        exact own_al X77 Y d36_208 rfl rfl (Steps.refl _)
      exact own_rA X78 Bd rfl (v := (.ref dc)) rfl (hb hby d36_213) e78 (⟨_, rfl, N48, ⟨_, K0, (allS ⟨gt, Or.inl (own_T.ex T1)⟩ (allS ⟨gr, Or.inr (own_N.ex R1)⟩ (allS ⟨gc, Or.inr (own_N.ex C1)⟩ all0)))⟩, Or.inl ⟨⟨gt, hlt, _, _, _, _, _, _, Or.inr ⟨T1, R1, C1, gr, gc, hrc, ⟨Kr.1, Kr.2⟩, ⟨Kc.1, Kc.2⟩⟩⟩, by rw [ho48]; exact (List.mem_cons_of_mem _ (List.mem_cons_self ..))⟩⟩) rfl rfl
    · refine own_gs st48 ?_
      obtain ⟨T79, X79, e79, st79⟩ := own_gF X48 Y hZ hown (tw_ hw 189 rfl) eh48 (own_N.f_right C1) (g := (mkF m 181 #[vr tm, vr k1, vr f1, uu, vr c1, vi (1 : Int32), vr c1, vn, vr k1] [(.ref c1)])) rfl rfl d36_181
      refine own_gs ?_ (own_go st79 ?_)
      · refine XS.istore X48.here hx rfl (hb hby d36_157) rfl (l' := #[vr tm, vr k1, vr f1, uu, vr c1, vi (1 : Int32), vr c1, vn, vr k1]) rfl ?_
        refine own_il X48 Y d36_159 rfl ?_
        refine XS.ifYes X48.here hx rfl (pc0 := 161) (pc' := 174) rfl (hb hby d36_161) rfl ((if0 _ _).trans (flt ((by decide) : ¬ ((1 : Int32) < (0 : Int32)))).2.1) (by decide) (by decide) ?_
        refine own_il X48 Y d36_174 rfl ?_
        refine XS.ifNo X48.here hx rfl (hb hby d36_176) rfl ((if0 _ _).trans (tlt ((by decide) : (0 : Int32) < (1 : Int32))).2.2.2) ?_
        exact own_al X48 Y d36_179 rfl rfl (Steps.refl _)
      obtain ⟨v80, T80, Lc80, X80, hQ80, st80⟩ := own_priv (own_cmf l Z a0 hW tm k1 f1 x (.ref r1) mc sz cK h0 n0 Z0 O0 T1 K1.1 K1.2 hm hfn) X79 Y hZH hown (tw_ hw 117 rfl) (tw_ hw 118 rfl) (tw_ hw 119 rfl) (own_nf (notFace_of_selects (tw_ hw 109 rfl)) (tw_ hw 108 rfl) rfl) (tw_ hw 121 rfl) (tw_ hw 11 rfl) (by decide) e79 (own_T.ex T1) (g := (mkF m 222 #[vr tm, vr k1, vr f1, uu, vn, vi (1 : Int32), vr c1, vn, vr k1] [(.ref f1), (.ref k1), (.ref tm)])) rfl hml.symm (argsL := [(.ref k1), (.ref f1)]) (rest := []) (lenOf pd_17 rfl) rfl d36_222
      obtain ⟨d80, t80, kt80, rfl, Nq80, Kq80, Dq80, ga80, gb80⟩ := hQ80
      have N80 := Fr.app N48 Nq80
      obtain ⟨z81, Zz81, K81, O81⟩ := own_eK Kq80 Z0 K0 O0 all0 all0
      have ltd80 := Dq80.lt
      refine own_gs ?_ (own_gs st80 ?_)
      · refine XS.astore X79.here hx rfl (hb hby d36_184) rfl rfl (l' := #[vr tm, vr k1, vr f1, uu, vn, vi (1 : Int32), vr c1, vn, vr k1]) rfl ?_
        refine XS.goto X79.here hx rfl (pc0 := 186) (pc' := 214) rfl (hb hby d36_186) (by decide) (by decide) ?_
        refine own_al X79 Y d36_214 rfl rfl ?_
        refine XS.ifnonnullNo X79.here hx rfl (hb hby d36_216) rfl ?_
        refine own_a X79 Y d36_219 rfl rfl ?_
        refine own_a X79 Y d36_220 rfl rfl ?_
        exact own_a X79 Y d36_221 rfl rfl (Steps.refl _)
      have f82 := (T1.keep Kq80 nin0)
      have f83 := (R1.keep Kq80 nin0)
      have f84 := (C1.keep Kq80 nin0)
      obtain ⟨v85, T85, Lc85, X85, hQ85, st85⟩ := own_priv (own_alRo l Z a0 hW tm r1 c1 k1 d80 mc sz (.ref kr) (.ref dr) (.ref kc) (.ref dc) T80.heap n0 Zz81 O81 f82 f83 f84 gt gr gc hrc) X80 Y hZH hown (tw_ hw 191 rfl) (tw_ hw 192 rfl) (tw_ hw 193 rfl) (own_nf (notFace_of_selects (tw_ hw 109 rfl)) (tw_ hw 108 rfl) rfl) (tw_ hw 195 rfl) (tw_ hw 11 rfl) (by decide) rfl (own_T.ex f82) (g := (mkF m 245 #[vr tm, vr k1, vr f1, vr d80, vn, vi (1 : Int32), vr c1, vn, vr k1] [(.int (0 : Int32)), (.ref c1), (.ref d80), (.ref k1), (.ref tm)])) rfl hml.symm (argsL := [(.ref k1), (.ref d80), (.ref c1), (.int (0 : Int32))]) (rest := []) (lenOf pd_19 rfl) rfl d36_245
      obtain ⟨n85, mc85, sz85, rfl, Nq85, Kq85, Tq85, Aq85, Bq85, Gq85, gn85⟩ := hQ85
      have N85 := Fr.app N80 Nq85
      obtain ⟨z86, Zz86, K86, O86⟩ := own_eK Kq85 Zz81 K81 O81 (allS (own_i 0 rfl) (allS (own_i 1 rfl) (allS (own_i 2 rfl) all0))) (allS gt (allS gr (allS gc all0)))
      have ltn85 := own_lt Bq85.lt
      refine own_gs ?_ (own_gs st85 ?_)
      · refine XS.astoreN X80.here hx rfl (hb hby d36_225) rfl rfl (l' := #[vr tm, vr k1, vr f1, vr d80, vn, vi (1 : Int32), vr c1, vn, vr k1]) rfl ?_
        refine own_a X80 Y d36_226 rfl rfl ?_
        refine XS.ifnullNo X80.here hx rfl (hb hby d36_227) rfl ?_
        refine own_a X80 Y d36_230 rfl rfl ?_
        refine own_a X80 Y d36_231 rfl rfl ?_
        refine own_a X80 Y d36_232 rfl rfl ?_
        refine own_al X80 Y d36_233 rfl rfl ?_
        refine own_il X80 Y d36_235 rfl ?_
        refine XS.ifYes X80.here hx rfl (pc0 := 237) (pc' := 244) rfl (hb hby d36_237) rfl ((if0 _ _).trans (flt ((by decide) : ¬ ((1 : Int32) < (0 : Int32)))).2.1) (by decide) (by decide) ?_
        exact own_ic X80 Y d36_244 (Steps.refl _)
      have f87 := ((Kc.1.keep Kq80).keep Kq85)
      have nc88 : own_Ne kc c1 := ne_exa f87 (own_N.ex Aq85) (by decide)
      have nc89 : own_Ne kc r1 := ne_exa f87 (own_N.ex Gq85) (by decide)
      have nc90 : own_Ne kc tm := ne_exa f87 (own_T.ex Tq85) (by decide)
      have f91 := ((Kc.2.keep Kq80 nin0).keep Kq85 (ninS nc90 (ninS nc89 (ninS nc88 nin0))))
      have f92 := ((Kr.1.keep Kq80).keep Kq85)
      have nc93 : own_Ne kr c1 := ne_exa f92 (own_N.ex Aq85) (by decide)
      have nc94 : own_Ne kr r1 := ne_exa f92 (own_N.ex Gq85) (by decide)
      have nc95 : own_Ne kr tm := ne_exa f92 (own_T.ex Tq85) (by decide)
      have f96 := ((Kr.2.keep Kq80 nin0).keep Kq85 (ninS nc95 (ninS nc94 (ninS nc93 nin0))))
      have f97 := ((K1.1.keep Kq80).keep Kq85)
      have nc98 : own_Ne k1 c1 := ne_exa f97 (own_N.ex Aq85) (by decide)
      have nc99 : own_Ne k1 r1 := ne_exa f97 (own_N.ex Gq85) (by decide)
      have nc100 : own_Ne k1 tm := ne_exa f97 (own_T.ex Tq85) (by decide)
      have f101 := ((K1.2.keep Kq80 nin0).keep Kq85 (ninS nc100 (ninS nc99 (ninS nc98 nin0))))
      have f103 := (Dq80.1.keep Kq85)
      have nc102 : own_Ne d80 c1 := ne_exa f103 (own_N.ex Aq85) (by decide)
      have nc104 : own_Ne d80 r1 := ne_exa f103 (own_N.ex Gq85) (by decide)
      have nc105 : own_Ne d80 tm := ne_exa f103 (own_T.ex Tq85) (by decide)
      have f106 := (Dq80.keep Kq85 (ninS nc105 (ninS nc104 (ninS nc102 nin0))) (ninS (own_ne (a := t80) (b := tm) (by omega)) (ninS (own_ne (a := t80) (b := r1) (by omega)) (ninS (own_ne (a := t80) (b := c1) (by omega)) nin0))))
      refine own_gs (cur' := T85.setTop (mkF m 249 #[vr tm, vr k1, vr f1, vr d80, vn, vi (1 : Int32), vr c1, vn, vr k1] [(.ref d80)])) ?_ ?_
      · exact own_a X85 Y d36_248 rfl rfl (Steps.refl _)
      exact own_rA X85 Bd rfl (v := (.ref d80)) rfl (hb hby d36_249) rfl (⟨_, rfl, N85, ⟨_, K86, (allS ⟨gt, Or.inl (own_T.ex T1)⟩ (allS ⟨gr, Or.inr (own_N.ex R1)⟩ (allS ⟨gc, Or.inr (own_N.ex C1)⟩ all0)))⟩, Or.inr ⟨_, _, [_, _], _, rfl, ⟨gt, hlt, ho48, _, _, _, _, _, _, _, _, Tq85, Aq85, Gq85, Bq85, gc, gr, (by omega), (Ne.symm hrc), (own_ne (a := c1) (b := n85) (by omega)), (own_ne (a := r1) (b := n85) (by omega)), ⟨f87, f91⟩, ⟨f92, f96⟩, ⟨f97, f101⟩⟩, f106, (by omega), (by omega)⟩⟩) rfl rfl
theorem own_cia (l : Launch) (Z : State) (a0 : Array Value) (hW : own_W Z a0) (tm k1 f1 : Nat) (x : Int64) (cK : ClassId) (M : List (Int64 × Nat)) (h0 : Heap) (n0 : Nat) (Z0 : n0 ≤ h0.size) (O0 : Old Z n0 h0) (F : own_Tr Z h0 n0 tm M) (hM : M.length ≤ 2) (K1 : own_Lg Z h0 k1 x) (hm : LamKit.Made Z "com/example/capow/capow/service/AdmissionQueue" own_sh cK) (hfn : LamKit.FnAt Z.heap f1 cK) :
    own_MH l own_y38 own_c36 9 (some (.object "java/lang/Object")) (own_r 6 3 26 102) #[.ref tm, .ref k1, .ref f1] Z h0 (own_CI Z n0 h0 tm x M) := by
  match M, F, hM with
  | [], ⟨g, mc, sz, B⟩, _ => exact own_ci0 l Z a0 hW tm k1 f1 x mc sz cK h0 n0 Z0 O0 g K1 B hm hfn
  | [(xr, dr)], ⟨g, r, kr, mc, sz, B⟩, _ => exact own_ci1 l Z a0 hW tm k1 f1 x r kr xr dr mc sz cK h0 n0 Z0 O0 g K1 B hm hfn
  | [(xc, dc), (xr, dr)], ⟨g, hx, r, c, kr, kc, mc, sz, Or.inl B⟩, _ => exact own_ciL l Z a0 hW tm k1 f1 x r c kr kc xr dr xc dc mc sz cK h0 n0 Z0 O0 g K1 B hx hm hfn
  | [(xc, dc), (xr, dr)], ⟨g, hx, r, c, kr, kc, mc, sz, Or.inr B⟩, _ => exact own_ciR l Z a0 hW tm k1 f1 x r c kr kc xc dc xr dr mc sz cK h0 n0 Z0 O0 g K1 B hx hm hfn
  | _ :: _ :: _ :: _, _, h => exact absurd h (by simp)
abbrev own_c37 : ByteArray := jdk_2729_method_15_code
def own_geo_Q (Z : State) (tm k1 r1 kr : Nat) (x : Int64) (dr lr rr pr : Value) (cr mc sz : Int32) (h0 : Heap) (n0 : Nat) (v : Option Value) (h : Heap) (L : List Loc) : Prop := v = (some (.ref r1)) ∧ Fr n0 L ∧ h = h0
theorem ef_own_geo (m : MethodId) (x0 : Nat) (x1 : Nat) : entryFrame m #[(.ref x0), (.ref x1)] 5 = mkF m 0 #[vr x0, vr x1, .unset, .unset, .unset] [] := by first | (simp [entryFrame, mkF, argsToLocals, Value.category]; done) | rfl
abbrev own_y39 : MethodName := ⟨"java/util/TreeMap", "getEntry", "(Ljava/lang/Object;)Ljava/util/TreeMap$Entry;"⟩
theorem d37_0 : decode own_c37 0 = .ok (.aload_n 0, 1) := by decide +kernel
theorem d37_1 : decode own_c37 1 = .ok (.getfield 16, 3) := by decide +kernel
theorem d37_4 : decode own_c37 4 = .ok (.ifnull 9, 3) := by decide +kernel
theorem d37_13 : decode own_c37 13 = .ok (.aload_n 1, 1) := by decide +kernel
theorem d37_14 : decode own_c37 14 = .ok (.invokestatic 95, 3) := by decide +kernel
theorem d37_17 : decode own_c37 17 = .ok (.pop, 1) := by decide +kernel
theorem d37_18 : decode own_c37 18 = .ok (.aload_n 1, 1) := by decide +kernel
theorem d37_19 : decode own_c37 19 = .ok (.checkcast 99, 3) := by decide +kernel
theorem d37_22 : decode own_c37 22 = .ok (.astore_n 2, 1) := by decide +kernel
theorem d37_23 : decode own_c37 23 = .ok (.aload_n 0, 1) := by decide +kernel
theorem d37_24 : decode own_c37 24 = .ok (.getfield 101, 3) := by decide +kernel
theorem d37_27 : decode own_c37 27 = .ok (.astore_n 3, 1) := by decide +kernel
theorem d37_28 : decode own_c37 28 = .ok (.aload_n 3, 1) := by decide +kernel
theorem d37_29 : decode own_c37 29 = .ok (.ifnull 46, 3) := by decide +kernel
theorem d37_32 : decode own_c37 32 = .ok (.aload_n 2, 1) := by decide +kernel
theorem d37_33 : decode own_c37 33 = .ok (.aload_n 3, 1) := by decide +kernel
theorem d37_34 : decode own_c37 34 = .ok (.getfield 105, 3) := by decide +kernel
theorem d37_37 : decode own_c37 37 = .ok (.invokeinterface 107 2, 5) := by decide +kernel
theorem d37_42 : decode own_c37 42 = .ok (.istore 4, 2) := by decide +kernel
theorem d37_44 : decode own_c37 44 = .ok (.iload 4, 2) := by decide +kernel
theorem d37_46 : decode own_c37 46 = .ok (.ifCond .ge 11, 3) := by decide +kernel
theorem d37_57 : decode own_c37 57 = .ok (.iload 4, 2) := by decide +kernel
theorem d37_59 : decode own_c37 59 = .ok (.ifCond .le 11, 3) := by decide +kernel
theorem d37_70 : decode own_c37 70 = .ok (.aload_n 3, 1) := by decide +kernel
theorem d37_71 : decode own_c37 71 = .ok (.areturn, 1) := by decide +kernel
set_option maxRecDepth 65536 in
set_option maxHeartbeats 40000000 in
theorem own_geo (l : Launch) (Z : State) (a0 : Array Value) (hW : own_W Z a0) (tm k1 r1 kr : Nat) (x : Int64) (dr lr rr pr : Value) (cr mc sz : Int32) (h0 : Heap) (n0 : Nat) (Z0 : n0 ≤ h0.size) (O0 : Old Z n0 h0) (T1 : own_T Z h0 tm (.ref r1) mc sz) (K1 : own_Lg Z h0 k1 x) (R1 : own_N Z h0 r1 (.ref kr) dr lr rr pr cr) (Kr : own_Lg Z h0 kr x) :
    own_MH l own_y39 own_c37 5 (some (.object "java/util/TreeMap$Entry")) (own_r 3 0 0 59) #[(.ref tm), (.ref k1)] Z h0 (own_geo_Q Z tm k1 r1 kr x dr lr rr pr cr mc sz h0 n0) := by
  refine own_enterH (own := "java/util/TreeMap") rfl (plainFor_of_name pn_java_util_TreeMap) (fun m => ef_own_geo m tm k1) ?_
  intro p e s m below meth c s₁ Bd hZH hh hx hby hml hown hnm X0 e0
  have hZ := hZH.wide
  have Y := And.intro hx hby
  have hw := hW.1
  have N0 := Fr.nil n0
  have K0 := Keep.refl h0 []
  have lttm := own_lt T1.lt
  have ltr1 := own_lt R1.lt
  obtain ⟨T11, X11, e11, st11⟩ := own_gF X0 Y hZ hown (tw_ hw 26 rfl) e0 (own_T.f_comparator T1) (g := (mkF m 1 #[vr tm, vr k1, uu, uu, uu] [(.ref tm)])) rfl rfl d37_1
  refine own_gs ?_ (own_go st11 ?_)
  · exact own_a X0 Y d37_0 rfl rfl (Steps.refl _)
  obtain ⟨T12, L12, X12, Nq12, e12, st12⟩ := own_pcall (own_rnn l Z a0 hW k1 h0 n0 Z0 O0) X11 hx hZH hown (tw_ hw 111 rfl) (tw_ hw 112 rfl) (tw_ hw 113 rfl) (tw_ hw 114 rfl) (by decide) e11 (g := (mkF m 14 #[vr tm, vr k1, uu, uu, uu] [(.ref k1)])) rfl hml.symm (argsL := [(.ref k1)]) (rest := []) (lenOf pd_15 rfl) rfl (hb hby d37_14) (own_le rfl) (own_le rfl)
  have N12 := Fr.app N0 Nq12
  refine own_gs ?_ (own_gs st12 ?_)
  · refine XS.ifnullYes X11.here hx rfl (pc0 := 4) (pc' := 13) rfl (hb hby d37_4) rfl (by decide) (by decide) ?_
    exact own_a X11 Y d37_13 rfl rfl (Steps.refl _)
  obtain ⟨T13, X13, e13, st13⟩ := castY X12 hx hZ hown (tw_ hw 137 rfl) e12 (Ins.of_exa K1.1 (tw_ hw 138 rfl)) (g := (mkF m 19 #[vr tm, vr k1, uu, uu, uu] [(.ref k1)])) rfl rfl (hb hby d37_19)
  refine own_gs ?_ (own_go st13 ?_)
  · refine XS.pop X12.here hx rfl (hb hby d37_17) rfl rfl ?_
    exact own_a X12 Y d37_18 rfl rfl (Steps.refl _)
  obtain ⟨T14, X14, e14, st14⟩ := own_gF X13 Y hZ hown (tw_ hw 115 rfl) e13 (own_T.f_root T1) (g := (mkF m 24 #[vr tm, vr k1, vr k1, uu, uu] [(.ref tm)])) rfl rfl d37_24
  refine own_gs ?_ (own_go st14 ?_)
  · refine XS.astoreN X13.here hx rfl (hb hby d37_22) rfl rfl (l' := #[vr tm, vr k1, vr k1, uu, uu]) rfl ?_
    exact own_a X13 Y d37_23 rfl rfl (Steps.refl _)
  obtain ⟨T15, X15, e15, st15⟩ := own_gF X14 Y hZ hown (tw_ hw 188 rfl) e14 (own_N.f_key R1) (g := (mkF m 34 #[vr tm, vr k1, vr k1, vr r1, uu] [(.ref r1), (.ref k1)])) rfl rfl d37_34
  refine own_gs ?_ (own_go st15 ?_)
  · refine XS.astoreN X14.here hx rfl (hb hby d37_27) rfl rfl (l' := #[vr tm, vr k1, vr k1, vr r1, uu]) rfl ?_
    refine own_a X14 Y d37_28 rfl rfl ?_
    refine XS.ifnullNo X14.here hx rfl (hb hby d37_29) rfl ?_
    refine own_a X14 Y d37_32 rfl rfl ?_
    exact own_a X14 Y d37_33 rfl rfl (Steps.refl _)
  obtain ⟨v16, T16, Lc16, X16, hQ16, st16⟩ := own_face (xi := own_y31) (own_ct l Z a0 hW k1 kr x x h0 n0 Z0 O0 K1.1 K1.2 Kr.1 Kr.2) X15 Y hZH hown (tw_ hw 139 rfl) (tw_ hw 140 rfl) (mvT hZ (tw_ hw 141 rfl)) (tw_ hw 142 rfl) (tw_ hw 143 rfl) (tw_ hw 144 rfl) (tw_ hw 145 rfl) (tw_ hw 138 rfl) (tw_ hw 146 rfl) (tw_ hw 85 rfl) (by decide) e15 K1.1 (g := (mkF m 37 #[vr tm, vr k1, vr k1, vr r1, uu] [(.ref kr), (.ref k1)])) rfl hml.symm (argsL := [(.ref kr)]) (rest := []) (lenOf pd_12 rfl) rfl d37_37
  obtain ⟨hor16, Nq16, eh16⟩ := hQ16
  obtain rfl := own_cE rfl hor16
  have N16 := Fr.app N12 Nq16
  refine own_gs st16 ?_
  refine own_gs (cur' := T16.setTop (mkF m 71 #[vr tm, vr k1, vr k1, vr r1, vi (0 : Int32)] [(.ref r1)])) ?_ ?_
  · refine XS.istore X16.here hx rfl (hb hby d37_42) rfl (l' := #[vr tm, vr k1, vr k1, vr r1, vi (0 : Int32)]) rfl ?_
    refine own_il X16 Y d37_44 rfl ?_
    refine XS.ifYes X16.here hx rfl (pc0 := 46) (pc' := 57) rfl (hb hby d37_46) rfl ((if0 _ _).trans (flt ((by decide) : ¬ ((0 : Int32) < (0 : Int32)))).2.1) (by decide) (by decide) ?_
    refine own_il X16 Y d37_57 rfl ?_
    refine XS.ifYes X16.here hx rfl (pc0 := 59) (pc' := 70) rfl (hb hby d37_59) rfl ((if0 _ _).trans (flt ((by decide) : ¬ ((0 : Int32) < (0 : Int32)))).2.2.2) (by decide) (by decide) ?_
    exact own_a X16 Y d37_70 rfl rfl (Steps.refl _)
  exact own_rA X16 Bd rfl (v := (.ref r1)) rfl (hb hby d37_71) eh16 (⟨rfl, N16, rfl⟩) rfl rfl
def own_gel_Q (Z : State) (tm k1 r1 kr c1 kc : Nat) (x xr : Int64) (dr rr pr dc lc rc pc : Value) (cr cc mc sz : Int32) (h0 : Heap) (n0 : Nat) (v : Option Value) (h : Heap) (L : List Loc) : Prop := v = (some (.ref c1)) ∧ Fr n0 L ∧ h = h0
theorem ef_own_gel (m : MethodId) (x0 : Nat) (x1 : Nat) : entryFrame m #[(.ref x0), (.ref x1)] 5 = mkF m 0 #[vr x0, vr x1, .unset, .unset, .unset] [] := by first | (simp [entryFrame, mkF, argsToLocals, Value.category]; done) | rfl
theorem d37_49 : decode own_c37 49 = .ok (.aload_n 3, 1) := by decide +kernel
theorem d37_50 : decode own_c37 50 = .ok (.getfield 111, 3) := by decide +kernel
theorem d37_53 : decode own_c37 53 = .ok (.astore_n 3, 1) := by decide +kernel
theorem d37_54 : decode own_c37 54 = .ok (.goto 18, 3) := by decide +kernel
theorem d37_72 : decode own_c37 72 = .ok (.goto (-44), 3) := by decide +kernel
set_option maxRecDepth 65536 in
set_option maxHeartbeats 40000000 in
theorem own_gel (l : Launch) (Z : State) (a0 : Array Value) (hW : own_W Z a0) (tm k1 r1 kr c1 kc : Nat) (x xr : Int64) (dr rr pr dc lc rc pc : Value) (cr cc mc sz : Int32) (h0 : Heap) (n0 : Nat) (Z0 : n0 ≤ h0.size) (O0 : Old Z n0 h0) (T1 : own_T Z h0 tm (.ref r1) mc sz) (K1 : own_Lg Z h0 k1 x) (R1 : own_N Z h0 r1 (.ref kr) dr (.ref c1) rr pr cr) (Kr : own_Lg Z h0 kr xr) (C1 : own_N Z h0 c1 (.ref kc) dc lc rc pc cc) (Kc : own_Lg Z h0 kc x) (hlt : x < xr) :
    own_MH l own_y39 own_c37 5 (some (.object "java/util/TreeMap$Entry")) (own_r 3 0 0 59) #[(.ref tm), (.ref k1)] Z h0 (own_gel_Q Z tm k1 r1 kr c1 kc x xr dr rr pr dc lc rc pc cr cc mc sz h0 n0) := by
  refine own_enterH (own := "java/util/TreeMap") rfl (plainFor_of_name pn_java_util_TreeMap) (fun m => ef_own_gel m tm k1) ?_
  intro p e s m below meth c s₁ Bd hZH hh hx hby hml hown hnm X0 e0
  have hZ := hZH.wide
  have Y := And.intro hx hby
  have hw := hW.1
  have N0 := Fr.nil n0
  have K0 := Keep.refl h0 []
  have lttm := own_lt T1.lt
  have ltr1 := own_lt R1.lt
  have ltc1 := own_lt C1.lt
  obtain ⟨T11, X11, e11, st11⟩ := own_gF X0 Y hZ hown (tw_ hw 26 rfl) e0 (own_T.f_comparator T1) (g := (mkF m 1 #[vr tm, vr k1, uu, uu, uu] [(.ref tm)])) rfl rfl d37_1
  refine own_gs ?_ (own_go st11 ?_)
  · exact own_a X0 Y d37_0 rfl rfl (Steps.refl _)
  obtain ⟨T12, L12, X12, Nq12, e12, st12⟩ := own_pcall (own_rnn l Z a0 hW k1 h0 n0 Z0 O0) X11 hx hZH hown (tw_ hw 111 rfl) (tw_ hw 112 rfl) (tw_ hw 113 rfl) (tw_ hw 114 rfl) (by decide) e11 (g := (mkF m 14 #[vr tm, vr k1, uu, uu, uu] [(.ref k1)])) rfl hml.symm (argsL := [(.ref k1)]) (rest := []) (lenOf pd_15 rfl) rfl (hb hby d37_14) (own_le rfl) (own_le rfl)
  have N12 := Fr.app N0 Nq12
  refine own_gs ?_ (own_gs st12 ?_)
  · refine XS.ifnullYes X11.here hx rfl (pc0 := 4) (pc' := 13) rfl (hb hby d37_4) rfl (by decide) (by decide) ?_
    exact own_a X11 Y d37_13 rfl rfl (Steps.refl _)
  obtain ⟨T13, X13, e13, st13⟩ := castY X12 hx hZ hown (tw_ hw 137 rfl) e12 (Ins.of_exa K1.1 (tw_ hw 138 rfl)) (g := (mkF m 19 #[vr tm, vr k1, uu, uu, uu] [(.ref k1)])) rfl rfl (hb hby d37_19)
  refine own_gs ?_ (own_go st13 ?_)
  · refine XS.pop X12.here hx rfl (hb hby d37_17) rfl rfl ?_
    exact own_a X12 Y d37_18 rfl rfl (Steps.refl _)
  obtain ⟨T14, X14, e14, st14⟩ := own_gF X13 Y hZ hown (tw_ hw 115 rfl) e13 (own_T.f_root T1) (g := (mkF m 24 #[vr tm, vr k1, vr k1, uu, uu] [(.ref tm)])) rfl rfl d37_24
  refine own_gs ?_ (own_go st14 ?_)
  · refine XS.astoreN X13.here hx rfl (hb hby d37_22) rfl rfl (l' := #[vr tm, vr k1, vr k1, uu, uu]) rfl ?_
    exact own_a X13 Y d37_23 rfl rfl (Steps.refl _)
  obtain ⟨T15, X15, e15, st15⟩ := own_gF X14 Y hZ hown (tw_ hw 188 rfl) e14 (own_N.f_key R1) (g := (mkF m 34 #[vr tm, vr k1, vr k1, vr r1, uu] [(.ref r1), (.ref k1)])) rfl rfl d37_34
  refine own_gs ?_ (own_go st15 ?_)
  · refine XS.astoreN X14.here hx rfl (hb hby d37_27) rfl rfl (l' := #[vr tm, vr k1, vr k1, vr r1, uu]) rfl ?_
    refine own_a X14 Y d37_28 rfl rfl ?_
    refine XS.ifnullNo X14.here hx rfl (hb hby d37_29) rfl ?_
    refine own_a X14 Y d37_32 rfl rfl ?_
    exact own_a X14 Y d37_33 rfl rfl (Steps.refl _)
  obtain ⟨v16, T16, Lc16, X16, hQ16, st16⟩ := own_face (xi := own_y31) (own_ct l Z a0 hW k1 kr x xr h0 n0 Z0 O0 K1.1 K1.2 Kr.1 Kr.2) X15 Y hZH hown (tw_ hw 139 rfl) (tw_ hw 140 rfl) (mvT hZ (tw_ hw 141 rfl)) (tw_ hw 142 rfl) (tw_ hw 143 rfl) (tw_ hw 144 rfl) (tw_ hw 145 rfl) (tw_ hw 138 rfl) (tw_ hw 146 rfl) (tw_ hw 85 rfl) (by decide) e15 K1.1 (g := (mkF m 37 #[vr tm, vr k1, vr k1, vr r1, uu] [(.ref kr), (.ref k1)])) rfl hml.symm (argsL := [(.ref kr)]) (rest := []) (lenOf pd_12 rfl) rfl d37_37
  obtain ⟨hor16, Nq16, eh16⟩ := hQ16
  obtain rfl := own_cL hlt hor16
  have N16 := Fr.app N12 Nq16
  refine own_gs st16 ?_
  obtain ⟨T17, X17, e17, st17⟩ := own_gF X16 Y hZ hown (tw_ hw 211 rfl) eh16 (own_N.f_left R1) (g := (mkF m 50 #[vr tm, vr k1, vr k1, vr r1, vi (-1 : Int32)] [(.ref r1)])) rfl rfl d37_50
  refine own_gs ?_ (own_go st17 ?_)
  · refine XS.istore X16.here hx rfl (hb hby d37_42) rfl (l' := #[vr tm, vr k1, vr k1, vr r1, vi (-1 : Int32)]) rfl ?_
    refine own_il X16 Y d37_44 rfl ?_
    refine XS.ifNo X16.here hx rfl (hb hby d37_46) rfl ((if0 _ _).trans (tlt ((by decide) : (-1 : Int32) < (0 : Int32))).2.1) ?_
    exact own_a X16 Y d37_49 rfl rfl (Steps.refl _)
  obtain ⟨T18, X18, e18, st18⟩ := own_gF X17 Y hZ hown (tw_ hw 188 rfl) e17 (own_N.f_key C1) (g := (mkF m 34 #[vr tm, vr k1, vr k1, vr c1, vi (-1 : Int32)] [(.ref c1), (.ref k1)])) rfl rfl d37_34
  refine own_gs ?_ (own_go st18 ?_)
  · refine XS.astoreN X17.here hx rfl (hb hby d37_53) rfl rfl (l' := #[vr tm, vr k1, vr k1, vr c1, vi (-1 : Int32)]) rfl ?_
    refine XS.goto X17.here hx rfl (pc0 := 54) (pc' := 72) rfl (hb hby d37_54) (by decide) (by decide) ?_
    refine XS.goto X17.here hx rfl (pc0 := 72) (pc' := 28) rfl (hb hby d37_72) (by decide) (by decide) ?_
    refine own_a X17 Y d37_28 rfl rfl ?_
    refine XS.ifnullNo X17.here hx rfl (hb hby d37_29) rfl ?_
    refine own_a X17 Y d37_32 rfl rfl ?_
    exact own_a X17 Y d37_33 rfl rfl (Steps.refl _)
  obtain ⟨v19, T19, Lc19, X19, hQ19, st19⟩ := own_face (xi := own_y31) (own_ct l Z a0 hW k1 kc x x h0 n0 Z0 O0 K1.1 K1.2 Kc.1 Kc.2) X18 Y hZH hown (tw_ hw 139 rfl) (tw_ hw 140 rfl) (mvT hZ (tw_ hw 141 rfl)) (tw_ hw 142 rfl) (tw_ hw 143 rfl) (tw_ hw 144 rfl) (tw_ hw 145 rfl) (tw_ hw 138 rfl) (tw_ hw 146 rfl) (tw_ hw 85 rfl) (by decide) e18 K1.1 (g := (mkF m 37 #[vr tm, vr k1, vr k1, vr c1, vi (-1 : Int32)] [(.ref kc), (.ref k1)])) rfl hml.symm (argsL := [(.ref kc)]) (rest := []) (lenOf pd_12 rfl) rfl d37_37
  obtain ⟨hor19, Nq19, eh19⟩ := hQ19
  obtain rfl := own_cE rfl hor19
  have N19 := Fr.app N16 Nq19
  refine own_gs st19 ?_
  refine own_gs (cur' := T19.setTop (mkF m 71 #[vr tm, vr k1, vr k1, vr c1, vi (0 : Int32)] [(.ref c1)])) ?_ ?_
  · refine XS.istore X19.here hx rfl (hb hby d37_42) rfl (l' := #[vr tm, vr k1, vr k1, vr c1, vi (0 : Int32)]) rfl ?_
    refine own_il X19 Y d37_44 rfl ?_
    refine XS.ifYes X19.here hx rfl (pc0 := 46) (pc' := 57) rfl (hb hby d37_46) rfl ((if0 _ _).trans (flt ((by decide) : ¬ ((0 : Int32) < (0 : Int32)))).2.1) (by decide) (by decide) ?_
    refine own_il X19 Y d37_57 rfl ?_
    refine XS.ifYes X19.here hx rfl (pc0 := 59) (pc' := 70) rfl (hb hby d37_59) rfl ((if0 _ _).trans (flt ((by decide) : ¬ ((0 : Int32) < (0 : Int32)))).2.2.2) (by decide) (by decide) ?_
    exact own_a X19 Y d37_70 rfl rfl (Steps.refl _)
  exact own_rA X19 Bd rfl (v := (.ref c1)) rfl (hb hby d37_71) eh19 (⟨rfl, N19, rfl⟩) rfl rfl
def own_ger_Q (Z : State) (tm k1 r1 kr c1 kc : Nat) (x xr : Int64) (dr lr pr dc lc rc pc : Value) (cr cc mc sz : Int32) (h0 : Heap) (n0 : Nat) (v : Option Value) (h : Heap) (L : List Loc) : Prop := v = (some (.ref c1)) ∧ Fr n0 L ∧ h = h0
theorem ef_own_ger (m : MethodId) (x0 : Nat) (x1 : Nat) : entryFrame m #[(.ref x0), (.ref x1)] 5 = mkF m 0 #[vr x0, vr x1, .unset, .unset, .unset] [] := by first | (simp [entryFrame, mkF, argsToLocals, Value.category]; done) | rfl
theorem d37_62 : decode own_c37 62 = .ok (.aload_n 3, 1) := by decide +kernel
theorem d37_63 : decode own_c37 63 = .ok (.getfield 114, 3) := by decide +kernel
theorem d37_66 : decode own_c37 66 = .ok (.astore_n 3, 1) := by decide +kernel
theorem d37_67 : decode own_c37 67 = .ok (.goto 5, 3) := by decide +kernel
set_option maxRecDepth 65536 in
set_option maxHeartbeats 40000000 in
theorem own_ger (l : Launch) (Z : State) (a0 : Array Value) (hW : own_W Z a0) (tm k1 r1 kr c1 kc : Nat) (x xr : Int64) (dr lr pr dc lc rc pc : Value) (cr cc mc sz : Int32) (h0 : Heap) (n0 : Nat) (Z0 : n0 ≤ h0.size) (O0 : Old Z n0 h0) (T1 : own_T Z h0 tm (.ref r1) mc sz) (K1 : own_Lg Z h0 k1 x) (R1 : own_N Z h0 r1 (.ref kr) dr lr (.ref c1) pr cr) (Kr : own_Lg Z h0 kr xr) (C1 : own_N Z h0 c1 (.ref kc) dc lc rc pc cc) (Kc : own_Lg Z h0 kc x) (hlt : xr < x) :
    own_MH l own_y39 own_c37 5 (some (.object "java/util/TreeMap$Entry")) (own_r 3 0 0 59) #[(.ref tm), (.ref k1)] Z h0 (own_ger_Q Z tm k1 r1 kr c1 kc x xr dr lr pr dc lc rc pc cr cc mc sz h0 n0) := by
  refine own_enterH (own := "java/util/TreeMap") rfl (plainFor_of_name pn_java_util_TreeMap) (fun m => ef_own_ger m tm k1) ?_
  intro p e s m below meth c s₁ Bd hZH hh hx hby hml hown hnm X0 e0
  have hZ := hZH.wide
  have Y := And.intro hx hby
  have hw := hW.1
  have N0 := Fr.nil n0
  have K0 := Keep.refl h0 []
  have lttm := own_lt T1.lt
  have ltr1 := own_lt R1.lt
  have ltc1 := own_lt C1.lt
  obtain ⟨T11, X11, e11, st11⟩ := own_gF X0 Y hZ hown (tw_ hw 26 rfl) e0 (own_T.f_comparator T1) (g := (mkF m 1 #[vr tm, vr k1, uu, uu, uu] [(.ref tm)])) rfl rfl d37_1
  refine own_gs ?_ (own_go st11 ?_)
  · exact own_a X0 Y d37_0 rfl rfl (Steps.refl _)
  obtain ⟨T12, L12, X12, Nq12, e12, st12⟩ := own_pcall (own_rnn l Z a0 hW k1 h0 n0 Z0 O0) X11 hx hZH hown (tw_ hw 111 rfl) (tw_ hw 112 rfl) (tw_ hw 113 rfl) (tw_ hw 114 rfl) (by decide) e11 (g := (mkF m 14 #[vr tm, vr k1, uu, uu, uu] [(.ref k1)])) rfl hml.symm (argsL := [(.ref k1)]) (rest := []) (lenOf pd_15 rfl) rfl (hb hby d37_14) (own_le rfl) (own_le rfl)
  have N12 := Fr.app N0 Nq12
  refine own_gs ?_ (own_gs st12 ?_)
  · refine XS.ifnullYes X11.here hx rfl (pc0 := 4) (pc' := 13) rfl (hb hby d37_4) rfl (by decide) (by decide) ?_
    exact own_a X11 Y d37_13 rfl rfl (Steps.refl _)
  obtain ⟨T13, X13, e13, st13⟩ := castY X12 hx hZ hown (tw_ hw 137 rfl) e12 (Ins.of_exa K1.1 (tw_ hw 138 rfl)) (g := (mkF m 19 #[vr tm, vr k1, uu, uu, uu] [(.ref k1)])) rfl rfl (hb hby d37_19)
  refine own_gs ?_ (own_go st13 ?_)
  · refine XS.pop X12.here hx rfl (hb hby d37_17) rfl rfl ?_
    exact own_a X12 Y d37_18 rfl rfl (Steps.refl _)
  obtain ⟨T14, X14, e14, st14⟩ := own_gF X13 Y hZ hown (tw_ hw 115 rfl) e13 (own_T.f_root T1) (g := (mkF m 24 #[vr tm, vr k1, vr k1, uu, uu] [(.ref tm)])) rfl rfl d37_24
  refine own_gs ?_ (own_go st14 ?_)
  · refine XS.astoreN X13.here hx rfl (hb hby d37_22) rfl rfl (l' := #[vr tm, vr k1, vr k1, uu, uu]) rfl ?_
    exact own_a X13 Y d37_23 rfl rfl (Steps.refl _)
  obtain ⟨T15, X15, e15, st15⟩ := own_gF X14 Y hZ hown (tw_ hw 188 rfl) e14 (own_N.f_key R1) (g := (mkF m 34 #[vr tm, vr k1, vr k1, vr r1, uu] [(.ref r1), (.ref k1)])) rfl rfl d37_34
  refine own_gs ?_ (own_go st15 ?_)
  · refine XS.astoreN X14.here hx rfl (hb hby d37_27) rfl rfl (l' := #[vr tm, vr k1, vr k1, vr r1, uu]) rfl ?_
    refine own_a X14 Y d37_28 rfl rfl ?_
    refine XS.ifnullNo X14.here hx rfl (hb hby d37_29) rfl ?_
    refine own_a X14 Y d37_32 rfl rfl ?_
    exact own_a X14 Y d37_33 rfl rfl (Steps.refl _)
  obtain ⟨v16, T16, Lc16, X16, hQ16, st16⟩ := own_face (xi := own_y31) (own_ct l Z a0 hW k1 kr x xr h0 n0 Z0 O0 K1.1 K1.2 Kr.1 Kr.2) X15 Y hZH hown (tw_ hw 139 rfl) (tw_ hw 140 rfl) (mvT hZ (tw_ hw 141 rfl)) (tw_ hw 142 rfl) (tw_ hw 143 rfl) (tw_ hw 144 rfl) (tw_ hw 145 rfl) (tw_ hw 138 rfl) (tw_ hw 146 rfl) (tw_ hw 85 rfl) (by decide) e15 K1.1 (g := (mkF m 37 #[vr tm, vr k1, vr k1, vr r1, uu] [(.ref kr), (.ref k1)])) rfl hml.symm (argsL := [(.ref kr)]) (rest := []) (lenOf pd_12 rfl) rfl d37_37
  obtain ⟨hor16, Nq16, eh16⟩ := hQ16
  obtain rfl := own_cG hlt hor16
  have N16 := Fr.app N12 Nq16
  refine own_gs st16 ?_
  obtain ⟨T17, X17, e17, st17⟩ := own_gF X16 Y hZ hown (tw_ hw 189 rfl) eh16 (own_N.f_right R1) (g := (mkF m 63 #[vr tm, vr k1, vr k1, vr r1, vi (1 : Int32)] [(.ref r1)])) rfl rfl d37_63
  refine own_gs ?_ (own_go st17 ?_)
  · refine XS.istore X16.here hx rfl (hb hby d37_42) rfl (l' := #[vr tm, vr k1, vr k1, vr r1, vi (1 : Int32)]) rfl ?_
    refine own_il X16 Y d37_44 rfl ?_
    refine XS.ifYes X16.here hx rfl (pc0 := 46) (pc' := 57) rfl (hb hby d37_46) rfl ((if0 _ _).trans (flt ((by decide) : ¬ ((1 : Int32) < (0 : Int32)))).2.1) (by decide) (by decide) ?_
    refine own_il X16 Y d37_57 rfl ?_
    refine XS.ifNo X16.here hx rfl (hb hby d37_59) rfl ((if0 _ _).trans (tlt ((by decide) : (0 : Int32) < (1 : Int32))).2.2.2) ?_
    exact own_a X16 Y d37_62 rfl rfl (Steps.refl _)
  obtain ⟨T18, X18, e18, st18⟩ := own_gF X17 Y hZ hown (tw_ hw 188 rfl) e17 (own_N.f_key C1) (g := (mkF m 34 #[vr tm, vr k1, vr k1, vr c1, vi (1 : Int32)] [(.ref c1), (.ref k1)])) rfl rfl d37_34
  refine own_gs ?_ (own_go st18 ?_)
  · refine XS.astoreN X17.here hx rfl (hb hby d37_66) rfl rfl (l' := #[vr tm, vr k1, vr k1, vr c1, vi (1 : Int32)]) rfl ?_
    refine XS.goto X17.here hx rfl (pc0 := 67) (pc' := 72) rfl (hb hby d37_67) (by decide) (by decide) ?_
    refine XS.goto X17.here hx rfl (pc0 := 72) (pc' := 28) rfl (hb hby d37_72) (by decide) (by decide) ?_
    refine own_a X17 Y d37_28 rfl rfl ?_
    refine XS.ifnullNo X17.here hx rfl (hb hby d37_29) rfl ?_
    refine own_a X17 Y d37_32 rfl rfl ?_
    exact own_a X17 Y d37_33 rfl rfl (Steps.refl _)
  obtain ⟨v19, T19, Lc19, X19, hQ19, st19⟩ := own_face (xi := own_y31) (own_ct l Z a0 hW k1 kc x x h0 n0 Z0 O0 K1.1 K1.2 Kc.1 Kc.2) X18 Y hZH hown (tw_ hw 139 rfl) (tw_ hw 140 rfl) (mvT hZ (tw_ hw 141 rfl)) (tw_ hw 142 rfl) (tw_ hw 143 rfl) (tw_ hw 144 rfl) (tw_ hw 145 rfl) (tw_ hw 138 rfl) (tw_ hw 146 rfl) (tw_ hw 85 rfl) (by decide) e18 K1.1 (g := (mkF m 37 #[vr tm, vr k1, vr k1, vr c1, vi (1 : Int32)] [(.ref kc), (.ref k1)])) rfl hml.symm (argsL := [(.ref kc)]) (rest := []) (lenOf pd_12 rfl) rfl d37_37
  obtain ⟨hor19, Nq19, eh19⟩ := hQ19
  obtain rfl := own_cE rfl hor19
  have N19 := Fr.app N16 Nq19
  refine own_gs st19 ?_
  refine own_gs (cur' := T19.setTop (mkF m 71 #[vr tm, vr k1, vr k1, vr c1, vi (0 : Int32)] [(.ref c1)])) ?_ ?_
  · refine XS.istore X19.here hx rfl (hb hby d37_42) rfl (l' := #[vr tm, vr k1, vr k1, vr c1, vi (0 : Int32)]) rfl ?_
    refine own_il X19 Y d37_44 rfl ?_
    refine XS.ifYes X19.here hx rfl (pc0 := 46) (pc' := 57) rfl (hb hby d37_46) rfl ((if0 _ _).trans (flt ((by decide) : ¬ ((0 : Int32) < (0 : Int32)))).2.1) (by decide) (by decide) ?_
    refine own_il X19 Y d37_57 rfl ?_
    refine XS.ifYes X19.here hx rfl (pc0 := 59) (pc' := 70) rfl (hb hby d37_59) rfl ((if0 _ _).trans (flt ((by decide) : ¬ ((0 : Int32) < (0 : Int32)))).2.2.2) (by decide) (by decide) ?_
    exact own_a X19 Y d37_70 rfl rfl (Steps.refl _)
  exact own_rA X19 Bd rfl (v := (.ref c1)) rfl (hb hby d37_71) eh19 (⟨rfl, N19, rfl⟩) rfl rfl
abbrev own_c38 : ByteArray := jdk_2729_method_8_code
def own_gto_Q (Z : State) (tm k1 r1 kr : Nat) (x : Int64) (dr lr rr pr : Value) (cr mc sz : Int32) (h0 : Heap) (n0 : Nat) (v : Option Value) (h : Heap) (L : List Loc) : Prop := v = (some dr) ∧ Fr n0 L ∧ h = h0
theorem ef_own_gto (m : MethodId) (x0 : Nat) (x1 : Nat) : entryFrame m #[(.ref x0), (.ref x1)] 3 = mkF m 0 #[vr x0, vr x1, .unset] [] := by first | (simp [entryFrame, mkF, argsToLocals, Value.category]; done) | rfl
abbrev own_y40 : MethodName := ⟨"java/util/TreeMap", "get", "(Ljava/lang/Object;)Ljava/lang/Object;"⟩
theorem d38_0 : decode own_c38 0 = .ok (.aload_n 0, 1) := by decide +kernel
theorem d38_1 : decode own_c38 1 = .ok (.aload_n 1, 1) := by decide +kernel
theorem d38_2 : decode own_c38 2 = .ok (.invokevirtual 50, 3) := by decide +kernel
theorem pd_20 : parseMethodDescriptor "(Ljava/lang/Object;)Ljava/util/TreeMap$Entry;" = some ⟨[(.object "java/lang/Object")], some (.object "java/util/TreeMap$Entry")⟩ := by decide +kernel
theorem d38_5 : decode own_c38 5 = .ok (.astore_n 2, 1) := by decide +kernel
theorem d38_6 : decode own_c38 6 = .ok (.aload_n 2, 1) := by decide +kernel
theorem d38_7 : decode own_c38 7 = .ok (.ifnonnull 7, 3) := by decide +kernel
theorem d38_14 : decode own_c38 14 = .ok (.aload_n 2, 1) := by decide +kernel
theorem d38_15 : decode own_c38 15 = .ok (.getfield 58, 3) := by decide +kernel
theorem d38_18 : decode own_c38 18 = .ok (.areturn, 1) := by decide +kernel
set_option maxRecDepth 65536 in
set_option maxHeartbeats 40000000 in
theorem own_gto (l : Launch) (Z : State) (a0 : Array Value) (hW : own_W Z a0) (tm k1 r1 kr : Nat) (x : Int64) (dr lr rr pr : Value) (cr mc sz : Int32) (h0 : Heap) (n0 : Nat) (Z0 : n0 ≤ h0.size) (O0 : Old Z n0 h0) (T1 : own_T Z h0 tm (.ref r1) mc sz) (K1 : own_Lg Z h0 k1 x) (R1 : own_N Z h0 r1 (.ref kr) dr lr rr pr cr) (Kr : own_Lg Z h0 kr x) (hr : dr.isRef = true) :
    own_MH l own_y40 own_c38 3 (some (.object "java/lang/Object")) (own_r 4 0 0 81) #[(.ref tm), (.ref k1)] Z h0 (own_gto_Q Z tm k1 r1 kr x dr lr rr pr cr mc sz h0 n0) := by
  refine own_enterH (own := "java/util/TreeMap") rfl (plainFor_of_name pn_java_util_TreeMap) (fun m => ef_own_gto m tm k1) ?_
  intro p e s m below meth c s₁ Bd hZH hh hx hby hml hown hnm X0 e0
  have hZ := hZH.wide
  have Y := And.intro hx hby
  have hw := hW.1
  have N0 := Fr.nil n0
  have K0 := Keep.refl h0 []
  have lttm := own_lt T1.lt
  have ltr1 := own_lt R1.lt
  obtain ⟨v11, T11, Lc11, X11, hQ11, st11⟩ := own_virt (own_geo l Z a0 hW tm k1 r1 kr x dr lr rr pr cr mc sz h0 n0 Z0 O0 T1 ⟨K1.1, K1.2⟩ R1 ⟨Kr.1, Kr.2⟩) X0 Y hZH hown (tw_ hw 268 rfl) (tw_ hw 269 rfl) (tw_ hw 271 rfl) (tw_ hw 270 rfl) (tw_ hw 272 rfl) (tw_ hw 11 rfl) (by decide) e0 (own_T.ex T1) (g := (mkF m 2 #[vr tm, vr k1, uu] [(.ref k1), (.ref tm)])) rfl hml.symm (argsL := [(.ref k1)]) (rest := []) (lenOf pd_20 rfl) rfl d38_2
  obtain ⟨rfl, Nq11, eh11⟩ := hQ11
  have N11 := Fr.app N0 Nq11
  refine own_gs ?_ (own_gs st11 ?_)
  · refine own_a X0 Y d38_0 rfl rfl ?_
    exact own_a X0 Y d38_1 rfl rfl (Steps.refl _)
  obtain ⟨T12, X12, e12, st12⟩ := own_gF X11 Y hZ hown (tw_ hw 273 rfl) eh11 (own_N.f_value R1) (g := (mkF m 15 #[vr tm, vr k1, vr r1] [(.ref r1)])) rfl rfl d38_15
  refine own_gs ?_ (own_go st12 ?_)
  · refine XS.astoreN X11.here hx rfl (hb hby d38_5) rfl rfl (l' := #[vr tm, vr k1, vr r1]) rfl ?_
    refine own_a X11 Y d38_6 rfl rfl ?_
    refine XS.ifnonnullYes X11.here hx rfl (pc0 := 7) (pc' := 14) rfl (hb hby d38_7) rfl (by decide) (by decide) ?_
    exact own_a X11 Y d38_14 rfl rfl (Steps.refl _)
  exact own_rA X12 Bd rfl (v := dr) hr (hb hby d38_18) e12 (⟨rfl, N11, rfl⟩) rfl rfl
def own_gtl_Q (Z : State) (tm k1 r1 kr c1 kc : Nat) (x xr : Int64) (dr rr pr dc lc rc pc : Value) (cr cc mc sz : Int32) (h0 : Heap) (n0 : Nat) (v : Option Value) (h : Heap) (L : List Loc) : Prop := v = (some dc) ∧ Fr n0 L ∧ h = h0
theorem ef_own_gtl (m : MethodId) (x0 : Nat) (x1 : Nat) : entryFrame m #[(.ref x0), (.ref x1)] 3 = mkF m 0 #[vr x0, vr x1, .unset] [] := by first | (simp [entryFrame, mkF, argsToLocals, Value.category]; done) | rfl
set_option maxRecDepth 65536 in
set_option maxHeartbeats 40000000 in
theorem own_gtl (l : Launch) (Z : State) (a0 : Array Value) (hW : own_W Z a0) (tm k1 r1 kr c1 kc : Nat) (x xr : Int64) (dr rr pr dc lc rc pc : Value) (cr cc mc sz : Int32) (h0 : Heap) (n0 : Nat) (Z0 : n0 ≤ h0.size) (O0 : Old Z n0 h0) (T1 : own_T Z h0 tm (.ref r1) mc sz) (K1 : own_Lg Z h0 k1 x) (R1 : own_N Z h0 r1 (.ref kr) dr (.ref c1) rr pr cr) (Kr : own_Lg Z h0 kr xr) (C1 : own_N Z h0 c1 (.ref kc) dc lc rc pc cc) (Kc : own_Lg Z h0 kc x) (hlt : x < xr) (hr : dc.isRef = true) :
    own_MH l own_y40 own_c38 3 (some (.object "java/lang/Object")) (own_r 4 0 0 81) #[(.ref tm), (.ref k1)] Z h0 (own_gtl_Q Z tm k1 r1 kr c1 kc x xr dr rr pr dc lc rc pc cr cc mc sz h0 n0) := by
  refine own_enterH (own := "java/util/TreeMap") rfl (plainFor_of_name pn_java_util_TreeMap) (fun m => ef_own_gtl m tm k1) ?_
  intro p e s m below meth c s₁ Bd hZH hh hx hby hml hown hnm X0 e0
  have hZ := hZH.wide
  have Y := And.intro hx hby
  have hw := hW.1
  have N0 := Fr.nil n0
  have K0 := Keep.refl h0 []
  have lttm := own_lt T1.lt
  have ltr1 := own_lt R1.lt
  have ltc1 := own_lt C1.lt
  obtain ⟨v11, T11, Lc11, X11, hQ11, st11⟩ := own_virt (own_gel l Z a0 hW tm k1 r1 kr c1 kc x xr dr rr pr dc lc rc pc cr cc mc sz h0 n0 Z0 O0 T1 ⟨K1.1, K1.2⟩ R1 ⟨Kr.1, Kr.2⟩ C1 ⟨Kc.1, Kc.2⟩ hlt) X0 Y hZH hown (tw_ hw 268 rfl) (tw_ hw 269 rfl) (tw_ hw 271 rfl) (tw_ hw 270 rfl) (tw_ hw 272 rfl) (tw_ hw 11 rfl) (by decide) e0 (own_T.ex T1) (g := (mkF m 2 #[vr tm, vr k1, uu] [(.ref k1), (.ref tm)])) rfl hml.symm (argsL := [(.ref k1)]) (rest := []) (lenOf pd_20 rfl) rfl d38_2
  obtain ⟨rfl, Nq11, eh11⟩ := hQ11
  have N11 := Fr.app N0 Nq11
  refine own_gs ?_ (own_gs st11 ?_)
  · refine own_a X0 Y d38_0 rfl rfl ?_
    exact own_a X0 Y d38_1 rfl rfl (Steps.refl _)
  obtain ⟨T12, X12, e12, st12⟩ := own_gF X11 Y hZ hown (tw_ hw 273 rfl) eh11 (own_N.f_value C1) (g := (mkF m 15 #[vr tm, vr k1, vr c1] [(.ref c1)])) rfl rfl d38_15
  refine own_gs ?_ (own_go st12 ?_)
  · refine XS.astoreN X11.here hx rfl (hb hby d38_5) rfl rfl (l' := #[vr tm, vr k1, vr c1]) rfl ?_
    refine own_a X11 Y d38_6 rfl rfl ?_
    refine XS.ifnonnullYes X11.here hx rfl (pc0 := 7) (pc' := 14) rfl (hb hby d38_7) rfl (by decide) (by decide) ?_
    exact own_a X11 Y d38_14 rfl rfl (Steps.refl _)
  exact own_rA X12 Bd rfl (v := dc) hr (hb hby d38_18) e12 (⟨rfl, N11, rfl⟩) rfl rfl
def own_gtr_Q (Z : State) (tm k1 r1 kr c1 kc : Nat) (x xr : Int64) (dr lr pr dc lc rc pc : Value) (cr cc mc sz : Int32) (h0 : Heap) (n0 : Nat) (v : Option Value) (h : Heap) (L : List Loc) : Prop := v = (some dc) ∧ Fr n0 L ∧ h = h0
theorem ef_own_gtr (m : MethodId) (x0 : Nat) (x1 : Nat) : entryFrame m #[(.ref x0), (.ref x1)] 3 = mkF m 0 #[vr x0, vr x1, .unset] [] := by first | (simp [entryFrame, mkF, argsToLocals, Value.category]; done) | rfl
set_option maxRecDepth 65536 in
set_option maxHeartbeats 40000000 in
theorem own_gtr (l : Launch) (Z : State) (a0 : Array Value) (hW : own_W Z a0) (tm k1 r1 kr c1 kc : Nat) (x xr : Int64) (dr lr pr dc lc rc pc : Value) (cr cc mc sz : Int32) (h0 : Heap) (n0 : Nat) (Z0 : n0 ≤ h0.size) (O0 : Old Z n0 h0) (T1 : own_T Z h0 tm (.ref r1) mc sz) (K1 : own_Lg Z h0 k1 x) (R1 : own_N Z h0 r1 (.ref kr) dr lr (.ref c1) pr cr) (Kr : own_Lg Z h0 kr xr) (C1 : own_N Z h0 c1 (.ref kc) dc lc rc pc cc) (Kc : own_Lg Z h0 kc x) (hlt : xr < x) (hr : dc.isRef = true) :
    own_MH l own_y40 own_c38 3 (some (.object "java/lang/Object")) (own_r 4 0 0 81) #[(.ref tm), (.ref k1)] Z h0 (own_gtr_Q Z tm k1 r1 kr c1 kc x xr dr lr pr dc lc rc pc cr cc mc sz h0 n0) := by
  refine own_enterH (own := "java/util/TreeMap") rfl (plainFor_of_name pn_java_util_TreeMap) (fun m => ef_own_gtr m tm k1) ?_
  intro p e s m below meth c s₁ Bd hZH hh hx hby hml hown hnm X0 e0
  have hZ := hZH.wide
  have Y := And.intro hx hby
  have hw := hW.1
  have N0 := Fr.nil n0
  have K0 := Keep.refl h0 []
  have lttm := own_lt T1.lt
  have ltr1 := own_lt R1.lt
  have ltc1 := own_lt C1.lt
  obtain ⟨v11, T11, Lc11, X11, hQ11, st11⟩ := own_virt (own_ger l Z a0 hW tm k1 r1 kr c1 kc x xr dr lr pr dc lc rc pc cr cc mc sz h0 n0 Z0 O0 T1 ⟨K1.1, K1.2⟩ R1 ⟨Kr.1, Kr.2⟩ C1 ⟨Kc.1, Kc.2⟩ hlt) X0 Y hZH hown (tw_ hw 268 rfl) (tw_ hw 269 rfl) (tw_ hw 271 rfl) (tw_ hw 270 rfl) (tw_ hw 272 rfl) (tw_ hw 11 rfl) (by decide) e0 (own_T.ex T1) (g := (mkF m 2 #[vr tm, vr k1, uu] [(.ref k1), (.ref tm)])) rfl hml.symm (argsL := [(.ref k1)]) (rest := []) (lenOf pd_20 rfl) rfl d38_2
  obtain ⟨rfl, Nq11, eh11⟩ := hQ11
  have N11 := Fr.app N0 Nq11
  refine own_gs ?_ (own_gs st11 ?_)
  · refine own_a X0 Y d38_0 rfl rfl ?_
    exact own_a X0 Y d38_1 rfl rfl (Steps.refl _)
  obtain ⟨T12, X12, e12, st12⟩ := own_gF X11 Y hZ hown (tw_ hw 273 rfl) eh11 (own_N.f_value C1) (g := (mkF m 15 #[vr tm, vr k1, vr c1] [(.ref c1)])) rfl rfl d38_15
  refine own_gs ?_ (own_go st12 ?_)
  · refine XS.astoreN X11.here hx rfl (hb hby d38_5) rfl rfl (l' := #[vr tm, vr k1, vr c1]) rfl ?_
    refine own_a X11 Y d38_6 rfl rfl ?_
    refine XS.ifnonnullYes X11.here hx rfl (pc0 := 7) (pc' := 14) rfl (hb hby d38_7) rfl (by decide) (by decide) ?_
    exact own_a X11 Y d38_14 rfl rfl (Steps.refl _)
  exact own_rA X12 Bd rfl (v := dc) hr (hb hby d38_18) e12 (⟨rfl, N11, rfl⟩) rfl rfl
theorem own_get (l : Launch) (Z : State) (a0 : Array Value) (hW : own_W Z a0) (tm k1 d : Nat) (x : Int64) (A R : List (Int64 × Nat)) (h0 : Heap) (n0 : Nat) (Z0 : n0 ≤ h0.size) (O0 : Old Z n0 h0) (F : own_Tr Z h0 n0 tm (A ++ (x, d) :: R)) (hf : A = [] ∨ R = []) (K1 : own_Lg Z h0 k1 x) :
    own_MH l own_y40 own_c38 3 (some (.object "java/lang/Object")) (own_r 4 0 0 81) #[.ref tm, .ref k1] Z h0 (fun v h L => v = some (.ref d) ∧ Fr n0 L ∧ h = h0) := by
  rcases hf with rfl | rfl
  · match R, F with
    | [], ⟨g, r, kr, mc, sz, f1, f2, f3, f4⟩ => exact own_gto l Z a0 hW tm k1 r kr x _ _ _ _ _ mc sz h0 n0 Z0 O0 f1 K1 f2 f4 rfl
    | [(y, f)], ⟨g, hx, r, c, kr, kc, mc, sz, Or.inl ⟨f1, f2, f3, f4, f5, f6, f7, f8⟩⟩ => exact own_gtl l Z a0 hW tm k1 r kr c kc x y _ _ _ _ _ _ _ _ _ mc sz h0 n0 Z0 O0 f1 K1 f2 f7 f3 f8 hx rfl
    | [(y, f)], ⟨g, hx, r, c, kr, kc, mc, sz, Or.inr ⟨f1, f2, f3, f4, f5, f6, f7, f8⟩⟩ => exact own_gto l Z a0 hW tm k1 r kr x _ _ _ _ _ mc sz h0 n0 Z0 O0 f1 K1 f2 f7 rfl
    | [(y, f), (z, u)], ⟨g, hx, hy, r, a, b, kr, ka, kb, mc, sz, f1, f2, f3, f4, f5, f6, f7, f8, f9, f10, f11, f12, f13⟩ => exact own_gtl l Z a0 hW tm k1 r kr a ka x y _ _ _ _ _ _ _ _ _ mc sz h0 n0 Z0 O0 f1 K1 f2 f11 f3 f12 hx rfl
    | _ :: _ :: _ :: _, F => exact False.elim F
  · match A, F with
    | [], ⟨g, r, kr, mc, sz, f1, f2, f3, f4⟩ => exact own_gto l Z a0 hW tm k1 r kr x _ _ _ _ _ mc sz h0 n0 Z0 O0 f1 K1 f2 f4 rfl
    | [(y, f)], ⟨g, hx, r, c, kr, kc, mc, sz, Or.inl ⟨f1, f2, f3, f4, f5, f6, f7, f8⟩⟩ => exact own_gto l Z a0 hW tm k1 r kr x _ _ _ _ _ mc sz h0 n0 Z0 O0 f1 K1 f2 f7 rfl
    | [(y, f)], ⟨g, hx, r, c, kr, kc, mc, sz, Or.inr ⟨f1, f2, f3, f4, f5, f6, f7, f8⟩⟩ => exact own_gtr l Z a0 hW tm k1 r kr c kc x y _ _ _ _ _ _ _ _ _ mc sz h0 n0 Z0 O0 f1 K1 f2 f7 f3 f8 hx rfl
    | [(y, f), (z, u)], ⟨g, hx, hy, r, a, b, kr, ka, kb, mc, sz, f1, f2, f3, f4, f5, f6, f7, f8, f9, f10, f11, f12, f13⟩ => exact own_gtr l Z a0 hW tm k1 r kr b kb x z _ _ _ _ _ _ _ _ _ mc sz h0 n0 Z0 O0 f1 K1 f2 f11 f4 f13 hy rfl
    | _ :: _ :: _ :: T, F => cases T <;> exact False.elim F
abbrev own_c39 : ByteArray := jdk_2729_method_85_code
def own_fad_Q (Z : State) (tm r1 : Nat) (mc sz : Int32) (kr dr lr rr pr : Value) (cr : Int32) (h0 : Heap) (n0 : Nat) (v : Option Value) (h : Heap) (L : List Loc) : Prop := v = none ∧ Fr n0 L ∧ Keep h0 h [r1] ∧ own_N Z h r1 kr dr lr rr pr 1
theorem ef_own_fad (m : MethodId) (x0 : Nat) (x1 : Nat) : entryFrame m #[(.ref x0), (.ref x1)] 3 = mkF m 0 #[vr x0, vr x1, .unset] [] := by first | (simp [entryFrame, mkF, argsToLocals, Value.category]; done) | rfl
abbrev own_y41 : MethodName := ⟨"java/util/TreeMap", "fixAfterDeletion", "(Ljava/util/TreeMap$Entry;)V"⟩
theorem d39_0 : decode own_c39 0 = .ok (.aload_n 1, 1) := by decide +kernel
theorem d39_1 : decode own_c39 1 = .ok (.aload_n 0, 1) := by decide +kernel
theorem d39_2 : decode own_c39 2 = .ok (.getfield 101, 3) := by decide +kernel
theorem d39_5 : decode own_c39 5 = .ok (.if_acmp .eq 340, 3) := by decide +kernel
theorem d39_345 : decode own_c39 345 = .ok (.aload_n 1, 1) := by decide +kernel
theorem d39_346 : decode own_c39 346 = .ok (.iconst 1, 1) := by decide +kernel
theorem d39_347 : decode own_c39 347 = .ok (.invokestatic 307, 3) := by decide +kernel
theorem d39_350 : decode own_c39 350 = .ok (.return_, 1) := by decide +kernel
set_option maxRecDepth 65536 in
set_option maxHeartbeats 40000000 in
theorem own_fad (l : Launch) (Z : State) (a0 : Array Value) (hW : own_W Z a0) (tm r1 : Nat) (mc sz : Int32) (kr dr lr rr pr : Value) (cr : Int32) (h0 : Heap) (n0 : Nat) (Z0 : n0 ≤ h0.size) (O0 : Old Z n0 h0) (T1 : own_T Z h0 tm (.ref r1) mc sz) (R1 : own_N Z h0 r1 kr dr lr rr pr cr) (gr : n0 ≤ r1) :
    own_MH l own_y41 own_c39 3 none (own_r 1 0 0 20) #[(.ref tm), (.ref r1)] Z h0 (own_fad_Q Z tm r1 mc sz kr dr lr rr pr cr h0 n0) := by
  refine own_enterH (own := "java/util/TreeMap") rfl (plainFor_of_name pn_java_util_TreeMap) (fun m => ef_own_fad m tm r1) ?_
  intro p e s m below meth c s₁ Bd hZH hh hx hby hml hown hnm X0 e0
  have hZ := hZH.wide
  have Y := And.intro hx hby
  have hw := hW.1
  have N0 := Fr.nil n0
  have K0 := Keep.refl h0 [r1]
  have lttm := own_lt T1.lt
  have ltr1 := own_lt R1.lt
  obtain ⟨T11, X11, e11, st11⟩ := own_gF X0 Y hZ hown (tw_ hw 115 rfl) e0 (own_T.f_root T1) (g := (mkF m 2 #[vr tm, vr r1, uu] [(.ref tm), (.ref r1)])) rfl rfl d39_2
  refine own_gs ?_ (own_go st11 ?_)
  · refine own_a X0 Y d39_0 rfl rfl ?_
    exact own_a X0 Y d39_1 rfl rfl (Steps.refl _)
  obtain ⟨v12, T12, Lc12, X12, hQ12, st12⟩ := own_stat (own_sco1 l Z a0 hW r1 kr dr lr rr pr cr h0 n0 Z0 O0 R1 gr) X11 Y hZH hown (tw_ hw 227 rfl) (tw_ hw 228 rfl) (tw_ hw 229 rfl) (tw_ hw 11 rfl) (by decide) e11 (g := (mkF m 347 #[vr tm, vr r1, uu] [(.int (1 : Int32)), (.ref r1)])) rfl hml.symm (argsL := [(.ref r1), (.int (1 : Int32))]) (rest := []) (lenOf pd_10 rfl) rfl d39_347
  obtain ⟨rfl, Nq12, Kq12, Fq12⟩ := hQ12
  have N12 := Fr.app N0 Nq12
  obtain ⟨z13, Zz13, K13, O13⟩ := own_eK Kq12 Z0 K0 O0 (allS (own_i 0 rfl) all0) (allS gr all0)
  refine own_gs ?_ (own_gs st12 ?_)
  · refine Jvm.RoadKit.acmp (g := (mkF m 5 #[vr tm, vr r1, uu] [(.ref r1), (.ref r1)])) X11 hx rfl rfl rfl (pc0 := 5) (pc' := 345) (same := true) rfl (hb hby d39_5) rfl (decide_eq_true rfl) (by decide) (by decide) ?_
    refine own_a X11 Y d39_345 rfl rfl ?_
    exact own_ic X11 Y d39_346 (Steps.refl _)
  exact own_rV X12 Bd (hb hby d39_350) rfl (⟨rfl, N12, K13, Fq12⟩) rfl rfl
abbrev own_c40 : ByteArray := jdk_2729_method_84_code
def own_de1_Q (Z : State) (tm r1 : Nat) (mc sz : Int32) (kr dr : Value) (h0 : Heap) (n0 : Nat) (v : Option Value) (h : Heap) (L : List Loc) : Prop := ∃ (mc1 sz1 : Int32), v = none ∧ Fr n0 L ∧ Keep h0 h [tm, r1] ∧ own_T Z h tm .null mc1 sz1
theorem ef_own_de1 (m : MethodId) (x0 : Nat) (x1 : Nat) : entryFrame m #[(.ref x0), (.ref x1)] 3 = mkF m 0 #[vr x0, vr x1, .unset] [] := by first | (simp [entryFrame, mkF, argsToLocals, Value.category]; done) | rfl
abbrev own_y42 : MethodName := ⟨"java/util/TreeMap", "deleteEntry", "(Ljava/util/TreeMap$Entry;)V"⟩
theorem d40_0 : decode own_c40 0 = .ok (.aload_n 0, 1) := by decide +kernel
theorem d40_1 : decode own_c40 1 = .ok (.dup, 1) := by decide +kernel
theorem d40_2 : decode own_c40 2 = .ok (.getfield 13, 3) := by decide +kernel
theorem d40_5 : decode own_c40 5 = .ok (.iconst 1, 1) := by decide +kernel
theorem d40_6 : decode own_c40 6 = .ok (.iadd, 1) := by decide +kernel
theorem d40_7 : decode own_c40 7 = .ok (.putfield 13, 3) := by decide +kernel
theorem d40_10 : decode own_c40 10 = .ok (.aload_n 0, 1) := by decide +kernel
theorem d40_11 : decode own_c40 11 = .ok (.dup, 1) := by decide +kernel
theorem d40_12 : decode own_c40 12 = .ok (.getfield 7, 3) := by decide +kernel
theorem d40_15 : decode own_c40 15 = .ok (.iconst 1, 1) := by decide +kernel
theorem d40_16 : decode own_c40 16 = .ok (.isub, 1) := by decide +kernel
theorem d40_17 : decode own_c40 17 = .ok (.putfield 7, 3) := by decide +kernel
theorem d40_20 : decode own_c40 20 = .ok (.aload_n 1, 1) := by decide +kernel
theorem d40_21 : decode own_c40 21 = .ok (.getfield 111, 3) := by decide +kernel
theorem d40_24 : decode own_c40 24 = .ok (.ifnull 33, 3) := by decide +kernel
theorem d40_57 : decode own_c40 57 = .ok (.aload_n 1, 1) := by decide +kernel
theorem d40_58 : decode own_c40 58 = .ok (.getfield 111, 3) := by decide +kernel
theorem d40_61 : decode own_c40 61 = .ok (.ifnull 10, 3) := by decide +kernel
theorem d40_71 : decode own_c40 71 = .ok (.aload_n 1, 1) := by decide +kernel
theorem d40_72 : decode own_c40 72 = .ok (.getfield 114, 3) := by decide +kernel
theorem d40_75 : decode own_c40 75 = .ok (.astore_n 2, 1) := by decide +kernel
theorem d40_76 : decode own_c40 76 = .ok (.aload_n 2, 1) := by decide +kernel
theorem d40_77 : decode own_c40 77 = .ok (.ifnull 87, 3) := by decide +kernel
theorem d40_164 : decode own_c40 164 = .ok (.aload_n 1, 1) := by decide +kernel
theorem d40_165 : decode own_c40 165 = .ok (.getfield 124, 3) := by decide +kernel
theorem d40_168 : decode own_c40 168 = .ok (.ifnonnull 11, 3) := by decide +kernel
theorem d40_171 : decode own_c40 171 = .ok (.aload_n 0, 1) := by decide +kernel
theorem d40_172 : decode own_c40 172 = .ok (.aconst_null, 1) := by decide +kernel
theorem d40_173 : decode own_c40 173 = .ok (.putfield 101, 3) := by decide +kernel
theorem d40_176 : decode own_c40 176 = .ok (.goto 69, 3) := by decide +kernel
theorem d40_245 : decode own_c40 245 = .ok (.return_, 1) := by decide +kernel
set_option maxRecDepth 65536 in
set_option maxHeartbeats 40000000 in
theorem own_de1 (l : Launch) (Z : State) (a0 : Array Value) (hW : own_W Z a0) (tm r1 : Nat) (mc sz : Int32) (kr dr : Value) (h0 : Heap) (n0 : Nat) (Z0 : n0 ≤ h0.size) (O0 : Old Z n0 h0) (T1 : own_T Z h0 tm (.ref r1) mc sz) (R1 : own_N Z h0 r1 kr dr .null .null .null (1 : Int32)) (gt : n0 ≤ tm) (gr : n0 ≤ r1) :
    own_MH l own_y42 own_c40 3 none (own_r 2 0 0 40) #[(.ref tm), (.ref r1)] Z h0 (own_de1_Q Z tm r1 mc sz kr dr h0 n0) := by
  refine own_enterH (own := "java/util/TreeMap") rfl (plainFor_of_name pn_java_util_TreeMap) (fun m => ef_own_de1 m tm r1) ?_
  intro p e s m below meth c s₁ Bd hZH hh hx hby hml hown hnm X0 e0
  have hZ := hZH.wide
  have Y := And.intro hx hby
  have hw := hW.1
  have N0 := Fr.nil n0
  have K0 := Keep.refl h0 [tm, r1]
  have lttm := own_lt T1.lt
  have ltr1 := own_lt R1.lt
  obtain ⟨T11, X11, e11, st11⟩ := own_gF X0 Y hZ hown (tw_ hw 24 rfl) e0 (own_T.f_modCount T1) (g := (mkF m 2 #[vr tm, vr r1, uu] [(.ref tm), (.ref tm)])) rfl rfl d40_2
  refine own_gs ?_ (own_go st11 ?_)
  · refine own_a X0 Y d40_0 rfl rfl ?_
    exact own_du X0 Y d40_1 rfl rfl (Steps.refl _)
  obtain ⟨T12, h12, X12, e12, W12, st12⟩ := own_pF X11 Y hZ hown (tw_ hw 24 rfl) e11 (own_T.f_modCount T1) (own_T.ex T1) (tw_ hw 25 rfl) (tw_ hw 10 rfl) (ty := .int) (by decide) rfl rfl (g := (mkF m 7 #[vr tm, vr r1, uu] [(.int (mc + (1 : Int32))), (.ref tm)])) rfl rfl d40_7
  have F12 := own_T.s_modCount hw T1 W12
  refine own_gs ?_ (own_go st12 ?_)
  · refine own_ic X11 Y d40_5 ?_
    exact XS.iadd X11.here hx rfl (hb hby d40_6) rfl (Steps.refl _)
  obtain ⟨z13, Zz13, K13, O13, N13⟩ := own_eW W12 Z0 K0 O0 N0 (own_i 0 rfl) gt
  obtain ⟨T14, X14, e14, st14⟩ := own_gF X12 Y hZ hown (tw_ hw 22 rfl) e12 (own_T.f_size F12) (g := (mkF m 12 #[vr tm, vr r1, uu] [(.ref tm), (.ref tm)])) rfl rfl d40_12
  refine own_gs ?_ (own_go st14 ?_)
  · refine own_a X12 Y d40_10 rfl rfl ?_
    exact own_du X12 Y d40_11 rfl rfl (Steps.refl _)
  obtain ⟨T15, h15, X15, e15, W15, st15⟩ := own_pF X14 Y hZ hown (tw_ hw 22 rfl) e14 (own_T.f_size F12) (own_T.ex F12) (tw_ hw 23 rfl) (tw_ hw 10 rfl) (ty := .int) (by decide) rfl rfl (g := (mkF m 17 #[vr tm, vr r1, uu] [(.int (sz - (1 : Int32))), (.ref tm)])) rfl rfl d40_17
  have F15 := own_T.s_size hw F12 W15
  refine own_gs ?_ (own_go st15 ?_)
  · refine own_ic X14 Y d40_15 ?_
    exact XS.isub X14.here hx rfl (hb hby d40_16) rfl (Steps.refl _)
  obtain ⟨z16, Zz16, K16, O16, N16⟩ := own_eW W15 Zz13 K13 O13 N13 (own_i 0 rfl) gt
  have f19 := (((own_N.ex R1).wr W12).wr W15)
  have f20 := (((own_T.ex T1).wr W12).wr W15)
  have nc18 : own_Ne r1 tm := ne_exa f19 f20 (by decide)
  have f21 := ((R1.keep (Keep.of_wr W12) (ninS nc18 nin0)).keep (Keep.of_wr W15) (ninS nc18 nin0))
  obtain ⟨T17, X17, e17, st17⟩ := own_gF X15 Y hZ hown (tw_ hw 211 rfl) e15 (own_N.f_left f21) (g := (mkF m 21 #[vr tm, vr r1, uu] [(.ref r1)])) rfl rfl d40_21
  refine own_gs ?_ (own_go st17 ?_)
  · exact own_a X15 Y d40_20 rfl rfl (Steps.refl _)
  obtain ⟨T22, X22, e22, st22⟩ := own_gF X17 Y hZ hown (tw_ hw 211 rfl) e17 (own_N.f_left f21) (g := (mkF m 58 #[vr tm, vr r1, uu] [(.ref r1)])) rfl rfl d40_58
  refine own_gs ?_ (own_go st22 ?_)
  · refine XS.ifnullYes X17.here hx rfl (pc0 := 24) (pc' := 57) rfl (hb hby d40_24) rfl (by decide) (by decide) ?_
    exact own_a X17 Y d40_57 rfl rfl (Steps.refl _)
  obtain ⟨T23, X23, e23, st23⟩ := own_gF X22 Y hZ hown (tw_ hw 189 rfl) e22 (own_N.f_right f21) (g := (mkF m 72 #[vr tm, vr r1, uu] [(.ref r1)])) rfl rfl d40_72
  refine own_gs ?_ (own_go st23 ?_)
  · refine XS.ifnullYes X22.here hx rfl (pc0 := 61) (pc' := 71) rfl (hb hby d40_61) rfl (by decide) (by decide) ?_
    exact own_a X22 Y d40_71 rfl rfl (Steps.refl _)
  obtain ⟨T24, X24, e24, st24⟩ := own_gF X23 Y hZ hown (tw_ hw 202 rfl) e23 (own_N.f_parent f21) (g := (mkF m 165 #[vr tm, vr r1, vn] [(.ref r1)])) rfl rfl d40_165
  refine own_gs ?_ (own_go st24 ?_)
  · refine XS.astoreN X23.here hx rfl (hb hby d40_75) rfl rfl (l' := #[vr tm, vr r1, vn]) rfl ?_
    refine own_a X23 Y d40_76 rfl rfl ?_
    refine XS.ifnullYes X23.here hx rfl (pc0 := 77) (pc' := 164) rfl (hb hby d40_77) rfl (by decide) (by decide) ?_
    exact own_a X23 Y d40_164 rfl rfl (Steps.refl _)
  obtain ⟨T25, h25, X25, e25, W25, st25⟩ := own_pF X24 Y hZ hown (tw_ hw 115 rfl) e24 (own_T.f_root F15) (own_T.ex F15) (tw_ hw 116 rfl) (tw_ hw 10 rfl) (ty := (.object "java/util/TreeMap$Entry")) (by decide) rfl rfl (g := (mkF m 173 #[vr tm, vr r1, vn] [.null, (.ref tm)])) rfl rfl d40_173
  have F25 := own_T.s_root hw F15 W25
  refine own_gs ?_ (own_go st25 ?_)
  · refine XS.ifnonnullNo X24.here hx rfl (hb hby d40_168) rfl ?_
    refine own_a X24 Y d40_171 rfl rfl ?_
    exact XS.aconstNull X24.here hx rfl (hb hby d40_172) (Steps.refl _)
  obtain ⟨z26, Zz26, K26, O26, N26⟩ := own_eW W25 Zz16 K16 O16 N16 (own_i 0 rfl) gt
  refine own_gs (cur' := T25.setTop (mkF m 245 #[vr tm, vr r1, vn] [])) ?_ ?_
  · exact XS.goto X25.here hx rfl (pc0 := 176) (pc' := 245) rfl (hb hby d40_176) (by decide) (by decide) (Steps.refl _)
  exact own_rV X25 Bd (hb hby d40_245) e25 (⟨_, _, rfl, N26, K26, F25⟩) rfl rfl
def own_deL_Q (Z : State) (tm r1 c1 : Nat) (mc sz : Int32) (kr dr kc dc : Value) (h0 : Heap) (n0 : Nat) (v : Option Value) (h : Heap) (L : List Loc) : Prop := ∃ (mc1 sz1 : Int32), v = none ∧ Fr n0 L ∧ Keep h0 h [tm, r1, c1] ∧ own_T Z h tm (.ref c1) mc1 sz1 ∧ own_N Z h c1 kc dc .null .null .null (1 : Int32)
theorem ef_own_deL (m : MethodId) (x0 : Nat) (x1 : Nat) : entryFrame m #[(.ref x0), (.ref x1)] 3 = mkF m 0 #[vr x0, vr x1, .unset] [] := by first | (simp [entryFrame, mkF, argsToLocals, Value.category]; done) | rfl
theorem d40_27 : decode own_c40 27 = .ok (.aload_n 1, 1) := by decide +kernel
theorem d40_28 : decode own_c40 28 = .ok (.getfield 114, 3) := by decide +kernel
theorem d40_31 : decode own_c40 31 = .ok (.ifnull 26, 3) := by decide +kernel
theorem d40_64 : decode own_c40 64 = .ok (.aload_n 1, 1) := by decide +kernel
theorem d40_65 : decode own_c40 65 = .ok (.getfield 111, 3) := by decide +kernel
theorem d40_68 : decode own_c40 68 = .ok (.goto 7, 3) := by decide +kernel
theorem d40_80 : decode own_c40 80 = .ok (.aload_n 2, 1) := by decide +kernel
theorem d40_81 : decode own_c40 81 = .ok (.aload_n 1, 1) := by decide +kernel
theorem d40_82 : decode own_c40 82 = .ok (.getfield 124, 3) := by decide +kernel
theorem d40_85 : decode own_c40 85 = .ok (.putfield 124, 3) := by decide +kernel
theorem d40_88 : decode own_c40 88 = .ok (.aload_n 1, 1) := by decide +kernel
theorem d40_89 : decode own_c40 89 = .ok (.getfield 124, 3) := by decide +kernel
theorem d40_92 : decode own_c40 92 = .ok (.ifnonnull 11, 3) := by decide +kernel
theorem d40_95 : decode own_c40 95 = .ok (.aload_n 0, 1) := by decide +kernel
theorem d40_96 : decode own_c40 96 = .ok (.aload_n 2, 1) := by decide +kernel
theorem d40_97 : decode own_c40 97 = .ok (.putfield 101, 3) := by decide +kernel
theorem d40_100 : decode own_c40 100 = .ok (.goto 33, 3) := by decide +kernel
theorem d40_133 : decode own_c40 133 = .ok (.aload_n 1, 1) := by decide +kernel
theorem d40_134 : decode own_c40 134 = .ok (.aload_n 1, 1) := by decide +kernel
theorem d40_135 : decode own_c40 135 = .ok (.aload_n 1, 1) := by decide +kernel
theorem d40_136 : decode own_c40 136 = .ok (.aconst_null, 1) := by decide +kernel
theorem d40_137 : decode own_c40 137 = .ok (.dup_x1, 1) := by decide +kernel
theorem d40_138 : decode own_c40 138 = .ok (.putfield 124, 3) := by decide +kernel
theorem d40_141 : decode own_c40 141 = .ok (.dup_x1, 1) := by decide +kernel
theorem d40_142 : decode own_c40 142 = .ok (.putfield 114, 3) := by decide +kernel
theorem d40_145 : decode own_c40 145 = .ok (.putfield 111, 3) := by decide +kernel
theorem d40_148 : decode own_c40 148 = .ok (.aload_n 1, 1) := by decide +kernel
theorem d40_149 : decode own_c40 149 = .ok (.getfield 290, 3) := by decide +kernel
theorem d40_152 : decode own_c40 152 = .ok (.iconst 1, 1) := by decide +kernel
theorem d40_153 : decode own_c40 153 = .ok (.if_icmp .ne 92, 3) := by decide +kernel
theorem d40_156 : decode own_c40 156 = .ok (.aload_n 0, 1) := by decide +kernel
theorem d40_157 : decode own_c40 157 = .ok (.aload_n 2, 1) := by decide +kernel
theorem d40_158 : decode own_c40 158 = .ok (.invokevirtual 317, 3) := by decide +kernel
theorem d40_161 : decode own_c40 161 = .ok (.goto 84, 3) := by decide +kernel
set_option maxRecDepth 65536 in
set_option maxHeartbeats 40000000 in
theorem own_deL (l : Launch) (Z : State) (a0 : Array Value) (hW : own_W Z a0) (tm r1 c1 : Nat) (mc sz : Int32) (kr dr kc dc : Value) (h0 : Heap) (n0 : Nat) (Z0 : n0 ≤ h0.size) (O0 : Old Z n0 h0) (T1 : own_T Z h0 tm (.ref r1) mc sz) (R1 : own_N Z h0 r1 kr dr (.ref c1) .null .null (1 : Int32)) (gt : n0 ≤ tm) (gr : n0 ≤ r1) (C1 : own_N Z h0 c1 kc dc .null .null (.ref r1) (0 : Int32)) (gc : n0 ≤ c1) (hrc : own_Ne r1 c1) :
    own_MH l own_y42 own_c40 3 none (own_r 2 0 0 40) #[(.ref tm), (.ref r1)] Z h0 (own_deL_Q Z tm r1 c1 mc sz kr dr kc dc h0 n0) := by
  refine own_enterH (own := "java/util/TreeMap") rfl (plainFor_of_name pn_java_util_TreeMap) (fun m => ef_own_deL m tm r1) ?_
  intro p e s m below meth c s₁ Bd hZH hh hx hby hml hown hnm X0 e0
  have hZ := hZH.wide
  have Y := And.intro hx hby
  have hw := hW.1
  have N0 := Fr.nil n0
  have K0 := Keep.refl h0 [tm, r1, c1]
  have lttm := own_lt T1.lt
  have ltr1 := own_lt R1.lt
  have ltc1 := own_lt C1.lt
  obtain ⟨T11, X11, e11, st11⟩ := own_gF X0 Y hZ hown (tw_ hw 24 rfl) e0 (own_T.f_modCount T1) (g := (mkF m 2 #[vr tm, vr r1, uu] [(.ref tm), (.ref tm)])) rfl rfl d40_2
  refine own_gs ?_ (own_go st11 ?_)
  · refine own_a X0 Y d40_0 rfl rfl ?_
    exact own_du X0 Y d40_1 rfl rfl (Steps.refl _)
  obtain ⟨T12, h12, X12, e12, W12, st12⟩ := own_pF X11 Y hZ hown (tw_ hw 24 rfl) e11 (own_T.f_modCount T1) (own_T.ex T1) (tw_ hw 25 rfl) (tw_ hw 10 rfl) (ty := .int) (by decide) rfl rfl (g := (mkF m 7 #[vr tm, vr r1, uu] [(.int (mc + (1 : Int32))), (.ref tm)])) rfl rfl d40_7
  have F12 := own_T.s_modCount hw T1 W12
  refine own_gs ?_ (own_go st12 ?_)
  · refine own_ic X11 Y d40_5 ?_
    exact XS.iadd X11.here hx rfl (hb hby d40_6) rfl (Steps.refl _)
  obtain ⟨z13, Zz13, K13, O13, N13⟩ := own_eW W12 Z0 K0 O0 N0 (own_i 0 rfl) gt
  obtain ⟨T14, X14, e14, st14⟩ := own_gF X12 Y hZ hown (tw_ hw 22 rfl) e12 (own_T.f_size F12) (g := (mkF m 12 #[vr tm, vr r1, uu] [(.ref tm), (.ref tm)])) rfl rfl d40_12
  refine own_gs ?_ (own_go st14 ?_)
  · refine own_a X12 Y d40_10 rfl rfl ?_
    exact own_du X12 Y d40_11 rfl rfl (Steps.refl _)
  obtain ⟨T15, h15, X15, e15, W15, st15⟩ := own_pF X14 Y hZ hown (tw_ hw 22 rfl) e14 (own_T.f_size F12) (own_T.ex F12) (tw_ hw 23 rfl) (tw_ hw 10 rfl) (ty := .int) (by decide) rfl rfl (g := (mkF m 17 #[vr tm, vr r1, uu] [(.int (sz - (1 : Int32))), (.ref tm)])) rfl rfl d40_17
  have F15 := own_T.s_size hw F12 W15
  refine own_gs ?_ (own_go st15 ?_)
  · refine own_ic X14 Y d40_15 ?_
    exact XS.isub X14.here hx rfl (hb hby d40_16) rfl (Steps.refl _)
  obtain ⟨z16, Zz16, K16, O16, N16⟩ := own_eW W15 Zz13 K13 O13 N13 (own_i 0 rfl) gt
  have f19 := (((own_N.ex R1).wr W12).wr W15)
  have f20 := (((own_T.ex T1).wr W12).wr W15)
  have nc18 : own_Ne r1 tm := ne_exa f19 f20 (by decide)
  have f21 := ((R1.keep (Keep.of_wr W12) (ninS nc18 nin0)).keep (Keep.of_wr W15) (ninS nc18 nin0))
  obtain ⟨T17, X17, e17, st17⟩ := own_gF X15 Y hZ hown (tw_ hw 211 rfl) e15 (own_N.f_left f21) (g := (mkF m 21 #[vr tm, vr r1, uu] [(.ref r1)])) rfl rfl d40_21
  refine own_gs ?_ (own_go st17 ?_)
  · exact own_a X15 Y d40_20 rfl rfl (Steps.refl _)
  obtain ⟨T22, X22, e22, st22⟩ := own_gF X17 Y hZ hown (tw_ hw 189 rfl) e17 (own_N.f_right f21) (g := (mkF m 28 #[vr tm, vr r1, uu] [(.ref r1)])) rfl rfl d40_28
  refine own_gs ?_ (own_go st22 ?_)
  · refine XS.ifnullNo X17.here hx rfl (hb hby d40_24) rfl ?_
    exact own_a X17 Y d40_27 rfl rfl (Steps.refl _)
  obtain ⟨T23, X23, e23, st23⟩ := own_gF X22 Y hZ hown (tw_ hw 211 rfl) e22 (own_N.f_left f21) (g := (mkF m 58 #[vr tm, vr r1, uu] [(.ref r1)])) rfl rfl d40_58
  refine own_gs ?_ (own_go st23 ?_)
  · refine XS.ifnullYes X22.here hx rfl (pc0 := 31) (pc' := 57) rfl (hb hby d40_31) rfl (by decide) (by decide) ?_
    exact own_a X22 Y d40_57 rfl rfl (Steps.refl _)
  obtain ⟨T24, X24, e24, st24⟩ := own_gF X23 Y hZ hown (tw_ hw 211 rfl) e23 (own_N.f_left f21) (g := (mkF m 65 #[vr tm, vr r1, uu] [(.ref r1)])) rfl rfl d40_65
  refine own_gs ?_ (own_go st24 ?_)
  · refine XS.ifnullNo X23.here hx rfl (hb hby d40_61) rfl ?_
    exact own_a X23 Y d40_64 rfl rfl (Steps.refl _)
  obtain ⟨T25, X25, e25, st25⟩ := own_gF X24 Y hZ hown (tw_ hw 202 rfl) e24 (own_N.f_parent f21) (g := (mkF m 82 #[vr tm, vr r1, vr c1] [(.ref r1), (.ref c1)])) rfl rfl d40_82
  refine own_gs ?_ (own_go st25 ?_)
  · refine XS.goto X24.here hx rfl (pc0 := 68) (pc' := 75) rfl (hb hby d40_68) (by decide) (by decide) ?_
    refine XS.astoreN X24.here hx rfl (hb hby d40_75) rfl rfl (l' := #[vr tm, vr r1, vr c1]) rfl ?_
    refine own_a X24 Y d40_76 rfl rfl ?_
    refine XS.ifnullNo X24.here hx rfl (hb hby d40_77) rfl ?_
    refine own_a X24 Y d40_80 rfl rfl ?_
    exact own_a X24 Y d40_81 rfl rfl (Steps.refl _)
  have f28 := (((own_N.ex C1).wr W12).wr W15)
  have nc27 : own_Ne c1 tm := ne_exa f28 f20 (by decide)
  have f29 := ((C1.keep (Keep.of_wr W12) (ninS nc27 nin0)).keep (Keep.of_wr W15) (ninS nc27 nin0))
  obtain ⟨T26, h26, X26, e26, W26, st26⟩ := own_pF X25 Y hZ hown (tw_ hw 202 rfl) e25 (own_N.f_parent f29) (own_N.ex f29) (tw_ hw 170 rfl) (tw_ hw 156 rfl) (ty := (.object "java/util/TreeMap$Entry")) (by decide) rfl rfl (g := (mkF m 85 #[vr tm, vr r1, vr c1] [.null, (.ref c1)])) rfl rfl d40_85
  have F26 := own_N.s_parent hw f29 W26
  refine own_go st26 ?_
  obtain ⟨z30, Zz30, K30, O30, N30⟩ := own_eW W26 Zz16 K16 O16 N16 (own_i 2 rfl) gc
  have f32 := (f21.keep (Keep.of_wr W26) (ninS hrc nin0))
  obtain ⟨T31, X31, e31, st31⟩ := own_gF X26 Y hZ hown (tw_ hw 202 rfl) e26 (own_N.f_parent f32) (g := (mkF m 89 #[vr tm, vr r1, vr c1] [(.ref r1)])) rfl rfl d40_89
  refine own_gs ?_ (own_go st31 ?_)
  · exact own_a X26 Y d40_88 rfl rfl (Steps.refl _)
  have f34 := (F15.keep (Keep.of_wr W26) (ninS (Ne.symm nc27) nin0))
  obtain ⟨T33, h33, X33, e33, W33, st33⟩ := own_pF X31 Y hZ hown (tw_ hw 115 rfl) e31 (own_T.f_root f34) (own_T.ex f34) (tw_ hw 116 rfl) (tw_ hw 10 rfl) (ty := (.object "java/util/TreeMap$Entry")) (by decide) rfl rfl (g := (mkF m 97 #[vr tm, vr r1, vr c1] [(.ref c1), (.ref tm)])) rfl rfl d40_97
  have F33 := own_T.s_root hw f34 W33
  refine own_gs ?_ (own_go st33 ?_)
  · refine XS.ifnonnullNo X31.here hx rfl (hb hby d40_92) rfl ?_
    refine own_a X31 Y d40_95 rfl rfl ?_
    exact own_a X31 Y d40_96 rfl rfl (Steps.refl _)
  obtain ⟨z35, Zz35, K35, O35, N35⟩ := own_eW W33 Zz30 K30 O30 N30 (own_i 0 rfl) gt
  have f37 := (f32.keep (Keep.of_wr W33) (ninS nc18 nin0))
  obtain ⟨T36, h36, X36, e36, W36, st36⟩ := own_pF X33 Y hZ hown (tw_ hw 202 rfl) e33 (own_N.f_parent f37) (own_N.ex f37) (tw_ hw 170 rfl) (tw_ hw 156 rfl) (ty := (.object "java/util/TreeMap$Entry")) (by decide) rfl rfl (g := (mkF m 138 #[vr tm, vr r1, vr c1] [.null, (.ref r1), .null, (.ref r1), (.ref r1)])) rfl rfl d40_138
  have F36 := own_N.s_parent hw f37 W36
  refine own_gs ?_ (own_go st36 ?_)
  · refine XS.goto X33.here hx rfl (pc0 := 100) (pc' := 133) rfl (hb hby d40_100) (by decide) (by decide) ?_
    refine own_a X33 Y d40_133 rfl rfl ?_
    refine own_a X33 Y d40_134 rfl rfl ?_
    refine own_a X33 Y d40_135 rfl rfl ?_
    refine XS.aconstNull X33.here hx rfl (hb hby d40_136) ?_
    exact XS.dupX1 X33.here hx rfl (hb hby d40_137) rfl rfl rfl (Steps.refl _)
  obtain ⟨z38, Zz38, K38, O38, N38⟩ := own_eW W36 Zz35 K35 O35 N35 (own_i 1 rfl) gr
  obtain ⟨T39, h39, X39, e39, W39, st39⟩ := own_pF X36 Y hZ hown (tw_ hw 189 rfl) e36 (own_N.f_right F36) (own_N.ex F36) (tw_ hw 190 rfl) (tw_ hw 156 rfl) (ty := (.object "java/util/TreeMap$Entry")) (by decide) rfl rfl (g := (mkF m 142 #[vr tm, vr r1, vr c1] [.null, (.ref r1), .null, (.ref r1)])) rfl rfl d40_142
  have F39 := own_N.s_right hw F36 W39
  refine own_gs ?_ (own_go st39 ?_)
  · exact XS.dupX1 X36.here hx rfl (hb hby d40_141) rfl rfl rfl (Steps.refl _)
  obtain ⟨z40, Zz40, K40, O40, N40⟩ := own_eW W39 Zz38 K38 O38 N38 (own_i 1 rfl) gr
  obtain ⟨T41, h41, X41, e41, W41, st41⟩ := own_pF X39 Y hZ hown (tw_ hw 211 rfl) e39 (own_N.f_left F39) (own_N.ex F39) (tw_ hw 212 rfl) (tw_ hw 156 rfl) (ty := (.object "java/util/TreeMap$Entry")) (by decide) rfl rfl (g := (mkF m 145 #[vr tm, vr r1, vr c1] [.null, (.ref r1)])) rfl rfl d40_145
  have F41 := own_N.s_left hw F39 W41
  refine own_go st41 ?_
  obtain ⟨z42, Zz42, K42, O42, N42⟩ := own_eW W41 Zz40 K40 O40 N40 (own_i 1 rfl) gr
  obtain ⟨T43, X43, e43, st43⟩ := own_gF X41 Y hZ hown (tw_ hw 201 rfl) e41 (own_N.f_color F41) (g := (mkF m 149 #[vr tm, vr r1, vr c1] [(.ref r1)])) rfl rfl d40_149
  refine own_gs ?_ (own_go st43 ?_)
  · exact own_a X41 Y d40_148 rfl rfl (Steps.refl _)
  have f44 := (((F33.keep (Keep.of_wr W36) (ninS (Ne.symm nc18) nin0)).keep (Keep.of_wr W39) (ninS (Ne.symm nc18) nin0)).keep (Keep.of_wr W41) (ninS (Ne.symm nc18) nin0))
  have f45 := ((((F26.keep (Keep.of_wr W33) (ninS nc27 nin0)).keep (Keep.of_wr W36) (ninS (Ne.symm hrc) nin0)).keep (Keep.of_wr W39) (ninS (Ne.symm hrc) nin0)).keep (Keep.of_wr W41) (ninS (Ne.symm hrc) nin0))
  obtain ⟨v46, T46, Lc46, X46, hQ46, st46⟩ := own_priv (own_fad l Z a0 hW tm c1 (mc + (1 : Int32)) (sz - (1 : Int32)) kc dc .null .null .null (0 : Int32) h41 n0 Zz42 O42 f44 f45 gc) X43 Y hZH hown (tw_ hw 321 rfl) (tw_ hw 322 rfl) (tw_ hw 323 rfl) (own_nf (notFace_of_selects (tw_ hw 109 rfl)) (tw_ hw 108 rfl) rfl) (tw_ hw 325 rfl) (tw_ hw 11 rfl) (by decide) e43 (own_T.ex f44) (g := (mkF m 158 #[vr tm, vr r1, vr c1] [(.ref c1), (.ref tm)])) rfl hml.symm (argsL := [(.ref c1)]) (rest := []) (lenOf pd_11 rfl) rfl d40_158
  obtain ⟨rfl, Nq46, Kq46, Xq46⟩ := hQ46
  have N46 := Fr.app N42 Nq46
  obtain ⟨z47, Zz47, K47, O47⟩ := own_eK Kq46 Zz42 K42 O42 (allS (own_i 2 rfl) all0) (allS gc all0)
  refine own_gs ?_ (own_gs st46 ?_)
  · refine own_ic X43 Y d40_152 ?_
    refine XS.icmpNo X43.here hx rfl (hb hby d40_153) rfl (teq ((by decide) : (1 : Int32) = (1 : Int32))).2 ?_
    refine own_a X43 Y d40_156 rfl rfl ?_
    exact own_a X43 Y d40_157 rfl rfl (Steps.refl _)
  have f48 := (f44.keep Kq46 (ninS (Ne.symm nc27) nin0))
  refine own_gs (cur' := T46.setTop (mkF m 245 #[vr tm, vr r1, vr c1] [])) ?_ ?_
  · exact XS.goto X46.here hx rfl (pc0 := 161) (pc' := 245) rfl (hb hby d40_161) (by decide) (by decide) (Steps.refl _)
  exact own_rV X46 Bd (hb hby d40_245) rfl (⟨_, _, rfl, N46, K47, f48, Xq46⟩) rfl rfl
def own_deR_Q (Z : State) (tm r1 c1 : Nat) (mc sz : Int32) (kr dr kc dc : Value) (h0 : Heap) (n0 : Nat) (v : Option Value) (h : Heap) (L : List Loc) : Prop := ∃ (mc1 sz1 : Int32), v = none ∧ Fr n0 L ∧ Keep h0 h [tm, r1, c1] ∧ own_T Z h tm (.ref c1) mc1 sz1 ∧ own_N Z h c1 kc dc .null .null .null (1 : Int32)
theorem ef_own_deR (m : MethodId) (x0 : Nat) (x1 : Nat) : entryFrame m #[(.ref x0), (.ref x1)] 3 = mkF m 0 #[vr x0, vr x1, .unset] [] := by first | (simp [entryFrame, mkF, argsToLocals, Value.category]; done) | rfl
set_option maxRecDepth 65536 in
set_option maxHeartbeats 40000000 in
theorem own_deR (l : Launch) (Z : State) (a0 : Array Value) (hW : own_W Z a0) (tm r1 c1 : Nat) (mc sz : Int32) (kr dr kc dc : Value) (h0 : Heap) (n0 : Nat) (Z0 : n0 ≤ h0.size) (O0 : Old Z n0 h0) (T1 : own_T Z h0 tm (.ref r1) mc sz) (R1 : own_N Z h0 r1 kr dr .null (.ref c1) .null (1 : Int32)) (gt : n0 ≤ tm) (gr : n0 ≤ r1) (C1 : own_N Z h0 c1 kc dc .null .null (.ref r1) (0 : Int32)) (gc : n0 ≤ c1) (hrc : own_Ne r1 c1) :
    own_MH l own_y42 own_c40 3 none (own_r 2 0 0 40) #[(.ref tm), (.ref r1)] Z h0 (own_deR_Q Z tm r1 c1 mc sz kr dr kc dc h0 n0) := by
  refine own_enterH (own := "java/util/TreeMap") rfl (plainFor_of_name pn_java_util_TreeMap) (fun m => ef_own_deR m tm r1) ?_
  intro p e s m below meth c s₁ Bd hZH hh hx hby hml hown hnm X0 e0
  have hZ := hZH.wide
  have Y := And.intro hx hby
  have hw := hW.1
  have N0 := Fr.nil n0
  have K0 := Keep.refl h0 [tm, r1, c1]
  have lttm := own_lt T1.lt
  have ltr1 := own_lt R1.lt
  have ltc1 := own_lt C1.lt
  obtain ⟨T11, X11, e11, st11⟩ := own_gF X0 Y hZ hown (tw_ hw 24 rfl) e0 (own_T.f_modCount T1) (g := (mkF m 2 #[vr tm, vr r1, uu] [(.ref tm), (.ref tm)])) rfl rfl d40_2
  refine own_gs ?_ (own_go st11 ?_)
  · refine own_a X0 Y d40_0 rfl rfl ?_
    exact own_du X0 Y d40_1 rfl rfl (Steps.refl _)
  obtain ⟨T12, h12, X12, e12, W12, st12⟩ := own_pF X11 Y hZ hown (tw_ hw 24 rfl) e11 (own_T.f_modCount T1) (own_T.ex T1) (tw_ hw 25 rfl) (tw_ hw 10 rfl) (ty := .int) (by decide) rfl rfl (g := (mkF m 7 #[vr tm, vr r1, uu] [(.int (mc + (1 : Int32))), (.ref tm)])) rfl rfl d40_7
  have F12 := own_T.s_modCount hw T1 W12
  refine own_gs ?_ (own_go st12 ?_)
  · refine own_ic X11 Y d40_5 ?_
    exact XS.iadd X11.here hx rfl (hb hby d40_6) rfl (Steps.refl _)
  obtain ⟨z13, Zz13, K13, O13, N13⟩ := own_eW W12 Z0 K0 O0 N0 (own_i 0 rfl) gt
  obtain ⟨T14, X14, e14, st14⟩ := own_gF X12 Y hZ hown (tw_ hw 22 rfl) e12 (own_T.f_size F12) (g := (mkF m 12 #[vr tm, vr r1, uu] [(.ref tm), (.ref tm)])) rfl rfl d40_12
  refine own_gs ?_ (own_go st14 ?_)
  · refine own_a X12 Y d40_10 rfl rfl ?_
    exact own_du X12 Y d40_11 rfl rfl (Steps.refl _)
  obtain ⟨T15, h15, X15, e15, W15, st15⟩ := own_pF X14 Y hZ hown (tw_ hw 22 rfl) e14 (own_T.f_size F12) (own_T.ex F12) (tw_ hw 23 rfl) (tw_ hw 10 rfl) (ty := .int) (by decide) rfl rfl (g := (mkF m 17 #[vr tm, vr r1, uu] [(.int (sz - (1 : Int32))), (.ref tm)])) rfl rfl d40_17
  have F15 := own_T.s_size hw F12 W15
  refine own_gs ?_ (own_go st15 ?_)
  · refine own_ic X14 Y d40_15 ?_
    exact XS.isub X14.here hx rfl (hb hby d40_16) rfl (Steps.refl _)
  obtain ⟨z16, Zz16, K16, O16, N16⟩ := own_eW W15 Zz13 K13 O13 N13 (own_i 0 rfl) gt
  have f19 := (((own_N.ex R1).wr W12).wr W15)
  have f20 := (((own_T.ex T1).wr W12).wr W15)
  have nc18 : own_Ne r1 tm := ne_exa f19 f20 (by decide)
  have f21 := ((R1.keep (Keep.of_wr W12) (ninS nc18 nin0)).keep (Keep.of_wr W15) (ninS nc18 nin0))
  obtain ⟨T17, X17, e17, st17⟩ := own_gF X15 Y hZ hown (tw_ hw 211 rfl) e15 (own_N.f_left f21) (g := (mkF m 21 #[vr tm, vr r1, uu] [(.ref r1)])) rfl rfl d40_21
  refine own_gs ?_ (own_go st17 ?_)
  · exact own_a X15 Y d40_20 rfl rfl (Steps.refl _)
  obtain ⟨T22, X22, e22, st22⟩ := own_gF X17 Y hZ hown (tw_ hw 211 rfl) e17 (own_N.f_left f21) (g := (mkF m 58 #[vr tm, vr r1, uu] [(.ref r1)])) rfl rfl d40_58
  refine own_gs ?_ (own_go st22 ?_)
  · refine XS.ifnullYes X17.here hx rfl (pc0 := 24) (pc' := 57) rfl (hb hby d40_24) rfl (by decide) (by decide) ?_
    exact own_a X17 Y d40_57 rfl rfl (Steps.refl _)
  obtain ⟨T23, X23, e23, st23⟩ := own_gF X22 Y hZ hown (tw_ hw 189 rfl) e22 (own_N.f_right f21) (g := (mkF m 72 #[vr tm, vr r1, uu] [(.ref r1)])) rfl rfl d40_72
  refine own_gs ?_ (own_go st23 ?_)
  · refine XS.ifnullYes X22.here hx rfl (pc0 := 61) (pc' := 71) rfl (hb hby d40_61) rfl (by decide) (by decide) ?_
    exact own_a X22 Y d40_71 rfl rfl (Steps.refl _)
  obtain ⟨T24, X24, e24, st24⟩ := own_gF X23 Y hZ hown (tw_ hw 202 rfl) e23 (own_N.f_parent f21) (g := (mkF m 82 #[vr tm, vr r1, vr c1] [(.ref r1), (.ref c1)])) rfl rfl d40_82
  refine own_gs ?_ (own_go st24 ?_)
  · refine XS.astoreN X23.here hx rfl (hb hby d40_75) rfl rfl (l' := #[vr tm, vr r1, vr c1]) rfl ?_
    refine own_a X23 Y d40_76 rfl rfl ?_
    refine XS.ifnullNo X23.here hx rfl (hb hby d40_77) rfl ?_
    refine own_a X23 Y d40_80 rfl rfl ?_
    exact own_a X23 Y d40_81 rfl rfl (Steps.refl _)
  have f27 := (((own_N.ex C1).wr W12).wr W15)
  have nc26 : own_Ne c1 tm := ne_exa f27 f20 (by decide)
  have f28 := ((C1.keep (Keep.of_wr W12) (ninS nc26 nin0)).keep (Keep.of_wr W15) (ninS nc26 nin0))
  obtain ⟨T25, h25, X25, e25, W25, st25⟩ := own_pF X24 Y hZ hown (tw_ hw 202 rfl) e24 (own_N.f_parent f28) (own_N.ex f28) (tw_ hw 170 rfl) (tw_ hw 156 rfl) (ty := (.object "java/util/TreeMap$Entry")) (by decide) rfl rfl (g := (mkF m 85 #[vr tm, vr r1, vr c1] [.null, (.ref c1)])) rfl rfl d40_85
  have F25 := own_N.s_parent hw f28 W25
  refine own_go st25 ?_
  obtain ⟨z29, Zz29, K29, O29, N29⟩ := own_eW W25 Zz16 K16 O16 N16 (own_i 2 rfl) gc
  have f31 := (f21.keep (Keep.of_wr W25) (ninS hrc nin0))
  obtain ⟨T30, X30, e30, st30⟩ := own_gF X25 Y hZ hown (tw_ hw 202 rfl) e25 (own_N.f_parent f31) (g := (mkF m 89 #[vr tm, vr r1, vr c1] [(.ref r1)])) rfl rfl d40_89
  refine own_gs ?_ (own_go st30 ?_)
  · exact own_a X25 Y d40_88 rfl rfl (Steps.refl _)
  have f33 := (F15.keep (Keep.of_wr W25) (ninS (Ne.symm nc26) nin0))
  obtain ⟨T32, h32, X32, e32, W32, st32⟩ := own_pF X30 Y hZ hown (tw_ hw 115 rfl) e30 (own_T.f_root f33) (own_T.ex f33) (tw_ hw 116 rfl) (tw_ hw 10 rfl) (ty := (.object "java/util/TreeMap$Entry")) (by decide) rfl rfl (g := (mkF m 97 #[vr tm, vr r1, vr c1] [(.ref c1), (.ref tm)])) rfl rfl d40_97
  have F32 := own_T.s_root hw f33 W32
  refine own_gs ?_ (own_go st32 ?_)
  · refine XS.ifnonnullNo X30.here hx rfl (hb hby d40_92) rfl ?_
    refine own_a X30 Y d40_95 rfl rfl ?_
    exact own_a X30 Y d40_96 rfl rfl (Steps.refl _)
  obtain ⟨z34, Zz34, K34, O34, N34⟩ := own_eW W32 Zz29 K29 O29 N29 (own_i 0 rfl) gt
  have f36 := (f31.keep (Keep.of_wr W32) (ninS nc18 nin0))
  obtain ⟨T35, h35, X35, e35, W35, st35⟩ := own_pF X32 Y hZ hown (tw_ hw 202 rfl) e32 (own_N.f_parent f36) (own_N.ex f36) (tw_ hw 170 rfl) (tw_ hw 156 rfl) (ty := (.object "java/util/TreeMap$Entry")) (by decide) rfl rfl (g := (mkF m 138 #[vr tm, vr r1, vr c1] [.null, (.ref r1), .null, (.ref r1), (.ref r1)])) rfl rfl d40_138
  have F35 := own_N.s_parent hw f36 W35
  refine own_gs ?_ (own_go st35 ?_)
  · refine XS.goto X32.here hx rfl (pc0 := 100) (pc' := 133) rfl (hb hby d40_100) (by decide) (by decide) ?_
    refine own_a X32 Y d40_133 rfl rfl ?_
    refine own_a X32 Y d40_134 rfl rfl ?_
    refine own_a X32 Y d40_135 rfl rfl ?_
    refine XS.aconstNull X32.here hx rfl (hb hby d40_136) ?_
    exact XS.dupX1 X32.here hx rfl (hb hby d40_137) rfl rfl rfl (Steps.refl _)
  obtain ⟨z37, Zz37, K37, O37, N37⟩ := own_eW W35 Zz34 K34 O34 N34 (own_i 1 rfl) gr
  obtain ⟨T38, h38, X38, e38, W38, st38⟩ := own_pF X35 Y hZ hown (tw_ hw 189 rfl) e35 (own_N.f_right F35) (own_N.ex F35) (tw_ hw 190 rfl) (tw_ hw 156 rfl) (ty := (.object "java/util/TreeMap$Entry")) (by decide) rfl rfl (g := (mkF m 142 #[vr tm, vr r1, vr c1] [.null, (.ref r1), .null, (.ref r1)])) rfl rfl d40_142
  have F38 := own_N.s_right hw F35 W38
  refine own_gs ?_ (own_go st38 ?_)
  · exact XS.dupX1 X35.here hx rfl (hb hby d40_141) rfl rfl rfl (Steps.refl _)
  obtain ⟨z39, Zz39, K39, O39, N39⟩ := own_eW W38 Zz37 K37 O37 N37 (own_i 1 rfl) gr
  obtain ⟨T40, h40, X40, e40, W40, st40⟩ := own_pF X38 Y hZ hown (tw_ hw 211 rfl) e38 (own_N.f_left F38) (own_N.ex F38) (tw_ hw 212 rfl) (tw_ hw 156 rfl) (ty := (.object "java/util/TreeMap$Entry")) (by decide) rfl rfl (g := (mkF m 145 #[vr tm, vr r1, vr c1] [.null, (.ref r1)])) rfl rfl d40_145
  have F40 := own_N.s_left hw F38 W40
  refine own_go st40 ?_
  obtain ⟨z41, Zz41, K41, O41, N41⟩ := own_eW W40 Zz39 K39 O39 N39 (own_i 1 rfl) gr
  obtain ⟨T42, X42, e42, st42⟩ := own_gF X40 Y hZ hown (tw_ hw 201 rfl) e40 (own_N.f_color F40) (g := (mkF m 149 #[vr tm, vr r1, vr c1] [(.ref r1)])) rfl rfl d40_149
  refine own_gs ?_ (own_go st42 ?_)
  · exact own_a X40 Y d40_148 rfl rfl (Steps.refl _)
  have f43 := (((F32.keep (Keep.of_wr W35) (ninS (Ne.symm nc18) nin0)).keep (Keep.of_wr W38) (ninS (Ne.symm nc18) nin0)).keep (Keep.of_wr W40) (ninS (Ne.symm nc18) nin0))
  have f44 := ((((F25.keep (Keep.of_wr W32) (ninS nc26 nin0)).keep (Keep.of_wr W35) (ninS (Ne.symm hrc) nin0)).keep (Keep.of_wr W38) (ninS (Ne.symm hrc) nin0)).keep (Keep.of_wr W40) (ninS (Ne.symm hrc) nin0))
  obtain ⟨v45, T45, Lc45, X45, hQ45, st45⟩ := own_priv (own_fad l Z a0 hW tm c1 (mc + (1 : Int32)) (sz - (1 : Int32)) kc dc .null .null .null (0 : Int32) h40 n0 Zz41 O41 f43 f44 gc) X42 Y hZH hown (tw_ hw 321 rfl) (tw_ hw 322 rfl) (tw_ hw 323 rfl) (own_nf (notFace_of_selects (tw_ hw 109 rfl)) (tw_ hw 108 rfl) rfl) (tw_ hw 325 rfl) (tw_ hw 11 rfl) (by decide) e42 (own_T.ex f43) (g := (mkF m 158 #[vr tm, vr r1, vr c1] [(.ref c1), (.ref tm)])) rfl hml.symm (argsL := [(.ref c1)]) (rest := []) (lenOf pd_11 rfl) rfl d40_158
  obtain ⟨rfl, Nq45, Kq45, Xq45⟩ := hQ45
  have N45 := Fr.app N41 Nq45
  obtain ⟨z46, Zz46, K46, O46⟩ := own_eK Kq45 Zz41 K41 O41 (allS (own_i 2 rfl) all0) (allS gc all0)
  refine own_gs ?_ (own_gs st45 ?_)
  · refine own_ic X42 Y d40_152 ?_
    refine XS.icmpNo X42.here hx rfl (hb hby d40_153) rfl (teq ((by decide) : (1 : Int32) = (1 : Int32))).2 ?_
    refine own_a X42 Y d40_156 rfl rfl ?_
    exact own_a X42 Y d40_157 rfl rfl (Steps.refl _)
  have f47 := (f43.keep Kq45 (ninS (Ne.symm nc26) nin0))
  refine own_gs (cur' := T45.setTop (mkF m 245 #[vr tm, vr r1, vr c1] [])) ?_ ?_
  · exact XS.goto X45.here hx rfl (pc0 := 161) (pc' := 245) rfl (hb hby d40_161) (by decide) (by decide) (Steps.refl _)
  exact own_rV X45 Bd (hb hby d40_245) rfl (⟨_, _, rfl, N45, K46, f47, Xq45⟩) rfl rfl
def own_del_Q (Z : State) (tm r1 c1 : Nat) (mc sz : Int32) (kr dr kc dc s1 : Value) (h0 : Heap) (n0 : Nat) (v : Option Value) (h : Heap) (L : List Loc) : Prop := ∃ (mc1 sz1 : Int32), v = none ∧ Fr n0 L ∧ Keep h0 h [tm, r1, c1] ∧ own_T Z h tm (.ref r1) mc1 sz1 ∧ own_N Z h r1 kr dr .null s1 .null (1 : Int32)
theorem ef_own_del (m : MethodId) (x0 : Nat) (x1 : Nat) : entryFrame m #[(.ref x0), (.ref x1)] 3 = mkF m 0 #[vr x0, vr x1, .unset] [] := by first | (simp [entryFrame, mkF, argsToLocals, Value.category]; done) | rfl
theorem d40_179 : decode own_c40 179 = .ok (.aload_n 1, 1) := by decide +kernel
theorem d40_180 : decode own_c40 180 = .ok (.getfield 290, 3) := by decide +kernel
theorem d40_183 : decode own_c40 183 = .ok (.iconst 1, 1) := by decide +kernel
theorem d40_184 : decode own_c40 184 = .ok (.if_icmp .ne 8, 3) := by decide +kernel
theorem d40_192 : decode own_c40 192 = .ok (.aload_n 1, 1) := by decide +kernel
theorem d40_193 : decode own_c40 193 = .ok (.getfield 124, 3) := by decide +kernel
theorem d40_196 : decode own_c40 196 = .ok (.ifnull 49, 3) := by decide +kernel
theorem d40_199 : decode own_c40 199 = .ok (.aload_n 1, 1) := by decide +kernel
theorem d40_200 : decode own_c40 200 = .ok (.aload_n 1, 1) := by decide +kernel
theorem d40_201 : decode own_c40 201 = .ok (.getfield 124, 3) := by decide +kernel
theorem d40_204 : decode own_c40 204 = .ok (.getfield 111, 3) := by decide +kernel
theorem d40_207 : decode own_c40 207 = .ok (.if_acmp .ne 14, 3) := by decide +kernel
theorem d40_210 : decode own_c40 210 = .ok (.aload_n 1, 1) := by decide +kernel
theorem d40_211 : decode own_c40 211 = .ok (.getfield 124, 3) := by decide +kernel
theorem d40_214 : decode own_c40 214 = .ok (.aconst_null, 1) := by decide +kernel
theorem d40_215 : decode own_c40 215 = .ok (.putfield 111, 3) := by decide +kernel
theorem d40_218 : decode own_c40 218 = .ok (.goto 22, 3) := by decide +kernel
theorem d40_240 : decode own_c40 240 = .ok (.aload_n 1, 1) := by decide +kernel
theorem d40_241 : decode own_c40 241 = .ok (.aconst_null, 1) := by decide +kernel
theorem d40_242 : decode own_c40 242 = .ok (.putfield 124, 3) := by decide +kernel
set_option maxRecDepth 65536 in
set_option maxHeartbeats 40000000 in
theorem own_del (l : Launch) (Z : State) (a0 : Array Value) (hW : own_W Z a0) (tm r1 c1 : Nat) (mc sz : Int32) (kr dr kc dc s1 : Value) (h0 : Heap) (n0 : Nat) (Z0 : n0 ≤ h0.size) (O0 : Old Z n0 h0) (T1 : own_T Z h0 tm (.ref r1) mc sz) (R1 : own_N Z h0 r1 kr dr (.ref c1) s1 .null (1 : Int32)) (gt : n0 ≤ tm) (gr : n0 ≤ r1) (C1 : own_N Z h0 c1 kc dc .null .null (.ref r1) (0 : Int32)) (gc : n0 ≤ c1) (hrc : own_Ne r1 c1) :
    own_MH l own_y42 own_c40 3 none (own_r 2 0 0 40) #[(.ref tm), (.ref c1)] Z h0 (own_del_Q Z tm r1 c1 mc sz kr dr kc dc s1 h0 n0) := by
  refine own_enterH (own := "java/util/TreeMap") rfl (plainFor_of_name pn_java_util_TreeMap) (fun m => ef_own_del m tm c1) ?_
  intro p e s m below meth c s₁ Bd hZH hh hx hby hml hown hnm X0 e0
  have hZ := hZH.wide
  have Y := And.intro hx hby
  have hw := hW.1
  have N0 := Fr.nil n0
  have K0 := Keep.refl h0 [tm, r1, c1]
  have lttm := own_lt T1.lt
  have ltr1 := own_lt R1.lt
  have ltc1 := own_lt C1.lt
  obtain ⟨T11, X11, e11, st11⟩ := own_gF X0 Y hZ hown (tw_ hw 24 rfl) e0 (own_T.f_modCount T1) (g := (mkF m 2 #[vr tm, vr c1, uu] [(.ref tm), (.ref tm)])) rfl rfl d40_2
  refine own_gs ?_ (own_go st11 ?_)
  · refine own_a X0 Y d40_0 rfl rfl ?_
    exact own_du X0 Y d40_1 rfl rfl (Steps.refl _)
  obtain ⟨T12, h12, X12, e12, W12, st12⟩ := own_pF X11 Y hZ hown (tw_ hw 24 rfl) e11 (own_T.f_modCount T1) (own_T.ex T1) (tw_ hw 25 rfl) (tw_ hw 10 rfl) (ty := .int) (by decide) rfl rfl (g := (mkF m 7 #[vr tm, vr c1, uu] [(.int (mc + (1 : Int32))), (.ref tm)])) rfl rfl d40_7
  have F12 := own_T.s_modCount hw T1 W12
  refine own_gs ?_ (own_go st12 ?_)
  · refine own_ic X11 Y d40_5 ?_
    exact XS.iadd X11.here hx rfl (hb hby d40_6) rfl (Steps.refl _)
  obtain ⟨z13, Zz13, K13, O13, N13⟩ := own_eW W12 Z0 K0 O0 N0 (own_i 0 rfl) gt
  obtain ⟨T14, X14, e14, st14⟩ := own_gF X12 Y hZ hown (tw_ hw 22 rfl) e12 (own_T.f_size F12) (g := (mkF m 12 #[vr tm, vr c1, uu] [(.ref tm), (.ref tm)])) rfl rfl d40_12
  refine own_gs ?_ (own_go st14 ?_)
  · refine own_a X12 Y d40_10 rfl rfl ?_
    exact own_du X12 Y d40_11 rfl rfl (Steps.refl _)
  obtain ⟨T15, h15, X15, e15, W15, st15⟩ := own_pF X14 Y hZ hown (tw_ hw 22 rfl) e14 (own_T.f_size F12) (own_T.ex F12) (tw_ hw 23 rfl) (tw_ hw 10 rfl) (ty := .int) (by decide) rfl rfl (g := (mkF m 17 #[vr tm, vr c1, uu] [(.int (sz - (1 : Int32))), (.ref tm)])) rfl rfl d40_17
  have F15 := own_T.s_size hw F12 W15
  refine own_gs ?_ (own_go st15 ?_)
  · refine own_ic X14 Y d40_15 ?_
    exact XS.isub X14.here hx rfl (hb hby d40_16) rfl (Steps.refl _)
  obtain ⟨z16, Zz16, K16, O16, N16⟩ := own_eW W15 Zz13 K13 O13 N13 (own_i 0 rfl) gt
  have f19 := (((own_N.ex C1).wr W12).wr W15)
  have f20 := (((own_T.ex T1).wr W12).wr W15)
  have nc18 : own_Ne c1 tm := ne_exa f19 f20 (by decide)
  have f21 := ((C1.keep (Keep.of_wr W12) (ninS nc18 nin0)).keep (Keep.of_wr W15) (ninS nc18 nin0))
  obtain ⟨T17, X17, e17, st17⟩ := own_gF X15 Y hZ hown (tw_ hw 211 rfl) e15 (own_N.f_left f21) (g := (mkF m 21 #[vr tm, vr c1, uu] [(.ref c1)])) rfl rfl d40_21
  refine own_gs ?_ (own_go st17 ?_)
  · exact own_a X15 Y d40_20 rfl rfl (Steps.refl _)
  obtain ⟨T22, X22, e22, st22⟩ := own_gF X17 Y hZ hown (tw_ hw 211 rfl) e17 (own_N.f_left f21) (g := (mkF m 58 #[vr tm, vr c1, uu] [(.ref c1)])) rfl rfl d40_58
  refine own_gs ?_ (own_go st22 ?_)
  · refine XS.ifnullYes X17.here hx rfl (pc0 := 24) (pc' := 57) rfl (hb hby d40_24) rfl (by decide) (by decide) ?_
    exact own_a X17 Y d40_57 rfl rfl (Steps.refl _)
  obtain ⟨T23, X23, e23, st23⟩ := own_gF X22 Y hZ hown (tw_ hw 189 rfl) e22 (own_N.f_right f21) (g := (mkF m 72 #[vr tm, vr c1, uu] [(.ref c1)])) rfl rfl d40_72
  refine own_gs ?_ (own_go st23 ?_)
  · refine XS.ifnullYes X22.here hx rfl (pc0 := 61) (pc' := 71) rfl (hb hby d40_61) rfl (by decide) (by decide) ?_
    exact own_a X22 Y d40_71 rfl rfl (Steps.refl _)
  obtain ⟨T24, X24, e24, st24⟩ := own_gF X23 Y hZ hown (tw_ hw 202 rfl) e23 (own_N.f_parent f21) (g := (mkF m 165 #[vr tm, vr c1, vn] [(.ref c1)])) rfl rfl d40_165
  refine own_gs ?_ (own_go st24 ?_)
  · refine XS.astoreN X23.here hx rfl (hb hby d40_75) rfl rfl (l' := #[vr tm, vr c1, vn]) rfl ?_
    refine own_a X23 Y d40_76 rfl rfl ?_
    refine XS.ifnullYes X23.here hx rfl (pc0 := 77) (pc' := 164) rfl (hb hby d40_77) rfl (by decide) (by decide) ?_
    exact own_a X23 Y d40_164 rfl rfl (Steps.refl _)
  obtain ⟨T25, X25, e25, st25⟩ := own_gF X24 Y hZ hown (tw_ hw 201 rfl) e24 (own_N.f_color f21) (g := (mkF m 180 #[vr tm, vr c1, vn] [(.ref c1)])) rfl rfl d40_180
  refine own_gs ?_ (own_go st25 ?_)
  · refine XS.ifnonnullYes X24.here hx rfl (pc0 := 168) (pc' := 179) rfl (hb hby d40_168) rfl (by decide) (by decide) ?_
    exact own_a X24 Y d40_179 rfl rfl (Steps.refl _)
  obtain ⟨T26, X26, e26, st26⟩ := own_gF X25 Y hZ hown (tw_ hw 202 rfl) e25 (own_N.f_parent f21) (g := (mkF m 193 #[vr tm, vr c1, vn] [(.ref c1)])) rfl rfl d40_193
  refine own_gs ?_ (own_go st26 ?_)
  · refine own_ic X25 Y d40_183 ?_
    refine XS.icmpYes X25.here hx rfl (pc0 := 184) (pc' := 192) rfl (hb hby d40_184) rfl (feq ((by decide) : ¬ ((0 : Int32) = (1 : Int32)))).2 (by decide) (by decide) ?_
    exact own_a X25 Y d40_192 rfl rfl (Steps.refl _)
  obtain ⟨T27, X27, e27, st27⟩ := own_gF X26 Y hZ hown (tw_ hw 202 rfl) e26 (own_N.f_parent f21) (g := (mkF m 201 #[vr tm, vr c1, vn] [(.ref c1), (.ref c1)])) rfl rfl d40_201
  refine own_gs ?_ (own_go st27 ?_)
  · refine XS.ifnullNo X26.here hx rfl (hb hby d40_196) rfl ?_
    refine own_a X26 Y d40_199 rfl rfl ?_
    exact own_a X26 Y d40_200 rfl rfl (Steps.refl _)
  have f30 := (((own_N.ex R1).wr W12).wr W15)
  have nc29 : own_Ne r1 tm := ne_exa f30 f20 (by decide)
  have f31 := ((R1.keep (Keep.of_wr W12) (ninS nc29 nin0)).keep (Keep.of_wr W15) (ninS nc29 nin0))
  obtain ⟨T28, X28, e28, st28⟩ := own_gF X27 Y hZ hown (tw_ hw 211 rfl) e27 (own_N.f_left f31) (g := (mkF m 204 #[vr tm, vr c1, vn] [(.ref r1), (.ref c1)])) rfl rfl d40_204
  refine own_go st28 ?_
  obtain ⟨T32, X32, e32, st32⟩ := own_gF X28 Y hZ hown (tw_ hw 202 rfl) e28 (own_N.f_parent f21) (g := (mkF m 211 #[vr tm, vr c1, vn] [(.ref c1)])) rfl rfl d40_211
  refine own_gs ?_ (own_go st32 ?_)
  · refine Jvm.RoadKit.acmp (g := (mkF m 207 #[vr tm, vr c1, vn] [(.ref c1), (.ref c1)])) X28 hx rfl rfl rfl (pc0 := 207) (pc' := 210) (same := true) rfl (hb hby d40_207) rfl (decide_eq_true rfl) (by decide) (by decide) ?_
    exact own_a X28 Y d40_210 rfl rfl (Steps.refl _)
  obtain ⟨T33, h33, X33, e33, W33, st33⟩ := own_pF X32 Y hZ hown (tw_ hw 211 rfl) e32 (own_N.f_left f31) (own_N.ex f31) (tw_ hw 212 rfl) (tw_ hw 156 rfl) (ty := (.object "java/util/TreeMap$Entry")) (by decide) rfl rfl (g := (mkF m 215 #[vr tm, vr c1, vn] [.null, (.ref r1)])) rfl rfl d40_215
  have F33 := own_N.s_left hw f31 W33
  refine own_gs ?_ (own_go st33 ?_)
  · exact XS.aconstNull X32.here hx rfl (hb hby d40_214) (Steps.refl _)
  obtain ⟨z34, Zz34, K34, O34, N34⟩ := own_eW W33 Zz16 K16 O16 N16 (own_i 1 rfl) gr
  have f36 := (f21.keep (Keep.of_wr W33) (ninS (Ne.symm hrc) nin0))
  obtain ⟨T35, h35, X35, e35, W35, st35⟩ := own_pF X33 Y hZ hown (tw_ hw 202 rfl) e33 (own_N.f_parent f36) (own_N.ex f36) (tw_ hw 170 rfl) (tw_ hw 156 rfl) (ty := (.object "java/util/TreeMap$Entry")) (by decide) rfl rfl (g := (mkF m 242 #[vr tm, vr c1, vn] [.null, (.ref c1)])) rfl rfl d40_242
  have F35 := own_N.s_parent hw f36 W35
  refine own_gs ?_ (own_go st35 ?_)
  · refine XS.goto X33.here hx rfl (pc0 := 218) (pc' := 240) rfl (hb hby d40_218) (by decide) (by decide) ?_
    refine own_a X33 Y d40_240 rfl rfl ?_
    exact XS.aconstNull X33.here hx rfl (hb hby d40_241) (Steps.refl _)
  obtain ⟨z37, Zz37, K37, O37, N37⟩ := own_eW W35 Zz34 K34 O34 N34 (own_i 2 rfl) gc
  have f38 := ((F15.keep (Keep.of_wr W33) (ninS (Ne.symm nc29) nin0)).keep (Keep.of_wr W35) (ninS (Ne.symm nc18) nin0))
  have f39 := (F33.keep (Keep.of_wr W35) (ninS hrc nin0))
  exact own_rV X35 Bd (hb hby d40_245) e35 (⟨_, _, rfl, N37, K37, f38, f39⟩) rfl rfl
def own_den_Q (Z : State) (tm r1 c1 : Nat) (mc sz : Int32) (kr dr kc dc : Value) (h0 : Heap) (n0 : Nat) (v : Option Value) (h : Heap) (L : List Loc) : Prop := ∃ (mc1 sz1 : Int32), v = none ∧ Fr n0 L ∧ Keep h0 h [tm, r1, c1] ∧ own_T Z h tm (.ref r1) mc1 sz1 ∧ own_N Z h r1 kr dr .null .null .null (1 : Int32)
theorem ef_own_den (m : MethodId) (x0 : Nat) (x1 : Nat) : entryFrame m #[(.ref x0), (.ref x1)] 3 = mkF m 0 #[vr x0, vr x1, .unset] [] := by first | (simp [entryFrame, mkF, argsToLocals, Value.category]; done) | rfl
theorem d40_221 : decode own_c40 221 = .ok (.aload_n 1, 1) := by decide +kernel
theorem d40_222 : decode own_c40 222 = .ok (.aload_n 1, 1) := by decide +kernel
theorem d40_223 : decode own_c40 223 = .ok (.getfield 124, 3) := by decide +kernel
theorem d40_226 : decode own_c40 226 = .ok (.getfield 114, 3) := by decide +kernel
theorem d40_229 : decode own_c40 229 = .ok (.if_acmp .ne 11, 3) := by decide +kernel
theorem d40_232 : decode own_c40 232 = .ok (.aload_n 1, 1) := by decide +kernel
theorem d40_233 : decode own_c40 233 = .ok (.getfield 124, 3) := by decide +kernel
theorem d40_236 : decode own_c40 236 = .ok (.aconst_null, 1) := by decide +kernel
theorem d40_237 : decode own_c40 237 = .ok (.putfield 114, 3) := by decide +kernel
set_option maxRecDepth 65536 in
set_option maxHeartbeats 40000000 in
theorem own_den (l : Launch) (Z : State) (a0 : Array Value) (hW : own_W Z a0) (tm r1 c1 : Nat) (mc sz : Int32) (kr dr kc dc : Value) (h0 : Heap) (n0 : Nat) (Z0 : n0 ≤ h0.size) (O0 : Old Z n0 h0) (T1 : own_T Z h0 tm (.ref r1) mc sz) (R1 : own_N Z h0 r1 kr dr .null (.ref c1) .null (1 : Int32)) (gt : n0 ≤ tm) (gr : n0 ≤ r1) (C1 : own_N Z h0 c1 kc dc .null .null (.ref r1) (0 : Int32)) (gc : n0 ≤ c1) (hrc : own_Ne r1 c1) :
    own_MH l own_y42 own_c40 3 none (own_r 2 0 0 40) #[(.ref tm), (.ref c1)] Z h0 (own_den_Q Z tm r1 c1 mc sz kr dr kc dc h0 n0) := by
  refine own_enterH (own := "java/util/TreeMap") rfl (plainFor_of_name pn_java_util_TreeMap) (fun m => ef_own_den m tm c1) ?_
  intro p e s m below meth c s₁ Bd hZH hh hx hby hml hown hnm X0 e0
  have hZ := hZH.wide
  have Y := And.intro hx hby
  have hw := hW.1
  have N0 := Fr.nil n0
  have K0 := Keep.refl h0 [tm, r1, c1]
  have lttm := own_lt T1.lt
  have ltr1 := own_lt R1.lt
  have ltc1 := own_lt C1.lt
  obtain ⟨T11, X11, e11, st11⟩ := own_gF X0 Y hZ hown (tw_ hw 24 rfl) e0 (own_T.f_modCount T1) (g := (mkF m 2 #[vr tm, vr c1, uu] [(.ref tm), (.ref tm)])) rfl rfl d40_2
  refine own_gs ?_ (own_go st11 ?_)
  · refine own_a X0 Y d40_0 rfl rfl ?_
    exact own_du X0 Y d40_1 rfl rfl (Steps.refl _)
  obtain ⟨T12, h12, X12, e12, W12, st12⟩ := own_pF X11 Y hZ hown (tw_ hw 24 rfl) e11 (own_T.f_modCount T1) (own_T.ex T1) (tw_ hw 25 rfl) (tw_ hw 10 rfl) (ty := .int) (by decide) rfl rfl (g := (mkF m 7 #[vr tm, vr c1, uu] [(.int (mc + (1 : Int32))), (.ref tm)])) rfl rfl d40_7
  have F12 := own_T.s_modCount hw T1 W12
  refine own_gs ?_ (own_go st12 ?_)
  · refine own_ic X11 Y d40_5 ?_
    exact XS.iadd X11.here hx rfl (hb hby d40_6) rfl (Steps.refl _)
  obtain ⟨z13, Zz13, K13, O13, N13⟩ := own_eW W12 Z0 K0 O0 N0 (own_i 0 rfl) gt
  obtain ⟨T14, X14, e14, st14⟩ := own_gF X12 Y hZ hown (tw_ hw 22 rfl) e12 (own_T.f_size F12) (g := (mkF m 12 #[vr tm, vr c1, uu] [(.ref tm), (.ref tm)])) rfl rfl d40_12
  refine own_gs ?_ (own_go st14 ?_)
  · refine own_a X12 Y d40_10 rfl rfl ?_
    exact own_du X12 Y d40_11 rfl rfl (Steps.refl _)
  obtain ⟨T15, h15, X15, e15, W15, st15⟩ := own_pF X14 Y hZ hown (tw_ hw 22 rfl) e14 (own_T.f_size F12) (own_T.ex F12) (tw_ hw 23 rfl) (tw_ hw 10 rfl) (ty := .int) (by decide) rfl rfl (g := (mkF m 17 #[vr tm, vr c1, uu] [(.int (sz - (1 : Int32))), (.ref tm)])) rfl rfl d40_17
  have F15 := own_T.s_size hw F12 W15
  refine own_gs ?_ (own_go st15 ?_)
  · refine own_ic X14 Y d40_15 ?_
    exact XS.isub X14.here hx rfl (hb hby d40_16) rfl (Steps.refl _)
  obtain ⟨z16, Zz16, K16, O16, N16⟩ := own_eW W15 Zz13 K13 O13 N13 (own_i 0 rfl) gt
  have f19 := (((own_N.ex C1).wr W12).wr W15)
  have f20 := (((own_T.ex T1).wr W12).wr W15)
  have nc18 : own_Ne c1 tm := ne_exa f19 f20 (by decide)
  have f21 := ((C1.keep (Keep.of_wr W12) (ninS nc18 nin0)).keep (Keep.of_wr W15) (ninS nc18 nin0))
  obtain ⟨T17, X17, e17, st17⟩ := own_gF X15 Y hZ hown (tw_ hw 211 rfl) e15 (own_N.f_left f21) (g := (mkF m 21 #[vr tm, vr c1, uu] [(.ref c1)])) rfl rfl d40_21
  refine own_gs ?_ (own_go st17 ?_)
  · exact own_a X15 Y d40_20 rfl rfl (Steps.refl _)
  obtain ⟨T22, X22, e22, st22⟩ := own_gF X17 Y hZ hown (tw_ hw 211 rfl) e17 (own_N.f_left f21) (g := (mkF m 58 #[vr tm, vr c1, uu] [(.ref c1)])) rfl rfl d40_58
  refine own_gs ?_ (own_go st22 ?_)
  · refine XS.ifnullYes X17.here hx rfl (pc0 := 24) (pc' := 57) rfl (hb hby d40_24) rfl (by decide) (by decide) ?_
    exact own_a X17 Y d40_57 rfl rfl (Steps.refl _)
  obtain ⟨T23, X23, e23, st23⟩ := own_gF X22 Y hZ hown (tw_ hw 189 rfl) e22 (own_N.f_right f21) (g := (mkF m 72 #[vr tm, vr c1, uu] [(.ref c1)])) rfl rfl d40_72
  refine own_gs ?_ (own_go st23 ?_)
  · refine XS.ifnullYes X22.here hx rfl (pc0 := 61) (pc' := 71) rfl (hb hby d40_61) rfl (by decide) (by decide) ?_
    exact own_a X22 Y d40_71 rfl rfl (Steps.refl _)
  obtain ⟨T24, X24, e24, st24⟩ := own_gF X23 Y hZ hown (tw_ hw 202 rfl) e23 (own_N.f_parent f21) (g := (mkF m 165 #[vr tm, vr c1, vn] [(.ref c1)])) rfl rfl d40_165
  refine own_gs ?_ (own_go st24 ?_)
  · refine XS.astoreN X23.here hx rfl (hb hby d40_75) rfl rfl (l' := #[vr tm, vr c1, vn]) rfl ?_
    refine own_a X23 Y d40_76 rfl rfl ?_
    refine XS.ifnullYes X23.here hx rfl (pc0 := 77) (pc' := 164) rfl (hb hby d40_77) rfl (by decide) (by decide) ?_
    exact own_a X23 Y d40_164 rfl rfl (Steps.refl _)
  obtain ⟨T25, X25, e25, st25⟩ := own_gF X24 Y hZ hown (tw_ hw 201 rfl) e24 (own_N.f_color f21) (g := (mkF m 180 #[vr tm, vr c1, vn] [(.ref c1)])) rfl rfl d40_180
  refine own_gs ?_ (own_go st25 ?_)
  · refine XS.ifnonnullYes X24.here hx rfl (pc0 := 168) (pc' := 179) rfl (hb hby d40_168) rfl (by decide) (by decide) ?_
    exact own_a X24 Y d40_179 rfl rfl (Steps.refl _)
  obtain ⟨T26, X26, e26, st26⟩ := own_gF X25 Y hZ hown (tw_ hw 202 rfl) e25 (own_N.f_parent f21) (g := (mkF m 193 #[vr tm, vr c1, vn] [(.ref c1)])) rfl rfl d40_193
  refine own_gs ?_ (own_go st26 ?_)
  · refine own_ic X25 Y d40_183 ?_
    refine XS.icmpYes X25.here hx rfl (pc0 := 184) (pc' := 192) rfl (hb hby d40_184) rfl (feq ((by decide) : ¬ ((0 : Int32) = (1 : Int32)))).2 (by decide) (by decide) ?_
    exact own_a X25 Y d40_192 rfl rfl (Steps.refl _)
  obtain ⟨T27, X27, e27, st27⟩ := own_gF X26 Y hZ hown (tw_ hw 202 rfl) e26 (own_N.f_parent f21) (g := (mkF m 201 #[vr tm, vr c1, vn] [(.ref c1), (.ref c1)])) rfl rfl d40_201
  refine own_gs ?_ (own_go st27 ?_)
  · refine XS.ifnullNo X26.here hx rfl (hb hby d40_196) rfl ?_
    refine own_a X26 Y d40_199 rfl rfl ?_
    exact own_a X26 Y d40_200 rfl rfl (Steps.refl _)
  have f30 := (((own_N.ex R1).wr W12).wr W15)
  have nc29 : own_Ne r1 tm := ne_exa f30 f20 (by decide)
  have f31 := ((R1.keep (Keep.of_wr W12) (ninS nc29 nin0)).keep (Keep.of_wr W15) (ninS nc29 nin0))
  obtain ⟨T28, X28, e28, st28⟩ := own_gF X27 Y hZ hown (tw_ hw 211 rfl) e27 (own_N.f_left f31) (g := (mkF m 204 #[vr tm, vr c1, vn] [(.ref r1), (.ref c1)])) rfl rfl d40_204
  refine own_go st28 ?_
  obtain ⟨T32, X32, e32, st32⟩ := own_gF X28 Y hZ hown (tw_ hw 202 rfl) e28 (own_N.f_parent f21) (g := (mkF m 223 #[vr tm, vr c1, vn] [(.ref c1), (.ref c1)])) rfl rfl d40_223
  refine own_gs ?_ (own_go st32 ?_)
  · refine Jvm.RoadKit.acmp (g := (mkF m 207 #[vr tm, vr c1, vn] [.null, (.ref c1)])) X28 hx rfl rfl rfl (pc0 := 207) (pc' := 221) (same := false) rfl (hb hby d40_207) rfl (decide_eq_false nofun) (by decide) (by decide) ?_
    refine own_a X28 Y d40_221 rfl rfl ?_
    exact own_a X28 Y d40_222 rfl rfl (Steps.refl _)
  obtain ⟨T33, X33, e33, st33⟩ := own_gF X32 Y hZ hown (tw_ hw 189 rfl) e32 (own_N.f_right f31) (g := (mkF m 226 #[vr tm, vr c1, vn] [(.ref r1), (.ref c1)])) rfl rfl d40_226
  refine own_go st33 ?_
  obtain ⟨T34, X34, e34, st34⟩ := own_gF X33 Y hZ hown (tw_ hw 202 rfl) e33 (own_N.f_parent f21) (g := (mkF m 233 #[vr tm, vr c1, vn] [(.ref c1)])) rfl rfl d40_233
  refine own_gs ?_ (own_go st34 ?_)
  · refine Jvm.RoadKit.acmp (g := (mkF m 229 #[vr tm, vr c1, vn] [(.ref c1), (.ref c1)])) X33 hx rfl rfl rfl (pc0 := 229) (pc' := 232) (same := true) rfl (hb hby d40_229) rfl (decide_eq_true rfl) (by decide) (by decide) ?_
    exact own_a X33 Y d40_232 rfl rfl (Steps.refl _)
  obtain ⟨T35, h35, X35, e35, W35, st35⟩ := own_pF X34 Y hZ hown (tw_ hw 189 rfl) e34 (own_N.f_right f31) (own_N.ex f31) (tw_ hw 190 rfl) (tw_ hw 156 rfl) (ty := (.object "java/util/TreeMap$Entry")) (by decide) rfl rfl (g := (mkF m 237 #[vr tm, vr c1, vn] [.null, (.ref r1)])) rfl rfl d40_237
  have F35 := own_N.s_right hw f31 W35
  refine own_gs ?_ (own_go st35 ?_)
  · exact XS.aconstNull X34.here hx rfl (hb hby d40_236) (Steps.refl _)
  obtain ⟨z36, Zz36, K36, O36, N36⟩ := own_eW W35 Zz16 K16 O16 N16 (own_i 1 rfl) gr
  have f38 := (f21.keep (Keep.of_wr W35) (ninS (Ne.symm hrc) nin0))
  obtain ⟨T37, h37, X37, e37, W37, st37⟩ := own_pF X35 Y hZ hown (tw_ hw 202 rfl) e35 (own_N.f_parent f38) (own_N.ex f38) (tw_ hw 170 rfl) (tw_ hw 156 rfl) (ty := (.object "java/util/TreeMap$Entry")) (by decide) rfl rfl (g := (mkF m 242 #[vr tm, vr c1, vn] [.null, (.ref c1)])) rfl rfl d40_242
  have F37 := own_N.s_parent hw f38 W37
  refine own_gs ?_ (own_go st37 ?_)
  · refine own_a X35 Y d40_240 rfl rfl ?_
    exact XS.aconstNull X35.here hx rfl (hb hby d40_241) (Steps.refl _)
  obtain ⟨z39, Zz39, K39, O39, N39⟩ := own_eW W37 Zz36 K36 O36 N36 (own_i 2 rfl) gc
  have f40 := ((F15.keep (Keep.of_wr W35) (ninS (Ne.symm nc29) nin0)).keep (Keep.of_wr W37) (ninS (Ne.symm nc18) nin0))
  have f41 := (F35.keep (Keep.of_wr W37) (ninS hrc nin0))
  exact own_rV X37 Bd (hb hby d40_245) e37 (⟨_, _, rfl, N39, K39, f40, f41⟩) rfl rfl
def own_dem_Q (Z : State) (tm r1 c1 a1 : Nat) (mc sz : Int32) (kr dr kc dc : Value) (h0 : Heap) (n0 : Nat) (v : Option Value) (h : Heap) (L : List Loc) : Prop := ∃ (mc1 sz1 : Int32), v = none ∧ Fr n0 L ∧ Keep h0 h [tm, r1, c1] ∧ own_T Z h tm (.ref r1) mc1 sz1 ∧ own_N Z h r1 kr dr (.ref a1) .null .null (1 : Int32)
theorem ef_own_dem (m : MethodId) (x0 : Nat) (x1 : Nat) : entryFrame m #[(.ref x0), (.ref x1)] 3 = mkF m 0 #[vr x0, vr x1, .unset] [] := by first | (simp [entryFrame, mkF, argsToLocals, Value.category]; done) | rfl
set_option maxRecDepth 65536 in
set_option maxHeartbeats 40000000 in
theorem own_dem (l : Launch) (Z : State) (a0 : Array Value) (hW : own_W Z a0) (tm r1 c1 a1 : Nat) (mc sz : Int32) (kr dr kc dc : Value) (h0 : Heap) (n0 : Nat) (Z0 : n0 ≤ h0.size) (O0 : Old Z n0 h0) (T1 : own_T Z h0 tm (.ref r1) mc sz) (R1 : own_N Z h0 r1 kr dr (.ref a1) (.ref c1) .null (1 : Int32)) (gt : n0 ≤ tm) (gr : n0 ≤ r1) (C1 : own_N Z h0 c1 kc dc .null .null (.ref r1) (0 : Int32)) (gc : n0 ≤ c1) (hrc : own_Ne r1 c1) (hac : own_Ne a1 c1) :
    own_MH l own_y42 own_c40 3 none (own_r 2 0 0 40) #[(.ref tm), (.ref c1)] Z h0 (own_dem_Q Z tm r1 c1 a1 mc sz kr dr kc dc h0 n0) := by
  refine own_enterH (own := "java/util/TreeMap") rfl (plainFor_of_name pn_java_util_TreeMap) (fun m => ef_own_dem m tm c1) ?_
  intro p e s m below meth c s₁ Bd hZH hh hx hby hml hown hnm X0 e0
  have hZ := hZH.wide
  have Y := And.intro hx hby
  have hw := hW.1
  have N0 := Fr.nil n0
  have K0 := Keep.refl h0 [tm, r1, c1]
  have lttm := own_lt T1.lt
  have ltr1 := own_lt R1.lt
  have ltc1 := own_lt C1.lt
  obtain ⟨T11, X11, e11, st11⟩ := own_gF X0 Y hZ hown (tw_ hw 24 rfl) e0 (own_T.f_modCount T1) (g := (mkF m 2 #[vr tm, vr c1, uu] [(.ref tm), (.ref tm)])) rfl rfl d40_2
  refine own_gs ?_ (own_go st11 ?_)
  · refine own_a X0 Y d40_0 rfl rfl ?_
    exact own_du X0 Y d40_1 rfl rfl (Steps.refl _)
  obtain ⟨T12, h12, X12, e12, W12, st12⟩ := own_pF X11 Y hZ hown (tw_ hw 24 rfl) e11 (own_T.f_modCount T1) (own_T.ex T1) (tw_ hw 25 rfl) (tw_ hw 10 rfl) (ty := .int) (by decide) rfl rfl (g := (mkF m 7 #[vr tm, vr c1, uu] [(.int (mc + (1 : Int32))), (.ref tm)])) rfl rfl d40_7
  have F12 := own_T.s_modCount hw T1 W12
  refine own_gs ?_ (own_go st12 ?_)
  · refine own_ic X11 Y d40_5 ?_
    exact XS.iadd X11.here hx rfl (hb hby d40_6) rfl (Steps.refl _)
  obtain ⟨z13, Zz13, K13, O13, N13⟩ := own_eW W12 Z0 K0 O0 N0 (own_i 0 rfl) gt
  obtain ⟨T14, X14, e14, st14⟩ := own_gF X12 Y hZ hown (tw_ hw 22 rfl) e12 (own_T.f_size F12) (g := (mkF m 12 #[vr tm, vr c1, uu] [(.ref tm), (.ref tm)])) rfl rfl d40_12
  refine own_gs ?_ (own_go st14 ?_)
  · refine own_a X12 Y d40_10 rfl rfl ?_
    exact own_du X12 Y d40_11 rfl rfl (Steps.refl _)
  obtain ⟨T15, h15, X15, e15, W15, st15⟩ := own_pF X14 Y hZ hown (tw_ hw 22 rfl) e14 (own_T.f_size F12) (own_T.ex F12) (tw_ hw 23 rfl) (tw_ hw 10 rfl) (ty := .int) (by decide) rfl rfl (g := (mkF m 17 #[vr tm, vr c1, uu] [(.int (sz - (1 : Int32))), (.ref tm)])) rfl rfl d40_17
  have F15 := own_T.s_size hw F12 W15
  refine own_gs ?_ (own_go st15 ?_)
  · refine own_ic X14 Y d40_15 ?_
    exact XS.isub X14.here hx rfl (hb hby d40_16) rfl (Steps.refl _)
  obtain ⟨z16, Zz16, K16, O16, N16⟩ := own_eW W15 Zz13 K13 O13 N13 (own_i 0 rfl) gt
  have f19 := (((own_N.ex C1).wr W12).wr W15)
  have f20 := (((own_T.ex T1).wr W12).wr W15)
  have nc18 : own_Ne c1 tm := ne_exa f19 f20 (by decide)
  have f21 := ((C1.keep (Keep.of_wr W12) (ninS nc18 nin0)).keep (Keep.of_wr W15) (ninS nc18 nin0))
  obtain ⟨T17, X17, e17, st17⟩ := own_gF X15 Y hZ hown (tw_ hw 211 rfl) e15 (own_N.f_left f21) (g := (mkF m 21 #[vr tm, vr c1, uu] [(.ref c1)])) rfl rfl d40_21
  refine own_gs ?_ (own_go st17 ?_)
  · exact own_a X15 Y d40_20 rfl rfl (Steps.refl _)
  obtain ⟨T22, X22, e22, st22⟩ := own_gF X17 Y hZ hown (tw_ hw 211 rfl) e17 (own_N.f_left f21) (g := (mkF m 58 #[vr tm, vr c1, uu] [(.ref c1)])) rfl rfl d40_58
  refine own_gs ?_ (own_go st22 ?_)
  · refine XS.ifnullYes X17.here hx rfl (pc0 := 24) (pc' := 57) rfl (hb hby d40_24) rfl (by decide) (by decide) ?_
    exact own_a X17 Y d40_57 rfl rfl (Steps.refl _)
  obtain ⟨T23, X23, e23, st23⟩ := own_gF X22 Y hZ hown (tw_ hw 189 rfl) e22 (own_N.f_right f21) (g := (mkF m 72 #[vr tm, vr c1, uu] [(.ref c1)])) rfl rfl d40_72
  refine own_gs ?_ (own_go st23 ?_)
  · refine XS.ifnullYes X22.here hx rfl (pc0 := 61) (pc' := 71) rfl (hb hby d40_61) rfl (by decide) (by decide) ?_
    exact own_a X22 Y d40_71 rfl rfl (Steps.refl _)
  obtain ⟨T24, X24, e24, st24⟩ := own_gF X23 Y hZ hown (tw_ hw 202 rfl) e23 (own_N.f_parent f21) (g := (mkF m 165 #[vr tm, vr c1, vn] [(.ref c1)])) rfl rfl d40_165
  refine own_gs ?_ (own_go st24 ?_)
  · refine XS.astoreN X23.here hx rfl (hb hby d40_75) rfl rfl (l' := #[vr tm, vr c1, vn]) rfl ?_
    refine own_a X23 Y d40_76 rfl rfl ?_
    refine XS.ifnullYes X23.here hx rfl (pc0 := 77) (pc' := 164) rfl (hb hby d40_77) rfl (by decide) (by decide) ?_
    exact own_a X23 Y d40_164 rfl rfl (Steps.refl _)
  obtain ⟨T25, X25, e25, st25⟩ := own_gF X24 Y hZ hown (tw_ hw 201 rfl) e24 (own_N.f_color f21) (g := (mkF m 180 #[vr tm, vr c1, vn] [(.ref c1)])) rfl rfl d40_180
  refine own_gs ?_ (own_go st25 ?_)
  · refine XS.ifnonnullYes X24.here hx rfl (pc0 := 168) (pc' := 179) rfl (hb hby d40_168) rfl (by decide) (by decide) ?_
    exact own_a X24 Y d40_179 rfl rfl (Steps.refl _)
  obtain ⟨T26, X26, e26, st26⟩ := own_gF X25 Y hZ hown (tw_ hw 202 rfl) e25 (own_N.f_parent f21) (g := (mkF m 193 #[vr tm, vr c1, vn] [(.ref c1)])) rfl rfl d40_193
  refine own_gs ?_ (own_go st26 ?_)
  · refine own_ic X25 Y d40_183 ?_
    refine XS.icmpYes X25.here hx rfl (pc0 := 184) (pc' := 192) rfl (hb hby d40_184) rfl (feq ((by decide) : ¬ ((0 : Int32) = (1 : Int32)))).2 (by decide) (by decide) ?_
    exact own_a X25 Y d40_192 rfl rfl (Steps.refl _)
  obtain ⟨T27, X27, e27, st27⟩ := own_gF X26 Y hZ hown (tw_ hw 202 rfl) e26 (own_N.f_parent f21) (g := (mkF m 201 #[vr tm, vr c1, vn] [(.ref c1), (.ref c1)])) rfl rfl d40_201
  refine own_gs ?_ (own_go st27 ?_)
  · refine XS.ifnullNo X26.here hx rfl (hb hby d40_196) rfl ?_
    refine own_a X26 Y d40_199 rfl rfl ?_
    exact own_a X26 Y d40_200 rfl rfl (Steps.refl _)
  have f30 := (((own_N.ex R1).wr W12).wr W15)
  have nc29 : own_Ne r1 tm := ne_exa f30 f20 (by decide)
  have f31 := ((R1.keep (Keep.of_wr W12) (ninS nc29 nin0)).keep (Keep.of_wr W15) (ninS nc29 nin0))
  obtain ⟨T28, X28, e28, st28⟩ := own_gF X27 Y hZ hown (tw_ hw 211 rfl) e27 (own_N.f_left f31) (g := (mkF m 204 #[vr tm, vr c1, vn] [(.ref r1), (.ref c1)])) rfl rfl d40_204
  refine own_go st28 ?_
  obtain ⟨T32, X32, e32, st32⟩ := own_gF X28 Y hZ hown (tw_ hw 202 rfl) e28 (own_N.f_parent f21) (g := (mkF m 223 #[vr tm, vr c1, vn] [(.ref c1), (.ref c1)])) rfl rfl d40_223
  refine own_gs ?_ (own_go st32 ?_)
  · refine Jvm.RoadKit.acmp (g := (mkF m 207 #[vr tm, vr c1, vn] [(.ref a1), (.ref c1)])) X28 hx rfl rfl rfl (pc0 := 207) (pc' := 221) (same := false) rfl (hb hby d40_207) rfl (decide_eq_false fun q => (Ne.symm hac) (Value.ref.inj q)) (by decide) (by decide) ?_
    refine own_a X28 Y d40_221 rfl rfl ?_
    exact own_a X28 Y d40_222 rfl rfl (Steps.refl _)
  obtain ⟨T33, X33, e33, st33⟩ := own_gF X32 Y hZ hown (tw_ hw 189 rfl) e32 (own_N.f_right f31) (g := (mkF m 226 #[vr tm, vr c1, vn] [(.ref r1), (.ref c1)])) rfl rfl d40_226
  refine own_go st33 ?_
  obtain ⟨T34, X34, e34, st34⟩ := own_gF X33 Y hZ hown (tw_ hw 202 rfl) e33 (own_N.f_parent f21) (g := (mkF m 233 #[vr tm, vr c1, vn] [(.ref c1)])) rfl rfl d40_233
  refine own_gs ?_ (own_go st34 ?_)
  · refine Jvm.RoadKit.acmp (g := (mkF m 229 #[vr tm, vr c1, vn] [(.ref c1), (.ref c1)])) X33 hx rfl rfl rfl (pc0 := 229) (pc' := 232) (same := true) rfl (hb hby d40_229) rfl (decide_eq_true rfl) (by decide) (by decide) ?_
    exact own_a X33 Y d40_232 rfl rfl (Steps.refl _)
  obtain ⟨T35, h35, X35, e35, W35, st35⟩ := own_pF X34 Y hZ hown (tw_ hw 189 rfl) e34 (own_N.f_right f31) (own_N.ex f31) (tw_ hw 190 rfl) (tw_ hw 156 rfl) (ty := (.object "java/util/TreeMap$Entry")) (by decide) rfl rfl (g := (mkF m 237 #[vr tm, vr c1, vn] [.null, (.ref r1)])) rfl rfl d40_237
  have F35 := own_N.s_right hw f31 W35
  refine own_gs ?_ (own_go st35 ?_)
  · exact XS.aconstNull X34.here hx rfl (hb hby d40_236) (Steps.refl _)
  obtain ⟨z36, Zz36, K36, O36, N36⟩ := own_eW W35 Zz16 K16 O16 N16 (own_i 1 rfl) gr
  have f38 := (f21.keep (Keep.of_wr W35) (ninS (Ne.symm hrc) nin0))
  obtain ⟨T37, h37, X37, e37, W37, st37⟩ := own_pF X35 Y hZ hown (tw_ hw 202 rfl) e35 (own_N.f_parent f38) (own_N.ex f38) (tw_ hw 170 rfl) (tw_ hw 156 rfl) (ty := (.object "java/util/TreeMap$Entry")) (by decide) rfl rfl (g := (mkF m 242 #[vr tm, vr c1, vn] [.null, (.ref c1)])) rfl rfl d40_242
  have F37 := own_N.s_parent hw f38 W37
  refine own_gs ?_ (own_go st37 ?_)
  · refine own_a X35 Y d40_240 rfl rfl ?_
    exact XS.aconstNull X35.here hx rfl (hb hby d40_241) (Steps.refl _)
  obtain ⟨z39, Zz39, K39, O39, N39⟩ := own_eW W37 Zz36 K36 O36 N36 (own_i 2 rfl) gc
  have f40 := ((F15.keep (Keep.of_wr W35) (ninS (Ne.symm nc29) nin0)).keep (Keep.of_wr W37) (ninS (Ne.symm nc18) nin0))
  have f41 := (F35.keep (Keep.of_wr W37) (ninS hrc nin0))
  exact own_rV X37 Bd (hb hby d40_245) e37 (⟨_, _, rfl, N39, K39, f40, f41⟩) rfl rfl
abbrev own_c41 : ByteArray := jdk_2729_method_34_code
def own_rm1f_Q (Z : State) (tm k1 : Nat) (r1 kr : Nat) (xr : Int64) (dr : Nat) (mc sz : Int32) (h0 : Heap) (n0 : Nat) (v : Option Value) (h : Heap) (L : List Loc) : Prop := own_RM Z n0 h0 tm [] v h L
theorem ef_own_rm1f (m : MethodId) (x0 : Nat) (x1 : Nat) : entryFrame m #[(.ref x0), (.ref x1)] 4 = mkF m 0 #[vr x0, vr x1, .unset, .unset] [] := by first | (simp [entryFrame, mkF, argsToLocals, Value.category]; done) | rfl
abbrev own_y43 : MethodName := ⟨"java/util/TreeMap", "remove", "(Ljava/lang/Object;)Ljava/lang/Object;"⟩
theorem d41_0 : decode own_c41 0 = .ok (.aload_n 0, 1) := by decide +kernel
theorem d41_1 : decode own_c41 1 = .ok (.aload_n 1, 1) := by decide +kernel
theorem d41_2 : decode own_c41 2 = .ok (.invokevirtual 50, 3) := by decide +kernel
theorem d41_5 : decode own_c41 5 = .ok (.astore_n 2, 1) := by decide +kernel
theorem d41_6 : decode own_c41 6 = .ok (.aload_n 2, 1) := by decide +kernel
theorem d41_7 : decode own_c41 7 = .ok (.ifnonnull 5, 3) := by decide +kernel
theorem d41_12 : decode own_c41 12 = .ok (.aload_n 2, 1) := by decide +kernel
theorem d41_13 : decode own_c41 13 = .ok (.getfield 58, 3) := by decide +kernel
theorem d41_16 : decode own_c41 16 = .ok (.astore_n 3, 1) := by decide +kernel
theorem d41_17 : decode own_c41 17 = .ok (.aload_n 0, 1) := by decide +kernel
theorem d41_18 : decode own_c41 18 = .ok (.aload_n 2, 1) := by decide +kernel
theorem d41_19 : decode own_c41 19 = .ok (.invokevirtual 174, 3) := by decide +kernel
theorem d41_22 : decode own_c41 22 = .ok (.aload_n 3, 1) := by decide +kernel
theorem d41_23 : decode own_c41 23 = .ok (.areturn, 1) := by decide +kernel
set_option maxRecDepth 65536 in
set_option maxHeartbeats 40000000 in
theorem own_rm1f (l : Launch) (Z : State) (a0 : Array Value) (hW : own_W Z a0) (tm k1 : Nat) (r1 kr : Nat) (xr : Int64) (dr : Nat) (mc sz : Int32) (h0 : Heap) (n0 : Nat) (Z0 : n0 ≤ h0.size) (O0 : Old Z n0 h0) (gt : n0 ≤ tm) (K1 : own_Lg Z h0 k1 xr) (B1 : own_B1 Z h0 n0 tm r1 kr xr dr mc sz) :
    own_MH l own_y43 own_c41 4 (some (.object "java/lang/Object")) (own_r 4 0 0 81) #[(.ref tm), (.ref k1)] Z h0 (own_rm1f_Q Z tm k1 r1 kr xr dr mc sz h0 n0) := by
  refine own_enterH (own := "java/util/TreeMap") rfl (plainFor_of_name pn_java_util_TreeMap) (fun m => ef_own_rm1f m tm k1) ?_
  intro p e s m below meth c s₁ Bd hZH hh hx hby hml hown hnm X0 e0
  have hZ := hZH.wide
  have Y := And.intro hx hby
  have hw := hW.1
  have N0 := Fr.nil n0
  have K0 := Keep.refl h0 [tm, r1]
  obtain ⟨T1, R1, gr, Kr⟩ := id B1
  have lttm := own_lt T1.lt
  have ltr1 := own_lt R1.lt
  obtain ⟨v11, T11, Lc11, X11, hQ11, st11⟩ := own_virt (own_geo l Z a0 hW tm k1 r1 kr xr (.ref dr) .null .null .null (1 : Int32) mc sz h0 n0 Z0 O0 T1 ⟨K1.1, K1.2⟩ R1 ⟨Kr.1, Kr.2⟩) X0 Y hZH hown (tw_ hw 268 rfl) (tw_ hw 269 rfl) (tw_ hw 271 rfl) (tw_ hw 270 rfl) (tw_ hw 272 rfl) (tw_ hw 11 rfl) (by decide) e0 (own_T.ex T1) (g := (mkF m 2 #[vr tm, vr k1, uu, uu] [(.ref k1), (.ref tm)])) rfl hml.symm (argsL := [(.ref k1)]) (rest := []) (lenOf pd_20 rfl) rfl d41_2
  obtain ⟨rfl, Nq11, eh11⟩ := hQ11
  have N11 := Fr.app N0 Nq11
  refine own_gs ?_ (own_gs st11 ?_)
  · refine own_a X0 Y d41_0 rfl rfl ?_
    exact own_a X0 Y d41_1 rfl rfl (Steps.refl _)
  obtain ⟨T12, X12, e12, st12⟩ := own_gF X11 Y hZ hown (tw_ hw 273 rfl) eh11 (own_N.f_value R1) (g := (mkF m 13 #[vr tm, vr k1, vr r1, uu] [(.ref r1)])) rfl rfl d41_13
  refine own_gs ?_ (own_go st12 ?_)
  · refine XS.astoreN X11.here hx rfl (hb hby d41_5) rfl rfl (l' := #[vr tm, vr k1, vr r1, uu]) rfl ?_
    refine own_a X11 Y d41_6 rfl rfl ?_
    refine XS.ifnonnullYes X11.here hx rfl (pc0 := 7) (pc' := 12) rfl (hb hby d41_7) rfl (by decide) (by decide) ?_
    exact own_a X11 Y d41_12 rfl rfl (Steps.refl _)
  obtain ⟨v13, T13, Lc13, X13, hQ13, st13⟩ := own_priv (own_de1 l Z a0 hW tm r1 mc sz (.ref kr) (.ref dr) h0 n0 Z0 O0 T1 R1 gt gr) X12 Y hZH hown (tw_ hw 298 rfl) (tw_ hw 299 rfl) (tw_ hw 300 rfl) (own_nf (notFace_of_selects (tw_ hw 109 rfl)) (tw_ hw 108 rfl) rfl) (tw_ hw 302 rfl) (tw_ hw 11 rfl) (by decide) e12 (own_T.ex T1) (g := (mkF m 19 #[vr tm, vr k1, vr r1, vr dr] [(.ref r1), (.ref tm)])) rfl hml.symm (argsL := [(.ref r1)]) (rest := []) (lenOf pd_11 rfl) rfl d41_19
  obtain ⟨mc13, sz13, rfl, Nq13, Kq13, Tq13⟩ := hQ13
  have N13 := Fr.app N11 Nq13
  obtain ⟨z14, Zz14, K14, O14⟩ := own_eK Kq13 Z0 K0 O0 (allS (own_i 0 rfl) (allS (own_i 1 rfl) all0)) (allS gt (allS gr all0))
  refine own_gs ?_ (own_gs st13 ?_)
  · refine XS.astoreN X12.here hx rfl (hb hby d41_16) rfl rfl (l' := #[vr tm, vr k1, vr r1, vr dr]) rfl ?_
    refine own_a X12 Y d41_17 rfl rfl ?_
    exact own_a X12 Y d41_18 rfl rfl (Steps.refl _)
  refine own_gs (cur' := T13.setTop (mkF m 23 #[vr tm, vr k1, vr r1, vr dr] [(.ref dr)])) ?_ ?_
  · exact own_a X13 Y d41_22 rfl rfl (Steps.refl _)
  exact own_rA X13 Bd rfl (v := (.ref dr)) rfl (hb hby d41_23) rfl (⟨⟨_, rfl⟩, N13, ⟨_, K14, (allS ⟨gt, Or.inl (own_T.ex T1)⟩ (allS ⟨gr, Or.inr (own_N.ex R1)⟩ all0))⟩, ⟨gt, _, _, Tq13⟩⟩) rfl rfl
def own_rmLf_Q (Z : State) (tm k1 : Nat) (r1 c1 kr kc : Nat) (xr : Int64) (dr : Nat) (xc : Int64) (dc : Nat) (mc sz : Int32) (h0 : Heap) (n0 : Nat) (v : Option Value) (h : Heap) (L : List Loc) : Prop := own_RM Z n0 h0 tm [(xr, dr)] v h L
theorem ef_own_rmLf (m : MethodId) (x0 : Nat) (x1 : Nat) : entryFrame m #[(.ref x0), (.ref x1)] 4 = mkF m 0 #[vr x0, vr x1, .unset, .unset] [] := by first | (simp [entryFrame, mkF, argsToLocals, Value.category]; done) | rfl
set_option maxRecDepth 65536 in
set_option maxHeartbeats 40000000 in
theorem own_rmLf (l : Launch) (Z : State) (a0 : Array Value) (hW : own_W Z a0) (tm k1 : Nat) (r1 c1 kr kc : Nat) (xr : Int64) (dr : Nat) (xc : Int64) (dc : Nat) (mc sz : Int32) (h0 : Heap) (n0 : Nat) (Z0 : n0 ≤ h0.size) (O0 : Old Z n0 h0) (gt : n0 ≤ tm) (K1 : own_Lg Z h0 k1 xc) (B1 : own_BL Z h0 n0 tm r1 c1 kr kc xr dr xc dc mc sz) (hlt : xc < xr) :
    own_MH l own_y43 own_c41 4 (some (.object "java/lang/Object")) (own_r 4 0 0 81) #[(.ref tm), (.ref k1)] Z h0 (own_rmLf_Q Z tm k1 r1 c1 kr kc xr dr xc dc mc sz h0 n0) := by
  refine own_enterH (own := "java/util/TreeMap") rfl (plainFor_of_name pn_java_util_TreeMap) (fun m => ef_own_rmLf m tm k1) ?_
  intro p e s m below meth c s₁ Bd hZH hh hx hby hml hown hnm X0 e0
  have hZ := hZH.wide
  have Y := And.intro hx hby
  have hw := hW.1
  have N0 := Fr.nil n0
  have K0 := Keep.refl h0 [tm, r1, c1]
  obtain ⟨T1, R1, C1, gr, gc, hrc, Kr, Kc⟩ := id B1
  have lttm := own_lt T1.lt
  have ltr1 := own_lt R1.lt
  have ltc1 := own_lt C1.lt
  obtain ⟨v11, T11, Lc11, X11, hQ11, st11⟩ := own_virt (own_gel l Z a0 hW tm k1 r1 kr c1 kc xc xr (.ref dr) .null .null (.ref dc) .null .null (.ref r1) (1 : Int32) (0 : Int32) mc sz h0 n0 Z0 O0 T1 ⟨K1.1, K1.2⟩ R1 ⟨Kr.1, Kr.2⟩ C1 ⟨Kc.1, Kc.2⟩ hlt) X0 Y hZH hown (tw_ hw 268 rfl) (tw_ hw 269 rfl) (tw_ hw 271 rfl) (tw_ hw 270 rfl) (tw_ hw 272 rfl) (tw_ hw 11 rfl) (by decide) e0 (own_T.ex T1) (g := (mkF m 2 #[vr tm, vr k1, uu, uu] [(.ref k1), (.ref tm)])) rfl hml.symm (argsL := [(.ref k1)]) (rest := []) (lenOf pd_20 rfl) rfl d41_2
  obtain ⟨rfl, Nq11, eh11⟩ := hQ11
  have N11 := Fr.app N0 Nq11
  refine own_gs ?_ (own_gs st11 ?_)
  · refine own_a X0 Y d41_0 rfl rfl ?_
    exact own_a X0 Y d41_1 rfl rfl (Steps.refl _)
  obtain ⟨T12, X12, e12, st12⟩ := own_gF X11 Y hZ hown (tw_ hw 273 rfl) eh11 (own_N.f_value C1) (g := (mkF m 13 #[vr tm, vr k1, vr c1, uu] [(.ref c1)])) rfl rfl d41_13
  refine own_gs ?_ (own_go st12 ?_)
  · refine XS.astoreN X11.here hx rfl (hb hby d41_5) rfl rfl (l' := #[vr tm, vr k1, vr c1, uu]) rfl ?_
    refine own_a X11 Y d41_6 rfl rfl ?_
    refine XS.ifnonnullYes X11.here hx rfl (pc0 := 7) (pc' := 12) rfl (hb hby d41_7) rfl (by decide) (by decide) ?_
    exact own_a X11 Y d41_12 rfl rfl (Steps.refl _)
  obtain ⟨v13, T13, Lc13, X13, hQ13, st13⟩ := own_priv (own_del l Z a0 hW tm r1 c1 mc sz (.ref kr) (.ref dr) (.ref kc) (.ref dc) .null h0 n0 Z0 O0 T1 R1 gt gr C1 gc hrc) X12 Y hZH hown (tw_ hw 298 rfl) (tw_ hw 299 rfl) (tw_ hw 300 rfl) (own_nf (notFace_of_selects (tw_ hw 109 rfl)) (tw_ hw 108 rfl) rfl) (tw_ hw 302 rfl) (tw_ hw 11 rfl) (by decide) e12 (own_T.ex T1) (g := (mkF m 19 #[vr tm, vr k1, vr c1, vr dc] [(.ref c1), (.ref tm)])) rfl hml.symm (argsL := [(.ref c1)]) (rest := []) (lenOf pd_11 rfl) rfl d41_19
  obtain ⟨mc13, sz13, rfl, Nq13, Kq13, Tq13, Xq13⟩ := hQ13
  have N13 := Fr.app N11 Nq13
  obtain ⟨z14, Zz14, K14, O14⟩ := own_eK Kq13 Z0 K0 O0 (allS (own_i 0 rfl) (allS (own_i 1 rfl) (allS (own_i 2 rfl) all0))) (allS gt (allS gr (allS gc all0)))
  refine own_gs ?_ (own_gs st13 ?_)
  · refine XS.astoreN X12.here hx rfl (hb hby d41_16) rfl rfl (l' := #[vr tm, vr k1, vr c1, vr dc]) rfl ?_
    refine own_a X12 Y d41_17 rfl rfl ?_
    exact own_a X12 Y d41_18 rfl rfl (Steps.refl _)
  have f15 := (Kr.1.keep Kq13)
  have f17 := ((own_N.ex C1).keep Kq13)
  have nc16 : own_Ne kr c1 := ne_exa f15 f17 (by decide)
  have nc18 : own_Ne kr r1 := ne_exa f15 (own_N.ex Xq13) (by decide)
  have nc19 : own_Ne kr tm := ne_exa f15 (own_T.ex Tq13) (by decide)
  have f20 := (Kr.2.keep Kq13 (ninS nc19 (ninS nc18 (ninS nc16 nin0))))
  refine own_gs (cur' := T13.setTop (mkF m 23 #[vr tm, vr k1, vr c1, vr dc] [(.ref dc)])) ?_ ?_
  · exact own_a X13 Y d41_22 rfl rfl (Steps.refl _)
  exact own_rA X13 Bd rfl (v := (.ref dc)) rfl (hb hby d41_23) rfl (⟨⟨_, rfl⟩, N13, ⟨_, K14, (allS ⟨gt, Or.inl (own_T.ex T1)⟩ (allS ⟨gr, Or.inr (own_N.ex R1)⟩ (allS ⟨gc, Or.inr (own_N.ex C1)⟩ all0)))⟩, ⟨gt, _, _, _, _, Tq13, Xq13, gr, ⟨f15, f20⟩⟩⟩) rfl rfl
def own_rmLe_Q (Z : State) (tm k1 : Nat) (r1 c1 kr kc : Nat) (xr : Int64) (dr : Nat) (xc : Int64) (dc : Nat) (mc sz : Int32) (h0 : Heap) (n0 : Nat) (v : Option Value) (h : Heap) (L : List Loc) : Prop := own_RM Z n0 h0 tm [(xc, dc)] v h L
theorem ef_own_rmLe (m : MethodId) (x0 : Nat) (x1 : Nat) : entryFrame m #[(.ref x0), (.ref x1)] 4 = mkF m 0 #[vr x0, vr x1, .unset, .unset] [] := by first | (simp [entryFrame, mkF, argsToLocals, Value.category]; done) | rfl
set_option maxRecDepth 65536 in
set_option maxHeartbeats 40000000 in
theorem own_rmLe (l : Launch) (Z : State) (a0 : Array Value) (hW : own_W Z a0) (tm k1 : Nat) (r1 c1 kr kc : Nat) (xr : Int64) (dr : Nat) (xc : Int64) (dc : Nat) (mc sz : Int32) (h0 : Heap) (n0 : Nat) (Z0 : n0 ≤ h0.size) (O0 : Old Z n0 h0) (gt : n0 ≤ tm) (K1 : own_Lg Z h0 k1 xr) (B1 : own_BL Z h0 n0 tm r1 c1 kr kc xr dr xc dc mc sz) (hlt : xc < xr) :
    own_MH l own_y43 own_c41 4 (some (.object "java/lang/Object")) (own_r 4 0 0 81) #[(.ref tm), (.ref k1)] Z h0 (own_rmLe_Q Z tm k1 r1 c1 kr kc xr dr xc dc mc sz h0 n0) := by
  refine own_enterH (own := "java/util/TreeMap") rfl (plainFor_of_name pn_java_util_TreeMap) (fun m => ef_own_rmLe m tm k1) ?_
  intro p e s m below meth c s₁ Bd hZH hh hx hby hml hown hnm X0 e0
  have hZ := hZH.wide
  have Y := And.intro hx hby
  have hw := hW.1
  have N0 := Fr.nil n0
  have K0 := Keep.refl h0 [tm, r1, c1]
  obtain ⟨T1, R1, C1, gr, gc, hrc, Kr, Kc⟩ := id B1
  have lttm := own_lt T1.lt
  have ltr1 := own_lt R1.lt
  have ltc1 := own_lt C1.lt
  obtain ⟨v11, T11, Lc11, X11, hQ11, st11⟩ := own_virt (own_geo l Z a0 hW tm k1 r1 kr xr (.ref dr) (.ref c1) .null .null (1 : Int32) mc sz h0 n0 Z0 O0 T1 ⟨K1.1, K1.2⟩ R1 ⟨Kr.1, Kr.2⟩) X0 Y hZH hown (tw_ hw 268 rfl) (tw_ hw 269 rfl) (tw_ hw 271 rfl) (tw_ hw 270 rfl) (tw_ hw 272 rfl) (tw_ hw 11 rfl) (by decide) e0 (own_T.ex T1) (g := (mkF m 2 #[vr tm, vr k1, uu, uu] [(.ref k1), (.ref tm)])) rfl hml.symm (argsL := [(.ref k1)]) (rest := []) (lenOf pd_20 rfl) rfl d41_2
  obtain ⟨rfl, Nq11, eh11⟩ := hQ11
  have N11 := Fr.app N0 Nq11
  refine own_gs ?_ (own_gs st11 ?_)
  · refine own_a X0 Y d41_0 rfl rfl ?_
    exact own_a X0 Y d41_1 rfl rfl (Steps.refl _)
  obtain ⟨T12, X12, e12, st12⟩ := own_gF X11 Y hZ hown (tw_ hw 273 rfl) eh11 (own_N.f_value R1) (g := (mkF m 13 #[vr tm, vr k1, vr r1, uu] [(.ref r1)])) rfl rfl d41_13
  refine own_gs ?_ (own_go st12 ?_)
  · refine XS.astoreN X11.here hx rfl (hb hby d41_5) rfl rfl (l' := #[vr tm, vr k1, vr r1, uu]) rfl ?_
    refine own_a X11 Y d41_6 rfl rfl ?_
    refine XS.ifnonnullYes X11.here hx rfl (pc0 := 7) (pc' := 12) rfl (hb hby d41_7) rfl (by decide) (by decide) ?_
    exact own_a X11 Y d41_12 rfl rfl (Steps.refl _)
  obtain ⟨v13, T13, Lc13, X13, hQ13, st13⟩ := own_priv (own_deL l Z a0 hW tm r1 c1 mc sz (.ref kr) (.ref dr) (.ref kc) (.ref dc) h0 n0 Z0 O0 T1 R1 gt gr C1 gc hrc) X12 Y hZH hown (tw_ hw 298 rfl) (tw_ hw 299 rfl) (tw_ hw 300 rfl) (own_nf (notFace_of_selects (tw_ hw 109 rfl)) (tw_ hw 108 rfl) rfl) (tw_ hw 302 rfl) (tw_ hw 11 rfl) (by decide) e12 (own_T.ex T1) (g := (mkF m 19 #[vr tm, vr k1, vr r1, vr dr] [(.ref r1), (.ref tm)])) rfl hml.symm (argsL := [(.ref r1)]) (rest := []) (lenOf pd_11 rfl) rfl d41_19
  obtain ⟨mc13, sz13, rfl, Nq13, Kq13, Tq13, Xq13⟩ := hQ13
  have N13 := Fr.app N11 Nq13
  obtain ⟨z14, Zz14, K14, O14⟩ := own_eK Kq13 Z0 K0 O0 (allS (own_i 0 rfl) (allS (own_i 1 rfl) (allS (own_i 2 rfl) all0))) (allS gt (allS gr (allS gc all0)))
  refine own_gs ?_ (own_gs st13 ?_)
  · refine XS.astoreN X12.here hx rfl (hb hby d41_16) rfl rfl (l' := #[vr tm, vr k1, vr r1, vr dr]) rfl ?_
    refine own_a X12 Y d41_17 rfl rfl ?_
    exact own_a X12 Y d41_18 rfl rfl (Steps.refl _)
  have f15 := (Kc.1.keep Kq13)
  have nc16 : own_Ne kc c1 := ne_exa f15 (own_N.ex Xq13) (by decide)
  have f18 := ((own_N.ex R1).keep Kq13)
  have nc17 : own_Ne kc r1 := ne_exa f15 f18 (by decide)
  have nc19 : own_Ne kc tm := ne_exa f15 (own_T.ex Tq13) (by decide)
  have f20 := (Kc.2.keep Kq13 (ninS nc19 (ninS nc17 (ninS nc16 nin0))))
  refine own_gs (cur' := T13.setTop (mkF m 23 #[vr tm, vr k1, vr r1, vr dr] [(.ref dr)])) ?_ ?_
  · exact own_a X13 Y d41_22 rfl rfl (Steps.refl _)
  exact own_rA X13 Bd rfl (v := (.ref dr)) rfl (hb hby d41_23) rfl (⟨⟨_, rfl⟩, N13, ⟨_, K14, (allS ⟨gt, Or.inl (own_T.ex T1)⟩ (allS ⟨gr, Or.inr (own_N.ex R1)⟩ (allS ⟨gc, Or.inr (own_N.ex C1)⟩ all0)))⟩, ⟨gt, _, _, _, _, Tq13, Xq13, gc, ⟨f15, f20⟩⟩⟩) rfl rfl
def own_rmRf_Q (Z : State) (tm k1 : Nat) (r1 c1 kr kc : Nat) (xr : Int64) (dr : Nat) (xc : Int64) (dc : Nat) (mc sz : Int32) (h0 : Heap) (n0 : Nat) (v : Option Value) (h : Heap) (L : List Loc) : Prop := own_RM Z n0 h0 tm [(xc, dc)] v h L
theorem ef_own_rmRf (m : MethodId) (x0 : Nat) (x1 : Nat) : entryFrame m #[(.ref x0), (.ref x1)] 4 = mkF m 0 #[vr x0, vr x1, .unset, .unset] [] := by first | (simp [entryFrame, mkF, argsToLocals, Value.category]; done) | rfl
set_option maxRecDepth 65536 in
set_option maxHeartbeats 40000000 in
theorem own_rmRf (l : Launch) (Z : State) (a0 : Array Value) (hW : own_W Z a0) (tm k1 : Nat) (r1 c1 kr kc : Nat) (xr : Int64) (dr : Nat) (xc : Int64) (dc : Nat) (mc sz : Int32) (h0 : Heap) (n0 : Nat) (Z0 : n0 ≤ h0.size) (O0 : Old Z n0 h0) (gt : n0 ≤ tm) (K1 : own_Lg Z h0 k1 xr) (B1 : own_BR Z h0 n0 tm r1 c1 kr kc xr dr xc dc mc sz) (hlt : xr < xc) :
    own_MH l own_y43 own_c41 4 (some (.object "java/lang/Object")) (own_r 4 0 0 81) #[(.ref tm), (.ref k1)] Z h0 (own_rmRf_Q Z tm k1 r1 c1 kr kc xr dr xc dc mc sz h0 n0) := by
  refine own_enterH (own := "java/util/TreeMap") rfl (plainFor_of_name pn_java_util_TreeMap) (fun m => ef_own_rmRf m tm k1) ?_
  intro p e s m below meth c s₁ Bd hZH hh hx hby hml hown hnm X0 e0
  have hZ := hZH.wide
  have Y := And.intro hx hby
  have hw := hW.1
  have N0 := Fr.nil n0
  have K0 := Keep.refl h0 [tm, r1, c1]
  obtain ⟨T1, R1, C1, gr, gc, hrc, Kr, Kc⟩ := id B1
  have lttm := own_lt T1.lt
  have ltr1 := own_lt R1.lt
  have ltc1 := own_lt C1.lt
  obtain ⟨v11, T11, Lc11, X11, hQ11, st11⟩ := own_virt (own_geo l Z a0 hW tm k1 r1 kr xr (.ref dr) .null (.ref c1) .null (1 : Int32) mc sz h0 n0 Z0 O0 T1 ⟨K1.1, K1.2⟩ R1 ⟨Kr.1, Kr.2⟩) X0 Y hZH hown (tw_ hw 268 rfl) (tw_ hw 269 rfl) (tw_ hw 271 rfl) (tw_ hw 270 rfl) (tw_ hw 272 rfl) (tw_ hw 11 rfl) (by decide) e0 (own_T.ex T1) (g := (mkF m 2 #[vr tm, vr k1, uu, uu] [(.ref k1), (.ref tm)])) rfl hml.symm (argsL := [(.ref k1)]) (rest := []) (lenOf pd_20 rfl) rfl d41_2
  obtain ⟨rfl, Nq11, eh11⟩ := hQ11
  have N11 := Fr.app N0 Nq11
  refine own_gs ?_ (own_gs st11 ?_)
  · refine own_a X0 Y d41_0 rfl rfl ?_
    exact own_a X0 Y d41_1 rfl rfl (Steps.refl _)
  obtain ⟨T12, X12, e12, st12⟩ := own_gF X11 Y hZ hown (tw_ hw 273 rfl) eh11 (own_N.f_value R1) (g := (mkF m 13 #[vr tm, vr k1, vr r1, uu] [(.ref r1)])) rfl rfl d41_13
  refine own_gs ?_ (own_go st12 ?_)
  · refine XS.astoreN X11.here hx rfl (hb hby d41_5) rfl rfl (l' := #[vr tm, vr k1, vr r1, uu]) rfl ?_
    refine own_a X11 Y d41_6 rfl rfl ?_
    refine XS.ifnonnullYes X11.here hx rfl (pc0 := 7) (pc' := 12) rfl (hb hby d41_7) rfl (by decide) (by decide) ?_
    exact own_a X11 Y d41_12 rfl rfl (Steps.refl _)
  obtain ⟨v13, T13, Lc13, X13, hQ13, st13⟩ := own_priv (own_deR l Z a0 hW tm r1 c1 mc sz (.ref kr) (.ref dr) (.ref kc) (.ref dc) h0 n0 Z0 O0 T1 R1 gt gr C1 gc hrc) X12 Y hZH hown (tw_ hw 298 rfl) (tw_ hw 299 rfl) (tw_ hw 300 rfl) (own_nf (notFace_of_selects (tw_ hw 109 rfl)) (tw_ hw 108 rfl) rfl) (tw_ hw 302 rfl) (tw_ hw 11 rfl) (by decide) e12 (own_T.ex T1) (g := (mkF m 19 #[vr tm, vr k1, vr r1, vr dr] [(.ref r1), (.ref tm)])) rfl hml.symm (argsL := [(.ref r1)]) (rest := []) (lenOf pd_11 rfl) rfl d41_19
  obtain ⟨mc13, sz13, rfl, Nq13, Kq13, Tq13, Xq13⟩ := hQ13
  have N13 := Fr.app N11 Nq13
  obtain ⟨z14, Zz14, K14, O14⟩ := own_eK Kq13 Z0 K0 O0 (allS (own_i 0 rfl) (allS (own_i 1 rfl) (allS (own_i 2 rfl) all0))) (allS gt (allS gr (allS gc all0)))
  refine own_gs ?_ (own_gs st13 ?_)
  · refine XS.astoreN X12.here hx rfl (hb hby d41_16) rfl rfl (l' := #[vr tm, vr k1, vr r1, vr dr]) rfl ?_
    refine own_a X12 Y d41_17 rfl rfl ?_
    exact own_a X12 Y d41_18 rfl rfl (Steps.refl _)
  have f15 := (Kc.1.keep Kq13)
  have nc16 : own_Ne kc c1 := ne_exa f15 (own_N.ex Xq13) (by decide)
  have f18 := ((own_N.ex R1).keep Kq13)
  have nc17 : own_Ne kc r1 := ne_exa f15 f18 (by decide)
  have nc19 : own_Ne kc tm := ne_exa f15 (own_T.ex Tq13) (by decide)
  have f20 := (Kc.2.keep Kq13 (ninS nc19 (ninS nc17 (ninS nc16 nin0))))
  refine own_gs (cur' := T13.setTop (mkF m 23 #[vr tm, vr k1, vr r1, vr dr] [(.ref dr)])) ?_ ?_
  · exact own_a X13 Y d41_22 rfl rfl (Steps.refl _)
  exact own_rA X13 Bd rfl (v := (.ref dr)) rfl (hb hby d41_23) rfl (⟨⟨_, rfl⟩, N13, ⟨_, K14, (allS ⟨gt, Or.inl (own_T.ex T1)⟩ (allS ⟨gr, Or.inr (own_N.ex R1)⟩ (allS ⟨gc, Or.inr (own_N.ex C1)⟩ all0)))⟩, ⟨gt, _, _, _, _, Tq13, Xq13, gc, ⟨f15, f20⟩⟩⟩) rfl rfl
def own_rmRe_Q (Z : State) (tm k1 : Nat) (r1 c1 kr kc : Nat) (xr : Int64) (dr : Nat) (xc : Int64) (dc : Nat) (mc sz : Int32) (h0 : Heap) (n0 : Nat) (v : Option Value) (h : Heap) (L : List Loc) : Prop := own_RM Z n0 h0 tm [(xr, dr)] v h L
theorem ef_own_rmRe (m : MethodId) (x0 : Nat) (x1 : Nat) : entryFrame m #[(.ref x0), (.ref x1)] 4 = mkF m 0 #[vr x0, vr x1, .unset, .unset] [] := by first | (simp [entryFrame, mkF, argsToLocals, Value.category]; done) | rfl
set_option maxRecDepth 65536 in
set_option maxHeartbeats 40000000 in
theorem own_rmRe (l : Launch) (Z : State) (a0 : Array Value) (hW : own_W Z a0) (tm k1 : Nat) (r1 c1 kr kc : Nat) (xr : Int64) (dr : Nat) (xc : Int64) (dc : Nat) (mc sz : Int32) (h0 : Heap) (n0 : Nat) (Z0 : n0 ≤ h0.size) (O0 : Old Z n0 h0) (gt : n0 ≤ tm) (K1 : own_Lg Z h0 k1 xc) (B1 : own_BR Z h0 n0 tm r1 c1 kr kc xr dr xc dc mc sz) (hlt : xr < xc) :
    own_MH l own_y43 own_c41 4 (some (.object "java/lang/Object")) (own_r 4 0 0 81) #[(.ref tm), (.ref k1)] Z h0 (own_rmRe_Q Z tm k1 r1 c1 kr kc xr dr xc dc mc sz h0 n0) := by
  refine own_enterH (own := "java/util/TreeMap") rfl (plainFor_of_name pn_java_util_TreeMap) (fun m => ef_own_rmRe m tm k1) ?_
  intro p e s m below meth c s₁ Bd hZH hh hx hby hml hown hnm X0 e0
  have hZ := hZH.wide
  have Y := And.intro hx hby
  have hw := hW.1
  have N0 := Fr.nil n0
  have K0 := Keep.refl h0 [tm, r1, c1]
  obtain ⟨T1, R1, C1, gr, gc, hrc, Kr, Kc⟩ := id B1
  have lttm := own_lt T1.lt
  have ltr1 := own_lt R1.lt
  have ltc1 := own_lt C1.lt
  obtain ⟨v11, T11, Lc11, X11, hQ11, st11⟩ := own_virt (own_ger l Z a0 hW tm k1 r1 kr c1 kc xc xr (.ref dr) .null .null (.ref dc) .null .null (.ref r1) (1 : Int32) (0 : Int32) mc sz h0 n0 Z0 O0 T1 ⟨K1.1, K1.2⟩ R1 ⟨Kr.1, Kr.2⟩ C1 ⟨Kc.1, Kc.2⟩ hlt) X0 Y hZH hown (tw_ hw 268 rfl) (tw_ hw 269 rfl) (tw_ hw 271 rfl) (tw_ hw 270 rfl) (tw_ hw 272 rfl) (tw_ hw 11 rfl) (by decide) e0 (own_T.ex T1) (g := (mkF m 2 #[vr tm, vr k1, uu, uu] [(.ref k1), (.ref tm)])) rfl hml.symm (argsL := [(.ref k1)]) (rest := []) (lenOf pd_20 rfl) rfl d41_2
  obtain ⟨rfl, Nq11, eh11⟩ := hQ11
  have N11 := Fr.app N0 Nq11
  refine own_gs ?_ (own_gs st11 ?_)
  · refine own_a X0 Y d41_0 rfl rfl ?_
    exact own_a X0 Y d41_1 rfl rfl (Steps.refl _)
  obtain ⟨T12, X12, e12, st12⟩ := own_gF X11 Y hZ hown (tw_ hw 273 rfl) eh11 (own_N.f_value C1) (g := (mkF m 13 #[vr tm, vr k1, vr c1, uu] [(.ref c1)])) rfl rfl d41_13
  refine own_gs ?_ (own_go st12 ?_)
  · refine XS.astoreN X11.here hx rfl (hb hby d41_5) rfl rfl (l' := #[vr tm, vr k1, vr c1, uu]) rfl ?_
    refine own_a X11 Y d41_6 rfl rfl ?_
    refine XS.ifnonnullYes X11.here hx rfl (pc0 := 7) (pc' := 12) rfl (hb hby d41_7) rfl (by decide) (by decide) ?_
    exact own_a X11 Y d41_12 rfl rfl (Steps.refl _)
  obtain ⟨v13, T13, Lc13, X13, hQ13, st13⟩ := own_priv (own_den l Z a0 hW tm r1 c1 mc sz (.ref kr) (.ref dr) (.ref kc) (.ref dc) h0 n0 Z0 O0 T1 R1 gt gr C1 gc hrc) X12 Y hZH hown (tw_ hw 298 rfl) (tw_ hw 299 rfl) (tw_ hw 300 rfl) (own_nf (notFace_of_selects (tw_ hw 109 rfl)) (tw_ hw 108 rfl) rfl) (tw_ hw 302 rfl) (tw_ hw 11 rfl) (by decide) e12 (own_T.ex T1) (g := (mkF m 19 #[vr tm, vr k1, vr c1, vr dc] [(.ref c1), (.ref tm)])) rfl hml.symm (argsL := [(.ref c1)]) (rest := []) (lenOf pd_11 rfl) rfl d41_19
  obtain ⟨mc13, sz13, rfl, Nq13, Kq13, Tq13, Xq13⟩ := hQ13
  have N13 := Fr.app N11 Nq13
  obtain ⟨z14, Zz14, K14, O14⟩ := own_eK Kq13 Z0 K0 O0 (allS (own_i 0 rfl) (allS (own_i 1 rfl) (allS (own_i 2 rfl) all0))) (allS gt (allS gr (allS gc all0)))
  refine own_gs ?_ (own_gs st13 ?_)
  · refine XS.astoreN X12.here hx rfl (hb hby d41_16) rfl rfl (l' := #[vr tm, vr k1, vr c1, vr dc]) rfl ?_
    refine own_a X12 Y d41_17 rfl rfl ?_
    exact own_a X12 Y d41_18 rfl rfl (Steps.refl _)
  have f15 := (Kr.1.keep Kq13)
  have f17 := ((own_N.ex C1).keep Kq13)
  have nc16 : own_Ne kr c1 := ne_exa f15 f17 (by decide)
  have nc18 : own_Ne kr r1 := ne_exa f15 (own_N.ex Xq13) (by decide)
  have nc19 : own_Ne kr tm := ne_exa f15 (own_T.ex Tq13) (by decide)
  have f20 := (Kr.2.keep Kq13 (ninS nc19 (ninS nc18 (ninS nc16 nin0))))
  refine own_gs (cur' := T13.setTop (mkF m 23 #[vr tm, vr k1, vr c1, vr dc] [(.ref dc)])) ?_ ?_
  · exact own_a X13 Y d41_22 rfl rfl (Steps.refl _)
  exact own_rA X13 Bd rfl (v := (.ref dc)) rfl (hb hby d41_23) rfl (⟨⟨_, rfl⟩, N13, ⟨_, K14, (allS ⟨gt, Or.inl (own_T.ex T1)⟩ (allS ⟨gr, Or.inr (own_N.ex R1)⟩ (allS ⟨gc, Or.inr (own_N.ex C1)⟩ all0)))⟩, ⟨gt, _, _, _, _, Tq13, Xq13, gr, ⟨f15, f20⟩⟩⟩) rfl rfl
def own_rm3f_Q (Z : State) (tm k1 : Nat) (r1 a1 b1 kr ka kb : Nat) (xr : Int64) (dr : Nat) (xa : Int64) (da : Nat) (xb : Int64) (db : Nat) (mc sz : Int32) (h0 : Heap) (n0 : Nat) (v : Option Value) (h : Heap) (L : List Loc) : Prop := own_RM Z n0 h0 tm [(xr, dr), (xb, db)] v h L
theorem ef_own_rm3f (m : MethodId) (x0 : Nat) (x1 : Nat) : entryFrame m #[(.ref x0), (.ref x1)] 4 = mkF m 0 #[vr x0, vr x1, .unset, .unset] [] := by first | (simp [entryFrame, mkF, argsToLocals, Value.category]; done) | rfl
set_option maxRecDepth 65536 in
set_option maxHeartbeats 40000000 in
theorem own_rm3f (l : Launch) (Z : State) (a0 : Array Value) (hW : own_W Z a0) (tm k1 : Nat) (r1 a1 b1 kr ka kb : Nat) (xr : Int64) (dr : Nat) (xa : Int64) (da : Nat) (xb : Int64) (db : Nat) (mc sz : Int32) (h0 : Heap) (n0 : Nat) (Z0 : n0 ≤ h0.size) (O0 : Old Z n0 h0) (gt : n0 ≤ tm) (K1 : own_Lg Z h0 k1 xa) (B1 : own_B3 Z h0 n0 tm r1 a1 b1 kr ka kb xr dr xa da xb db mc sz) (hl1 : xa < xr) (hl2 : xr < xb) :
    own_MH l own_y43 own_c41 4 (some (.object "java/lang/Object")) (own_r 4 0 0 81) #[(.ref tm), (.ref k1)] Z h0 (own_rm3f_Q Z tm k1 r1 a1 b1 kr ka kb xr dr xa da xb db mc sz h0 n0) := by
  refine own_enterH (own := "java/util/TreeMap") rfl (plainFor_of_name pn_java_util_TreeMap) (fun m => ef_own_rm3f m tm k1) ?_
  intro p e s m below meth c s₁ Bd hZH hh hx hby hml hown hnm X0 e0
  have hZ := hZH.wide
  have Y := And.intro hx hby
  have hw := hW.1
  have N0 := Fr.nil n0
  have K0 := Keep.refl h0 [tm, r1, a1, b1]
  obtain ⟨T1, R1, A1, B2, gr, ga, gb, hra, hrb, hab, Kr, Ka, Kb⟩ := id B1
  have lttm := own_lt T1.lt
  have ltr1 := own_lt R1.lt
  have lta1 := own_lt A1.lt
  have ltb1 := own_lt B2.lt
  obtain ⟨v11, T11, Lc11, X11, hQ11, st11⟩ := own_virt (own_gel l Z a0 hW tm k1 r1 kr a1 ka xa xr (.ref dr) (.ref b1) .null (.ref da) .null .null (.ref r1) (1 : Int32) (0 : Int32) mc sz h0 n0 Z0 O0 T1 ⟨K1.1, K1.2⟩ R1 ⟨Kr.1, Kr.2⟩ A1 ⟨Ka.1, Ka.2⟩ hl1) X0 Y hZH hown (tw_ hw 268 rfl) (tw_ hw 269 rfl) (tw_ hw 271 rfl) (tw_ hw 270 rfl) (tw_ hw 272 rfl) (tw_ hw 11 rfl) (by decide) e0 (own_T.ex T1) (g := (mkF m 2 #[vr tm, vr k1, uu, uu] [(.ref k1), (.ref tm)])) rfl hml.symm (argsL := [(.ref k1)]) (rest := []) (lenOf pd_20 rfl) rfl d41_2
  obtain ⟨rfl, Nq11, eh11⟩ := hQ11
  have N11 := Fr.app N0 Nq11
  refine own_gs ?_ (own_gs st11 ?_)
  · refine own_a X0 Y d41_0 rfl rfl ?_
    exact own_a X0 Y d41_1 rfl rfl (Steps.refl _)
  obtain ⟨T12, X12, e12, st12⟩ := own_gF X11 Y hZ hown (tw_ hw 273 rfl) eh11 (own_N.f_value A1) (g := (mkF m 13 #[vr tm, vr k1, vr a1, uu] [(.ref a1)])) rfl rfl d41_13
  refine own_gs ?_ (own_go st12 ?_)
  · refine XS.astoreN X11.here hx rfl (hb hby d41_5) rfl rfl (l' := #[vr tm, vr k1, vr a1, uu]) rfl ?_
    refine own_a X11 Y d41_6 rfl rfl ?_
    refine XS.ifnonnullYes X11.here hx rfl (pc0 := 7) (pc' := 12) rfl (hb hby d41_7) rfl (by decide) (by decide) ?_
    exact own_a X11 Y d41_12 rfl rfl (Steps.refl _)
  obtain ⟨v13, T13, Lc13, X13, hQ13, st13⟩ := own_priv (own_del l Z a0 hW tm r1 a1 mc sz (.ref kr) (.ref dr) (.ref ka) (.ref da) (.ref b1) h0 n0 Z0 O0 T1 R1 gt gr A1 ga hra) X12 Y hZH hown (tw_ hw 298 rfl) (tw_ hw 299 rfl) (tw_ hw 300 rfl) (own_nf (notFace_of_selects (tw_ hw 109 rfl)) (tw_ hw 108 rfl) rfl) (tw_ hw 302 rfl) (tw_ hw 11 rfl) (by decide) e12 (own_T.ex T1) (g := (mkF m 19 #[vr tm, vr k1, vr a1, vr da] [(.ref a1), (.ref tm)])) rfl hml.symm (argsL := [(.ref a1)]) (rest := []) (lenOf pd_11 rfl) rfl d41_19
  obtain ⟨mc13, sz13, rfl, Nq13, Kq13, Tq13, Xq13⟩ := hQ13
  have N13 := Fr.app N11 Nq13
  obtain ⟨z14, Zz14, K14, O14⟩ := own_eK Kq13 Z0 K0 O0 (allS (own_i 0 rfl) (allS (own_i 1 rfl) (allS (own_i 2 rfl) all0))) (allS gt (allS gr (allS ga all0)))
  refine own_gs ?_ (own_gs st13 ?_)
  · refine XS.astoreN X12.here hx rfl (hb hby d41_16) rfl rfl (l' := #[vr tm, vr k1, vr a1, vr da]) rfl ?_
    refine own_a X12 Y d41_17 rfl rfl ?_
    exact own_a X12 Y d41_18 rfl rfl (Steps.refl _)
  have f16 := ((own_N.ex B2).keep Kq13)
  have nc15 : own_Ne b1 tm := ne_exa f16 (own_T.ex Tq13) (by decide)
  have f17 := (B2.keep Kq13 (ninS nc15 (ninS (Ne.symm hrb) (ninS (Ne.symm hab) nin0))))
  have f18 := (Kr.1.keep Kq13)
  have f20 := ((own_N.ex A1).keep Kq13)
  have nc19 : own_Ne kr a1 := ne_exa f18 f20 (by decide)
  have nc21 : own_Ne kr r1 := ne_exa f18 (own_N.ex Xq13) (by decide)
  have nc22 : own_Ne kr tm := ne_exa f18 (own_T.ex Tq13) (by decide)
  have f23 := (Kr.2.keep Kq13 (ninS nc22 (ninS nc21 (ninS nc19 nin0))))
  have f24 := (Kb.1.keep Kq13)
  have nc25 : own_Ne kb a1 := ne_exa f24 f20 (by decide)
  have nc26 : own_Ne kb r1 := ne_exa f24 (own_N.ex Xq13) (by decide)
  have nc27 : own_Ne kb tm := ne_exa f24 (own_T.ex Tq13) (by decide)
  have f28 := (Kb.2.keep Kq13 (ninS nc27 (ninS nc26 (ninS nc25 nin0))))
  refine own_gs (cur' := T13.setTop (mkF m 23 #[vr tm, vr k1, vr a1, vr da] [(.ref da)])) ?_ ?_
  · exact own_a X13 Y d41_22 rfl rfl (Steps.refl _)
  exact own_rA X13 Bd rfl (v := (.ref da)) rfl (hb hby d41_23) rfl (⟨⟨_, rfl⟩, N13, ⟨_, K14, (allS ⟨gt, Or.inl (own_T.ex T1)⟩ (allS ⟨gr, Or.inr (own_N.ex R1)⟩ (allS ⟨ga, Or.inr (own_N.ex A1)⟩ (allS ⟨gb, Or.inr (own_N.ex B2)⟩ all0))))⟩, ⟨gt, hl2, _, _, _, _, _, _, Or.inr ⟨Tq13, Xq13, f17, gr, gb, hrb, ⟨f18, f23⟩, ⟨f24, f28⟩⟩⟩⟩) rfl rfl
def own_rm3e_Q (Z : State) (tm k1 : Nat) (r1 a1 b1 kr ka kb : Nat) (xr : Int64) (dr : Nat) (xa : Int64) (da : Nat) (xb : Int64) (db : Nat) (mc sz : Int32) (h0 : Heap) (n0 : Nat) (v : Option Value) (h : Heap) (L : List Loc) : Prop := own_RM Z n0 h0 tm [(xa, da), (xr, dr)] v h L
theorem ef_own_rm3e (m : MethodId) (x0 : Nat) (x1 : Nat) : entryFrame m #[(.ref x0), (.ref x1)] 4 = mkF m 0 #[vr x0, vr x1, .unset, .unset] [] := by first | (simp [entryFrame, mkF, argsToLocals, Value.category]; done) | rfl
set_option maxRecDepth 65536 in
set_option maxHeartbeats 40000000 in
theorem own_rm3e (l : Launch) (Z : State) (a0 : Array Value) (hW : own_W Z a0) (tm k1 : Nat) (r1 a1 b1 kr ka kb : Nat) (xr : Int64) (dr : Nat) (xa : Int64) (da : Nat) (xb : Int64) (db : Nat) (mc sz : Int32) (h0 : Heap) (n0 : Nat) (Z0 : n0 ≤ h0.size) (O0 : Old Z n0 h0) (gt : n0 ≤ tm) (K1 : own_Lg Z h0 k1 xb) (B1 : own_B3 Z h0 n0 tm r1 a1 b1 kr ka kb xr dr xa da xb db mc sz) (hl1 : xa < xr) (hl2 : xr < xb) :
    own_MH l own_y43 own_c41 4 (some (.object "java/lang/Object")) (own_r 4 0 0 81) #[(.ref tm), (.ref k1)] Z h0 (own_rm3e_Q Z tm k1 r1 a1 b1 kr ka kb xr dr xa da xb db mc sz h0 n0) := by
  refine own_enterH (own := "java/util/TreeMap") rfl (plainFor_of_name pn_java_util_TreeMap) (fun m => ef_own_rm3e m tm k1) ?_
  intro p e s m below meth c s₁ Bd hZH hh hx hby hml hown hnm X0 e0
  have hZ := hZH.wide
  have Y := And.intro hx hby
  have hw := hW.1
  have N0 := Fr.nil n0
  have K0 := Keep.refl h0 [tm, r1, a1, b1]
  obtain ⟨T1, R1, A1, B2, gr, ga, gb, hra, hrb, hab, Kr, Ka, Kb⟩ := id B1
  have lttm := own_lt T1.lt
  have ltr1 := own_lt R1.lt
  have lta1 := own_lt A1.lt
  have ltb1 := own_lt B2.lt
  obtain ⟨v11, T11, Lc11, X11, hQ11, st11⟩ := own_virt (own_ger l Z a0 hW tm k1 r1 kr b1 kb xb xr (.ref dr) (.ref a1) .null (.ref db) .null .null (.ref r1) (1 : Int32) (0 : Int32) mc sz h0 n0 Z0 O0 T1 ⟨K1.1, K1.2⟩ R1 ⟨Kr.1, Kr.2⟩ B2 ⟨Kb.1, Kb.2⟩ hl2) X0 Y hZH hown (tw_ hw 268 rfl) (tw_ hw 269 rfl) (tw_ hw 271 rfl) (tw_ hw 270 rfl) (tw_ hw 272 rfl) (tw_ hw 11 rfl) (by decide) e0 (own_T.ex T1) (g := (mkF m 2 #[vr tm, vr k1, uu, uu] [(.ref k1), (.ref tm)])) rfl hml.symm (argsL := [(.ref k1)]) (rest := []) (lenOf pd_20 rfl) rfl d41_2
  obtain ⟨rfl, Nq11, eh11⟩ := hQ11
  have N11 := Fr.app N0 Nq11
  refine own_gs ?_ (own_gs st11 ?_)
  · refine own_a X0 Y d41_0 rfl rfl ?_
    exact own_a X0 Y d41_1 rfl rfl (Steps.refl _)
  obtain ⟨T12, X12, e12, st12⟩ := own_gF X11 Y hZ hown (tw_ hw 273 rfl) eh11 (own_N.f_value B2) (g := (mkF m 13 #[vr tm, vr k1, vr b1, uu] [(.ref b1)])) rfl rfl d41_13
  refine own_gs ?_ (own_go st12 ?_)
  · refine XS.astoreN X11.here hx rfl (hb hby d41_5) rfl rfl (l' := #[vr tm, vr k1, vr b1, uu]) rfl ?_
    refine own_a X11 Y d41_6 rfl rfl ?_
    refine XS.ifnonnullYes X11.here hx rfl (pc0 := 7) (pc' := 12) rfl (hb hby d41_7) rfl (by decide) (by decide) ?_
    exact own_a X11 Y d41_12 rfl rfl (Steps.refl _)
  obtain ⟨v13, T13, Lc13, X13, hQ13, st13⟩ := own_priv (own_dem l Z a0 hW tm r1 b1 a1 mc sz (.ref kr) (.ref dr) (.ref kb) (.ref db) h0 n0 Z0 O0 T1 R1 gt gr B2 gb hrb hab) X12 Y hZH hown (tw_ hw 298 rfl) (tw_ hw 299 rfl) (tw_ hw 300 rfl) (own_nf (notFace_of_selects (tw_ hw 109 rfl)) (tw_ hw 108 rfl) rfl) (tw_ hw 302 rfl) (tw_ hw 11 rfl) (by decide) e12 (own_T.ex T1) (g := (mkF m 19 #[vr tm, vr k1, vr b1, vr db] [(.ref b1), (.ref tm)])) rfl hml.symm (argsL := [(.ref b1)]) (rest := []) (lenOf pd_11 rfl) rfl d41_19
  obtain ⟨mc13, sz13, rfl, Nq13, Kq13, Tq13, Xq13⟩ := hQ13
  have N13 := Fr.app N11 Nq13
  obtain ⟨z14, Zz14, K14, O14⟩ := own_eK Kq13 Z0 K0 O0 (allS (own_i 0 rfl) (allS (own_i 1 rfl) (allS (own_i 3 rfl) all0))) (allS gt (allS gr (allS gb all0)))
  refine own_gs ?_ (own_gs st13 ?_)
  · refine XS.astoreN X12.here hx rfl (hb hby d41_16) rfl rfl (l' := #[vr tm, vr k1, vr b1, vr db]) rfl ?_
    refine own_a X12 Y d41_17 rfl rfl ?_
    exact own_a X12 Y d41_18 rfl rfl (Steps.refl _)
  have f16 := ((own_N.ex A1).keep Kq13)
  have nc15 : own_Ne a1 tm := ne_exa f16 (own_T.ex Tq13) (by decide)
  have f17 := (A1.keep Kq13 (ninS nc15 (ninS (Ne.symm hra) (ninS hab nin0))))
  have f18 := (Kr.1.keep Kq13)
  have f20 := ((own_N.ex B2).keep Kq13)
  have nc19 : own_Ne kr b1 := ne_exa f18 f20 (by decide)
  have nc21 : own_Ne kr r1 := ne_exa f18 (own_N.ex Xq13) (by decide)
  have nc22 : own_Ne kr tm := ne_exa f18 (own_T.ex Tq13) (by decide)
  have f23 := (Kr.2.keep Kq13 (ninS nc22 (ninS nc21 (ninS nc19 nin0))))
  have f24 := (Ka.1.keep Kq13)
  have nc25 : own_Ne ka b1 := ne_exa f24 f20 (by decide)
  have nc26 : own_Ne ka r1 := ne_exa f24 (own_N.ex Xq13) (by decide)
  have nc27 : own_Ne ka tm := ne_exa f24 (own_T.ex Tq13) (by decide)
  have f28 := (Ka.2.keep Kq13 (ninS nc27 (ninS nc26 (ninS nc25 nin0))))
  refine own_gs (cur' := T13.setTop (mkF m 23 #[vr tm, vr k1, vr b1, vr db] [(.ref db)])) ?_ ?_
  · exact own_a X13 Y d41_22 rfl rfl (Steps.refl _)
  exact own_rA X13 Bd rfl (v := (.ref db)) rfl (hb hby d41_23) rfl (⟨⟨_, rfl⟩, N13, ⟨_, K14, (allS ⟨gt, Or.inl (own_T.ex T1)⟩ (allS ⟨gr, Or.inr (own_N.ex R1)⟩ (allS ⟨ga, Or.inr (own_N.ex A1)⟩ (allS ⟨gb, Or.inr (own_N.ex B2)⟩ all0))))⟩, ⟨gt, hl1, _, _, _, _, _, _, Or.inl ⟨Tq13, Xq13, f17, gr, ga, hra, ⟨f18, f23⟩, ⟨f24, f28⟩⟩⟩⟩) rfl rfl
theorem own_rem (l : Launch) (Z : State) (a0 : Array Value) (hW : own_W Z a0) (tm k1 d : Nat) (x : Int64) (A R : List (Int64 × Nat)) (h0 : Heap) (n0 : Nat) (Z0 : n0 ≤ h0.size) (O0 : Old Z n0 h0) (F : own_Tr Z h0 n0 tm (A ++ (x, d) :: R)) (hf : A = [] ∨ R = []) (K1 : own_Lg Z h0 k1 x) :
    own_MH l own_y43 own_c41 4 (some (.object "java/lang/Object")) (own_r 4 0 0 81) #[.ref tm, .ref k1] Z h0 (own_RM Z n0 h0 tm (A ++ R)) := by
  rcases hf with rfl | rfl
  · match R, F with
    | [], ⟨g, r, kr, mc, sz, B⟩ => exact own_rm1f l Z a0 hW tm k1 r kr x d mc sz h0 n0 Z0 O0 g K1 B
    | [(y, f)], ⟨g, hx, r, c, kr, kc, mc, sz, Or.inl B⟩ => exact own_rmLf l Z a0 hW tm k1 r c kr kc y f x d mc sz h0 n0 Z0 O0 g K1 B hx
    | [(y, f)], ⟨g, hx, r, c, kr, kc, mc, sz, Or.inr B⟩ => exact own_rmRf l Z a0 hW tm k1 r c kr kc x d y f mc sz h0 n0 Z0 O0 g K1 B hx
    | [(y, f), (z, u)], ⟨g, hx, hy, r, a, b, kr, ka, kb, mc, sz, B⟩ => exact own_rm3f l Z a0 hW tm k1 r a b kr ka kb y f x d z u mc sz h0 n0 Z0 O0 g K1 B hx hy
    | _ :: _ :: _ :: _, F => exact False.elim F
  · match A, F with
    | [], ⟨g, r, kr, mc, sz, B⟩ => exact own_rm1f l Z a0 hW tm k1 r kr x d mc sz h0 n0 Z0 O0 g K1 B
    | [(y, f)], ⟨g, hx, r, c, kr, kc, mc, sz, Or.inl B⟩ => exact own_rmLe l Z a0 hW tm k1 r c kr kc x d y f mc sz h0 n0 Z0 O0 g K1 B hx
    | [(y, f)], ⟨g, hx, r, c, kr, kc, mc, sz, Or.inr B⟩ => exact own_rmRe l Z a0 hW tm k1 r c kr kc y f x d mc sz h0 n0 Z0 O0 g K1 B hx
    | [(y, f), (z, u)], ⟨g, hx, hy, r, a, b, kr, ka, kb, mc, sz, B⟩ => exact own_rm3e l Z a0 hW tm k1 r a b kr ka kb z u y f x d mc sz h0 n0 Z0 O0 g K1 B hx hy
    | _ :: _ :: _ :: T, F => cases T <;> exact False.elim F
abbrev own_c42 : ByteArray := jdk_2729_method_71_code
def own_key_Q (Z : State) (e1 ka : Nat) (vv ll rr pp : Value) (c0 : Int32) (h0 : Heap) (n0 : Nat) (v : Option Value) (h : Heap) (L : List Loc) : Prop := v = (some (.ref ka)) ∧ Fr n0 L ∧ h = h0
theorem ef_own_key (m : MethodId) (x0 : Nat) : entryFrame m #[(.ref x0)] 1 = mkF m 0 #[vr x0] [] := by first | (simp [entryFrame, mkF, argsToLocals, Value.category]; done) | rfl
abbrev own_y44 : MethodName := ⟨"java/util/TreeMap", "key", "(Ljava/util/TreeMap$Entry;)Ljava/lang/Object;"⟩
theorem d42_0 : decode own_c42 0 = .ok (.aload_n 0, 1) := by decide +kernel
theorem d42_1 : decode own_c42 1 = .ok (.ifnonnull 11, 3) := by decide +kernel
theorem d42_12 : decode own_c42 12 = .ok (.aload_n 0, 1) := by decide +kernel
theorem d42_13 : decode own_c42 13 = .ok (.getfield 105, 3) := by decide +kernel
theorem d42_16 : decode own_c42 16 = .ok (.areturn, 1) := by decide +kernel
set_option maxRecDepth 65536 in
set_option maxHeartbeats 40000000 in
theorem own_key (l : Launch) (Z : State) (a0 : Array Value) (hW : own_W Z a0) (e1 ka : Nat) (vv ll rr pp : Value) (c0 : Int32) (h0 : Heap) (n0 : Nat) (Z0 : n0 ≤ h0.size) (O0 : Old Z n0 h0) (E1 : own_N Z h0 e1 (.ref ka) vv ll rr pp c0) :
    own_MH l own_y44 own_c42 1 (some (.object "java/lang/Object")) (own_r 0 0 0 0) #[(.ref e1)] Z h0 (own_key_Q Z e1 ka vv ll rr pp c0 h0 n0) := by
  refine own_enterH (own := "java/util/TreeMap") rfl (plainFor_of_name pn_java_util_TreeMap) (fun m => ef_own_key m e1) ?_
  intro p e s m below meth c s₁ Bd hZH hh hx hby hml hown hnm X0 e0
  have hZ := hZH.wide
  have Y := And.intro hx hby
  have hw := hW.1
  have N0 := Fr.nil n0
  have K0 := Keep.refl h0 []
  have lte1 := own_lt E1.lt
  obtain ⟨T11, X11, e11, st11⟩ := own_gF X0 Y hZ hown (tw_ hw 188 rfl) e0 (own_N.f_key E1) (g := (mkF m 13 #[vr e1] [(.ref e1)])) rfl rfl d42_13
  refine own_gs ?_ (own_go st11 ?_)
  · refine own_a X0 Y d42_0 rfl rfl ?_
    refine XS.ifnonnullYes X0.here hx rfl (pc0 := 1) (pc' := 12) rfl (hb hby d42_1) rfl (by decide) (by decide) ?_
    exact own_a X0 Y d42_12 rfl rfl (Steps.refl _)
  exact own_rA X11 Bd rfl (v := (.ref ka)) rfl (hb hby d42_16) e11 (⟨rfl, N0, rfl⟩) rfl rfl
abbrev own_c43 : ByteArray := jdk_2729_method_72_code
def own_gFo_Q (Z : State) (tm r1 kr : Nat) (dr s1 pr : Value) (cr mc sz : Int32) (h0 : Heap) (n0 : Nat) (v : Option Value) (h : Heap) (L : List Loc) : Prop := v = (some (.ref r1)) ∧ Fr n0 L ∧ h = h0
theorem ef_own_gFo (m : MethodId) (x0 : Nat) : entryFrame m #[(.ref x0)] 2 = mkF m 0 #[vr x0, .unset] [] := by first | (simp [entryFrame, mkF, argsToLocals, Value.category]; done) | rfl
abbrev own_y45 : MethodName := ⟨"java/util/TreeMap", "getFirstEntry", "()Ljava/util/TreeMap$Entry;"⟩
theorem d43_0 : decode own_c43 0 = .ok (.aload_n 0, 1) := by decide +kernel
theorem d43_1 : decode own_c43 1 = .ok (.getfield 101, 3) := by decide +kernel
theorem d43_4 : decode own_c43 4 = .ok (.astore_n 1, 1) := by decide +kernel
theorem d43_5 : decode own_c43 5 = .ok (.aload_n 1, 1) := by decide +kernel
theorem d43_6 : decode own_c43 6 = .ok (.ifnull 18, 3) := by decide +kernel
theorem d43_9 : decode own_c43 9 = .ok (.aload_n 1, 1) := by decide +kernel
theorem d43_10 : decode own_c43 10 = .ok (.getfield 111, 3) := by decide +kernel
theorem d43_13 : decode own_c43 13 = .ok (.ifnull 11, 3) := by decide +kernel
theorem d43_24 : decode own_c43 24 = .ok (.aload_n 1, 1) := by decide +kernel
theorem d43_25 : decode own_c43 25 = .ok (.areturn, 1) := by decide +kernel
set_option maxRecDepth 65536 in
set_option maxHeartbeats 40000000 in
theorem own_gFo (l : Launch) (Z : State) (a0 : Array Value) (hW : own_W Z a0) (tm r1 kr : Nat) (dr s1 pr : Value) (cr mc sz : Int32) (h0 : Heap) (n0 : Nat) (Z0 : n0 ≤ h0.size) (O0 : Old Z n0 h0) (T1 : own_T Z h0 tm (.ref r1) mc sz) (R1 : own_N Z h0 r1 (.ref kr) dr .null s1 pr cr) :
    own_MH l own_y45 own_c43 2 (some (.object "java/util/TreeMap$Entry")) (own_r 0 0 0 0) #[(.ref tm)] Z h0 (own_gFo_Q Z tm r1 kr dr s1 pr cr mc sz h0 n0) := by
  refine own_enterH (own := "java/util/TreeMap") rfl (plainFor_of_name pn_java_util_TreeMap) (fun m => ef_own_gFo m tm) ?_
  intro p e s m below meth c s₁ Bd hZH hh hx hby hml hown hnm X0 e0
  have hZ := hZH.wide
  have Y := And.intro hx hby
  have hw := hW.1
  have N0 := Fr.nil n0
  have K0 := Keep.refl h0 []
  have lttm := own_lt T1.lt
  have ltr1 := own_lt R1.lt
  obtain ⟨T11, X11, e11, st11⟩ := own_gF X0 Y hZ hown (tw_ hw 115 rfl) e0 (own_T.f_root T1) (g := (mkF m 1 #[vr tm, uu] [(.ref tm)])) rfl rfl d43_1
  refine own_gs ?_ (own_go st11 ?_)
  · exact own_a X0 Y d43_0 rfl rfl (Steps.refl _)
  obtain ⟨T12, X12, e12, st12⟩ := own_gF X11 Y hZ hown (tw_ hw 211 rfl) e11 (own_N.f_left R1) (g := (mkF m 10 #[vr tm, vr r1] [(.ref r1)])) rfl rfl d43_10
  refine own_gs ?_ (own_go st12 ?_)
  · refine XS.astoreN X11.here hx rfl (hb hby d43_4) rfl rfl (l' := #[vr tm, vr r1]) rfl ?_
    refine own_a X11 Y d43_5 rfl rfl ?_
    refine XS.ifnullNo X11.here hx rfl (hb hby d43_6) rfl ?_
    exact own_a X11 Y d43_9 rfl rfl (Steps.refl _)
  refine own_gs (cur' := T12.setTop (mkF m 25 #[vr tm, vr r1] [(.ref r1)])) ?_ ?_
  · refine XS.ifnullYes X12.here hx rfl (pc0 := 13) (pc' := 24) rfl (hb hby d43_13) rfl (by decide) (by decide) ?_
    exact own_a X12 Y d43_24 rfl rfl (Steps.refl _)
  exact own_rA X12 Bd rfl (v := (.ref r1)) rfl (hb hby d43_25) e12 (⟨rfl, N0, rfl⟩) rfl rfl
abbrev own_c44 : ByteArray := jdk_2729_method_10_code
def own_kFo_Q (Z : State) (tm r1 kr : Nat) (dr s1 pr : Value) (cr mc sz : Int32) (h0 : Heap) (n0 : Nat) (v : Option Value) (h : Heap) (L : List Loc) : Prop := v = (some (.ref kr)) ∧ Fr n0 L ∧ h = h0
theorem ef_own_kFo (m : MethodId) (x0 : Nat) : entryFrame m #[(.ref x0)] 1 = mkF m 0 #[vr x0] [] := by first | (simp [entryFrame, mkF, argsToLocals, Value.category]; done) | rfl
abbrev own_y46 : MethodName := ⟨"java/util/TreeMap", "firstKey", "()Ljava/lang/Object;"⟩
theorem d44_0 : decode own_c44 0 = .ok (.aload_n 0, 1) := by decide +kernel
theorem d44_1 : decode own_c44 1 = .ok (.invokevirtual 54, 3) := by decide +kernel
theorem pd_21 : parseMethodDescriptor "()Ljava/util/TreeMap$Entry;" = some ⟨[], some (.object "java/util/TreeMap$Entry")⟩ := by decide +kernel
theorem d44_4 : decode own_c44 4 = .ok (.invokestatic 72, 3) := by decide +kernel
theorem pd_22 : parseMethodDescriptor "(Ljava/util/TreeMap$Entry;)Ljava/lang/Object;" = some ⟨[(.object "java/util/TreeMap$Entry")], some (.object "java/lang/Object")⟩ := by decide +kernel
theorem d44_7 : decode own_c44 7 = .ok (.areturn, 1) := by decide +kernel
set_option maxRecDepth 65536 in
set_option maxHeartbeats 40000000 in
theorem own_kFo (l : Launch) (Z : State) (a0 : Array Value) (hW : own_W Z a0) (tm r1 kr : Nat) (dr s1 pr : Value) (cr mc sz : Int32) (h0 : Heap) (n0 : Nat) (Z0 : n0 ≤ h0.size) (O0 : Old Z n0 h0) (T1 : own_T Z h0 tm (.ref r1) mc sz) (R1 : own_N Z h0 r1 (.ref kr) dr .null s1 pr cr) :
    own_MH l own_y46 own_c44 1 (some (.object "java/lang/Object")) (own_r 1 0 0 19) #[(.ref tm)] Z h0 (own_kFo_Q Z tm r1 kr dr s1 pr cr mc sz h0 n0) := by
  refine own_enterH (own := "java/util/TreeMap") rfl (plainFor_of_name pn_java_util_TreeMap) (fun m => ef_own_kFo m tm) ?_
  intro p e s m below meth c s₁ Bd hZH hh hx hby hml hown hnm X0 e0
  have hZ := hZH.wide
  have Y := And.intro hx hby
  have hw := hW.1
  have N0 := Fr.nil n0
  have K0 := Keep.refl h0 []
  have lttm := own_lt T1.lt
  have ltr1 := own_lt R1.lt
  obtain ⟨v11, T11, Lc11, X11, hQ11, st11⟩ := own_virt (own_gFo l Z a0 hW tm r1 kr dr s1 pr cr mc sz h0 n0 Z0 O0 T1 R1) X0 Y hZH hown (tw_ hw 332 rfl) (tw_ hw 333 rfl) (tw_ hw 335 rfl) (tw_ hw 334 rfl) (tw_ hw 336 rfl) (tw_ hw 11 rfl) (by decide) e0 (own_T.ex T1) (g := (mkF m 1 #[vr tm] [(.ref tm)])) rfl hml.symm (argsL := []) (rest := []) (lenOf pd_21 rfl) rfl d44_1
  obtain ⟨rfl, Nq11, eh11⟩ := hQ11
  have N11 := Fr.app N0 Nq11
  refine own_gs ?_ (own_gs st11 ?_)
  · exact own_a X0 Y d44_0 rfl rfl (Steps.refl _)
  obtain ⟨T12, L12, X12, Nq12, e12, st12⟩ := own_pcall (own_key l Z a0 hW r1 kr dr .null s1 pr cr h0 n0 Z0 O0 R1) X11 hx hZH hown (tw_ hw 250 rfl) (tw_ hw 251 rfl) (tw_ hw 11 rfl) (tw_ hw 252 rfl) (by decide) eh11 (g := (mkF m 4 #[vr tm] [(.ref r1)])) rfl hml.symm (argsL := [(.ref r1)]) (rest := []) (lenOf pd_22 rfl) rfl (hb hby d44_4) (own_le rfl) (own_le rfl)
  have N12 := Fr.app N11 Nq12
  refine own_gs st12 ?_
  exact own_rA X12 Bd rfl (v := (.ref kr)) rfl (hb hby d44_7) e12 (⟨rfl, N12, rfl⟩) rfl rfl
def own_gFc_Q (Z : State) (tm r1 kr c1 kc : Nat) (dr s1 pr dc s2 pc : Value) (cr cc mc sz : Int32) (h0 : Heap) (n0 : Nat) (v : Option Value) (h : Heap) (L : List Loc) : Prop := v = (some (.ref c1)) ∧ Fr n0 L ∧ h = h0
theorem ef_own_gFc (m : MethodId) (x0 : Nat) : entryFrame m #[(.ref x0)] 2 = mkF m 0 #[vr x0, .unset] [] := by first | (simp [entryFrame, mkF, argsToLocals, Value.category]; done) | rfl
theorem d43_16 : decode own_c43 16 = .ok (.aload_n 1, 1) := by decide +kernel
theorem d43_17 : decode own_c43 17 = .ok (.getfield 111, 3) := by decide +kernel
theorem d43_20 : decode own_c43 20 = .ok (.astore_n 1, 1) := by decide +kernel
theorem d43_21 : decode own_c43 21 = .ok (.goto (-12), 3) := by decide +kernel
set_option maxRecDepth 65536 in
set_option maxHeartbeats 40000000 in
theorem own_gFc (l : Launch) (Z : State) (a0 : Array Value) (hW : own_W Z a0) (tm r1 kr c1 kc : Nat) (dr s1 pr dc s2 pc : Value) (cr cc mc sz : Int32) (h0 : Heap) (n0 : Nat) (Z0 : n0 ≤ h0.size) (O0 : Old Z n0 h0) (T1 : own_T Z h0 tm (.ref r1) mc sz) (R1 : own_N Z h0 r1 (.ref kr) dr (.ref c1) s1 pr cr) (C1 : own_N Z h0 c1 (.ref kc) dc .null s2 pc cc) :
    own_MH l own_y45 own_c43 2 (some (.object "java/util/TreeMap$Entry")) (own_r 0 0 0 0) #[(.ref tm)] Z h0 (own_gFc_Q Z tm r1 kr c1 kc dr s1 pr dc s2 pc cr cc mc sz h0 n0) := by
  refine own_enterH (own := "java/util/TreeMap") rfl (plainFor_of_name pn_java_util_TreeMap) (fun m => ef_own_gFc m tm) ?_
  intro p e s m below meth c s₁ Bd hZH hh hx hby hml hown hnm X0 e0
  have hZ := hZH.wide
  have Y := And.intro hx hby
  have hw := hW.1
  have N0 := Fr.nil n0
  have K0 := Keep.refl h0 []
  have lttm := own_lt T1.lt
  have ltr1 := own_lt R1.lt
  have ltc1 := own_lt C1.lt
  obtain ⟨T11, X11, e11, st11⟩ := own_gF X0 Y hZ hown (tw_ hw 115 rfl) e0 (own_T.f_root T1) (g := (mkF m 1 #[vr tm, uu] [(.ref tm)])) rfl rfl d43_1
  refine own_gs ?_ (own_go st11 ?_)
  · exact own_a X0 Y d43_0 rfl rfl (Steps.refl _)
  obtain ⟨T12, X12, e12, st12⟩ := own_gF X11 Y hZ hown (tw_ hw 211 rfl) e11 (own_N.f_left R1) (g := (mkF m 10 #[vr tm, vr r1] [(.ref r1)])) rfl rfl d43_10
  refine own_gs ?_ (own_go st12 ?_)
  · refine XS.astoreN X11.here hx rfl (hb hby d43_4) rfl rfl (l' := #[vr tm, vr r1]) rfl ?_
    refine own_a X11 Y d43_5 rfl rfl ?_
    refine XS.ifnullNo X11.here hx rfl (hb hby d43_6) rfl ?_
    exact own_a X11 Y d43_9 rfl rfl (Steps.refl _)
  obtain ⟨T13, X13, e13, st13⟩ := own_gF X12 Y hZ hown (tw_ hw 211 rfl) e12 (own_N.f_left R1) (g := (mkF m 17 #[vr tm, vr r1] [(.ref r1)])) rfl rfl d43_17
  refine own_gs ?_ (own_go st13 ?_)
  · refine XS.ifnullNo X12.here hx rfl (hb hby d43_13) rfl ?_
    exact own_a X12 Y d43_16 rfl rfl (Steps.refl _)
  obtain ⟨T14, X14, e14, st14⟩ := own_gF X13 Y hZ hown (tw_ hw 211 rfl) e13 (own_N.f_left C1) (g := (mkF m 10 #[vr tm, vr c1] [(.ref c1)])) rfl rfl d43_10
  refine own_gs ?_ (own_go st14 ?_)
  · refine XS.astoreN X13.here hx rfl (hb hby d43_20) rfl rfl (l' := #[vr tm, vr c1]) rfl ?_
    refine XS.goto X13.here hx rfl (pc0 := 21) (pc' := 9) rfl (hb hby d43_21) (by decide) (by decide) ?_
    exact own_a X13 Y d43_9 rfl rfl (Steps.refl _)
  refine own_gs (cur' := T14.setTop (mkF m 25 #[vr tm, vr c1] [(.ref c1)])) ?_ ?_
  · refine XS.ifnullYes X14.here hx rfl (pc0 := 13) (pc' := 24) rfl (hb hby d43_13) rfl (by decide) (by decide) ?_
    exact own_a X14 Y d43_24 rfl rfl (Steps.refl _)
  exact own_rA X14 Bd rfl (v := (.ref c1)) rfl (hb hby d43_25) e14 (⟨rfl, N0, rfl⟩) rfl rfl
def own_kFc_Q (Z : State) (tm r1 kr c1 kc : Nat) (dr s1 pr dc s2 pc : Value) (cr cc mc sz : Int32) (h0 : Heap) (n0 : Nat) (v : Option Value) (h : Heap) (L : List Loc) : Prop := v = (some (.ref kc)) ∧ Fr n0 L ∧ h = h0
theorem ef_own_kFc (m : MethodId) (x0 : Nat) : entryFrame m #[(.ref x0)] 1 = mkF m 0 #[vr x0] [] := by first | (simp [entryFrame, mkF, argsToLocals, Value.category]; done) | rfl
set_option maxRecDepth 65536 in
set_option maxHeartbeats 40000000 in
theorem own_kFc (l : Launch) (Z : State) (a0 : Array Value) (hW : own_W Z a0) (tm r1 kr c1 kc : Nat) (dr s1 pr dc s2 pc : Value) (cr cc mc sz : Int32) (h0 : Heap) (n0 : Nat) (Z0 : n0 ≤ h0.size) (O0 : Old Z n0 h0) (T1 : own_T Z h0 tm (.ref r1) mc sz) (R1 : own_N Z h0 r1 (.ref kr) dr (.ref c1) s1 pr cr) (C1 : own_N Z h0 c1 (.ref kc) dc .null s2 pc cc) :
    own_MH l own_y46 own_c44 1 (some (.object "java/lang/Object")) (own_r 1 0 0 19) #[(.ref tm)] Z h0 (own_kFc_Q Z tm r1 kr c1 kc dr s1 pr dc s2 pc cr cc mc sz h0 n0) := by
  refine own_enterH (own := "java/util/TreeMap") rfl (plainFor_of_name pn_java_util_TreeMap) (fun m => ef_own_kFc m tm) ?_
  intro p e s m below meth c s₁ Bd hZH hh hx hby hml hown hnm X0 e0
  have hZ := hZH.wide
  have Y := And.intro hx hby
  have hw := hW.1
  have N0 := Fr.nil n0
  have K0 := Keep.refl h0 []
  have lttm := own_lt T1.lt
  have ltr1 := own_lt R1.lt
  have ltc1 := own_lt C1.lt
  obtain ⟨v11, T11, Lc11, X11, hQ11, st11⟩ := own_virt (own_gFc l Z a0 hW tm r1 kr c1 kc dr s1 pr dc s2 pc cr cc mc sz h0 n0 Z0 O0 T1 R1 C1) X0 Y hZH hown (tw_ hw 332 rfl) (tw_ hw 333 rfl) (tw_ hw 335 rfl) (tw_ hw 334 rfl) (tw_ hw 336 rfl) (tw_ hw 11 rfl) (by decide) e0 (own_T.ex T1) (g := (mkF m 1 #[vr tm] [(.ref tm)])) rfl hml.symm (argsL := []) (rest := []) (lenOf pd_21 rfl) rfl d44_1
  obtain ⟨rfl, Nq11, eh11⟩ := hQ11
  have N11 := Fr.app N0 Nq11
  refine own_gs ?_ (own_gs st11 ?_)
  · exact own_a X0 Y d44_0 rfl rfl (Steps.refl _)
  obtain ⟨T12, L12, X12, Nq12, e12, st12⟩ := own_pcall (own_key l Z a0 hW c1 kc dc .null s2 pc cc h0 n0 Z0 O0 C1) X11 hx hZH hown (tw_ hw 250 rfl) (tw_ hw 251 rfl) (tw_ hw 11 rfl) (tw_ hw 252 rfl) (by decide) eh11 (g := (mkF m 4 #[vr tm] [(.ref c1)])) rfl hml.symm (argsL := [(.ref c1)]) (rest := []) (lenOf pd_22 rfl) rfl (hb hby d44_4) (own_le rfl) (own_le rfl)
  have N12 := Fr.app N11 Nq12
  refine own_gs st12 ?_
  exact own_rA X12 Bd rfl (v := (.ref kc)) rfl (hb hby d44_7) e12 (⟨rfl, N12, rfl⟩) rfl rfl
abbrev own_c45 : ByteArray := jdk_2729_method_73_code
def own_gEo_Q (Z : State) (tm r1 kr : Nat) (dr s1 pr : Value) (cr mc sz : Int32) (h0 : Heap) (n0 : Nat) (v : Option Value) (h : Heap) (L : List Loc) : Prop := v = (some (.ref r1)) ∧ Fr n0 L ∧ h = h0
theorem ef_own_gEo (m : MethodId) (x0 : Nat) : entryFrame m #[(.ref x0)] 2 = mkF m 0 #[vr x0, .unset] [] := by first | (simp [entryFrame, mkF, argsToLocals, Value.category]; done) | rfl
abbrev own_y47 : MethodName := ⟨"java/util/TreeMap", "getLastEntry", "()Ljava/util/TreeMap$Entry;"⟩
theorem d45_0 : decode own_c45 0 = .ok (.aload_n 0, 1) := by decide +kernel
theorem d45_1 : decode own_c45 1 = .ok (.getfield 101, 3) := by decide +kernel
theorem d45_4 : decode own_c45 4 = .ok (.astore_n 1, 1) := by decide +kernel
theorem d45_5 : decode own_c45 5 = .ok (.aload_n 1, 1) := by decide +kernel
theorem d45_6 : decode own_c45 6 = .ok (.ifnull 18, 3) := by decide +kernel
theorem d45_9 : decode own_c45 9 = .ok (.aload_n 1, 1) := by decide +kernel
theorem d45_10 : decode own_c45 10 = .ok (.getfield 114, 3) := by decide +kernel
theorem d45_13 : decode own_c45 13 = .ok (.ifnull 11, 3) := by decide +kernel
theorem d45_24 : decode own_c45 24 = .ok (.aload_n 1, 1) := by decide +kernel
theorem d45_25 : decode own_c45 25 = .ok (.areturn, 1) := by decide +kernel
set_option maxRecDepth 65536 in
set_option maxHeartbeats 40000000 in
theorem own_gEo (l : Launch) (Z : State) (a0 : Array Value) (hW : own_W Z a0) (tm r1 kr : Nat) (dr s1 pr : Value) (cr mc sz : Int32) (h0 : Heap) (n0 : Nat) (Z0 : n0 ≤ h0.size) (O0 : Old Z n0 h0) (T1 : own_T Z h0 tm (.ref r1) mc sz) (R1 : own_N Z h0 r1 (.ref kr) dr s1 .null pr cr) :
    own_MH l own_y47 own_c45 2 (some (.object "java/util/TreeMap$Entry")) (own_r 0 0 0 0) #[(.ref tm)] Z h0 (own_gEo_Q Z tm r1 kr dr s1 pr cr mc sz h0 n0) := by
  refine own_enterH (own := "java/util/TreeMap") rfl (plainFor_of_name pn_java_util_TreeMap) (fun m => ef_own_gEo m tm) ?_
  intro p e s m below meth c s₁ Bd hZH hh hx hby hml hown hnm X0 e0
  have hZ := hZH.wide
  have Y := And.intro hx hby
  have hw := hW.1
  have N0 := Fr.nil n0
  have K0 := Keep.refl h0 []
  have lttm := own_lt T1.lt
  have ltr1 := own_lt R1.lt
  obtain ⟨T11, X11, e11, st11⟩ := own_gF X0 Y hZ hown (tw_ hw 115 rfl) e0 (own_T.f_root T1) (g := (mkF m 1 #[vr tm, uu] [(.ref tm)])) rfl rfl d45_1
  refine own_gs ?_ (own_go st11 ?_)
  · exact own_a X0 Y d45_0 rfl rfl (Steps.refl _)
  obtain ⟨T12, X12, e12, st12⟩ := own_gF X11 Y hZ hown (tw_ hw 189 rfl) e11 (own_N.f_right R1) (g := (mkF m 10 #[vr tm, vr r1] [(.ref r1)])) rfl rfl d45_10
  refine own_gs ?_ (own_go st12 ?_)
  · refine XS.astoreN X11.here hx rfl (hb hby d45_4) rfl rfl (l' := #[vr tm, vr r1]) rfl ?_
    refine own_a X11 Y d45_5 rfl rfl ?_
    refine XS.ifnullNo X11.here hx rfl (hb hby d45_6) rfl ?_
    exact own_a X11 Y d45_9 rfl rfl (Steps.refl _)
  refine own_gs (cur' := T12.setTop (mkF m 25 #[vr tm, vr r1] [(.ref r1)])) ?_ ?_
  · refine XS.ifnullYes X12.here hx rfl (pc0 := 13) (pc' := 24) rfl (hb hby d45_13) rfl (by decide) (by decide) ?_
    exact own_a X12 Y d45_24 rfl rfl (Steps.refl _)
  exact own_rA X12 Bd rfl (v := (.ref r1)) rfl (hb hby d45_25) e12 (⟨rfl, N0, rfl⟩) rfl rfl
abbrev own_c46 : ByteArray := jdk_2729_method_11_code
def own_kEo_Q (Z : State) (tm r1 kr : Nat) (dr s1 pr : Value) (cr mc sz : Int32) (h0 : Heap) (n0 : Nat) (v : Option Value) (h : Heap) (L : List Loc) : Prop := v = (some (.ref kr)) ∧ Fr n0 L ∧ h = h0
theorem ef_own_kEo (m : MethodId) (x0 : Nat) : entryFrame m #[(.ref x0)] 1 = mkF m 0 #[vr x0] [] := by first | (simp [entryFrame, mkF, argsToLocals, Value.category]; done) | rfl
abbrev own_y48 : MethodName := ⟨"java/util/TreeMap", "lastKey", "()Ljava/lang/Object;"⟩
theorem d46_0 : decode own_c46 0 = .ok (.aload_n 0, 1) := by decide +kernel
theorem d46_1 : decode own_c46 1 = .ok (.invokevirtual 76, 3) := by decide +kernel
theorem d46_4 : decode own_c46 4 = .ok (.invokestatic 72, 3) := by decide +kernel
theorem d46_7 : decode own_c46 7 = .ok (.areturn, 1) := by decide +kernel
set_option maxRecDepth 65536 in
set_option maxHeartbeats 40000000 in
theorem own_kEo (l : Launch) (Z : State) (a0 : Array Value) (hW : own_W Z a0) (tm r1 kr : Nat) (dr s1 pr : Value) (cr mc sz : Int32) (h0 : Heap) (n0 : Nat) (Z0 : n0 ≤ h0.size) (O0 : Old Z n0 h0) (T1 : own_T Z h0 tm (.ref r1) mc sz) (R1 : own_N Z h0 r1 (.ref kr) dr s1 .null pr cr) :
    own_MH l own_y48 own_c46 1 (some (.object "java/lang/Object")) (own_r 1 0 0 19) #[(.ref tm)] Z h0 (own_kEo_Q Z tm r1 kr dr s1 pr cr mc sz h0 n0) := by
  refine own_enterH (own := "java/util/TreeMap") rfl (plainFor_of_name pn_java_util_TreeMap) (fun m => ef_own_kEo m tm) ?_
  intro p e s m below meth c s₁ Bd hZH hh hx hby hml hown hnm X0 e0
  have hZ := hZH.wide
  have Y := And.intro hx hby
  have hw := hW.1
  have N0 := Fr.nil n0
  have K0 := Keep.refl h0 []
  have lttm := own_lt T1.lt
  have ltr1 := own_lt R1.lt
  obtain ⟨v11, T11, Lc11, X11, hQ11, st11⟩ := own_virt (own_gEo l Z a0 hW tm r1 kr dr s1 pr cr mc sz h0 n0 Z0 O0 T1 R1) X0 Y hZH hown (tw_ hw 245 rfl) (tw_ hw 246 rfl) (tw_ hw 248 rfl) (tw_ hw 247 rfl) (tw_ hw 249 rfl) (tw_ hw 11 rfl) (by decide) e0 (own_T.ex T1) (g := (mkF m 1 #[vr tm] [(.ref tm)])) rfl hml.symm (argsL := []) (rest := []) (lenOf pd_21 rfl) rfl d46_1
  obtain ⟨rfl, Nq11, eh11⟩ := hQ11
  have N11 := Fr.app N0 Nq11
  refine own_gs ?_ (own_gs st11 ?_)
  · exact own_a X0 Y d46_0 rfl rfl (Steps.refl _)
  obtain ⟨T12, L12, X12, Nq12, e12, st12⟩ := own_pcall (own_key l Z a0 hW r1 kr dr s1 .null pr cr h0 n0 Z0 O0 R1) X11 hx hZH hown (tw_ hw 250 rfl) (tw_ hw 251 rfl) (tw_ hw 11 rfl) (tw_ hw 252 rfl) (by decide) eh11 (g := (mkF m 4 #[vr tm] [(.ref r1)])) rfl hml.symm (argsL := [(.ref r1)]) (rest := []) (lenOf pd_22 rfl) rfl (hb hby d46_4) (own_le rfl) (own_le rfl)
  have N12 := Fr.app N11 Nq12
  refine own_gs st12 ?_
  exact own_rA X12 Bd rfl (v := (.ref kr)) rfl (hb hby d46_7) e12 (⟨rfl, N12, rfl⟩) rfl rfl
def own_gEc_Q (Z : State) (tm r1 kr c1 kc : Nat) (dr s1 pr dc s2 pc : Value) (cr cc mc sz : Int32) (h0 : Heap) (n0 : Nat) (v : Option Value) (h : Heap) (L : List Loc) : Prop := v = (some (.ref c1)) ∧ Fr n0 L ∧ h = h0
theorem ef_own_gEc (m : MethodId) (x0 : Nat) : entryFrame m #[(.ref x0)] 2 = mkF m 0 #[vr x0, .unset] [] := by first | (simp [entryFrame, mkF, argsToLocals, Value.category]; done) | rfl
theorem d45_16 : decode own_c45 16 = .ok (.aload_n 1, 1) := by decide +kernel
theorem d45_17 : decode own_c45 17 = .ok (.getfield 114, 3) := by decide +kernel
theorem d45_20 : decode own_c45 20 = .ok (.astore_n 1, 1) := by decide +kernel
theorem d45_21 : decode own_c45 21 = .ok (.goto (-12), 3) := by decide +kernel
set_option maxRecDepth 65536 in
set_option maxHeartbeats 40000000 in
theorem own_gEc (l : Launch) (Z : State) (a0 : Array Value) (hW : own_W Z a0) (tm r1 kr c1 kc : Nat) (dr s1 pr dc s2 pc : Value) (cr cc mc sz : Int32) (h0 : Heap) (n0 : Nat) (Z0 : n0 ≤ h0.size) (O0 : Old Z n0 h0) (T1 : own_T Z h0 tm (.ref r1) mc sz) (R1 : own_N Z h0 r1 (.ref kr) dr s1 (.ref c1) pr cr) (C1 : own_N Z h0 c1 (.ref kc) dc s2 .null pc cc) :
    own_MH l own_y47 own_c45 2 (some (.object "java/util/TreeMap$Entry")) (own_r 0 0 0 0) #[(.ref tm)] Z h0 (own_gEc_Q Z tm r1 kr c1 kc dr s1 pr dc s2 pc cr cc mc sz h0 n0) := by
  refine own_enterH (own := "java/util/TreeMap") rfl (plainFor_of_name pn_java_util_TreeMap) (fun m => ef_own_gEc m tm) ?_
  intro p e s m below meth c s₁ Bd hZH hh hx hby hml hown hnm X0 e0
  have hZ := hZH.wide
  have Y := And.intro hx hby
  have hw := hW.1
  have N0 := Fr.nil n0
  have K0 := Keep.refl h0 []
  have lttm := own_lt T1.lt
  have ltr1 := own_lt R1.lt
  have ltc1 := own_lt C1.lt
  obtain ⟨T11, X11, e11, st11⟩ := own_gF X0 Y hZ hown (tw_ hw 115 rfl) e0 (own_T.f_root T1) (g := (mkF m 1 #[vr tm, uu] [(.ref tm)])) rfl rfl d45_1
  refine own_gs ?_ (own_go st11 ?_)
  · exact own_a X0 Y d45_0 rfl rfl (Steps.refl _)
  obtain ⟨T12, X12, e12, st12⟩ := own_gF X11 Y hZ hown (tw_ hw 189 rfl) e11 (own_N.f_right R1) (g := (mkF m 10 #[vr tm, vr r1] [(.ref r1)])) rfl rfl d45_10
  refine own_gs ?_ (own_go st12 ?_)
  · refine XS.astoreN X11.here hx rfl (hb hby d45_4) rfl rfl (l' := #[vr tm, vr r1]) rfl ?_
    refine own_a X11 Y d45_5 rfl rfl ?_
    refine XS.ifnullNo X11.here hx rfl (hb hby d45_6) rfl ?_
    exact own_a X11 Y d45_9 rfl rfl (Steps.refl _)
  obtain ⟨T13, X13, e13, st13⟩ := own_gF X12 Y hZ hown (tw_ hw 189 rfl) e12 (own_N.f_right R1) (g := (mkF m 17 #[vr tm, vr r1] [(.ref r1)])) rfl rfl d45_17
  refine own_gs ?_ (own_go st13 ?_)
  · refine XS.ifnullNo X12.here hx rfl (hb hby d45_13) rfl ?_
    exact own_a X12 Y d45_16 rfl rfl (Steps.refl _)
  obtain ⟨T14, X14, e14, st14⟩ := own_gF X13 Y hZ hown (tw_ hw 189 rfl) e13 (own_N.f_right C1) (g := (mkF m 10 #[vr tm, vr c1] [(.ref c1)])) rfl rfl d45_10
  refine own_gs ?_ (own_go st14 ?_)
  · refine XS.astoreN X13.here hx rfl (hb hby d45_20) rfl rfl (l' := #[vr tm, vr c1]) rfl ?_
    refine XS.goto X13.here hx rfl (pc0 := 21) (pc' := 9) rfl (hb hby d45_21) (by decide) (by decide) ?_
    exact own_a X13 Y d45_9 rfl rfl (Steps.refl _)
  refine own_gs (cur' := T14.setTop (mkF m 25 #[vr tm, vr c1] [(.ref c1)])) ?_ ?_
  · refine XS.ifnullYes X14.here hx rfl (pc0 := 13) (pc' := 24) rfl (hb hby d45_13) rfl (by decide) (by decide) ?_
    exact own_a X14 Y d45_24 rfl rfl (Steps.refl _)
  exact own_rA X14 Bd rfl (v := (.ref c1)) rfl (hb hby d45_25) e14 (⟨rfl, N0, rfl⟩) rfl rfl
def own_kEc_Q (Z : State) (tm r1 kr c1 kc : Nat) (dr s1 pr dc s2 pc : Value) (cr cc mc sz : Int32) (h0 : Heap) (n0 : Nat) (v : Option Value) (h : Heap) (L : List Loc) : Prop := v = (some (.ref kc)) ∧ Fr n0 L ∧ h = h0
theorem ef_own_kEc (m : MethodId) (x0 : Nat) : entryFrame m #[(.ref x0)] 1 = mkF m 0 #[vr x0] [] := by first | (simp [entryFrame, mkF, argsToLocals, Value.category]; done) | rfl
set_option maxRecDepth 65536 in
set_option maxHeartbeats 40000000 in
theorem own_kEc (l : Launch) (Z : State) (a0 : Array Value) (hW : own_W Z a0) (tm r1 kr c1 kc : Nat) (dr s1 pr dc s2 pc : Value) (cr cc mc sz : Int32) (h0 : Heap) (n0 : Nat) (Z0 : n0 ≤ h0.size) (O0 : Old Z n0 h0) (T1 : own_T Z h0 tm (.ref r1) mc sz) (R1 : own_N Z h0 r1 (.ref kr) dr s1 (.ref c1) pr cr) (C1 : own_N Z h0 c1 (.ref kc) dc s2 .null pc cc) :
    own_MH l own_y48 own_c46 1 (some (.object "java/lang/Object")) (own_r 1 0 0 19) #[(.ref tm)] Z h0 (own_kEc_Q Z tm r1 kr c1 kc dr s1 pr dc s2 pc cr cc mc sz h0 n0) := by
  refine own_enterH (own := "java/util/TreeMap") rfl (plainFor_of_name pn_java_util_TreeMap) (fun m => ef_own_kEc m tm) ?_
  intro p e s m below meth c s₁ Bd hZH hh hx hby hml hown hnm X0 e0
  have hZ := hZH.wide
  have Y := And.intro hx hby
  have hw := hW.1
  have N0 := Fr.nil n0
  have K0 := Keep.refl h0 []
  have lttm := own_lt T1.lt
  have ltr1 := own_lt R1.lt
  have ltc1 := own_lt C1.lt
  obtain ⟨v11, T11, Lc11, X11, hQ11, st11⟩ := own_virt (own_gEc l Z a0 hW tm r1 kr c1 kc dr s1 pr dc s2 pc cr cc mc sz h0 n0 Z0 O0 T1 R1 C1) X0 Y hZH hown (tw_ hw 245 rfl) (tw_ hw 246 rfl) (tw_ hw 248 rfl) (tw_ hw 247 rfl) (tw_ hw 249 rfl) (tw_ hw 11 rfl) (by decide) e0 (own_T.ex T1) (g := (mkF m 1 #[vr tm] [(.ref tm)])) rfl hml.symm (argsL := []) (rest := []) (lenOf pd_21 rfl) rfl d46_1
  obtain ⟨rfl, Nq11, eh11⟩ := hQ11
  have N11 := Fr.app N0 Nq11
  refine own_gs ?_ (own_gs st11 ?_)
  · exact own_a X0 Y d46_0 rfl rfl (Steps.refl _)
  obtain ⟨T12, L12, X12, Nq12, e12, st12⟩ := own_pcall (own_key l Z a0 hW c1 kc dc s2 .null pc cc h0 n0 Z0 O0 C1) X11 hx hZH hown (tw_ hw 250 rfl) (tw_ hw 251 rfl) (tw_ hw 11 rfl) (tw_ hw 252 rfl) (by decide) eh11 (g := (mkF m 4 #[vr tm] [(.ref c1)])) rfl hml.symm (argsL := [(.ref c1)]) (rest := []) (lenOf pd_22 rfl) rfl (hb hby d46_4) (own_le rfl) (own_le rfl)
  have N12 := Fr.app N11 Nq12
  refine own_gs st12 ?_
  exact own_rA X12 Bd rfl (v := (.ref kc)) rfl (hb hby d46_7) e12 (⟨rfl, N12, rfl⟩) rfl rfl
theorem own_fk (l : Launch) (Z : State) (a0 : Array Value) (hW : own_W Z a0) (tm d : Nat) (x : Int64) (M : List (Int64 × Nat)) (h0 : Heap) (n0 : Nat) (Z0 : n0 ≤ h0.size) (O0 : Old Z n0 h0) (F : own_Tr Z h0 n0 tm ((x, d) :: M)) :
    own_MH l own_y46 own_c44 1 (some (.object "java/lang/Object")) (own_r 1 0 0 19) #[.ref tm] Z h0 (fun v h L => ∃ k : Nat, v = some (.ref k) ∧ own_Lg Z h k x ∧ Fr n0 L ∧ h = h0) := by
  have q : ∀ (k : Nat), own_Lg Z h0 k x → ∀ (v : Option Value) (h : Heap) (L : List Loc), (v = some (.ref k) ∧ Fr n0 L ∧ h = h0) → ∃ k : Nat, v = some (.ref k) ∧ own_Lg Z h k x ∧ Fr n0 L ∧ h = h0 := fun k K v h L ⟨h1, h2, h3⟩ => ⟨k, h1, by rw [h3]; exact K, h2, h3⟩
  match M, F with
  | [], ⟨g, r, kr, mc, sz, f1, f2, f3, f4⟩ => exact own_MHm (own_kFo l Z a0 hW tm r kr _ _ _ _ mc sz h0 n0 Z0 O0 f1 f2) (q _ f4)
  | [(_, _)], ⟨g, hx, r, c, kr, kc, mc, sz, Or.inl ⟨f1, f2, f3, f4, f5, f6, f7, f8⟩⟩ => exact own_MHm (own_kFc l Z a0 hW tm r kr c kc _ _ _ _ _ _ _ _ mc sz h0 n0 Z0 O0 f1 f2 f3) (q _ f8)
  | [(_, _)], ⟨g, hx, r, c, kr, kc, mc, sz, Or.inr ⟨f1, f2, f3, f4, f5, f6, f7, f8⟩⟩ => exact own_MHm (own_kFo l Z a0 hW tm r kr _ _ _ _ mc sz h0 n0 Z0 O0 f1 f2) (q _ f7)
  | [(_, _), (_, _)], ⟨g, hx, hy, r, a, b, kr, ka, kb, mc, sz, f1, f2, f3, f4, f5, f6, f7, f8, f9, f10, f11, f12, f13⟩ => exact own_MHm (own_kFc l Z a0 hW tm r kr a ka _ _ _ _ _ _ _ _ mc sz h0 n0 Z0 O0 f1 f2 f3) (q _ f12)
  | _ :: _ :: _ :: T, F => cases T <;> exact False.elim F
theorem own_lk (l : Launch) (Z : State) (a0 : Array Value) (hW : own_W Z a0) (tm d : Nat) (x : Int64) (M : List (Int64 × Nat)) (h0 : Heap) (n0 : Nat) (Z0 : n0 ≤ h0.size) (O0 : Old Z n0 h0) (F : own_Tr Z h0 n0 tm (M ++ [(x, d)])) :
    own_MH l own_y48 own_c46 1 (some (.object "java/lang/Object")) (own_r 1 0 0 19) #[.ref tm] Z h0 (fun v h L => ∃ k : Nat, v = some (.ref k) ∧ own_Lg Z h k x ∧ Fr n0 L ∧ h = h0) := by
  have q : ∀ (k : Nat), own_Lg Z h0 k x → ∀ (v : Option Value) (h : Heap) (L : List Loc), (v = some (.ref k) ∧ Fr n0 L ∧ h = h0) → ∃ k : Nat, v = some (.ref k) ∧ own_Lg Z h k x ∧ Fr n0 L ∧ h = h0 := fun k K v h L ⟨h1, h2, h3⟩ => ⟨k, h1, by rw [h3]; exact K, h2, h3⟩
  match M, F with
  | [], ⟨g, r, kr, mc, sz, f1, f2, f3, f4⟩ => exact own_MHm (own_kEo l Z a0 hW tm r kr _ _ _ _ mc sz h0 n0 Z0 O0 f1 f2) (q _ f4)
  | [(_, _)], ⟨g, hx, r, c, kr, kc, mc, sz, Or.inl ⟨f1, f2, f3, f4, f5, f6, f7, f8⟩⟩ => exact own_MHm (own_kEo l Z a0 hW tm r kr _ _ _ _ mc sz h0 n0 Z0 O0 f1 f2) (q _ f7)
  | [(_, _)], ⟨g, hx, r, c, kr, kc, mc, sz, Or.inr ⟨f1, f2, f3, f4, f5, f6, f7, f8⟩⟩ => exact own_MHm (own_kEc l Z a0 hW tm r kr c kc _ _ _ _ _ _ _ _ mc sz h0 n0 Z0 O0 f1 f2 f3) (q _ f8)
  | [(_, _), (_, _)], ⟨g, hx, hy, r, a, b, kr, ka, kb, mc, sz, f1, f2, f3, f4, f5, f6, f7, f8, f9, f10, f11, f12, f13⟩ => exact own_MHm (own_kEc l Z a0 hW tm r kr b kb _ _ _ _ _ _ _ _ mc sz h0 n0 Z0 O0 f1 f2 f4) (q _ f13)
  | _ :: _ :: _ :: T, F => cases T <;> exact False.elim F
theorem own_adlQ (l : Launch) (Z : State) (a0 : Array Value) (hW : own_W Z a0) (d t c B e1 : Nat) (h0 : Heap) (n0 : Nat) (Z0 : n0 ≤ h0.size) (O0 : Old Z n0 h0) (F : own_Qd Z h0 n0 B d t c) (hB : B ≤ 15) (E : own_Et Z n0 h0 e1) :
    own_MH l own_y13 own_c13 3 none (own_r 1 0 0 19) #[.ref d, .ref e1] Z h0 (fun v h L => v = none ∧ Fr n0 L ∧ Keep h0 h [d, t] ∧ own_Go Z n0 h0 h ∧ own_Qd Z h n0 (B + 1) d t (c + 1)) := by
  have hw := hW.1
  obtain ⟨k, a, b, vs, D, f1, f2, f3, f4, f5, f6⟩ := id F
  refine own_MHm (own_adl l Z a0 hW d t k a b vs e1 h0 n0 Z0 O0 D E.2.1 (by omega) (by omega) f1 f4 f5 (D.ne hw)) ?_
  rintro v h L ⟨rfl, hN, K, D'⟩
  have G : own_Go Z n0 h0 h := own_Go.dq hw D K
  refine ⟨rfl, hN, K, G, k, a, b + 1, _, D', by simpa using f1, by omega, by omega, f4, f5, fun i hi hj => ?_⟩
  by_cases q : i = b
  · subst q
    exact ⟨e1, own_set1 (by omega), G _ E⟩
  · obtain ⟨e, g1, g2⟩ := f6 i hi (by omega)
    exact ⟨e, by rw [own_set2 q]; exact g1, G _ g2⟩
theorem own_rmfQ (l : Launch) (Z : State) (a0 : Array Value) (hW : own_W Z a0) (d t c B : Nat) (h0 : Heap) (n0 : Nat) (Z0 : n0 ≤ h0.size) (O0 : Old Z n0 h0) (F : own_Qd Z h0 n0 B d t (c + 1)) (hB : B ≤ 15) :
    own_MH l own_y16 own_c16 2 (some (.object "java/lang/Object")) (own_r 2 0 0 40) #[.ref d] Z h0 (fun v h L => ∃ e : Nat, v = some (.ref e) ∧ Fr n0 L ∧ Keep h0 h [d, t] ∧ own_Go Z n0 h0 h ∧ own_Et Z n0 h e ∧ own_Qd Z h n0 B d t c) := by
  have hw := hW.1
  obtain ⟨k, a, b, vs, D, f1, f2, f3, f4, f5, f6⟩ := id F
  obtain ⟨e, g1, g2⟩ := f6 a (Nat.le_refl _) (by omega)
  refine own_MHm (own_rmf l Z a0 hW d t k a b vs e h0 n0 Z0 O0 D (by omega) f1 g1 f4 f5 (D.ne hw)) ?_
  rintro v h L ⟨rfl, hN, K, D'⟩
  have G : own_Go Z n0 h0 h := own_Go.dq hw D K
  refine ⟨e, rfl, hN, K, G, G _ g2, k, a + 1, b, _, D', by simpa using f1, by omega, f3, f4, f5, fun i hi hj => ?_⟩
  obtain ⟨e', g3, g4⟩ := f6 i (by omega) hj
  exact ⟨e', by rw [own_set2 (by omega)]; exact g3, G _ g4⟩
theorem own_gtfQ (l : Launch) (Z : State) (a0 : Array Value) (hW : own_W Z a0) (d t c B : Nat) (h0 : Heap) (n0 : Nat) (Z0 : n0 ≤ h0.size) (O0 : Old Z n0 h0) (F : own_Qd Z h0 n0 B d t (c + 1)) (hB : B ≤ 15) :
    own_MH l own_y17 own_c17 2 (some (.object "java/lang/Object")) (own_r 1 0 0 19) #[.ref d] Z h0 (fun v h L => ∃ e : Nat, v = some (.ref e) ∧ own_Et Z n0 h e ∧ Fr n0 L ∧ h = h0) := by
  have hw := hW.1
  obtain ⟨k, a, b, vs, D, f1, f2, f3, f4, f5, f6⟩ := id F
  obtain ⟨e, g1, g2⟩ := f6 a (Nat.le_refl _) (by omega)
  refine own_MHm (own_gtf l Z a0 hW d t k a b vs e h0 n0 Z0 O0 D (by omega) g1) ?_
  rintro v h L ⟨h1, h2, rfl⟩
  exact ⟨e, h1, g2, h2, rfl⟩
theorem own_ise0Q (l : Launch) (Z : State) (a0 : Array Value) (hW : own_W Z a0) (d t c B : Nat) (h0 : Heap) (n0 : Nat) (Z0 : n0 ≤ h0.size) (O0 : Old Z n0 h0) (F : own_Qd Z h0 n0 B d t (c + 1)) (hB : B ≤ 15) :
    own_MH l own_y18 own_c18 1 (some .boolean) (own_r 0 0 0 0) #[.ref d] Z h0 (fun v h L => v = some (.int (0 : Int32)) ∧ Fr n0 L ∧ h = h0) := by
  have hw := hW.1
  obtain ⟨k, a, b, vs, D, f1, f2, f3, f4, f5, f6⟩ := id F
  exact own_ise0 l Z a0 hW d t k a b vs h0 n0 Z0 O0 D (by omega) (by omega)
theorem own_ise1Q (l : Launch) (Z : State) (a0 : Array Value) (hW : own_W Z a0) (d t B : Nat) (h0 : Heap) (n0 : Nat) (Z0 : n0 ≤ h0.size) (O0 : Old Z n0 h0) (F : own_Qd Z h0 n0 B d t 0) (hB : B ≤ 15) :
    own_MH l own_y18 own_c18 1 (some .boolean) (own_r 0 0 0 0) #[.ref d] Z h0 (fun v h L => v = some (.int (1 : Int32)) ∧ Fr n0 L ∧ h = h0) := by
  have hw := hW.1
  obtain ⟨k, a, b, vs, D, f1, f2, f3, f4, f5, f6⟩ := id F
  exact own_ise1 l Z a0 hW d t k a b vs h0 n0 Z0 O0 D (by omega)
theorem own_sizQ (l : Launch) (Z : State) (a0 : Array Value) (hW : own_W Z a0) (d t c B : Nat) (h0 : Heap) (n0 : Nat) (Z0 : n0 ≤ h0.size) (O0 : Old Z n0 h0) (F : own_Qd Z h0 n0 B d t c) (hB : B ≤ 15) :
    own_MH l own_y20 own_c20 1 (some .int) (own_r 1 0 0 20) #[.ref d] Z h0 (fun v h L => v = some (.int (Int32.ofNat c)) ∧ Fr n0 L ∧ h = h0) := by
  have hw := hW.1
  obtain ⟨k, a, b, vs, D, f1, f2, f3, f4, f5, f6⟩ := id F
  obtain rfl : b - a = c := by omega
  exact own_siz l Z a0 hW d t k a b vs h0 n0 Z0 O0 D (by omega) (by omega)
theorem own_kfl {A R : List (Int64 × Nat × Nat × Nat)} (h : A = [] ∨ R = []) : own_kd A = [] ∨ own_kd R = [] := by
  rcases h with rfl | rfl
  · exact Or.inl rfl
  · exact Or.inr rfl
theorem own_mid {A R : List (Int64 × Nat × Nat × Nat)} {x : Int64} {d t c n : Nat} (hp : ∀ m ∈ A ++ R, 0 < m.2.2.2) (hs : own_sm (A ++ R) + (c + 1) = n) : (∀ m ∈ A ++ (x, d, t, c + 1) :: R, 0 < m.2.2.2) ∧ own_sm (A ++ (x, d, t, c + 1) :: R) = n := by
  refine ⟨fun m hm => ?_, ?_⟩
  · rcases List.mem_append.mp hm with q | q
    · exact hp m (List.mem_append.mpr (Or.inl q))
    · rcases List.mem_cons.mp q with rfl | q
      · exact Nat.succ_pos _
      · exact hp m (List.mem_append.mpr (Or.inr q))
  · simp [own_sm] at hs ⊢
    omega
abbrev own_c47 : ByteArray := prog_38_method_1_code
def own_eni_Q (Z : State) (b1 q1 : Nat) (e1 t1 : Int64) (h0 : Heap) (n0 : Nat) (v : Option Value) (h : Heap) (L : List Loc) : Prop := v = none ∧ Fr n0 L ∧ Keep h0 h [b1] ∧ own_Et Z n0 h b1
theorem pn_com_example_capow_capow_service_AdmissionQueue_Entry : plainName "com/example/capow/capow/service/AdmissionQueue$Entry" = true := by first | (simp [plainName, overriddenIn]; done) | decide +kernel
theorem ef_own_eni (m : MethodId) (x0 : Nat) (x1 : Nat) (x2 : Int64) (x3 : Int64) : entryFrame m #[(.ref x0), (.ref x1), (.long x2), (.long x3)] 6 = mkF m 0 #[vr x0, vr x1, vj x2, .second, vj x3, .second] [] := by first | (simp [entryFrame, mkF, argsToLocals, Value.category]; done) | rfl
abbrev own_y49 : MethodName := ⟨"com/example/capow/capow/service/AdmissionQueue$Entry", "<init>", "(Ljava/lang/Object;JJ)V"⟩
theorem d47_0 : decode own_c47 0 = .ok (.aload_n 0, 1) := by decide +kernel
theorem d47_1 : decode own_c47 1 = .ok (.invokespecial 1, 3) := by decide +kernel
theorem d47_4 : decode own_c47 4 = .ok (.aload_n 0, 1) := by decide +kernel
theorem d47_5 : decode own_c47 5 = .ok (.aload_n 1, 1) := by decide +kernel
theorem d47_6 : decode own_c47 6 = .ok (.putfield 7, 3) := by decide +kernel
theorem d47_9 : decode own_c47 9 = .ok (.aload_n 0, 1) := by decide +kernel
theorem d47_10 : decode own_c47 10 = .ok (.lload_n 2, 1) := by decide +kernel
theorem d47_11 : decode own_c47 11 = .ok (.putfield 13, 3) := by decide +kernel
theorem d47_14 : decode own_c47 14 = .ok (.aload_n 0, 1) := by decide +kernel
theorem d47_15 : decode own_c47 15 = .ok (.lload 4, 2) := by decide +kernel
theorem d47_17 : decode own_c47 17 = .ok (.putfield 17, 3) := by decide +kernel
theorem d47_20 : decode own_c47 20 = .ok (.return_, 1) := by decide +kernel
set_option maxRecDepth 65536 in
set_option maxHeartbeats 40000000 in
theorem own_eni (l : Launch) (Z : State) (a0 : Array Value) (hW : own_W Z a0) (b1 q1 : Nat) (e1 t1 : Int64) (h0 : Heap) (n0 : Nat) (Z0 : n0 ≤ h0.size) (O0 : Old Z n0 h0) (E1 : Exa Z h0 b1 "com/example/capow/capow/service/AdmissionQueue$Entry") (F1 : Fld Z h0 b1 "com/example/capow/capow/service/AdmissionQueue$Entry" "request" "Ljava/lang/Object;" .null) (F2 : Fld Z h0 b1 "com/example/capow/capow/service/AdmissionQueue$Entry" "effort" "J" (.long (0 : Int64))) (F3 : Fld Z h0 b1 "com/example/capow/capow/service/AdmissionQueue$Entry" "arrivalMillis" "J" (.long (0 : Int64))) (F4 : Fld Z h0 b1 "com/example/capow/capow/service/AdmissionQueue$Entry" "removed" "Z" (.int (0 : Int32))) (g1 : n0 ≤ b1) :
    own_MH l own_y49 own_c47 6 none (own_r 1 0 0 20) #[(.ref b1), (.ref q1), (.long e1), (.long t1)] Z h0 (own_eni_Q Z b1 q1 e1 t1 h0 n0) := by
  refine own_enterH (own := "com/example/capow/capow/service/AdmissionQueue$Entry") rfl (plainFor_of_name pn_com_example_capow_capow_service_AdmissionQueue_Entry) (fun m => ef_own_eni m b1 q1 e1 t1) ?_
  intro p e s m below meth c s₁ Bd hZH hh hx hby hml hown hnm X0 e0
  have hZ := hZH.wide
  have Y := And.intro hx hby
  have hw := hW.1
  have N0 := Fr.nil n0
  have K0 := Keep.refl h0 [b1]
  have lt1 := own_lt E1.lt
  obtain ⟨T11, X11, e11, st11⟩ := initO X0 hx hZ hown (tw_ hw 76 rfl) (tw_ hw 7 rfl) (tw_ hw 8 rfl) e0 (g := (mkF m 1 #[vr b1, vr q1, vj e1, ss, vj t1, ss] [(.ref b1)])) rfl (by rw [hml]; rfl) rfl (hb hby d47_1) (by decide) (W := 0) (own_le rfl) (by decide)
  refine own_gs ?_ (own_go st11 ?_)
  · exact own_a X0 Y d47_0 rfl rfl (Steps.refl _)
  obtain ⟨T12, h12, X12, e12, W12, st12⟩ := putF X11 hx hZ hown (host := "") (Or.inl (tw_ hw 77 rfl)) Via.refl e11 F1 E1 (Or.inr ⟨(tw_ hw 78 rfl), rfl, hnm⟩) (tw_ hw 71 rfl) (ty := (.object "java/lang/Object")) (by decide) rfl rfl (g := (mkF m 6 #[vr b1, vr q1, vj e1, ss, vj t1, ss] [(.ref q1), (.ref b1)])) rfl rfl (hb hby d47_6)
  have F12 := F1.same W12
  refine own_gs ?_ (own_go st12 ?_)
  · refine own_a X11 Y d47_4 rfl rfl ?_
    exact own_a X11 Y d47_5 rfl rfl (Steps.refl _)
  obtain ⟨z13, Zz13, K13, O13, N13⟩ := own_eW W12 Z0 K0 O0 N0 (own_i 0 rfl) g1
  have f15 := (F2.other W12 (Or.inr (slot_ne (Or.inr (tw_ hw 80 rfl)) (Or.inr (tw_ hw 78 rfl)) (by decide) (t := .long) (t' := (.object "java/lang/Object")) (by decide) (by decide))))
  have f16 := (E1.wr W12)
  obtain ⟨T14, h14, X14, e14, W14, st14⟩ := putF X12 hx hZ hown (host := "") (Or.inl (tw_ hw 79 rfl)) Via.refl e12 f15 f16 (Or.inr ⟨(tw_ hw 80 rfl), rfl, hnm⟩) (tw_ hw 71 rfl) (ty := .long) (by decide) rfl rfl (g := (mkF m 11 #[vr b1, vr q1, vj e1, ss, vj t1, ss] [(.long e1), (.ref b1)])) rfl rfl (hb hby d47_11)
  have F14 := f15.same W14
  refine own_gs ?_ (own_go st14 ?_)
  · refine own_a X12 Y d47_9 rfl rfl ?_
    exact XS.lloadN X12.here hx rfl (hb hby d47_10) rfl (Steps.refl _)
  obtain ⟨z17, Zz17, K17, O17, N17⟩ := own_eW W14 Zz13 K13 O13 N13 (own_i 0 rfl) g1
  have f19 := ((F3.other W12 (Or.inr (slot_ne (Or.inr (tw_ hw 82 rfl)) (Or.inr (tw_ hw 78 rfl)) (by decide) (t := .long) (t' := (.object "java/lang/Object")) (by decide) (by decide)))).other W14 (Or.inr (slot_ne (Or.inr (tw_ hw 82 rfl)) (Or.inr (tw_ hw 80 rfl)) (by decide) (t := .long) (t' := .long) (by decide) (by decide))))
  have f20 := (f16.wr W14)
  obtain ⟨T18, h18, X18, e18, W18, st18⟩ := putF X14 hx hZ hown (host := "") (Or.inl (tw_ hw 81 rfl)) Via.refl e14 f19 f20 (Or.inr ⟨(tw_ hw 82 rfl), rfl, hnm⟩) (tw_ hw 71 rfl) (ty := .long) (by decide) rfl rfl (g := (mkF m 17 #[vr b1, vr q1, vj e1, ss, vj t1, ss] [(.long t1), (.ref b1)])) rfl rfl (hb hby d47_17)
  have F18 := f19.same W18
  refine own_gs ?_ (own_go st18 ?_)
  · refine own_a X14 Y d47_14 rfl rfl ?_
    exact XS.lload X14.here hx rfl (hb hby d47_15) rfl (Steps.refl _)
  obtain ⟨z21, Zz21, K21, O21, N21⟩ := own_eW W18 Zz17 K17 O17 N17 (own_i 0 rfl) g1
  have f22 := (f20.wr W18)
  have f23 := (((F4.other W12 (Or.inr (slot_ne (Or.inl (tw_ hw 304 rfl)) (Or.inr (tw_ hw 78 rfl)) (by decide) (t := .boolean) (t' := (.object "java/lang/Object")) (by decide) (by decide)))).other W14 (Or.inr (slot_ne (Or.inl (tw_ hw 304 rfl)) (Or.inr (tw_ hw 80 rfl)) (by decide) (t := .boolean) (t' := .long) (by decide) (by decide)))).other W18 (Or.inr (slot_ne (Or.inl (tw_ hw 304 rfl)) (Or.inr (tw_ hw 82 rfl)) (by decide) (t := .boolean) (t' := .long) (by decide) (by decide))))
  have f24 := ((F12.other W14 (Or.inr (slot_ne (Or.inr (tw_ hw 78 rfl)) (Or.inr (tw_ hw 80 rfl)) (by decide) (t := (.object "java/lang/Object")) (t' := .long) (by decide) (by decide)))).other W18 (Or.inr (slot_ne (Or.inr (tw_ hw 78 rfl)) (Or.inr (tw_ hw 82 rfl)) (by decide) (t := (.object "java/lang/Object")) (t' := .long) (by decide) (by decide))))
  exact own_rV X18 Bd (hb hby d47_20) e18 (⟨rfl, N21, K21, g1, f22, ⟨_, f23⟩, _, f24⟩) rfl rfl
abbrev own_c48 : ByteArray := prog_37_method_1_code
def own_aqi_Q (Z : State) (q1 : Nat) (dp : Int64) (h0 : Heap) (n0 : Nat) (v : Option Value) (h : Heap) (L : List Loc) : Prop := v = none ∧ Fr n0 L ∧ Keep h0 h [q1] ∧ own_AQ Z h n0 q1 dp 0 0
theorem ef_own_aqi (m : MethodId) (x0 : Nat) (x1 : Int64) : entryFrame m #[(.ref x0), (.long x1)] 3 = mkF m 0 #[vr x0, vj x1, .second] [] := by first | (simp [entryFrame, mkF, argsToLocals, Value.category]; done) | rfl
abbrev own_y50 : MethodName := ⟨"com/example/capow/capow/service/AdmissionQueue", "<init>", "(J)V"⟩
theorem d48_0 : decode own_c48 0 = .ok (.aload_n 0, 1) := by decide +kernel
theorem d48_1 : decode own_c48 1 = .ok (.invokespecial 1, 3) := by decide +kernel
theorem d48_4 : decode own_c48 4 = .ok (.aload_n 0, 1) := by decide +kernel
theorem d48_5 : decode own_c48 5 = .ok (.new 7, 3) := by decide +kernel
theorem d48_8 : decode own_c48 8 = .ok (.dup, 1) := by decide +kernel
theorem d48_9 : decode own_c48 9 = .ok (.invokespecial 9, 3) := by decide +kernel
theorem d48_12 : decode own_c48 12 = .ok (.putfield 10, 3) := by decide +kernel
theorem d48_15 : decode own_c48 15 = .ok (.aload_n 0, 1) := by decide +kernel
theorem d48_16 : decode own_c48 16 = .ok (.new 16, 3) := by decide +kernel
theorem d48_19 : decode own_c48 19 = .ok (.dup, 1) := by decide +kernel
theorem d48_20 : decode own_c48 20 = .ok (.invokespecial 18, 3) := by decide +kernel
theorem d48_23 : decode own_c48 23 = .ok (.putfield 19, 3) := by decide +kernel
theorem d48_26 : decode own_c48 26 = .ok (.lload_n 1, 1) := by decide +kernel
theorem d48_27 : decode own_c48 27 = .ok (.lconst 1, 1) := by decide +kernel
theorem d48_28 : decode own_c48 28 = .ok (.lcmp, 1) := by decide +kernel
theorem d48_29 : decode own_c48 29 = .ok (.ifCond .ge 17, 3) := by decide +kernel
theorem d48_46 : decode own_c48 46 = .ok (.aload_n 0, 1) := by decide +kernel
theorem d48_47 : decode own_c48 47 = .ok (.lload_n 1, 1) := by decide +kernel
theorem d48_48 : decode own_c48 48 = .ok (.putfield 32, 3) := by decide +kernel
theorem d48_51 : decode own_c48 51 = .ok (.return_, 1) := by decide +kernel
set_option maxRecDepth 65536 in
set_option maxHeartbeats 40000000 in
theorem own_aqi (l : Launch) (Z : State) (a0 : Array Value) (hW : own_W Z a0) (q1 : Nat) (dp : Int64) (h0 : Heap) (n0 : Nat) (Z0 : n0 ≤ h0.size) (O0 : Old Z n0 h0) (E1 : Exa Z h0 q1 "com/example/capow/capow/service/AdmissionQueue") (F1 : Fld Z h0 q1 "com/example/capow/capow/service/AdmissionQueue" "byEffort" "Ljava/util/TreeMap;" .null) (F2 : Fld Z h0 q1 "com/example/capow/capow/service/AdmissionQueue" "byArrival" "Ljava/util/ArrayDeque;" .null) (F3 : Fld Z h0 q1 "com/example/capow/capow/service/AdmissionQueue" "depth" "J" (.long (0 : Int64))) (F4 : Fld Z h0 q1 "com/example/capow/capow/service/AdmissionQueue" "size" "J" (.long (0 : Int64))) (g1 : n0 ≤ q1) (hd : ¬ dp < (1 : Int64)) :
    own_MH l own_y50 own_c48 3 none (own_r 3 3 29 49) #[(.ref q1), (.long dp)] Z h0 (own_aqi_Q Z q1 dp h0 n0) := by
  refine own_enterH (own := "com/example/capow/capow/service/AdmissionQueue") rfl (plainFor_of_name pn_com_example_capow_capow_service_AdmissionQueue) (fun m => ef_own_aqi m q1 dp) ?_
  intro p e s m below meth c s₁ Bd hZH hh hx hby hml hown hnm X0 e0
  have hZ := hZH.wide
  have Y := And.intro hx hby
  have hw := hW.1
  have N0 := Fr.nil n0
  have K0 := Keep.refl h0 [q1]
  have lt1 := own_lt E1.lt
  obtain ⟨T11, X11, e11, st11⟩ := initO X0 hx hZ hown (tw_ hw 6 rfl) (tw_ hw 7 rfl) (tw_ hw 8 rfl) e0 (g := (mkF m 1 #[vr q1, vj dp, ss] [(.ref q1)])) rfl (by rw [hml]; rfl) rfl (hb hby d48_1) (by decide) (W := 0) (own_le rfl) (by decide)
  refine own_gs ?_ (own_go st11 ?_)
  · exact own_a X0 Y d48_0 rfl rfl (Steps.refl _)
  obtain ⟨T12, h12, X12, e12, E12, A12, D12, -, st12⟩ := newO X11 hx hZ hown (tw_ hw 9 rfl) (tw_ hw 10 rfl) (tw_ hw 11 rfl) e11 (g := (mkF m 5 #[vr q1, vj dp, ss] [(.ref q1)])) rfl (hb hby d48_5) (by decide) (by decide)
  obtain ⟨b12, g12⟩ : ∃ z, z = h0.size := ⟨_, rfl⟩
  rw [← g12] at A12 D12 st12
  have lt12 := own_lt A12.lt
  refine own_gs ?_ (own_go st12 ?_)
  · exact own_a X11 Y d48_4 rfl rfl (Steps.refl _)
  have z13 := E12.1
  have Zz13 := Nat.le_trans Z0 z13
  have K13 := K0.ext E12
  have O13 := O0.ext E12
  have F12_size : Fld Z h12 b12 "java/util/TreeMap" "size" "I" (.int (0 : Int32)) := D12 (Or.inl (tw_ hw 23 rfl)) (ty := .int) (by decide)
  have F12_modCount : Fld Z h12 b12 "java/util/TreeMap" "modCount" "I" (.int (0 : Int32)) := D12 (Or.inl (tw_ hw 25 rfl)) (ty := .int) (by decide)
  have F12_comparator : Fld Z h12 b12 "java/util/TreeMap" "comparator" "Ljava/util/Comparator;" .null := D12 (Or.inr (tw_ hw 27 rfl)) (ty := (.object "java/util/Comparator")) (by decide)
  have F12_root : Fld Z h12 b12 "java/util/TreeMap" "root" "Ljava/util/TreeMap$Entry;" .null := D12 (Or.inl (tw_ hw 116 rfl)) (ty := (.object "java/util/TreeMap$Entry")) (by decide)
  have P12 : own_T Z h12 b12 .null (0 : Int32) (0 : Int32) := ⟨A12, F12_root, F12_comparator, F12_modCount, F12_size⟩
  obtain ⟨v14, T14, Lc14, X14, hQ14, st14⟩ := own_make (own_tmi l Z a0 hW b12 h12 n0 Zz13 O13 P12 (by omega)) X12 Y hZH hown (tw_ hw 12 rfl) (tw_ hw 13 rfl) (tw_ hw 14 rfl) (tw_ hw 11 rfl) (by decide) rfl e12 (a := b12) (g := (mkF m 9 #[vr q1, vj dp, ss] [(.ref b12), (.ref b12), (.ref q1)])) rfl hml.symm (argsL := []) (rest := [(.ref b12), (.ref q1)]) (lenOf pd_2 rfl) rfl d48_9
  obtain ⟨rfl, Nq14, Kq14, Tq14⟩ := hQ14
  have N14 := Fr.app N0 Nq14
  obtain ⟨z15, Zz15, K15, O15⟩ := own_eK Kq14 Zz13 K13 O13 (allS (Or.inr (by omega)) all0) (allS (by omega) all0)
  refine own_gs ?_ (own_gs st14 ?_)
  · exact own_du X12 Y d48_8 rfl rfl (Steps.refl _)
  have f18 := ((E1.ext E12).keep Kq14)
  have nc17 : own_Ne q1 b12 := ne_exa f18 (own_T.ex Tq14) (by decide)
  have f19 := ((F1.ext E12).keep Kq14 (ninS nc17 nin0))
  obtain ⟨T16, h16, X16, e16, W16, st16⟩ := putF X14 hx hZ hown (host := "") (Or.inl (tw_ hw 28 rfl)) Via.refl rfl f19 f18 (Or.inr ⟨(tw_ hw 29 rfl), rfl, hnm⟩) (tw_ hw 1 rfl) (ty := (.object "java/util/TreeMap")) (by decide) rfl rfl (g := (mkF m 12 #[vr q1, vj dp, ss] [(.ref b12), (.ref q1)])) rfl rfl (hb hby d48_12)
  have F16 := f19.same W16
  refine own_go st16 ?_
  obtain ⟨z20, Zz20, K20, O20, N20⟩ := own_eW W16 Zz15 K15 O15 N14 (own_i 0 rfl) g1
  obtain ⟨T21, h21, X21, e21, E21, A21, D21, -, st21⟩ := newO X16 hx hZ hown (tw_ hw 30 rfl) (tw_ hw 31 rfl) (tw_ hw 32 rfl) e16 (g := (mkF m 16 #[vr q1, vj dp, ss] [(.ref q1)])) rfl (hb hby d48_16) (by decide) (by decide)
  obtain ⟨b21, g21⟩ : ∃ z, z = h16.size := ⟨_, rfl⟩
  rw [← g21] at A21 D21 st21
  have lt21 := own_lt A21.lt
  refine own_gs ?_ (own_go st21 ?_)
  · exact own_a X16 Y d48_15 rfl rfl (Steps.refl _)
  have z22 := E21.1
  have Zz22 := Nat.le_trans Zz20 z22
  have K22 := K20.ext E21
  have O22 := O20.ext E21
  have F21_elements : Fld Z h21 b21 "java/util/ArrayDeque" "elements" "[Ljava/lang/Object;" .null := D21 (Or.inl (tw_ hw 46 rfl)) (ty := (.array (.object "java/lang/Object"))) (by decide)
  have F21_tail : Fld Z h21 b21 "java/util/ArrayDeque" "tail" "I" (.int (0 : Int32)) := D21 (Or.inl (tw_ hw 178 rfl)) (ty := .int) (by decide)
  have F21_head : Fld Z h21 b21 "java/util/ArrayDeque" "head" "I" (.int (0 : Int32)) := D21 (Or.inl (tw_ hw 181 rfl)) (ty := .int) (by decide)
  obtain ⟨v23, T23, Lc23, X23, hQ23, st23⟩ := own_make (own_adi l Z a0 hW b21 h21 n0 Zz22 O22 A21 F21_elements F21_head F21_tail (by omega)) X21 Y hZH hown (tw_ hw 33 rfl) (tw_ hw 34 rfl) (tw_ hw 35 rfl) (tw_ hw 32 rfl) (by decide) rfl e21 (a := b21) (g := (mkF m 20 #[vr q1, vj dp, ss] [(.ref b21), (.ref b21), (.ref q1)])) rfl hml.symm (argsL := []) (rest := [(.ref b21), (.ref q1)]) (lenOf pd_2 rfl) rfl d48_20
  obtain ⟨t23, kt23, rfl, Nq23, Kq23, Dq23, gq23⟩ := hQ23
  have N23 := Fr.app N20 Nq23
  obtain ⟨z24, Zz24, K24, O24⟩ := own_eK Kq23 Zz22 K22 O22 (allS (Or.inr (by omega)) all0) (allS (by omega) all0)
  have ltD := Dq23.lt
  refine own_gs ?_ (own_gs st23 ?_)
  · exact own_du X21 Y d48_19 rfl rfl (Steps.refl _)
  have f27 := (((f18.wr W16).ext E21).keep Kq23)
  have f28 := (A21.keep Kq23)
  have nc26 : own_Ne q1 b21 := ne_exa f27 f28 (by decide)
  have f29 := (((((F2.ext E12).keep Kq14 (ninS nc17 nin0)).other W16 (Or.inr (slot_ne (Or.inr (tw_ hw 48 rfl)) (Or.inr (tw_ hw 29 rfl)) (by decide) (t := (.object "java/util/ArrayDeque")) (t' := (.object "java/util/TreeMap")) (by decide) (by decide)))).ext E21).keep Kq23 (ninS nc26 nin0))
  obtain ⟨T25, h25, X25, e25, W25, st25⟩ := putF X23 hx hZ hown (host := "") (Or.inl (tw_ hw 47 rfl)) Via.refl rfl f29 f27 (Or.inr ⟨(tw_ hw 48 rfl), rfl, hnm⟩) (tw_ hw 1 rfl) (ty := (.object "java/util/ArrayDeque")) (by decide) rfl rfl (g := (mkF m 23 #[vr q1, vj dp, ss] [(.ref b21), (.ref q1)])) rfl rfl (hb hby d48_23)
  have F25 := f29.same W25
  refine own_go st25 ?_
  obtain ⟨z30, Zz30, K30, O30, N30⟩ := own_eW W25 Zz24 K24 O24 N23 (own_i 0 rfl) g1
  have f32 := ((((((F3.ext E12).keep Kq14 (ninS nc17 nin0)).other W16 (Or.inr (slot_ne (Or.inr (tw_ hw 50 rfl)) (Or.inr (tw_ hw 29 rfl)) (by decide) (t := .long) (t' := (.object "java/util/TreeMap")) (by decide) (by decide)))).ext E21).keep Kq23 (ninS nc26 nin0)).other W25 (Or.inr (slot_ne (Or.inr (tw_ hw 50 rfl)) (Or.inr (tw_ hw 48 rfl)) (by decide) (t := .long) (t' := (.object "java/util/ArrayDeque")) (by decide) (by decide))))
  have f33 := (f27.wr W25)
  obtain ⟨T31, h31, X31, e31, W31, st31⟩ := putF X25 hx hZ hown (host := "") (Or.inl (tw_ hw 49 rfl)) Via.refl e25 f32 f33 (Or.inr ⟨(tw_ hw 50 rfl), rfl, hnm⟩) (tw_ hw 1 rfl) (ty := .long) (by decide) rfl rfl (g := (mkF m 48 #[vr q1, vj dp, ss] [(.long dp), (.ref q1)])) rfl rfl (hb hby d48_48)
  have F31 := f32.same W31
  refine own_gs ?_ (own_go st31 ?_)
  · refine XS.lloadN X25.here hx rfl (hb hby d48_26) rfl ?_
    refine XS.lconst X25.here hx rfl (hb hby d48_27) ?_
    refine XS.lcmp X25.here hx rfl (hb hby d48_28) rfl ?_
    refine XS.ifYes X25.here hx rfl (pc0 := 29) (pc' := 46) rfl (hb hby d48_29) rfl ((if0 _ _).trans (flt ((own_nlt64 hd) : ¬ ((lcmpW dp (1 : Int64)) < (0 : Int32)))).2.1) (by decide) (by decide) ?_
    refine own_a X25 Y d48_46 rfl rfl ?_
    exact XS.lloadN X25.here hx rfl (hb hby d48_47) rfl (Steps.refl _)
  obtain ⟨z34, Zz34, K34, O34, N34⟩ := own_eW W31 Zz30 K30 O30 N30 (own_i 0 rfl) g1
  have f35 := (f33.wr W31)
  have f36 := ((((F16.ext E21).keep Kq23 (ninS nc26 nin0)).other W25 (Or.inr (slot_ne (Or.inr (tw_ hw 29 rfl)) (Or.inr (tw_ hw 48 rfl)) (by decide) (t := (.object "java/util/TreeMap")) (t' := (.object "java/util/ArrayDeque")) (by decide) (by decide)))).other W31 (Or.inr (slot_ne (Or.inr (tw_ hw 29 rfl)) (Or.inr (tw_ hw 50 rfl)) (by decide) (t := (.object "java/util/TreeMap")) (t' := .long) (by decide) (by decide))))
  have f37 := (F25.other W31 (Or.inr (slot_ne (Or.inr (tw_ hw 48 rfl)) (Or.inr (tw_ hw 50 rfl)) (by decide) (t := (.object "java/util/ArrayDeque")) (t' := .long) (by decide) (by decide))))
  have f38 := (((((((F4.ext E12).keep Kq14 (ninS nc17 nin0)).other W16 (Or.inr (slot_ne (Or.inl (tw_ hw 57 rfl)) (Or.inr (tw_ hw 29 rfl)) (by decide) (t := .long) (t' := (.object "java/util/TreeMap")) (by decide) (by decide)))).ext E21).keep Kq23 (ninS nc26 nin0)).other W25 (Or.inr (slot_ne (Or.inl (tw_ hw 57 rfl)) (Or.inr (tw_ hw 48 rfl)) (by decide) (t := .long) (t' := (.object "java/util/ArrayDeque")) (by decide) (by decide)))).other W31 (Or.inr (slot_ne (Or.inl (tw_ hw 57 rfl)) (Or.inr (tw_ hw 50 rfl)) (by decide) (t := .long) (t' := .long) (by decide) (by decide))))
  have f40 := ((((((own_T.ex Tq14).wr W16).ext E21).keep Kq23).wr W25).wr W31)
  have f41 := ((f28.wr W25).wr W31)
  have nc39 : own_Ne b12 b21 := ne_exa f40 f41 (by decide)
  have f42 := (((((Tq14.keep (Keep.of_wr W16) (ninS (Ne.symm nc17) nin0)).ext E21).keep Kq23 (ninS nc39 nin0)).keep (Keep.of_wr W25) (ninS (Ne.symm nc17) nin0)).keep (Keep.of_wr W31) (ninS (Ne.symm nc17) nin0))
  have f43 := ((Dq23.keep (Keep.of_wr W25) (ninS (Ne.symm nc26) nin0) (ninS (own_ne (a := t23) (b := q1) (by omega)) nin0)).keep (Keep.of_wr W31) (ninS (Ne.symm nc26) nin0) (ninS (own_ne (a := t23) (b := q1) (by omega)) nin0))
  exact own_rV X31 Bd (hb hby d48_51) e31 (⟨rfl, N34, K34, b12, b21, t23, 0, [], g1, f35, f36, f37, F31, f38, ⟨(by omega), _, _, f42⟩, own_Ds.single (own_Qd.new f43 (by omega) (by omega)), (fun m hm => nomatch hm), rfl⟩) rfl rfl
abbrev own_c49 : ByteArray := prog_37_method_6_code
def own_ie0_Q (Z : State) (q1 n : Nat) (h0 : Heap) (n0 : Nat) (v : Option Value) (h : Heap) (L : List Loc) : Prop := v = (some (.int (0 : Int32))) ∧ Fr n0 L ∧ h = h0
theorem ef_own_ie0 (m : MethodId) (x0 : Nat) : entryFrame m #[(.ref x0)] 1 = mkF m 0 #[vr x0] [] := by first | (simp [entryFrame, mkF, argsToLocals, Value.category]; done) | rfl
abbrev own_y51 : MethodName := ⟨"com/example/capow/capow/service/AdmissionQueue", "isEmpty", "()Z"⟩
theorem d49_0 : decode own_c49 0 = .ok (.aload_n 0, 1) := by decide +kernel
theorem d49_1 : decode own_c49 1 = .ok (.getfield 59, 3) := by decide +kernel
theorem d49_4 : decode own_c49 4 = .ok (.lconst 0, 1) := by decide +kernel
theorem d49_5 : decode own_c49 5 = .ok (.lcmp, 1) := by decide +kernel
theorem d49_6 : decode own_c49 6 = .ok (.ifCond .ne 7, 3) := by decide +kernel
theorem d49_13 : decode own_c49 13 = .ok (.iconst 0, 1) := by decide +kernel
theorem d49_14 : decode own_c49 14 = .ok (.ireturn, 1) := by decide +kernel
set_option maxRecDepth 65536 in
set_option maxHeartbeats 40000000 in
theorem own_ie0 (l : Launch) (Z : State) (a0 : Array Value) (hW : own_W Z a0) (q1 n : Nat) (h0 : Heap) (n0 : Nat) (Z0 : n0 ≤ h0.size) (O0 : Old Z n0 h0) (E1 : Exa Z h0 q1 "com/example/capow/capow/service/AdmissionQueue") (F4 : Fld Z h0 q1 "com/example/capow/capow/service/AdmissionQueue" "size" "J" (.long (Int64.ofNat n))) (hn : 0 < n) (hn3 : n ≤ 3) :
    own_MH l own_y51 own_c49 1 (some .boolean) (own_r 0 0 0 0) #[(.ref q1)] Z h0 (own_ie0_Q Z q1 n h0 n0) := by
  refine own_enterH (own := "com/example/capow/capow/service/AdmissionQueue") rfl (plainFor_of_name pn_com_example_capow_capow_service_AdmissionQueue) (fun m => ef_own_ie0 m q1) ?_
  intro p e s m below meth c s₁ Bd hZH hh hx hby hml hown hnm X0 e0
  have hZ := hZH.wide
  have Y := And.intro hx hby
  have hw := hW.1
  have N0 := Fr.nil n0
  have K0 := Keep.refl h0 []
  obtain ⟨T11, X11, e11, st11⟩ := own_gF X0 Y hZ hown (tw_ hw 56 rfl) e0 F4 (g := (mkF m 1 #[vr q1] [(.ref q1)])) rfl rfl d49_1
  refine own_gs ?_ (own_go st11 ?_)
  · exact own_a X0 Y d49_0 rfl rfl (Steps.refl _)
  refine own_gs (cur' := T11.setTop (mkF m 14 #[vr q1] [(.int (0 : Int32))])) ?_ ?_
  · refine XS.lconst X11.here hx rfl (hb hby d49_4) ?_
    refine XS.lcmp X11.here hx rfl (hb hby d49_5) rfl ?_
    refine XS.ifYes X11.here hx rfl (pc0 := 6) (pc' := 13) rfl (hb hby d49_6) rfl ((if0 _ _).trans (feq ((own_neq64 (own_o64n hn (by omega))) : ¬ ((lcmpW (Int64.ofNat n) (0 : Int64)) = (0 : Int32)))).2) (by decide) (by decide) ?_
    exact own_ic X11 Y d49_13 (Steps.refl _)
  exact own_rN X11 Bd (by simp) (v := (0 : Int32)) rfl (hb hby d49_14) e11 (⟨rfl, N0, rfl⟩) rfl rfl
def own_ie1_Q (Z : State) (q1 n : Nat) (h0 : Heap) (n0 : Nat) (v : Option Value) (h : Heap) (L : List Loc) : Prop := v = (some (.int (1 : Int32))) ∧ Fr n0 L ∧ h = h0
theorem ef_own_ie1 (m : MethodId) (x0 : Nat) : entryFrame m #[(.ref x0)] 1 = mkF m 0 #[vr x0] [] := by first | (simp [entryFrame, mkF, argsToLocals, Value.category]; done) | rfl
theorem d49_9 : decode own_c49 9 = .ok (.iconst 1, 1) := by decide +kernel
theorem d49_10 : decode own_c49 10 = .ok (.goto 4, 3) := by decide +kernel
set_option maxRecDepth 65536 in
set_option maxHeartbeats 40000000 in
theorem own_ie1 (l : Launch) (Z : State) (a0 : Array Value) (hW : own_W Z a0) (q1 n : Nat) (h0 : Heap) (n0 : Nat) (Z0 : n0 ≤ h0.size) (O0 : Old Z n0 h0) (E1 : Exa Z h0 q1 "com/example/capow/capow/service/AdmissionQueue") (F4 : Fld Z h0 q1 "com/example/capow/capow/service/AdmissionQueue" "size" "J" (.long (Int64.ofNat n))) (hn : n = 0) :
    own_MH l own_y51 own_c49 1 (some .boolean) (own_r 0 0 0 0) #[(.ref q1)] Z h0 (own_ie1_Q Z q1 n h0 n0) := by
  refine own_enterH (own := "com/example/capow/capow/service/AdmissionQueue") rfl (plainFor_of_name pn_com_example_capow_capow_service_AdmissionQueue) (fun m => ef_own_ie1 m q1) ?_
  intro p e s m below meth c s₁ Bd hZH hh hx hby hml hown hnm X0 e0
  have hZ := hZH.wide
  have Y := And.intro hx hby
  have hw := hW.1
  have N0 := Fr.nil n0
  have K0 := Keep.refl h0 []
  obtain ⟨T11, X11, e11, st11⟩ := own_gF X0 Y hZ hown (tw_ hw 56 rfl) e0 F4 (g := (mkF m 1 #[vr q1] [(.ref q1)])) rfl rfl d49_1
  refine own_gs ?_ (own_go st11 ?_)
  · exact own_a X0 Y d49_0 rfl rfl (Steps.refl _)
  refine own_gs (cur' := T11.setTop (mkF m 14 #[vr q1] [(.int (1 : Int32))])) ?_ ?_
  · refine XS.lconst X11.here hx rfl (hb hby d49_4) ?_
    refine XS.lcmp X11.here hx rfl (hb hby d49_5) rfl ?_
    refine XS.ifNo X11.here hx rfl (hb hby d49_6) rfl ((if0 _ _).trans (teq ((own_eq64 (own_o64z hn)) : (lcmpW (Int64.ofNat n) (0 : Int64)) = (0 : Int32))).2) ?_
    refine own_ic X11 Y d49_9 ?_
    exact XS.goto X11.here hx rfl (pc0 := 10) (pc' := 14) rfl (hb hby d49_10) (by decide) (by decide) (Steps.refl _)
  exact own_rN X11 Bd (by simp) (v := (1 : Int32)) rfl (hb hby d49_14) e11 (⟨rfl, N0, rfl⟩) rfl rfl
abbrev own_c50 : ByteArray := prog_37_method_7_code
def own_rf_Q (Z : State) (q1 : Nat) (x dp : Int64) (n B : Nat) (h0 : Heap) (n0 : Nat) (v : Option Value) (h : Heap) (L : List Loc) : Prop := own_AQ Z h n0 q1 dp n B ∧ (∃ r : Nat, v = some (.ref r)) ∧ Fr n0 L ∧ Old Z n0 h ∧ n0 ≤ h.size
theorem ef_own_rf (m : MethodId) (x0 : Nat) (x1 : Int64) : entryFrame m #[(.ref x0), (.long x1)] 5 = mkF m 0 #[vr x0, vj x1, .second, .unset, .unset] [] := by first | (simp [entryFrame, mkF, argsToLocals, Value.category]; done) | rfl
abbrev own_y52 : MethodName := ⟨"com/example/capow/capow/service/AdmissionQueue", "removeFirst", "(J)Ljava/lang/Object;"⟩
theorem d50_0 : decode own_c50 0 = .ok (.aload_n 0, 1) := by decide +kernel
theorem d50_1 : decode own_c50 1 = .ok (.getfield 10, 3) := by decide +kernel
theorem d50_4 : decode own_c50 4 = .ok (.lload_n 1, 1) := by decide +kernel
theorem d50_5 : decode own_c50 5 = .ok (.invokestatic 41, 3) := by decide +kernel
theorem pd_23 : parseMethodDescriptor "(J)Ljava/lang/Long;" = some ⟨[.long], some (.object "java/lang/Long")⟩ := by decide +kernel
theorem d50_8 : decode own_c50 8 = .ok (.invokevirtual 98, 3) := by decide +kernel
theorem d50_11 : decode own_c50 11 = .ok (.checkcast 16, 3) := by decide +kernel
theorem d50_14 : decode own_c50 14 = .ok (.astore_n 3, 1) := by decide +kernel
theorem d50_15 : decode own_c50 15 = .ok (.aload_n 3, 1) := by decide +kernel
theorem d50_16 : decode own_c50 16 = .ok (.invokevirtual 102, 3) := by decide +kernel
theorem d50_19 : decode own_c50 19 = .ok (.checkcast 36, 3) := by decide +kernel
theorem d50_22 : decode own_c50 22 = .ok (.astore 4, 2) := by decide +kernel
theorem d50_24 : decode own_c50 24 = .ok (.aload_n 3, 1) := by decide +kernel
theorem d50_25 : decode own_c50 25 = .ok (.invokevirtual 104, 3) := by decide +kernel
theorem d50_43 : decode own_c50 43 = .ok (.aload 4, 2) := by decide +kernel
theorem d50_45 : decode own_c50 45 = .ok (.iconst 1, 1) := by decide +kernel
theorem d50_46 : decode own_c50 46 = .ok (.putfield 111, 3) := by decide +kernel
theorem d50_49 : decode own_c50 49 = .ok (.aload_n 0, 1) := by decide +kernel
theorem d50_50 : decode own_c50 50 = .ok (.dup, 1) := by decide +kernel
theorem d50_51 : decode own_c50 51 = .ok (.getfield 59, 3) := by decide +kernel
theorem d50_54 : decode own_c50 54 = .ok (.lconst 1, 1) := by decide +kernel
theorem d50_55 : decode own_c50 55 = .ok (.lsub, 1) := by decide +kernel
theorem d50_56 : decode own_c50 56 = .ok (.putfield 59, 3) := by decide +kernel
theorem d50_59 : decode own_c50 59 = .ok (.aload_n 0, 1) := by decide +kernel
theorem d50_60 : decode own_c50 60 = .ok (.getfield 19, 3) := by decide +kernel
theorem d50_63 : decode own_c50 63 = .ok (.invokevirtual 104, 3) := by decide +kernel
theorem pd_24 : parseMethodDescriptor "()Z" = some ⟨[], some .boolean⟩ := by decide +kernel
theorem d50_66 : decode own_c50 66 = .ok (.ifCond .ne 30, 3) := by decide +kernel
theorem d50_96 : decode own_c50 96 = .ok (.aload_n 0, 1) := by decide +kernel
theorem d50_97 : decode own_c50 97 = .ok (.getfield 19, 3) := by decide +kernel
theorem d50_100 : decode own_c50 100 = .ok (.invokevirtual 115, 3) := by decide +kernel
theorem pd_25 : parseMethodDescriptor "()I" = some ⟨[], some .int⟩ := by decide +kernel
theorem d50_103 : decode own_c50 103 = .ok (.i2l, 1) := by decide +kernel
theorem d50_104 : decode own_c50 104 = .ok (.ldc2_w 118, 3) := by decide +kernel
theorem d50_107 : decode own_c50 107 = .ok (.aload_n 0, 1) := by decide +kernel
theorem d50_108 : decode own_c50 108 = .ok (.getfield 59, 3) := by decide +kernel
theorem d50_111 : decode own_c50 111 = .ok (.lmul, 1) := by decide +kernel
theorem d50_112 : decode own_c50 112 = .ok (.ldc2_w 120, 3) := by decide +kernel
theorem d50_115 : decode own_c50 115 = .ok (.ladd, 1) := by decide +kernel
theorem d50_116 : decode own_c50 116 = .ok (.lcmp, 1) := by decide +kernel
theorem d50_117 : decode own_c50 117 = .ok (.ifCond .le 16, 3) := by decide +kernel
theorem d50_133 : decode own_c50 133 = .ok (.aload 4, 2) := by decide +kernel
theorem d50_135 : decode own_c50 135 = .ok (.getfield 130, 3) := by decide +kernel
theorem d50_138 : decode own_c50 138 = .ok (.areturn, 1) := by decide +kernel
theorem d50_69 : decode own_c50 69 = .ok (.aload_n 0, 1) := by decide +kernel
theorem d50_70 : decode own_c50 70 = .ok (.getfield 19, 3) := by decide +kernel
theorem d50_73 : decode own_c50 73 = .ok (.invokevirtual 83, 3) := by decide +kernel
theorem d50_76 : decode own_c50 76 = .ok (.checkcast 36, 3) := by decide +kernel
theorem d50_79 : decode own_c50 79 = .ok (.getfield 111, 3) := by decide +kernel
theorem d50_82 : decode own_c50 82 = .ok (.ifCond .eq 14, 3) := by decide +kernel
theorem d50_85 : decode own_c50 85 = .ok (.aload_n 0, 1) := by decide +kernel
theorem d50_86 : decode own_c50 86 = .ok (.getfield 19, 3) := by decide +kernel
theorem d50_89 : decode own_c50 89 = .ok (.invokevirtual 102, 3) := by decide +kernel
theorem d50_92 : decode own_c50 92 = .ok (.pop, 1) := by decide +kernel
theorem d50_93 : decode own_c50 93 = .ok (.goto (-34), 3) := by decide +kernel
theorem d50_28 : decode own_c50 28 = .ok (.ifCond .eq 15, 3) := by decide +kernel
theorem d50_31 : decode own_c50 31 = .ok (.aload_n 0, 1) := by decide +kernel
theorem d50_32 : decode own_c50 32 = .ok (.getfield 10, 3) := by decide +kernel
theorem d50_35 : decode own_c50 35 = .ok (.lload_n 1, 1) := by decide +kernel
theorem d50_36 : decode own_c50 36 = .ok (.invokestatic 41, 3) := by decide +kernel
theorem d50_39 : decode own_c50 39 = .ok (.invokevirtual 108, 3) := by decide +kernel
theorem d50_42 : decode own_c50 42 = .ok (.pop, 1) := by decide +kernel
set_option maxRecDepth 65536 in
set_option maxHeartbeats 40000000 in
theorem own_rf (l : Launch) (Z : State) (a0 : Array Value) (hW : own_W Z a0) (q1 : Nat) (x dp : Int64) (n B : Nat) (h0 : Heap) (n0 : Nat) (Z0 : n0 ≤ h0.size) (O0 : Old Z n0 h0) (A1 : own_AX Z h0 n0 q1 dp n B x) (hB : B ≤ 15) (hn : n ≤ 3) :
    own_MH l own_y52 own_c50 5 (some (.object "java/lang/Object")) (own_r 5 2 2 102) #[(.ref q1), (.long x)] Z h0 (own_rf_Q Z q1 x dp n B h0 n0) := by
  refine own_enterH (own := "com/example/capow/capow/service/AdmissionQueue") rfl (plainFor_of_name pn_com_example_capow_capow_service_AdmissionQueue) (fun m => ef_own_rf m q1 x) ?_
  intro p e s m below meth c s₁ Bd hZH hh hx hby hml hown hnm X0 e0
  have hZ := hZH.wide
  have Y := And.intro hx hby
  have hw := hW.1
  have N0 := Fr.nil n0
  have K0 := Keep.refl h0 []
  obtain ⟨tm, bd, bt, cb, A, R, d1, t1, cc, gq, E1, F1, F2, F3, F4, T1, D1, hp, hs, hf⟩ := id A1
  obtain ⟨T11, X11, e11, st11⟩ := own_gF X0 Y hZ hown (tw_ hw 28 rfl) e0 F1 (g := (mkF m 1 #[vr q1, vj x, ss, uu, uu] [(.ref q1)])) rfl rfl d50_1
  refine own_gs ?_ (own_go st11 ?_)
  · exact own_a X0 Y d50_0 rfl rfl (Steps.refl _)
  obtain ⟨v12, T12, Lc12, X12, hQ12, st12⟩ := own_stat (own_lvo l Z a0 hW x h0 n0 Z0 O0) X11 Y hZH hown (tw_ hw 83 rfl) (tw_ hw 84 rfl) (tw_ hw 86 rfl) (tw_ hw 85 rfl) (by decide) e11 (g := (mkF m 5 #[vr q1, vj x, ss, uu, uu] [(.long x), (.ref tm)])) rfl hml.symm (argsL := [(.long x)]) (rest := [(.ref tm)]) (lenOf pd_23 rfl) rfl d50_5
  obtain ⟨k12, rfl, Nq12, Kq12, Ek12, Fk12⟩ := hQ12
  have N12 := Fr.app N0 Nq12
  obtain ⟨z13, Zz13, O13⟩ := own_eK0 Kq12 Z0 O0 all0
  have Tr12 := own_Tr.keep T1 Kq12 own_off.nil
  have Ds12 := own_Ds.nil D1 Kq12
  refine own_gs ?_ (own_gs st12 ?_)
  · exact XS.lloadN X11.here hx rfl (hb hby d50_4) rfl (Steps.refl _)
  obtain ⟨v14, T14, Lc14, X14, hQ14, st14⟩ := own_virt (own_get l Z a0 hW tm k12 d1 x (own_kd A) (own_kd R) T12.heap n0 Zz13 O13 Tr12 (own_kfl hf) ⟨Ek12, Fk12⟩) X12 Y hZH hown (tw_ hw 263 rfl) (tw_ hw 264 rfl) (tw_ hw 266 rfl) (tw_ hw 265 rfl) (tw_ hw 267 rfl) (tw_ hw 11 rfl) (by decide) rfl (own_Tr.ex Tr12) (g := (mkF m 8 #[vr q1, vj x, ss, uu, uu] [(.ref k12), (.ref tm)])) rfl hml.symm (argsL := [(.ref k12)]) (rest := []) (lenOf pd_15 rfl) rfl d50_8
  obtain ⟨rfl, Nq14, eh14⟩ := hQ14
  have N14 := Fr.app N12 Nq14
  refine own_gs st14 ?_
  have Q3 := own_Ds.at (A := (bd, bt, cb) :: own_dd A) Ds12
  obtain ⟨T15, X15, e15, st15⟩ := castY X14 hx hZ hown (tw_ hw 30 rfl) eh14 (Ins.self (own_Qd.ex Q3)) (g := (mkF m 11 #[vr q1, vj x, ss, uu, uu] [(.ref d1)])) rfl rfl (hb hby d50_11)
  refine own_go st15 ?_
  have f16 := (E1.keep Kq12)
  have f17 := (F1.keep Kq12 nin0)
  have f18 := (F2.keep Kq12 nin0)
  have f19 := (F3.keep Kq12 nin0)
  have f20 := (F4.keep Kq12 nin0)
  obtain ⟨v21, T21, Lc21, X21, hQ21, st21⟩ := own_virt (own_rmfQ l Z a0 hW d1 t1 cc B T12.heap n0 Zz13 O13 Q3 hB) X15 Y hZH hown (tw_ hw 274 rfl) (tw_ hw 275 rfl) (tw_ hw 277 rfl) (tw_ hw 276 rfl) (tw_ hw 278 rfl) (tw_ hw 32 rfl) (by decide) e15 (own_Qd.ex Q3) (g := (mkF m 16 #[vr q1, vj x, ss, vr d1, uu] [(.ref d1)])) rfl hml.symm (argsL := []) (rest := []) (lenOf pd_6 rfl) rfl d50_16
  obtain ⟨e4, rfl, Nq21, Kq21, Gq21, Et4, Qq21⟩ := hQ21
  have N21 := Fr.app N14 Nq21
  have Ds21 := own_Ds.upd hw (A := (bd, bt, cb) :: own_dd A) Ds12 Kq21 Gq21 Qq21 (Nat.le_refl _)
  have Tr21 := own_Tr.keep Tr12 Kq21 (own_Qd.off hw Q3)
  have ni21 := own_Qd.ninQ hw Q3 f16
  obtain ⟨z21, Zz21, O21⟩ := own_eK0 Kq21 Zz13 O13 (allS (own_Qd.ge Q3).1 (allS (own_Qd.ge Q3).2 all0))
  refine own_gs ?_ (own_gs st21 ?_)
  · refine XS.astoreN X15.here hx rfl (hb hby d50_14) rfl rfl (l' := #[vr q1, vj x, ss, vr d1, uu]) rfl ?_
    exact own_a X15 Y d50_15 rfl rfl (Steps.refl _)
  have Q4 := own_Ds.at (A := (bd, bt, cb) :: own_dd A) Ds21
  obtain ⟨T22, X22, e22, st22⟩ := castY X21 hx hZ hown (tw_ hw 70 rfl) rfl (Ins.self Et4.2.1) (g := (mkF m 19 #[vr q1, vj x, ss, vr d1, uu] [(.ref e4)])) rfl rfl (hb hby d50_19)
  refine own_go st22 ?_
  refine own_gs (cur' := T22.setTop (mkF m 25 #[vr q1, vj x, ss, vr d1, vr e4] [(.ref d1)])) ?_ ?_
  · refine XS.astore X22.here hx rfl (hb hby d50_22) rfl rfl (l' := #[vr q1, vj x, ss, vr d1, vr e4]) rfl ?_
    exact own_a X22 Y d50_24 rfl rfl (Steps.refl _)
  have J43 : ∀ (M : List (Int64 × Nat × Nat × Nat)) (T23 : State) (L23 : List Loc) (h23 : Heap) (X23 : Stand p l e (own_r 5 2 2 102) s m #[(.ref q1), (.long x)] below meth c T23 L23 2 2) (e23 : T23.heap = h23) (N23 : Fr n0 L23) (O23 : Old Z n0 h23) (Zz23 : n0 ≤ h23.size) (E23 : Exa Z h23 q1 "com/example/capow/capow/service/AdmissionQueue") (Fa23 : Fld Z h23 q1 "com/example/capow/capow/service/AdmissionQueue" "byEffort" "Ljava/util/TreeMap;" (.ref tm)) (Fb23 : Fld Z h23 q1 "com/example/capow/capow/service/AdmissionQueue" "byArrival" "Ljava/util/ArrayDeque;" (.ref bd)) (Fc23 : Fld Z h23 q1 "com/example/capow/capow/service/AdmissionQueue" "depth" "J" (.long dp)) (Fd23 : Fld Z h23 q1 "com/example/capow/capow/service/AdmissionQueue" "size" "J" (.long (Int64.ofNat (n + 1)))) (Tr23 : own_Tr Z h23 n0 tm (own_kd M)) (Ds23 : own_Ds Z h23 n0 B ((bd, bt, cb) :: own_dd M)) (Et23 : own_Et Z n0 h23 e4) (hpM : ∀ m ∈ M, 0 < m.2.2.2) (hsM : own_sm M = n), own_Fin p e below (T23.setTop (mkF m 43 #[vr q1, vj x, ss, vr d1, vr e4] [])) (own_G s (own_rf_Q Z q1 x dp n B h0 n0) (own_r 5 2 2 102)) := by
    intro M T23 L23 h23 X23 e23 N23 O23 Zz23 E23 Fa23 Fb23 Fc23 Fd23 Tr23 Ds23 Et23 hpM hsM
    obtain ⟨ge24, Ee24, ⟨rr24, Fr24⟩, rq24, Fq24⟩ := id Et23
    have nc25 : own_Ne q1 e4 := ne_exa E23 Ee24 (by decide)
    obtain ⟨T26, h26, X26, e26, W26, st26⟩ := own_putR X23 hx hZ hown (tw_ hw 303 rfl) e23 Fr24 Ee24 (tw_ hw 304 rfl) (tw_ hw 71 rfl) (ty := .boolean) (by decide) rfl rfl (g := (mkF m 46 #[vr q1, vj x, ss, vr d1, vr e4] [(.int (1 : Int32)), (.ref e4)])) rfl rfl (hb hby d50_46)
    have F26 := Fr24.same W26
    refine own_gs ?_ (own_go st26 ?_)
    · refine own_al X23 Y d50_43 rfl rfl ?_
      exact own_ic X23 Y d50_45 (Steps.refl _)
    obtain ⟨z27, Zz27, O27, N27⟩ := own_eW0 W26 Zz23 O23 N23 ge24
    have Go28 : own_Go Z n0 _ _ := own_Go.wr hw W26
    have Tr28 := own_Tr.keep Tr23 (Keep.of_wr W26) (own_off.one Ee24 (by decide))
    have Ds28 := own_Ds.one hw Ds23 (Keep.of_wr W26) Go28 (Or.inr Ee24)
    have f30 := (Fd23.other W26 (Or.inl nc25))
    obtain ⟨T29, X29, e29, st29⟩ := own_gF X26 Y hZ hown (tw_ hw 56 rfl) e26 f30 (g := (mkF m 51 #[vr q1, vj x, ss, vr d1, vr e4] [(.ref q1), (.ref q1)])) rfl rfl d50_51
    refine own_gs ?_ (own_go st29 ?_)
    · refine own_a X26 Y d50_49 rfl rfl ?_
      exact own_du X26 Y d50_50 rfl rfl (Steps.refl _)
    refine own_gs (cur' := T29.setTop (mkF m 56 #[vr q1, vj x, ss, vr d1, vr e4] [(.long ((Int64.ofNat (n + 1)) - (1 : Int64))), (.ref q1)])) ?_ ?_
    · refine XS.lconst X29.here hx rfl (hb hby d50_54) ?_
      exact XS.lsub X29.here hx rfl (hb hby d50_55) rfl (Steps.refl _)
    rw [own_s2]
    show own_Fin p e below (T29.setTop (mkF m 56 #[vr q1, vj x, ss, vr d1, vr e4] [(.long (Int64.ofNat n)), (.ref q1)])) _
    have f31 := (E23.wr W26)
    obtain ⟨T32, h32, X32, e32, W32, st32⟩ := own_pF X29 Y hZ hown (tw_ hw 56 rfl) e29 f30 f31 (tw_ hw 57 rfl) (tw_ hw 1 rfl) (ty := .long) (by decide) rfl rfl (g := (mkF m 56 #[vr q1, vj x, ss, vr d1, vr e4] [(.long (Int64.ofNat n)), (.ref q1)])) rfl rfl d50_56
    have F32 := f30.same W32
    refine own_go st32 ?_
    obtain ⟨z33, Zz33, O33, N33⟩ := own_eW0 W32 Zz27 O27 N27 gq
    have Go34 : own_Go Z n0 _ _ := own_Go.one (Keep.of_wr W32) f31 (by decide)
    have Tr34 := own_Tr.keep Tr28 (Keep.of_wr W32) (own_off.one f31 (by decide))
    have Ds34 := own_Ds.one hw Ds28 (Keep.of_wr W32) Go34 (Or.inl f31)
    have J59 : ∀ (cb : Nat) (T35 : State) (L35 : List Loc) (h35 : Heap) (X35 : Stand p l e (own_r 5 2 2 102) s m #[(.ref q1), (.long x)] below meth c T35 L35 2 2) (e35 : T35.heap = h35) (N35 : Fr n0 L35) (O35 : Old Z n0 h35) (Zz35 : n0 ≤ h35.size) (E35 : Exa Z h35 q1 "com/example/capow/capow/service/AdmissionQueue") (Fa35 : Fld Z h35 q1 "com/example/capow/capow/service/AdmissionQueue" "byEffort" "Ljava/util/TreeMap;" (.ref tm)) (Fb35 : Fld Z h35 q1 "com/example/capow/capow/service/AdmissionQueue" "byArrival" "Ljava/util/ArrayDeque;" (.ref bd)) (Fc35 : Fld Z h35 q1 "com/example/capow/capow/service/AdmissionQueue" "depth" "J" (.long dp)) (Fd35 : Fld Z h35 q1 "com/example/capow/capow/service/AdmissionQueue" "size" "J" (.long (Int64.ofNat n))) (Tr35 : own_Tr Z h35 n0 tm (own_kd M)) (Ds35 : own_Ds Z h35 n0 B ((bd, bt, cb) :: own_dd M)) (Et35 : own_Et Z n0 h35 e4), own_Fin p e below (T35.setTop (mkF m 59 #[vr q1, vj x, ss, vr d1, vr e4] [])) (own_G s (own_rf_Q Z q1 x dp n B h0 n0) (own_r 5 2 2 102)) := by
      intro cb
      induction cb with
      | zero =>
        intro T35 L35 h35 X35 e35 N35 O35 Zz35 E35 Fa35 Fb35 Fc35 Fd35 Tr35 Ds35 Et35
        obtain ⟨T36, X36, e36, st36⟩ := own_gF X35 Y hZ hown (tw_ hw 47 rfl) e35 Fb35 (g := (mkF m 60 #[vr q1, vj x, ss, vr d1, vr e4] [(.ref q1)])) rfl rfl d50_60
        refine own_gs ?_ (own_go st36 ?_)
        · exact own_a X35 Y d50_59 rfl rfl (Steps.refl _)
        have QB37 := own_Ds.at (A := []) Ds35
        obtain ⟨v38, T38, Lc38, X38, hQ38, st38⟩ := own_virt (own_ise1Q l Z a0 hW bd bt B h35 n0 Zz35 O35 QB37 hB) X36 Y hZH hown (tw_ hw 288 rfl) (tw_ hw 289 rfl) (tw_ hw 291 rfl) (tw_ hw 290 rfl) (tw_ hw 292 rfl) (tw_ hw 32 rfl) (by decide) e36 (own_Qd.ex QB37) (g := (mkF m 63 #[vr q1, vj x, ss, vr d1, vr e4] [(.ref bd)])) rfl hml.symm (argsL := []) (rest := []) (lenOf pd_24 rfl) rfl d50_63
        obtain ⟨rfl, Nq38, eh38⟩ := hQ38
        have N38 := Fr.app N35 Nq38
        refine own_gs st38 ?_
        obtain ⟨T39, X39, e39, st39⟩ := own_gF X38 Y hZ hown (tw_ hw 47 rfl) eh38 Fb35 (g := (mkF m 97 #[vr q1, vj x, ss, vr d1, vr e4] [(.ref q1)])) rfl rfl d50_97
        refine own_gs ?_ (own_go st39 ?_)
        · refine XS.ifYes X38.here hx rfl (pc0 := 66) (pc' := 96) rfl (hb hby d50_66) rfl ((if0 _ _).trans (feq ((by decide) : ¬ ((1 : Int32) = (0 : Int32)))).2) (by decide) (by decide) ?_
          exact own_a X38 Y d50_96 rfl rfl (Steps.refl _)
        have QB40 := own_Ds.at (A := []) Ds35
        obtain ⟨v41, T41, Lc41, X41, hQ41, st41⟩ := own_virt (own_sizQ l Z a0 hW bd bt 0 B h35 n0 Zz35 O35 QB40 hB) X39 Y hZH hown (tw_ hw 310 rfl) (tw_ hw 311 rfl) (tw_ hw 313 rfl) (tw_ hw 312 rfl) (tw_ hw 314 rfl) (tw_ hw 32 rfl) (by decide) e39 (own_Qd.ex QB40) (g := (mkF m 100 #[vr q1, vj x, ss, vr d1, vr e4] [(.ref bd)])) rfl hml.symm (argsL := []) (rest := []) (lenOf pd_25 rfl) rfl d50_100
        obtain ⟨rfl, Nq41, eh41⟩ := hQ41
        have N41 := Fr.app N38 Nq41
        refine own_gs st41 ?_
        obtain ⟨T42, X42, e42, st42⟩ := own_gF X41 Y hZ hown (tw_ hw 56 rfl) eh41 Fd35 (g := (mkF m 108 #[vr q1, vj x, ss, vr d1, vr e4] [(.ref q1), (.long (2 : Int64)), (.long ((Int32.ofNat 0).toInt64))])) rfl rfl d50_108
        refine own_gs ?_ (own_go st42 ?_)
        · refine XS.i2l X41.here hx rfl (hb hby d50_103) rfl ?_
          refine X41.ldc2Long hx hown (mvT hZ (tw_ hw 318 rfl)) (g := (mkF m 104 #[vr q1, vj x, ss, vr d1, vr e4] [(.long ((Int32.ofNat 0).toInt64))])) rfl (hb hby d50_104) _ ?_
          exact own_a X41 Y d50_107 rfl rfl (Steps.refl _)
        obtain ⟨ge43, Ee43, ⟨rr43, Fr43⟩, rq43, Fq43⟩ := id Et35
        refine own_gs ?_ (own_go (own_getR X42 hx hZ hown (tw_ hw 320 rfl) e42 Fq43 (g := (mkF m 135 #[vr q1, vj x, ss, vr d1, vr e4] [(.ref e4)])) rfl rfl (hb hby d50_135)) ?_)
        · refine XS.lmul X42.here hx rfl (hb hby d50_111) rfl ?_
          refine X42.ldc2Long hx hown (mvT hZ (tw_ hw 319 rfl)) (g := (mkF m 112 #[vr q1, vj x, ss, vr d1, vr e4] [(.long ((2 : Int64) * (Int64.ofNat n))), (.long ((Int32.ofNat 0).toInt64))])) rfl (hb hby d50_112) _ ?_
          refine XS.ladd X42.here hx rfl (hb hby d50_115) rfl ?_
          refine XS.lcmp X42.here hx rfl (hb hby d50_116) rfl ?_
          refine XS.ifYes X42.here hx rfl (pc0 := 117) (pc' := 133) rfl (hb hby d50_117) rfl ((if0 _ _).trans (flt ((own_ngt64 (own_szle (by omega) (Nat.le_trans (own_Qd.le QB40) (by omega)))) : ¬ ((0 : Int32) < (lcmpW ((Int32.ofNat 0).toInt64) (((2 : Int64) * (Int64.ofNat n)) + (16 : Int64)))))).2.2.2) (by decide) (by decide) ?_
          exact own_al X42 Y d50_133 rfl rfl (Steps.refl _)
        exact own_rA X42 Bd rfl (v := (.ref rq43)) rfl (hb hby d50_138) e42 (⟨⟨tm, bd, bt, _, M, gq, E35, Fa35, Fb35, Fc35, Fd35, Tr35, Ds35, hpM, hsM⟩, ⟨_, rfl⟩, N41, O35, Zz35⟩) rfl rfl
      | succ cb ih =>
        intro T35 L35 h35 X35 e35 N35 O35 Zz35 E35 Fa35 Fb35 Fc35 Fd35 Tr35 Ds35 Et35
        obtain ⟨T45, X45, e45, st45⟩ := own_gF X35 Y hZ hown (tw_ hw 47 rfl) e35 Fb35 (g := (mkF m 60 #[vr q1, vj x, ss, vr d1, vr e4] [(.ref q1)])) rfl rfl d50_60
        refine own_gs ?_ (own_go st45 ?_)
        · exact own_a X35 Y d50_59 rfl rfl (Steps.refl _)
        have QB46 := own_Ds.at (A := []) Ds35
        obtain ⟨v47, T47, Lc47, X47, hQ47, st47⟩ := own_virt (own_ise0Q l Z a0 hW bd bt cb B h35 n0 Zz35 O35 QB46 hB) X45 Y hZH hown (tw_ hw 288 rfl) (tw_ hw 289 rfl) (tw_ hw 291 rfl) (tw_ hw 290 rfl) (tw_ hw 292 rfl) (tw_ hw 32 rfl) (by decide) e45 (own_Qd.ex QB46) (g := (mkF m 63 #[vr q1, vj x, ss, vr d1, vr e4] [(.ref bd)])) rfl hml.symm (argsL := []) (rest := []) (lenOf pd_24 rfl) rfl d50_63
        obtain ⟨rfl, Nq47, eh47⟩ := hQ47
        have N47 := Fr.app N35 Nq47
        refine own_gs st47 ?_
        obtain ⟨T48, X48, e48, st48⟩ := own_gF X47 Y hZ hown (tw_ hw 47 rfl) eh47 Fb35 (g := (mkF m 70 #[vr q1, vj x, ss, vr d1, vr e4] [(.ref q1)])) rfl rfl d50_70
        refine own_gs ?_ (own_go st48 ?_)
        · refine XS.ifNo X47.here hx rfl (hb hby d50_66) rfl ((if0 _ _).trans (teq ((by decide) : (0 : Int32) = (0 : Int32))).2) ?_
          exact own_a X47 Y d50_69 rfl rfl (Steps.refl _)
        have QB49 := own_Ds.at (A := []) Ds35
        obtain ⟨v50, T50, Lc50, X50, hQ50, st50⟩ := own_virt (own_gtfQ l Z a0 hW bd bt cb B h35 n0 Zz35 O35 QB49 hB) X48 Y hZH hown (tw_ hw 305 rfl) (tw_ hw 306 rfl) (tw_ hw 308 rfl) (tw_ hw 307 rfl) (tw_ hw 309 rfl) (tw_ hw 32 rfl) (by decide) e48 (own_Qd.ex QB49) (g := (mkF m 73 #[vr q1, vj x, ss, vr d1, vr e4] [(.ref bd)])) rfl hml.symm (argsL := []) (rest := []) (lenOf pd_6 rfl) rfl d50_73
        obtain ⟨e505, rfl, Et50, Nq50, eh50⟩ := hQ50
        rw [eh50] at Et50
        have N50 := Fr.app N47 Nq50
        obtain ⟨ge51, Ee51, ⟨rr51, Fr51⟩, rq51, Fq51⟩ := id Et50
        refine own_gs st50 ?_
        obtain ⟨T52, X52, e52, st52⟩ := castY X50 hx hZ hown (tw_ hw 70 rfl) eh50 (Ins.self Ee51) (g := (mkF m 76 #[vr q1, vj x, ss, vr d1, vr e4] [(.ref e505)])) rfl rfl (hb hby d50_76)
        refine own_go st52 ?_
        refine own_go (own_getR X52 hx hZ hown (tw_ hw 303 rfl) e52 Fr51 (g := (mkF m 79 #[vr q1, vj x, ss, vr d1, vr e4] [(.ref e505)])) rfl rfl (hb hby d50_79)) ?_
        by_cases hc82_54 : rr51 = (0 : Int32)
        · obtain ⟨T55, X55, e55, st55⟩ := own_gF X52 Y hZ hown (tw_ hw 47 rfl) e52 Fb35 (g := (mkF m 97 #[vr q1, vj x, ss, vr d1, vr e4] [(.ref q1)])) rfl rfl d50_97
          refine own_gs ?_ (own_go st55 ?_)
          · refine XS.ifYes X52.here hx rfl (pc0 := 82) (pc' := 96) rfl (hb hby d50_82) rfl ((if0 _ _).trans (teq (hc82_54 : rr51 = (0 : Int32))).1) (by decide) (by decide) ?_
            exact own_a X52 Y d50_96 rfl rfl (Steps.refl _)
          have QB56 := own_Ds.at (A := []) Ds35
          obtain ⟨v57, T57, Lc57, X57, hQ57, st57⟩ := own_virt (own_sizQ l Z a0 hW bd bt (cb + 1) B h35 n0 Zz35 O35 QB56 hB) X55 Y hZH hown (tw_ hw 310 rfl) (tw_ hw 311 rfl) (tw_ hw 313 rfl) (tw_ hw 312 rfl) (tw_ hw 314 rfl) (tw_ hw 32 rfl) (by decide) e55 (own_Qd.ex QB56) (g := (mkF m 100 #[vr q1, vj x, ss, vr d1, vr e4] [(.ref bd)])) rfl hml.symm (argsL := []) (rest := []) (lenOf pd_25 rfl) rfl d50_100
          obtain ⟨rfl, Nq57, eh57⟩ := hQ57
          have N57 := Fr.app N50 Nq57
          refine own_gs st57 ?_
          obtain ⟨T58, X58, e58, st58⟩ := own_gF X57 Y hZ hown (tw_ hw 56 rfl) eh57 Fd35 (g := (mkF m 108 #[vr q1, vj x, ss, vr d1, vr e4] [(.ref q1), (.long (2 : Int64)), (.long ((Int32.ofNat (cb + 1)).toInt64))])) rfl rfl d50_108
          refine own_gs ?_ (own_go st58 ?_)
          · refine XS.i2l X57.here hx rfl (hb hby d50_103) rfl ?_
            refine X57.ldc2Long hx hown (mvT hZ (tw_ hw 318 rfl)) (g := (mkF m 104 #[vr q1, vj x, ss, vr d1, vr e4] [(.long ((Int32.ofNat (cb + 1)).toInt64))])) rfl (hb hby d50_104) _ ?_
            exact own_a X57 Y d50_107 rfl rfl (Steps.refl _)
          obtain ⟨ge59, Ee59, ⟨rr59, Fr59⟩, rq59, Fq59⟩ := id Et35
          refine own_gs ?_ (own_go (own_getR X58 hx hZ hown (tw_ hw 320 rfl) e58 Fq59 (g := (mkF m 135 #[vr q1, vj x, ss, vr d1, vr e4] [(.ref e4)])) rfl rfl (hb hby d50_135)) ?_)
          · refine XS.lmul X58.here hx rfl (hb hby d50_111) rfl ?_
            refine X58.ldc2Long hx hown (mvT hZ (tw_ hw 319 rfl)) (g := (mkF m 112 #[vr q1, vj x, ss, vr d1, vr e4] [(.long ((2 : Int64) * (Int64.ofNat n))), (.long ((Int32.ofNat (cb + 1)).toInt64))])) rfl (hb hby d50_112) _ ?_
            refine XS.ladd X58.here hx rfl (hb hby d50_115) rfl ?_
            refine XS.lcmp X58.here hx rfl (hb hby d50_116) rfl ?_
            refine XS.ifYes X58.here hx rfl (pc0 := 117) (pc' := 133) rfl (hb hby d50_117) rfl ((if0 _ _).trans (flt ((own_ngt64 (own_szle (by omega) (Nat.le_trans (own_Qd.le QB56) (by omega)))) : ¬ ((0 : Int32) < (lcmpW ((Int32.ofNat (cb + 1)).toInt64) (((2 : Int64) * (Int64.ofNat n)) + (16 : Int64)))))).2.2.2) (by decide) (by decide) ?_
            exact own_al X58 Y d50_133 rfl rfl (Steps.refl _)
          exact own_rA X58 Bd rfl (v := (.ref rq59)) rfl (hb hby d50_138) e58 (⟨⟨tm, bd, bt, _, M, gq, E35, Fa35, Fb35, Fc35, Fd35, Tr35, Ds35, hpM, hsM⟩, ⟨_, rfl⟩, N57, O35, Zz35⟩) rfl rfl
        · obtain ⟨T61, X61, e61, st61⟩ := own_gF X52 Y hZ hown (tw_ hw 47 rfl) e52 Fb35 (g := (mkF m 86 #[vr q1, vj x, ss, vr d1, vr e4] [(.ref q1)])) rfl rfl d50_86
          refine own_gs ?_ (own_go st61 ?_)
          · refine XS.ifNo X52.here hx rfl (hb hby d50_82) rfl ((if0 _ _).trans (feq (hc82_54 : ¬ (rr51 = (0 : Int32)))).1) ?_
            exact own_a X52 Y d50_85 rfl rfl (Steps.refl _)
          have QB62 := own_Ds.at (A := []) Ds35
          obtain ⟨v64, T64, Lc64, X64, hQ64, st64⟩ := own_virt (own_rmfQ l Z a0 hW bd bt cb B h35 n0 Zz35 O35 QB62 hB) X61 Y hZH hown (tw_ hw 274 rfl) (tw_ hw 275 rfl) (tw_ hw 277 rfl) (tw_ hw 276 rfl) (tw_ hw 278 rfl) (tw_ hw 32 rfl) (by decide) e61 (own_Qd.ex QB62) (g := (mkF m 89 #[vr q1, vj x, ss, vr d1, vr e4] [(.ref bd)])) rfl hml.symm (argsL := []) (rest := []) (lenOf pd_6 rfl) rfl d50_89
          obtain ⟨e663, rfl, Nq64, Kq64, Gq64, Et663, Qq64⟩ := hQ64
          have N64 := Fr.app N50 Nq64
          have Ds64 := own_Ds.upd hw (A := []) Ds35 Kq64 Gq64 Qq64 (Nat.le_refl _)
          have Tr64 := own_Tr.keep Tr35 Kq64 (own_Qd.off hw QB62)
          have ni64 := own_Qd.ninQ hw QB62 E35
          obtain ⟨z64, Zz64, O64⟩ := own_eK0 Kq64 Zz35 O35 (allS (own_Qd.ge QB62).1 (allS (own_Qd.ge QB62).2 all0))
          refine own_gs st64 ?_
          refine own_gs (cur' := T64.setTop (mkF m 59 #[vr q1, vj x, ss, vr d1, vr e4] [])) ?_ ?_
          · refine XS.pop X64.here hx rfl (hb hby d50_92) rfl rfl ?_
            exact XS.goto X64.here hx rfl (pc0 := 93) (pc' := 59) rfl (hb hby d50_93) (by decide) (by decide) (Steps.refl _)
          exact ih _ _ _ (X64.more (own_le rfl) (own_le rfl)) rfl N64 O64 Zz64 (E35.keep Kq64) (Fa35.keep Kq64 ni64) (Fb35.keep Kq64 ni64) (Fc35.keep Kq64 ni64) (Fd35.keep Kq64 ni64) Tr64 Ds64 (Gq64 _ Et35)
    have f65 := (f31.wr W32)
    have f66 := ((Fa23.other W26 (Or.inl nc25)).other W32 (Or.inr (slot_ne (Or.inr (tw_ hw 29 rfl)) (Or.inl (tw_ hw 57 rfl)) (by decide) (t := (.object "java/util/TreeMap")) (t' := .long) (by decide) (by decide))))
    have f67 := ((Fb23.other W26 (Or.inl nc25)).other W32 (Or.inr (slot_ne (Or.inr (tw_ hw 48 rfl)) (Or.inl (tw_ hw 57 rfl)) (by decide) (t := (.object "java/util/ArrayDeque")) (t' := .long) (by decide) (by decide))))
    have f68 := ((Fc23.other W26 (Or.inl nc25)).other W32 (Or.inr (slot_ne (Or.inr (tw_ hw 50 rfl)) (Or.inl (tw_ hw 57 rfl)) (by decide) (t := .long) (t' := .long) (by decide) (by decide))))
    exact J59 _ _ _ _ (X32.more (own_le rfl) (own_le rfl)) e32 N33 O33 Zz33 f65 f66 f67 f68 F32 Tr34 Ds34 (Go34 _ (Go28 _ Et23))
  rcases cc with _ | cc
  · obtain ⟨v69, T69, Lc69, X69, hQ69, st69⟩ := own_virt (own_ise1Q l Z a0 hW d1 t1 B T21.heap n0 Zz21 O21 Q4 hB) X22 Y hZH hown (tw_ hw 288 rfl) (tw_ hw 289 rfl) (tw_ hw 291 rfl) (tw_ hw 290 rfl) (tw_ hw 292 rfl) (tw_ hw 32 rfl) (by decide) e22 (own_Qd.ex Q4) (g := (mkF m 25 #[vr q1, vj x, ss, vr d1, vr e4] [(.ref d1)])) rfl hml.symm (argsL := []) (rest := []) (lenOf pd_24 rfl) rfl d50_25
    obtain ⟨rfl, Nq69, eh69⟩ := hQ69
    have N69 := Fr.app N21 Nq69
    refine own_gs st69 ?_
    obtain ⟨T70, X70, e70, st70⟩ := own_gF X69 Y hZ hown (tw_ hw 28 rfl) eh69 (f17.keep Kq21 ni21) (g := (mkF m 32 #[vr q1, vj x, ss, vr d1, vr e4] [(.ref q1)])) rfl rfl d50_32
    refine own_gs ?_ (own_go st70 ?_)
    · refine XS.ifNo X69.here hx rfl (hb hby d50_28) rfl ((if0 _ _).trans (feq ((by decide) : ¬ ((1 : Int32) = (0 : Int32)))).1) ?_
      exact own_a X69 Y d50_31 rfl rfl (Steps.refl _)
    obtain ⟨v71, T71, Lc71, X71, hQ71, st71⟩ := own_stat (own_lvo l Z a0 hW x T21.heap n0 Zz21 O21) X70 Y hZH hown (tw_ hw 83 rfl) (tw_ hw 84 rfl) (tw_ hw 86 rfl) (tw_ hw 85 rfl) (by decide) e70 (g := (mkF m 36 #[vr q1, vj x, ss, vr d1, vr e4] [(.long x), (.ref tm)])) rfl hml.symm (argsL := [(.long x)]) (rest := [(.ref tm)]) (lenOf pd_23 rfl) rfl d50_36
    obtain ⟨k71, rfl, Nq71, Kq71, Ek71, Fk71⟩ := hQ71
    have N71 := Fr.app N69 Nq71
    obtain ⟨z72, Zz72, O72⟩ := own_eK0 Kq71 Zz21 O21 all0
    have Tr71 := own_Tr.keep Tr21 Kq71 own_off.nil
    have Ds71 := own_Ds.nil Ds21 Kq71
    refine own_gs ?_ (own_gs st71 ?_)
    · exact XS.lloadN X70.here hx rfl (hb hby d50_35) rfl (Steps.refl _)
    have f73 := ((f16.keep Kq21).keep Kq71)
    have f74 := ((f17.keep Kq21 ni21).keep Kq71 nin0)
    have f75 := ((f18.keep Kq21 ni21).keep Kq71 nin0)
    have f76 := ((f19.keep Kq21 ni21).keep Kq71 nin0)
    have f77 := ((f20.keep Kq21 ni21).keep Kq71 nin0)
    have f78 := (Et4.keep Kq71 nin0)
    obtain ⟨v79, T79, Lc79, X79, hQ79, st79⟩ := own_virt (own_rem l Z a0 hW tm k71 d1 x (own_kd A) (own_kd R) T71.heap n0 Zz72 O72 Tr71 (own_kfl hf) ⟨Ek71, Fk71⟩) X71 Y hZH hown (tw_ hw 293 rfl) (tw_ hw 294 rfl) (tw_ hw 296 rfl) (tw_ hw 295 rfl) (tw_ hw 297 rfl) (tw_ hw 11 rfl) (by decide) rfl (own_Tr.ex Tr71) (g := (mkF m 39 #[vr q1, vj x, ss, vr d1, vr e4] [(.ref k71), (.ref tm)])) rfl hml.symm (argsL := [(.ref k71)]) (rest := []) (lenOf pd_15 rfl) rfl d50_39
    obtain ⟨⟨r79, rfl⟩, Nq79, KT79, Tr79⟩ := hQ79
    have N79 := Fr.app N71 Nq79
    have O79 := own_KT.old KT79 O72
    have Zz79 := Nat.le_trans Zz72 (own_KT.size KT79)
    have Ds79 := own_Ds.del (A := (bd, bt, cb) :: own_dd A) (own_Ds.kt hw Ds71 KT79)
    refine own_gs st79 ?_
    refine own_gs (cur' := T79.setTop (mkF m 43 #[vr q1, vj x, ss, vr d1, vr e4] [])) ?_ ?_
    · exact XS.pop X79.here hx rfl (hb hby d50_42) rfl rfl (Steps.refl _)
    exact J43 (A ++ R) _ _ _ (X79.more (own_le rfl) (own_le rfl)) rfl N79 O79 Zz79 (own_KT.exa KT79 f73) (own_KT.fld KT79 f74 f73 (by decide) (by decide)) (own_KT.fld KT79 f75 f73 (by decide) (by decide)) (own_KT.fld KT79 f76 f73 (by decide) (by decide)) (own_KT.fld KT79 f77 f73 (by decide) (by decide)) (by simpa [own_kd] using Tr79) (by simpa [own_dd] using Ds79) (own_Go.kt KT79 _ f78) hp hs
  · obtain ⟨v80, T80, Lc80, X80, hQ80, st80⟩ := own_virt (own_ise0Q l Z a0 hW d1 t1 cc B T21.heap n0 Zz21 O21 Q4 hB) X22 Y hZH hown (tw_ hw 288 rfl) (tw_ hw 289 rfl) (tw_ hw 291 rfl) (tw_ hw 290 rfl) (tw_ hw 292 rfl) (tw_ hw 32 rfl) (by decide) e22 (own_Qd.ex Q4) (g := (mkF m 25 #[vr q1, vj x, ss, vr d1, vr e4] [(.ref d1)])) rfl hml.symm (argsL := []) (rest := []) (lenOf pd_24 rfl) rfl d50_25
    obtain ⟨rfl, Nq80, eh80⟩ := hQ80
    have N80 := Fr.app N21 Nq80
    refine own_gs st80 ?_
    refine own_gs (cur' := T80.setTop (mkF m 43 #[vr q1, vj x, ss, vr d1, vr e4] [])) ?_ ?_
    · exact XS.ifYes X80.here hx rfl (pc0 := 28) (pc' := 43) rfl (hb hby d50_28) rfl ((if0 _ _).trans (teq ((by decide) : (0 : Int32) = (0 : Int32))).1) (by decide) (by decide) (Steps.refl _)
    exact J43 (A ++ (x, d1, t1, cc + 1) :: R) _ _ _ (X80.more (own_le rfl) (own_le rfl)) eh80 N80 O21 Zz21 (f16.keep Kq21) (f17.keep Kq21 ni21) (f18.keep Kq21 ni21) (f19.keep Kq21 ni21) (f20.keep Kq21 ni21) (by simpa [own_kd] using Tr21) (by simpa [own_dd] using Ds21) Et4 (own_mid hp hs).1 (own_mid hp hs).2
abbrev own_c51 : ByteArray := prog_37_method_3_code
def own_po0_Q (Z : State) (q1 : Nat) (dp : Int64) (B : Nat) (h0 : Heap) (n0 : Nat) (v : Option Value) (h : Heap) (L : List Loc) : Prop := own_AQ Z h n0 q1 dp 0 B ∧ (∃ vv : Value, v = some vv ∧ vv.category = 1) ∧ Fr n0 L ∧ Old Z n0 h ∧ n0 ≤ h.size
theorem ef_own_po0 (m : MethodId) (x0 : Nat) : entryFrame m #[(.ref x0)] 1 = mkF m 0 #[vr x0] [] := by first | (simp [entryFrame, mkF, argsToLocals, Value.category]; done) | rfl
abbrev own_y53 : MethodName := ⟨"com/example/capow/capow/service/AdmissionQueue", "poll", "()Ljava/lang/Object;"⟩
theorem d51_0 : decode own_c51 0 = .ok (.aload_n 0, 1) := by decide +kernel
theorem d51_1 : decode own_c51 1 = .ok (.getfield 59, 3) := by decide +kernel
theorem d51_4 : decode own_c51 4 = .ok (.lconst 0, 1) := by decide +kernel
theorem d51_5 : decode own_c51 5 = .ok (.lcmp, 1) := by decide +kernel
theorem d51_6 : decode own_c51 6 = .ok (.ifCond .ne 7, 3) := by decide +kernel
theorem d51_9 : decode own_c51 9 = .ok (.aconst_null, 1) := by decide +kernel
theorem d51_10 : decode own_c51 10 = .ok (.goto 20, 3) := by decide +kernel
theorem d51_30 : decode own_c51 30 = .ok (.areturn, 1) := by decide +kernel
set_option maxRecDepth 65536 in
set_option maxHeartbeats 40000000 in
theorem own_po0 (l : Launch) (Z : State) (a0 : Array Value) (hW : own_W Z a0) (q1 : Nat) (dp : Int64) (B : Nat) (h0 : Heap) (n0 : Nat) (Z0 : n0 ≤ h0.size) (O0 : Old Z n0 h0) (A1 : own_AQ Z h0 n0 q1 dp 0 B) (hB : B ≤ 15) :
    own_MH l own_y53 own_c51 1 (some (.object "java/lang/Object")) (own_r 6 2 2 124) #[(.ref q1)] Z h0 (own_po0_Q Z q1 dp B h0 n0) := by
  refine own_enterH (own := "com/example/capow/capow/service/AdmissionQueue") rfl (plainFor_of_name pn_com_example_capow_capow_service_AdmissionQueue) (fun m => ef_own_po0 m q1) ?_
  intro p e s m below meth c s₁ Bd hZH hh hx hby hml hown hnm X0 e0
  have hZ := hZH.wide
  have Y := And.intro hx hby
  have hw := hW.1
  have N0 := Fr.nil n0
  have K0 := Keep.refl h0 []
  obtain ⟨tm, bd, bt, cb, M, gq, E1, F1, F2, F3, F4, T1, D1, hp, hs⟩ := id A1
  obtain ⟨T11, X11, e11, st11⟩ := own_gF X0 Y hZ hown (tw_ hw 56 rfl) e0 F4 (g := (mkF m 1 #[vr q1] [(.ref q1)])) rfl rfl d51_1
  refine own_gs ?_ (own_go st11 ?_)
  · exact own_a X0 Y d51_0 rfl rfl (Steps.refl _)
  refine own_gs (cur' := T11.setTop (mkF m 30 #[vr q1] [.null])) ?_ ?_
  · refine XS.lconst X11.here hx rfl (hb hby d51_4) ?_
    refine XS.lcmp X11.here hx rfl (hb hby d51_5) rfl ?_
    refine XS.ifNo X11.here hx rfl (hb hby d51_6) rfl ((if0 _ _).trans (teq ((own_eq64 rfl) : (lcmpW (Int64.ofNat 0) (0 : Int64)) = (0 : Int32))).2) ?_
    refine XS.aconstNull X11.here hx rfl (hb hby d51_9) ?_
    exact XS.goto X11.here hx rfl (pc0 := 10) (pc' := 30) rfl (hb hby d51_10) (by decide) (by decide) (Steps.refl _)
  exact own_rA X11 Bd rfl (v := .null) rfl (hb hby d51_30) e11 (⟨A1, ⟨_, rfl, rfl⟩, N0, O0, Z0⟩) rfl rfl
def own_po1_Q (Z : State) (q1 : Nat) (dp : Int64) (n B : Nat) (h0 : Heap) (n0 : Nat) (v : Option Value) (h : Heap) (L : List Loc) : Prop := own_AQ Z h n0 q1 dp n B ∧ (∃ vv : Value, v = some vv ∧ vv.category = 1) ∧ Fr n0 L ∧ Old Z n0 h ∧ n0 ≤ h.size
theorem ef_own_po1 (m : MethodId) (x0 : Nat) : entryFrame m #[(.ref x0)] 1 = mkF m 0 #[vr x0] [] := by first | (simp [entryFrame, mkF, argsToLocals, Value.category]; done) | rfl
theorem d51_13 : decode own_c51 13 = .ok (.aload_n 0, 1) := by decide +kernel
theorem d51_14 : decode own_c51 14 = .ok (.aload_n 0, 1) := by decide +kernel
theorem d51_15 : decode own_c51 15 = .ok (.getfield 10, 3) := by decide +kernel
theorem d51_18 : decode own_c51 18 = .ok (.invokevirtual 74, 3) := by decide +kernel
theorem d51_21 : decode own_c51 21 = .ok (.checkcast 42, 3) := by decide +kernel
theorem d51_24 : decode own_c51 24 = .ok (.invokevirtual 66, 3) := by decide +kernel
theorem pd_26 : parseMethodDescriptor "()J" = some ⟨[], some .long⟩ := by decide +kernel
theorem d51_27 : decode own_c51 27 = .ok (.invokevirtual 70, 3) := by decide +kernel
theorem pd_27 : parseMethodDescriptor "(J)Ljava/lang/Object;" = some ⟨[.long], some (.object "java/lang/Object")⟩ := by decide +kernel
set_option maxRecDepth 65536 in
set_option maxHeartbeats 40000000 in
theorem own_po1 (l : Launch) (Z : State) (a0 : Array Value) (hW : own_W Z a0) (q1 : Nat) (dp : Int64) (n B : Nat) (h0 : Heap) (n0 : Nat) (Z0 : n0 ≤ h0.size) (O0 : Old Z n0 h0) (A1 : own_AQ Z h0 n0 q1 dp (n + 1) B) (hB : B ≤ 15) (hn : n ≤ 3) :
    own_MH l own_y53 own_c51 1 (some (.object "java/lang/Object")) (own_r 6 2 2 124) #[(.ref q1)] Z h0 (own_po1_Q Z q1 dp n B h0 n0) := by
  refine own_enterH (own := "com/example/capow/capow/service/AdmissionQueue") rfl (plainFor_of_name pn_com_example_capow_capow_service_AdmissionQueue) (fun m => ef_own_po1 m q1) ?_
  intro p e s m below meth c s₁ Bd hZH hh hx hby hml hown hnm X0 e0
  have hZ := hZH.wide
  have Y := And.intro hx hby
  have hw := hW.1
  have N0 := Fr.nil n0
  have K0 := Keep.refl h0 []
  obtain ⟨tm, bd, bt, cb, M, gq, E1, F1, F2, F3, F4, T1, D1, hp, hs⟩ := id A1
  obtain ⟨T11, X11, e11, st11⟩ := own_gF X0 Y hZ hown (tw_ hw 56 rfl) e0 F4 (g := (mkF m 1 #[vr q1] [(.ref q1)])) rfl rfl d51_1
  refine own_gs ?_ (own_go st11 ?_)
  · exact own_a X0 Y d51_0 rfl rfl (Steps.refl _)
  obtain ⟨T12, X12, e12, st12⟩ := own_gF X11 Y hZ hown (tw_ hw 28 rfl) e11 F1 (g := (mkF m 15 #[vr q1] [(.ref q1), (.ref q1)])) rfl rfl d51_15
  refine own_gs ?_ (own_go st12 ?_)
  · refine XS.lconst X11.here hx rfl (hb hby d51_4) ?_
    refine XS.lcmp X11.here hx rfl (hb hby d51_5) rfl ?_
    refine XS.ifYes X11.here hx rfl (pc0 := 6) (pc' := 13) rfl (hb hby d51_6) rfl ((if0 _ _).trans (feq ((own_neq64 (own_o64n (Nat.succ_pos _) (by omega))) : ¬ ((lcmpW (Int64.ofNat (n + 1)) (0 : Int64)) = (0 : Int32)))).2) (by decide) (by decide) ?_
    refine own_a X11 Y d51_13 rfl rfl ?_
    exact own_a X11 Y d51_14 rfl rfl (Steps.refl _)
  obtain ⟨x6, d6, t6, c6, M6, T6, D6, hp6, hs6⟩ := own_last T1 D1 hp hs
  obtain ⟨v13, T13, Lc13, X13, hQ13, st13⟩ := own_virt (own_lk l Z a0 hW tm d6 x6 (own_kd M6) h0 n0 Z0 O0 T6) X12 Y hZH hown (tw_ hw 240 rfl) (tw_ hw 241 rfl) (tw_ hw 243 rfl) (tw_ hw 242 rfl) (tw_ hw 244 rfl) (tw_ hw 11 rfl) (by decide) e12 (own_Tr.ex T6) (g := (mkF m 18 #[vr q1] [(.ref tm), (.ref q1)])) rfl hml.symm (argsL := []) (rest := [(.ref q1)]) (lenOf pd_6 rfl) rfl d51_18
  obtain ⟨k13, rfl, Kx13, Nq13, eh13⟩ := hQ13
  rw [eh13] at Kx13
  have N13 := Fr.app N0 Nq13
  refine own_gs st13 ?_
  obtain ⟨T14, X14, e14, st14⟩ := castY X13 hx hZ hown (tw_ hw 253 rfl) eh13 (Ins.self Kx13.1) (g := (mkF m 21 #[vr q1] [(.ref k13), (.ref q1)])) rfl rfl (hb hby d51_21)
  refine own_go st14 ?_
  obtain ⟨v15, T15, Lc15, X15, hQ15, st15⟩ := own_virt (own_lv l Z a0 hW k13 x6 h0 n0 Z0 O0 Kx13.1 Kx13.2) X14 Y hZH hown (tw_ hw 254 rfl) (tw_ hw 255 rfl) (tw_ hw 257 rfl) (tw_ hw 256 rfl) (tw_ hw 258 rfl) (tw_ hw 85 rfl) (by decide) e14 Kx13.1 (g := (mkF m 24 #[vr q1] [(.ref k13), (.ref q1)])) rfl hml.symm (argsL := []) (rest := [(.ref q1)]) (lenOf pd_26 rfl) rfl d51_24
  obtain ⟨rfl, Nq15, eh15⟩ := hQ15
  have N15 := Fr.app N13 Nq15
  refine own_gs st15 ?_
  obtain ⟨v16, T16, Lc16, X16, hQ16, st16⟩ := own_priv (own_rf l Z a0 hW q1 x6 dp n B h0 n0 Z0 O0 ⟨tm, bd, bt, _, M6, [], d6, t6, c6, gq, E1, F1, F2, F3, F4, T6, D6, hp6, hs6, Or.inr rfl⟩ (by omega) (by omega)) X15 Y hZH hown (tw_ hw 259 rfl) (tw_ hw 260 rfl) (tw_ hw 261 rfl) (own_nf (notFace_of_selects (tw_ hw 54 rfl)) (tw_ hw 53 rfl) rfl) (tw_ hw 262 rfl) (tw_ hw 2 rfl) (by decide) eh15 E1 (g := (mkF m 27 #[vr q1] [(.long x6), (.ref q1)])) rfl hml.symm (argsL := [(.long x6)]) (rest := []) (lenOf pd_27 rfl) rfl d51_27
  obtain ⟨A9, ⟨r9, rfl⟩, Nq16, O16, Zz16⟩ := hQ16
  have N16 := Fr.app N15 Nq16
  refine own_gs st16 ?_
  exact own_rA X16 Bd rfl (v := (.ref r9)) rfl (hb hby d51_30) rfl (⟨A9, ⟨_, rfl, rfl⟩, N16, O16, Zz16⟩) rfl rfl
theorem own_pol (l : Launch) (Z : State) (a0 : Array Value) (hW : own_W Z a0) (q1 : Nat) (dp : Int64) (n B : Nat) (h0 : Heap) (n0 : Nat) (Z0 : n0 ≤ h0.size) (O0 : Old Z n0 h0) (A1 : own_AQ Z h0 n0 q1 dp n B) (hB : B ≤ 15) (hn : n ≤ 3) :
    own_MH l own_y53 own_c51 1 (some (.object "java/lang/Object")) (own_r 6 2 2 124) #[.ref q1] Z h0 (fun v h L => own_AQ Z h n0 q1 dp (n - 1) B ∧ (∃ vv : Value, v = some vv ∧ vv.category = 1) ∧ Fr n0 L ∧ Old Z n0 h ∧ n0 ≤ h.size) := by
  rcases n with _ | n
  · exact own_po0 l Z a0 hW q1 dp B h0 n0 Z0 O0 A1 hB
  · exact own_po1 l Z a0 hW q1 dp n B h0 n0 Z0 O0 A1 hB (by omega)
abbrev own_c52 : ByteArray := prog_37_method_2_code
def own_add_Q (Z : State) (q1 r1 : Nat) (e1 t1 dp : Int64) (n B : Nat) (h0 : Heap) (n0 : Nat) (v : Option Value) (h : Heap) (L : List Loc) : Prop := ∃ n' : Nat, own_AQ Z h n0 q1 dp n' (B + 2) ∧ ((n' = n + 1 ∧ ¬ dp < Int64.ofNat (n + 1)) ∨ (n' = n ∧ dp < Int64.ofNat (n + 1))) ∧ (∃ vv : Value, v = some vv ∧ vv.category = 1) ∧ Fr n0 L ∧ Old Z n0 h ∧ n0 ≤ h.size
theorem ef_own_add (m : MethodId) (x0 : Nat) (x1 : Int64) (x2 : Int64) (x3 : Nat) : entryFrame m #[(.ref x0), (.long x1), (.long x2), (.ref x3)] 8 = mkF m 0 #[vr x0, vj x1, .second, vj x2, .second, vr x3, .unset, .unset] [] := by first | (simp [entryFrame, mkF, argsToLocals, Value.category]; done) | rfl
abbrev own_y54 : MethodName := ⟨"com/example/capow/capow/service/AdmissionQueue", "add", "(JJLjava/lang/Object;)Ljava/lang/Object;"⟩
theorem d52_0 : decode own_c52 0 = .ok (.new 36, 3) := by decide +kernel
theorem d52_3 : decode own_c52 3 = .ok (.dup, 1) := by decide +kernel
theorem d52_4 : decode own_c52 4 = .ok (.aload 5, 2) := by decide +kernel
theorem d52_6 : decode own_c52 6 = .ok (.lload_n 1, 1) := by decide +kernel
theorem d52_7 : decode own_c52 7 = .ok (.lload_n 3, 1) := by decide +kernel
theorem d52_8 : decode own_c52 8 = .ok (.invokespecial 38, 3) := by decide +kernel
theorem pd_28 : parseMethodDescriptor "(Ljava/lang/Object;JJ)V" = some ⟨[(.object "java/lang/Object"), .long, .long], none⟩ := by decide +kernel
theorem d52_11 : decode own_c52 11 = .ok (.astore 6, 2) := by decide +kernel
theorem d52_13 : decode own_c52 13 = .ok (.aload_n 0, 1) := by decide +kernel
theorem d52_14 : decode own_c52 14 = .ok (.getfield 10, 3) := by decide +kernel
theorem d52_17 : decode own_c52 17 = .ok (.lload_n 1, 1) := by decide +kernel
theorem d52_18 : decode own_c52 18 = .ok (.invokestatic 41, 3) := by decide +kernel
theorem d52_21 : decode own_c52 21 = .ok (.invokedynamic 47, 5) := by decide +kernel
theorem d52_26 : decode own_c52 26 = .ok (.invokevirtual 51, 3) := by decide +kernel
theorem d52_29 : decode own_c52 29 = .ok (.checkcast 16, 3) := by decide +kernel
theorem d52_32 : decode own_c52 32 = .ok (.aload 6, 2) := by decide +kernel
theorem d52_34 : decode own_c52 34 = .ok (.invokevirtual 55, 3) := by decide +kernel
theorem pd_29 : parseMethodDescriptor "(Ljava/lang/Object;)V" = some ⟨[(.object "java/lang/Object")], none⟩ := by decide +kernel
theorem d52_37 : decode own_c52 37 = .ok (.aload_n 0, 1) := by decide +kernel
theorem d52_38 : decode own_c52 38 = .ok (.getfield 19, 3) := by decide +kernel
theorem d52_41 : decode own_c52 41 = .ok (.aload 6, 2) := by decide +kernel
theorem d52_43 : decode own_c52 43 = .ok (.invokevirtual 55, 3) := by decide +kernel
theorem d52_46 : decode own_c52 46 = .ok (.aload_n 0, 1) := by decide +kernel
theorem d52_47 : decode own_c52 47 = .ok (.dup, 1) := by decide +kernel
theorem d52_48 : decode own_c52 48 = .ok (.getfield 59, 3) := by decide +kernel
theorem d52_51 : decode own_c52 51 = .ok (.lconst 1, 1) := by decide +kernel
theorem d52_52 : decode own_c52 52 = .ok (.ladd, 1) := by decide +kernel
theorem d52_53 : decode own_c52 53 = .ok (.putfield 59, 3) := by decide +kernel
theorem d52_56 : decode own_c52 56 = .ok (.aconst_null, 1) := by decide +kernel
theorem d52_57 : decode own_c52 57 = .ok (.astore 7, 2) := by decide +kernel
theorem d52_59 : decode own_c52 59 = .ok (.aload_n 0, 1) := by decide +kernel
theorem d52_60 : decode own_c52 60 = .ok (.getfield 59, 3) := by decide +kernel
theorem d52_63 : decode own_c52 63 = .ok (.aload_n 0, 1) := by decide +kernel
theorem d52_64 : decode own_c52 64 = .ok (.getfield 32, 3) := by decide +kernel
theorem d52_67 : decode own_c52 67 = .ok (.lcmp, 1) := by decide +kernel
theorem d52_68 : decode own_c52 68 = .ok (.ifCond .le 22, 3) := by decide +kernel
theorem d52_71 : decode own_c52 71 = .ok (.aload_n 0, 1) := by decide +kernel
theorem d52_72 : decode own_c52 72 = .ok (.aload_n 0, 1) := by decide +kernel
theorem d52_73 : decode own_c52 73 = .ok (.getfield 10, 3) := by decide +kernel
theorem d52_76 : decode own_c52 76 = .ok (.invokevirtual 62, 3) := by decide +kernel
theorem d52_79 : decode own_c52 79 = .ok (.checkcast 42, 3) := by decide +kernel
theorem d52_82 : decode own_c52 82 = .ok (.invokevirtual 66, 3) := by decide +kernel
theorem d52_85 : decode own_c52 85 = .ok (.invokevirtual 70, 3) := by decide +kernel
theorem d52_88 : decode own_c52 88 = .ok (.astore 7, 2) := by decide +kernel
theorem d52_90 : decode own_c52 90 = .ok (.aload 7, 2) := by decide +kernel
theorem d52_92 : decode own_c52 92 = .ok (.areturn, 1) := by decide +kernel
set_option maxRecDepth 65536 in
set_option maxHeartbeats 40000000 in
theorem own_add (l : Launch) (Z : State) (a0 : Array Value) (hW : own_W Z a0) (q1 r1 : Nat) (e1 t1 dp : Int64) (n B : Nat) (h0 : Heap) (n0 : Nat) (Z0 : n0 ≤ h0.size) (O0 : Old Z n0 h0) (A1 : own_AQ Z h0 n0 q1 dp n B) (hB : B ≤ 10) (hn : n ≤ 2) :
    own_MH l own_y54 own_c52 8 (some (.object "java/lang/Object")) (own_r 7 7 33 3082) #[(.ref q1), (.long e1), (.long t1), (.ref r1)] Z h0 (own_add_Q Z q1 r1 e1 t1 dp n B h0 n0) := by
  refine own_enterH (own := "com/example/capow/capow/service/AdmissionQueue") rfl (plainFor_of_name pn_com_example_capow_capow_service_AdmissionQueue) (fun m => ef_own_add m q1 e1 t1 r1) ?_
  intro p e s m below meth c s₁ Bd hZH hh hx hby hml hown hnm X0 e0
  have hZ := hZH.wide
  have Y := And.intro hx hby
  have hw := hW.1
  have N0 := Fr.nil n0
  have K0 := Keep.refl h0 [q1]
  obtain ⟨tm, bd, bt, cb, M, gq, E1, F1, F2, F3, F4, T1, D1, hp, hs⟩ := id A1
  have lt1 := own_lt E1.lt
  obtain ⟨T11, h11, X11, e11, E11, A11, D11, -, st11⟩ := newO X0 hx hZ hown (tw_ hw 70 rfl) (tw_ hw 71 rfl) (tw_ hw 72 rfl) e0 (g := (mkF m 0 #[vr q1, vj e1, ss, vj t1, ss, vr r1, uu, uu] [])) rfl (hb hby d52_0) (by decide) (by decide)
  obtain ⟨b11, g11⟩ : ∃ z, z = h0.size := ⟨_, rfl⟩
  rw [← g11] at A11 D11 st11
  have lt11 := own_lt A11.lt
  refine own_go st11 ?_
  have z12 := E11.1
  have Zz12 := Nat.le_trans Z0 z12
  have K12 := K0.ext E11
  have O12 := O0.ext E11
  have F11_request : Fld Z h11 b11 "com/example/capow/capow/service/AdmissionQueue$Entry" "request" "Ljava/lang/Object;" .null := D11 (Or.inr (tw_ hw 78 rfl)) (ty := (.object "java/lang/Object")) (by decide)
  have F11_effort : Fld Z h11 b11 "com/example/capow/capow/service/AdmissionQueue$Entry" "effort" "J" (.long (0 : Int64)) := D11 (Or.inr (tw_ hw 80 rfl)) (ty := .long) (by decide)
  have F11_arrivalMillis : Fld Z h11 b11 "com/example/capow/capow/service/AdmissionQueue$Entry" "arrivalMillis" "J" (.long (0 : Int64)) := D11 (Or.inr (tw_ hw 82 rfl)) (ty := .long) (by decide)
  have F11_removed : Fld Z h11 b11 "com/example/capow/capow/service/AdmissionQueue$Entry" "removed" "Z" (.int (0 : Int32)) := D11 (Or.inl (tw_ hw 304 rfl)) (ty := .boolean) (by decide)
  obtain ⟨v13, T13, Lc13, X13, hQ13, st13⟩ := own_make (own_eni l Z a0 hW b11 r1 e1 t1 h11 n0 Zz12 O12 A11 F11_request F11_effort F11_arrivalMillis F11_removed (by omega)) X11 Y hZH hown (tw_ hw 73 rfl) (tw_ hw 74 rfl) (tw_ hw 75 rfl) (tw_ hw 72 rfl) (by decide) rfl e11 (a := b11) (g := (mkF m 8 #[vr q1, vj e1, ss, vj t1, ss, vr r1, uu, uu] [(.long t1), (.long e1), (.ref r1), (.ref b11), (.ref b11)])) rfl hml.symm (argsL := [(.ref r1), (.long e1), (.long t1)]) (rest := [(.ref b11)]) (lenOf pd_28 rfl) rfl d52_8
  obtain ⟨rfl, Nq13, Kq13, Et13⟩ := hQ13
  have N13 := Fr.app N0 Nq13
  obtain ⟨z14, Zz14, K14, O14⟩ := own_eK Kq13 Zz12 K12 O12 (allS (Or.inr (by omega)) all0) (allS (by omega) all0)
  refine own_gs ?_ (own_gs st13 ?_)
  · refine own_du X11 Y d52_3 rfl rfl ?_
    refine own_al X11 Y d52_4 rfl rfl ?_
    refine XS.lloadN X11.here hx rfl (hb hby d52_6) rfl ?_
    exact XS.lloadN X11.here hx rfl (hb hby d52_7) rfl (Steps.refl _)
  have f17 := ((E1.ext E11).keep Kq13)
  have f18 := (A11.keep Kq13)
  have nc16 : own_Ne q1 b11 := ne_exa f17 f18 (by decide)
  have f19 := ((F1.ext E11).keep Kq13 (ninS nc16 nin0))
  obtain ⟨T15, X15, e15, st15⟩ := own_gF X13 Y hZ hown (tw_ hw 28 rfl) rfl f19 (g := (mkF m 14 #[vr q1, vj e1, ss, vj t1, ss, vr r1, vr b11, uu] [(.ref q1)])) rfl rfl d52_14
  refine own_gs ?_ (own_go st15 ?_)
  · refine XS.astore X13.here hx rfl (hb hby d52_11) rfl rfl (l' := #[vr q1, vj e1, ss, vj t1, ss, vr r1, vr b11, uu]) rfl ?_
    exact own_a X13 Y d52_13 rfl rfl (Steps.refl _)
  obtain ⟨v20, T20, Lc20, X20, hQ20, st20⟩ := own_stat (own_lvo l Z a0 hW e1 T13.heap n0 Zz14 O14) X15 Y hZH hown (tw_ hw 83 rfl) (tw_ hw 84 rfl) (tw_ hw 86 rfl) (tw_ hw 85 rfl) (by decide) e15 (g := (mkF m 18 #[vr q1, vj e1, ss, vj t1, ss, vr r1, vr b11, uu] [(.long e1), (.ref tm)])) rfl hml.symm (argsL := [(.long e1)]) (rest := [(.ref tm)]) (lenOf pd_23 rfl) rfl d52_18
  obtain ⟨k20, rfl, Nq20, Kq20, Ek20, Fk20⟩ := hQ20
  have N20 := Fr.app N13 Nq20
  obtain ⟨z21, Zz21, K21, O21⟩ := own_eK Kq20 Zz14 K14 O14 all0 all0
  refine own_gs ?_ (own_gs st20 ?_)
  · exact XS.lloadN X15.here hx rfl (hb hby d52_17) rfl (Steps.refl _)
  obtain ⟨f1, cK, hm, hfn, st22⟩ := LamKit.own_site X20 hx hZH (x := own_y54) (σ := own_sh) Bd.named (tw_ hw 103 rfl) rfl (g := (mkF m 21 #[vr q1, vj e1, ss, vj t1, ss, vr r1, vr b11, uu] [(.ref k20), (.ref tm)])) rfl rfl hml.symm (hb hby d52_21) (own_le rfl)
  refine own_go st22 ?_
  have f23 := (f17.keep Kq20)
  have f24 := (f19.keep Kq20 nin0)
  have f25 := (((F2.ext E11).keep Kq13 (ninS nc16 nin0)).keep Kq20 nin0)
  have f26 := (((F3.ext E11).keep Kq13 (ninS nc16 nin0)).keep Kq20 nin0)
  have f27 := (((F4.ext E11).keep Kq13 (ninS nc16 nin0)).keep Kq20 nin0)
  have f28 := (Et13.keep Kq20 nin0)
  have T2 := own_Tr.keep T1 K21 (own_off.one E1 (by decide))
  have D2 := own_Ds.one hw D1 K21 (own_Go.one K21 E1 (by decide)) (Or.inl E1)
  obtain ⟨v29, T29, Lc29, X29, hQ29, st29⟩ := own_virt (own_cia l Z a0 hW tm k20 f1 e1 cK (own_kd M) T20.heap n0 Zz21 O21 T2 (Nat.le_trans (own_len hp) (by omega)) ⟨Ek20, Fk20⟩ hm hfn) X20 Y hZH hown (tw_ hw 106 rfl) (tw_ hw 107 rfl) (tw_ hw 109 rfl) (tw_ hw 108 rfl) (tw_ hw 110 rfl) (tw_ hw 11 rfl) (by decide) rfl (own_Tr.ex T2) (g := (mkF m 26 #[vr q1, vj e1, ss, vj t1, ss, vr r1, vr b11, uu] [(.ref f1), (.ref k20), (.ref tm)])) rfl hml.symm (argsL := [(.ref k20), (.ref f1)]) (rest := []) (lenOf pd_17 rfl) rfl d52_26
  obtain ⟨A3, R3, d3, t3, c3, rfl, Nq29, KT29, T3, D3, hp3, hs3⟩ := own_CI.join hw Zz21 D2 hp hQ29
  have N29 := Fr.app N20 Nq29
  have O29 := own_KT.old KT29 O21
  have Zz29 := Nat.le_trans Zz21 (own_KT.size KT29)
  have Eq29 := own_KT.exa KT29 f23
  have Q3 := own_Ds.at (A := (bd, bt, cb) :: own_dd A3) D3
  refine own_gs st29 ?_
  obtain ⟨T30, X30, e30, st30⟩ := castY X29 hx hZ hown (tw_ hw 30 rfl) rfl (Ins.self (own_Qd.ex Q3)) (g := (mkF m 29 #[vr q1, vj e1, ss, vj t1, ss, vr r1, vr b11, uu] [(.ref d3)])) rfl rfl (hb hby d52_29)
  refine own_go st30 ?_
  obtain ⟨v31, T31, Lc31, X31, hQ31, st31⟩ := own_virt (own_adlQ l Z a0 hW d3 t3 c3 B b11 T29.heap n0 Zz29 O29 Q3 (by omega) (own_Go.kt KT29 _ f28)) X30 Y hZH hown (tw_ hw 172 rfl) (tw_ hw 173 rfl) (tw_ hw 175 rfl) (tw_ hw 174 rfl) (tw_ hw 176 rfl) (tw_ hw 32 rfl) (by decide) e30 (own_Qd.ex Q3) (g := (mkF m 34 #[vr q1, vj e1, ss, vj t1, ss, vr r1, vr b11, uu] [(.ref b11), (.ref d3)])) rfl hml.symm (argsL := [(.ref b11)]) (rest := []) (lenOf pd_29 rfl) rfl d52_34
  obtain ⟨rfl, Nq31, Kq31, Gq31, Qq31⟩ := hQ31
  have N31 := Fr.app N29 Nq31
  have Ds31 := own_Ds.upd hw (A := (bd, bt, cb) :: own_dd A3) D3 Kq31 Gq31 Qq31 (Nat.le_succ _)
  have Tr31 := own_Tr.keep T3 Kq31 (own_Qd.off hw Q3)
  have ni31 := own_Qd.ninQ hw Q3 Eq29
  obtain ⟨z31, Zz31, O31⟩ := own_eK0 Kq31 Zz29 O29 (allS (own_Qd.ge Q3).1 (allS (own_Qd.ge Q3).2 all0))
  refine own_gs ?_ (own_gs st31 ?_)
  · exact own_al X30 Y d52_32 rfl rfl (Steps.refl _)
  obtain ⟨T32, X32, e32, st32⟩ := own_gF X31 Y hZ hown (tw_ hw 47 rfl) rfl ((own_KT.fld KT29 f25 f23 (by decide) (by decide)).keep Kq31 ni31) (g := (mkF m 38 #[vr q1, vj e1, ss, vj t1, ss, vr r1, vr b11, uu] [(.ref q1)])) rfl rfl d52_38
  refine own_gs ?_ (own_go st32 ?_)
  · exact own_a X31 Y d52_37 rfl rfl (Steps.refl _)
  have QB33 := own_Ds.at (A := []) Ds31
  obtain ⟨v34, T34, Lc34, X34, hQ34, st34⟩ := own_virt (own_adlQ l Z a0 hW bd bt cb (B + 1) b11 T31.heap n0 Zz31 O31 QB33 (by omega) (Gq31 _ (own_Go.kt KT29 _ f28))) X32 Y hZH hown (tw_ hw 172 rfl) (tw_ hw 173 rfl) (tw_ hw 175 rfl) (tw_ hw 174 rfl) (tw_ hw 176 rfl) (tw_ hw 32 rfl) (by decide) e32 (own_Qd.ex QB33) (g := (mkF m 43 #[vr q1, vj e1, ss, vj t1, ss, vr r1, vr b11, uu] [(.ref b11), (.ref bd)])) rfl hml.symm (argsL := [(.ref b11)]) (rest := []) (lenOf pd_29 rfl) rfl d52_43
  obtain ⟨rfl, Nq34, Kq34, Gq34, Qq34⟩ := hQ34
  have N34 := Fr.app N31 Nq34
  have Ds34 := own_Ds.upd hw (A := []) Ds31 Kq34 Gq34 Qq34 (Nat.le_succ _)
  have Tr34 := own_Tr.keep Tr31 Kq34 (own_Qd.off hw QB33)
  have ni34 := own_Qd.ninQ hw QB33 (Eq29.keep Kq31)
  obtain ⟨z34, Zz34, O34⟩ := own_eK0 Kq34 Zz31 O31 (allS (own_Qd.ge QB33).1 (allS (own_Qd.ge QB33).2 all0))
  refine own_gs ?_ (own_gs st34 ?_)
  · exact own_al X32 Y d52_41 rfl rfl (Steps.refl _)
  obtain ⟨T35, X35, e35, st35⟩ := own_gF X34 Y hZ hown (tw_ hw 56 rfl) rfl (((own_KT.fld KT29 f27 f23 (by decide) (by decide)).keep Kq31 ni31).keep Kq34 ni34) (g := (mkF m 48 #[vr q1, vj e1, ss, vj t1, ss, vr r1, vr b11, uu] [(.ref q1), (.ref q1)])) rfl rfl d52_48
  refine own_gs ?_ (own_go st35 ?_)
  · refine own_a X34 Y d52_46 rfl rfl ?_
    exact own_du X34 Y d52_47 rfl rfl (Steps.refl _)
  refine own_gs (cur' := T35.setTop (mkF m 53 #[vr q1, vj e1, ss, vj t1, ss, vr r1, vr b11, uu] [(.long ((Int64.ofNat n) + (1 : Int64))), (.ref q1)])) ?_ ?_
  · refine XS.lconst X35.here hx rfl (hb hby d52_51) ?_
    exact XS.ladd X35.here hx rfl (hb hby d52_52) rfl (Steps.refl _)
  rw [own_s1]
  show own_Fin p e below (T35.setTop (mkF m 53 #[vr q1, vj e1, ss, vj t1, ss, vr r1, vr b11, uu] [(.long (Int64.ofNat (n + 1))), (.ref q1)])) _
  obtain ⟨T36, h36, X36, e36, W36, st36⟩ := own_pF X35 Y hZ hown (tw_ hw 56 rfl) e35 (((own_KT.fld KT29 f27 f23 (by decide) (by decide)).keep Kq31 ni31).keep Kq34 ni34) ((Eq29.keep Kq31).keep Kq34) (tw_ hw 57 rfl) (tw_ hw 1 rfl) (ty := .long) (by decide) rfl rfl (g := (mkF m 53 #[vr q1, vj e1, ss, vj t1, ss, vr r1, vr b11, uu] [(.long (Int64.ofNat (n + 1))), (.ref q1)])) rfl rfl d52_53
  have F36 := (((own_KT.fld KT29 f27 f23 (by decide) (by decide)).keep Kq31 ni31).keep Kq34 ni34).same W36
  refine own_go st36 ?_
  obtain ⟨z37, Zz37, O37, N37⟩ := own_eW0 W36 Zz34 O34 N34 gq
  have Go38 : own_Go Z n0 _ _ := own_Go.one (Keep.of_wr W36) ((Eq29.keep Kq31).keep Kq34) (by decide)
  have Tr38 := own_Tr.keep Tr34 (Keep.of_wr W36) (own_off.one ((Eq29.keep Kq31).keep Kq34) (by decide))
  have Ds38 := own_Ds.one hw Ds34 (Keep.of_wr W36) Go38 (Or.inl ((Eq29.keep Kq31).keep Kq34))
  obtain ⟨T39, X39, e39, st39⟩ := own_gF X36 Y hZ hown (tw_ hw 56 rfl) e36 F36 (g := (mkF m 60 #[vr q1, vj e1, ss, vj t1, ss, vr r1, vr b11, vn] [(.ref q1)])) rfl rfl d52_60
  refine own_gs ?_ (own_go st39 ?_)
  · refine XS.aconstNull X36.here hx rfl (hb hby d52_56) ?_
    refine XS.astore X36.here hx rfl (hb hby d52_57) rfl rfl (l' := #[vr q1, vj e1, ss, vj t1, ss, vr r1, vr b11, vn]) rfl ?_
    exact own_a X36 Y d52_59 rfl rfl (Steps.refl _)
  have f41 := ((((own_KT.fld KT29 f26 f23 (by decide) (by decide)).keep Kq31 ni31).keep Kq34 ni34).other W36 (Or.inr (slot_ne (Or.inr (tw_ hw 50 rfl)) (Or.inl (tw_ hw 57 rfl)) (by decide) (t := .long) (t' := .long) (by decide) (by decide))))
  obtain ⟨T40, X40, e40, st40⟩ := own_gF X39 Y hZ hown (tw_ hw 49 rfl) e39 f41 (g := (mkF m 64 #[vr q1, vj e1, ss, vj t1, ss, vr r1, vr b11, vn] [(.ref q1), (.long (Int64.ofNat (n + 1)))])) rfl rfl d52_64
  refine own_gs ?_ (own_go st40 ?_)
  · exact own_a X39 Y d52_63 rfl rfl (Steps.refl _)
  refine own_gs (cur' := T40.setTop (mkF m 68 #[vr q1, vj e1, ss, vj t1, ss, vr r1, vr b11, vn] [(.int (lcmpW (Int64.ofNat (n + 1)) dp))])) ?_ ?_
  · exact XS.lcmp X40.here hx rfl (hb hby d52_67) rfl (Steps.refl _)
  by_cases hc68_42 : dp < (Int64.ofNat (n + 1))
  · have f44 := ((((own_KT.fld KT29 f24 f23 (by decide) (by decide)).keep Kq31 ni31).keep Kq34 ni34).other W36 (Or.inr (slot_ne (Or.inr (tw_ hw 29 rfl)) (Or.inl (tw_ hw 57 rfl)) (by decide) (t := (.object "java/util/TreeMap")) (t' := .long) (by decide) (by decide))))
    obtain ⟨T43, X43, e43, st43⟩ := own_gF X40 Y hZ hown (tw_ hw 28 rfl) e40 f44 (g := (mkF m 73 #[vr q1, vj e1, ss, vj t1, ss, vr r1, vr b11, vn] [(.ref q1), (.ref q1)])) rfl rfl d52_73
    refine own_gs ?_ (own_go st43 ?_)
    · refine XS.ifNo X40.here hx rfl (hb hby d52_68) rfl ((if0 _ _).trans (tlt ((own_gt64 hc68_42) : (0 : Int32) < (lcmpW (Int64.ofNat (n + 1)) dp))).2.2.2) ?_
      refine own_a X40 Y d52_71 rfl rfl ?_
      exact own_a X40 Y d52_72 rfl rfl (Steps.refl _)
    obtain ⟨x6, d6, t6, c6, M6, T6, D6, hp6, hs6⟩ := own_first Tr38 Ds38 hp3 (hs3.symm.trans hs)
    obtain ⟨v45, T45, Lc45, X45, hQ45, st45⟩ := own_virt (own_fk l Z a0 hW tm d6 x6 (own_kd M6) h36 n0 Zz37 O37 T6) X43 Y hZH hown (tw_ hw 327 rfl) (tw_ hw 328 rfl) (tw_ hw 330 rfl) (tw_ hw 329 rfl) (tw_ hw 331 rfl) (tw_ hw 11 rfl) (by decide) e43 (own_Tr.ex T6) (g := (mkF m 76 #[vr q1, vj e1, ss, vj t1, ss, vr r1, vr b11, vn] [(.ref tm), (.ref q1)])) rfl hml.symm (argsL := []) (rest := [(.ref q1)]) (lenOf pd_6 rfl) rfl d52_76
    obtain ⟨k45, rfl, Kx45, Nq45, eh45⟩ := hQ45
    rw [eh45] at Kx45
    have N45 := Fr.app N37 Nq45
    refine own_gs st45 ?_
    obtain ⟨T46, X46, e46, st46⟩ := castY X45 hx hZ hown (tw_ hw 253 rfl) eh45 (Ins.self Kx45.1) (g := (mkF m 79 #[vr q1, vj e1, ss, vj t1, ss, vr r1, vr b11, vn] [(.ref k45), (.ref q1)])) rfl rfl (hb hby d52_79)
    refine own_go st46 ?_
    obtain ⟨v47, T47, Lc47, X47, hQ47, st47⟩ := own_virt (own_lv l Z a0 hW k45 x6 h36 n0 Zz37 O37 Kx45.1 Kx45.2) X46 Y hZH hown (tw_ hw 254 rfl) (tw_ hw 255 rfl) (tw_ hw 257 rfl) (tw_ hw 256 rfl) (tw_ hw 258 rfl) (tw_ hw 85 rfl) (by decide) e46 Kx45.1 (g := (mkF m 82 #[vr q1, vj e1, ss, vj t1, ss, vr r1, vr b11, vn] [(.ref k45), (.ref q1)])) rfl hml.symm (argsL := []) (rest := [(.ref q1)]) (lenOf pd_26 rfl) rfl d52_82
    obtain ⟨rfl, Nq47, eh47⟩ := hQ47
    have N47 := Fr.app N45 Nq47
    refine own_gs st47 ?_
    have f48 := (((Eq29.keep Kq31).keep Kq34).wr W36)
    have f49 := ((((own_KT.fld KT29 f25 f23 (by decide) (by decide)).keep Kq31 ni31).keep Kq34 ni34).other W36 (Or.inr (slot_ne (Or.inr (tw_ hw 48 rfl)) (Or.inl (tw_ hw 57 rfl)) (by decide) (t := (.object "java/util/ArrayDeque")) (t' := .long) (by decide) (by decide))))
    obtain ⟨v50, T50, Lc50, X50, hQ50, st50⟩ := own_priv (own_rf l Z a0 hW q1 x6 dp n (B + 2) h36 n0 Zz37 O37 ⟨tm, bd, bt, _, [], M6, d6, t6, c6, gq, f48, f44, f49, f41, F36, T6, D6, hp6, hs6, Or.inl rfl⟩ (by omega) (by omega)) X47 Y hZH hown (tw_ hw 259 rfl) (tw_ hw 260 rfl) (tw_ hw 261 rfl) (own_nf (notFace_of_selects (tw_ hw 54 rfl)) (tw_ hw 53 rfl) rfl) (tw_ hw 262 rfl) (tw_ hw 2 rfl) (by decide) eh47 f48 (g := (mkF m 85 #[vr q1, vj e1, ss, vj t1, ss, vr r1, vr b11, vn] [(.long x6), (.ref q1)])) rfl hml.symm (argsL := [(.long x6)]) (rest := []) (lenOf pd_27 rfl) rfl d52_85
    obtain ⟨A9, ⟨r9, rfl⟩, Nq50, O50, Zz50⟩ := hQ50
    have N50 := Fr.app N47 Nq50
    refine own_gs st50 ?_
    refine own_gs (cur' := T50.setTop (mkF m 92 #[vr q1, vj e1, ss, vj t1, ss, vr r1, vr b11, vr r9] [(.ref r9)])) ?_ ?_
    · refine XS.astore X50.here hx rfl (hb hby d52_88) rfl rfl (l' := #[vr q1, vj e1, ss, vj t1, ss, vr r1, vr b11, vr r9]) rfl ?_
      exact own_al X50 Y d52_90 rfl rfl (Steps.refl _)
    exact own_rA X50 Bd rfl (v := (.ref r9)) rfl (hb hby d52_92) rfl (⟨_, A9, Or.inr ⟨rfl, hc68_42⟩, ⟨_, rfl, rfl⟩, N50, O50, Zz50⟩) rfl rfl
  · have f51 := (((Eq29.keep Kq31).keep Kq34).wr W36)
    have f52 := ((((own_KT.fld KT29 f24 f23 (by decide) (by decide)).keep Kq31 ni31).keep Kq34 ni34).other W36 (Or.inr (slot_ne (Or.inr (tw_ hw 29 rfl)) (Or.inl (tw_ hw 57 rfl)) (by decide) (t := (.object "java/util/TreeMap")) (t' := .long) (by decide) (by decide))))
    have f53 := ((((own_KT.fld KT29 f25 f23 (by decide) (by decide)).keep Kq31 ni31).keep Kq34 ni34).other W36 (Or.inr (slot_ne (Or.inr (tw_ hw 48 rfl)) (Or.inl (tw_ hw 57 rfl)) (by decide) (t := (.object "java/util/ArrayDeque")) (t' := .long) (by decide) (by decide))))
    refine own_gs (cur' := T40.setTop (mkF m 92 #[vr q1, vj e1, ss, vj t1, ss, vr r1, vr b11, vn] [.null])) ?_ ?_
    · refine XS.ifYes X40.here hx rfl (pc0 := 68) (pc' := 90) rfl (hb hby d52_68) rfl ((if0 _ _).trans (flt ((own_ngt64 hc68_42) : ¬ ((0 : Int32) < (lcmpW (Int64.ofNat (n + 1)) dp)))).2.2.2) (by decide) (by decide) ?_
      exact own_al X40 Y d52_90 rfl rfl (Steps.refl _)
    exact own_rA X40 Bd rfl (v := .null) rfl (hb hby d52_92) e40 (⟨_, own_AQ.of gq f51 f52 f53 f41 F36 Tr38 Ds38 hp3 (by omega), Or.inl ⟨rfl, hc68_42⟩, ⟨_, rfl, rfl⟩, N37, O37, Zz37⟩) rfl rfl
abbrev own_c53 : ByteArray := jdk_29_method_70_code
def own_min_Q (Z : State) (a b : Int64) (h0 : Heap) (n0 : Nat) (v : Option Value) (h : Heap) (L : List Loc) : Prop := v = (some (.long (if b < a then b else a))) ∧ Fr n0 L ∧ h = h0
theorem ef_own_min (m : MethodId) (x0 : Int64) (x1 : Int64) : entryFrame m #[(.long x0), (.long x1)] 4 = mkF m 0 #[vj x0, .second, vj x1, .second] [] := by first | (simp [entryFrame, mkF, argsToLocals, Value.category]; done) | rfl
abbrev own_y55 : MethodName := ⟨"java/lang/Math", "min", "(JJ)J"⟩
theorem d53_0 : decode own_c53 0 = .ok (.lload_n 0, 1) := by decide +kernel
theorem d53_1 : decode own_c53 1 = .ok (.lload_n 2, 1) := by decide +kernel
theorem d53_2 : decode own_c53 2 = .ok (.lcmp, 1) := by decide +kernel
theorem d53_3 : decode own_c53 3 = .ok (.ifCond .gt 7, 3) := by decide +kernel
theorem d53_10 : decode own_c53 10 = .ok (.lload_n 2, 1) := by decide +kernel
theorem d53_11 : decode own_c53 11 = .ok (.lreturn, 1) := by decide +kernel
theorem d53_6 : decode own_c53 6 = .ok (.lload_n 0, 1) := by decide +kernel
theorem d53_7 : decode own_c53 7 = .ok (.goto 4, 3) := by decide +kernel
set_option maxRecDepth 65536 in
set_option maxHeartbeats 40000000 in
theorem own_min (l : Launch) (Z : State) (a0 : Array Value) (hW : own_W Z a0) (a b : Int64) (h0 : Heap) (n0 : Nat) (Z0 : n0 ≤ h0.size) (O0 : Old Z n0 h0)  :
    own_MH l own_y55 own_c53 4 (some .long) (own_r 0 0 0 0) #[(.long a), (.long b)] Z h0 (own_min_Q Z a b h0 n0) := by
  refine own_enterH (own := "java/lang/Math") rfl (Jvm.Free.JP.mathPlain rfl (by decide +kernel)) (fun m => ef_own_min m a b) ?_
  intro p e s m below meth c s₁ Bd hZH hh hx hby hml hown hnm X0 e0
  have hZ := hZH.wide
  have Y := And.intro hx hby
  have hw := hW.1
  have N0 := Fr.nil n0
  have K0 := Keep.refl h0 []
  refine own_gs (cur' := s₁.setTop (mkF m 3 #[vj a, ss, vj b, ss] [(.int (lcmpW a b))])) ?_ ?_
  · refine XS.lloadN X0.here hx rfl (hb hby d53_0) rfl ?_
    refine XS.lloadN X0.here hx rfl (hb hby d53_1) rfl ?_
    exact XS.lcmp X0.here hx rfl (hb hby d53_2) rfl (Steps.refl _)
  by_cases hc3_11 : b < a
  · refine own_gs (cur' := s₁.setTop (mkF m 11 #[vj a, ss, vj b, ss] [(.long b)])) ?_ ?_
    · refine XS.ifYes X0.here hx rfl (pc0 := 3) (pc' := 10) rfl (hb hby d53_3) rfl ((if0 _ _).trans (tlt ((own_gt64 hc3_11) : (0 : Int32) < (lcmpW a b))).2.2.1) (by decide) (by decide) ?_
      exact XS.lloadN X0.here hx rfl (hb hby d53_10) rfl (Steps.refl _)
    exact own_rJ X0 Bd (hb hby d53_11) e0 (⟨by rw [if_pos hc3_11], N0, rfl⟩) rfl rfl
  · refine own_gs (cur' := s₁.setTop (mkF m 11 #[vj a, ss, vj b, ss] [(.long a)])) ?_ ?_
    · refine XS.ifNo X0.here hx rfl (hb hby d53_3) rfl ((if0 _ _).trans (flt ((own_ngt64 hc3_11) : ¬ ((0 : Int32) < (lcmpW a b)))).2.2.1) ?_
      refine XS.lloadN X0.here hx rfl (hb hby d53_6) rfl ?_
      exact XS.goto X0.here hx rfl (pc0 := 7) (pc' := 11) rfl (hb hby d53_7) (by decide) (by decide) (Steps.refl _)
    exact own_rJ X0 Bd (hb hby d53_11) e0 (⟨by rw [if_neg hc3_11], N0, rfl⟩) rfl rfl
abbrev own_c54 : ByteArray := jdk_29_method_66_code
def own_max_Q (Z : State) (a b : Int64) (h0 : Heap) (n0 : Nat) (v : Option Value) (h : Heap) (L : List Loc) : Prop := v = (some (.long (if a < b then b else a))) ∧ Fr n0 L ∧ h = h0
theorem ef_own_max (m : MethodId) (x0 : Int64) (x1 : Int64) : entryFrame m #[(.long x0), (.long x1)] 4 = mkF m 0 #[vj x0, .second, vj x1, .second] [] := by first | (simp [entryFrame, mkF, argsToLocals, Value.category]; done) | rfl
abbrev own_y56 : MethodName := ⟨"java/lang/Math", "max", "(JJ)J"⟩
theorem d54_0 : decode own_c54 0 = .ok (.lload_n 0, 1) := by decide +kernel
theorem d54_1 : decode own_c54 1 = .ok (.lload_n 2, 1) := by decide +kernel
theorem d54_2 : decode own_c54 2 = .ok (.lcmp, 1) := by decide +kernel
theorem d54_3 : decode own_c54 3 = .ok (.ifCond .lt 7, 3) := by decide +kernel
theorem d54_10 : decode own_c54 10 = .ok (.lload_n 2, 1) := by decide +kernel
theorem d54_11 : decode own_c54 11 = .ok (.lreturn, 1) := by decide +kernel
theorem d54_6 : decode own_c54 6 = .ok (.lload_n 0, 1) := by decide +kernel
theorem d54_7 : decode own_c54 7 = .ok (.goto 4, 3) := by decide +kernel
set_option maxRecDepth 65536 in
set_option maxHeartbeats 40000000 in
theorem own_max (l : Launch) (Z : State) (a0 : Array Value) (hW : own_W Z a0) (a b : Int64) (h0 : Heap) (n0 : Nat) (Z0 : n0 ≤ h0.size) (O0 : Old Z n0 h0)  :
    own_MH l own_y56 own_c54 4 (some .long) (own_r 0 0 0 0) #[(.long a), (.long b)] Z h0 (own_max_Q Z a b h0 n0) := by
  refine own_enterH (own := "java/lang/Math") rfl (Jvm.Free.JP.mathPlain rfl (by decide +kernel)) (fun m => ef_own_max m a b) ?_
  intro p e s m below meth c s₁ Bd hZH hh hx hby hml hown hnm X0 e0
  have hZ := hZH.wide
  have Y := And.intro hx hby
  have hw := hW.1
  have N0 := Fr.nil n0
  have K0 := Keep.refl h0 []
  refine own_gs (cur' := s₁.setTop (mkF m 3 #[vj a, ss, vj b, ss] [(.int (lcmpW a b))])) ?_ ?_
  · refine XS.lloadN X0.here hx rfl (hb hby d54_0) rfl ?_
    refine XS.lloadN X0.here hx rfl (hb hby d54_1) rfl ?_
    exact XS.lcmp X0.here hx rfl (hb hby d54_2) rfl (Steps.refl _)
  by_cases hc3_11 : a < b
  · refine own_gs (cur' := s₁.setTop (mkF m 11 #[vj a, ss, vj b, ss] [(.long b)])) ?_ ?_
    · refine XS.ifYes X0.here hx rfl (pc0 := 3) (pc' := 10) rfl (hb hby d54_3) rfl ((if0 _ _).trans (tlt ((own_lt64 hc3_11) : (lcmpW a b) < (0 : Int32))).1) (by decide) (by decide) ?_
      exact XS.lloadN X0.here hx rfl (hb hby d54_10) rfl (Steps.refl _)
    exact own_rJ X0 Bd (hb hby d54_11) e0 (⟨by rw [if_pos hc3_11], N0, rfl⟩) rfl rfl
  · refine own_gs (cur' := s₁.setTop (mkF m 11 #[vj a, ss, vj b, ss] [(.long a)])) ?_ ?_
    · refine XS.ifNo X0.here hx rfl (hb hby d54_3) rfl ((if0 _ _).trans (flt ((own_nlt64 hc3_11) : ¬ ((lcmpW a b) < (0 : Int32)))).1) ?_
      refine XS.lloadN X0.here hx rfl (hb hby d54_6) rfl ?_
      exact XS.goto X0.here hx rfl (pc0 := 7) (pc' := 11) rfl (hb hby d54_7) (by decide) (by decide) (Steps.refl _)
    exact own_rJ X0 Bd (hb hby d54_11) e0 (⟨by rw [if_neg hc3_11], N0, rfl⟩) rfl rfl
theorem own_cut {p : Program} {e : Env} {below : List Frame} {cur0 : State} {G : State → Outcome → Prop} (f : Int64 → State) (k : ∀ D, ¬ D < (1 : Int64) → own_Fin p e below (f D) G) (h : (∀ D, ¬ D < (1 : Int64) → own_Fin p e below (f D) G) → own_Fin p e below cur0 G) : own_Fin p e below cur0 G := h k
theorem own_i64 (x : Int64) : ∃ k, k ≤ 3 ∧ x &&& (3 : Int64) = Int64.ofNat k := by
  refine ⟨(x &&& 3).toBitVec.toNat, ?_, ?_⟩
  · rw [Int64.toBitVec_and, BitVec.toNat_and]
    exact Nat.and_le_right
  · apply Int64.toBitVec_inj.mp
    simp
theorem own_i32 (x : Int32) : ∃ k, k ≤ 3 ∧ x &&& (3 : Int32) = Int32.ofNat k := by
  refine ⟨(x &&& 3).toBitVec.toNat, ?_, ?_⟩
  · rw [Int32.toBitVec_and, BitVec.toNat_and]
    exact Nat.and_le_right
  · apply Int32.toBitVec_inj.mp
    simp
theorem own_dp (x : Int64) : ¬ (x &&& (3 : Int64)) + (1 : Int64) < (1 : Int64) := by
  obtain ⟨k, hk, e⟩ := own_i64 x
  rw [e, own_s1, Int64.lt_iff_toInt_lt, own_o64 (by omega)]
  have e1 : (1 : Int64).toInt = 1 := rfl
  omega
theorem own_and3 (x : Int32) : x &&& (3 : Int32) = (0 : Int32) ∨ x &&& (3 : Int32) = (1 : Int32) ∨ x &&& (3 : Int32) = (2 : Int32) ∨ x &&& (3 : Int32) = (3 : Int32) := by
  obtain ⟨k, hk, e⟩ := own_i32 x
  rw [e]
  have : k = 0 ∨ k = 1 ∨ k = 2 ∨ k = 3 := by omega
  rcases this with rfl | rfl | rfl | rfl
  · exact Or.inl rfl
  · exact Or.inr (Or.inl rfl)
  · exact Or.inr (Or.inr (Or.inl rfl))
  · exact Or.inr (Or.inr (Or.inr rfl))
/-- after k adds n are held -/
def own_P (D : Int64) (n k : Nat) : Prop := (n = k ∧ ¬ D < Int64.ofNat k) ∨ (n < k ∧ D = Int64.ofNat n)
theorem own_P.le {D : Int64} {n k : Nat} (h : own_P D n k) : n ≤ k := by
  rcases h with ⟨h, -⟩ | ⟨h, -⟩ <;> omega
theorem own_P.zero {D : Int64} (h : ¬ D < (1 : Int64)) : own_P D 0 0 := Or.inl ⟨rfl, fun q => h (by
  have e0 : (Int64.ofNat 0).toInt = 0 := rfl
  have e1 : (1 : Int64).toInt = 1 := rfl
  rw [Int64.lt_iff_toInt_lt] at q ⊢
  omega)⟩
theorem own_P.step {D : Int64} {n n' k : Nat} (hk : k ≤ 3) (h : own_P D n k) (H : (n' = n + 1 ∧ ¬ D < Int64.ofNat (n + 1)) ∨ (n' = n ∧ D < Int64.ofNat (n + 1))) : own_P D n' (k + 1) := by
  have hn := h.le
  rcases h with ⟨rfl, h1⟩ | ⟨h0, rfl⟩
  · rcases H with ⟨rfl, h2⟩ | ⟨rfl, h2⟩
    · exact Or.inl ⟨rfl, h2⟩
    · refine Or.inr ⟨by omega, ?_⟩
      rw [Int64.lt_iff_toInt_lt, own_o64 (by omega)] at h1 h2
      apply Int64.toInt_inj.mp
      rw [own_o64 (by omega)]
      omega
  · rcases H with ⟨rfl, h2⟩ | ⟨rfl, h2⟩
    · rw [Int64.lt_iff_toInt_lt, own_o64 (by omega), own_o64 (by omega)] at h2
      omega
    · exact Or.inr ⟨by omega, rfl⟩
theorem own_P.min {D a : Int64} {n k : Nat} (hk : k ≤ 3) (h : own_P D n k) (ha : a = Int64.ofNat k) : (if D < a then D else a) = Int64.ofNat n := by
  subst ha
  rcases h with ⟨rfl, h1⟩ | ⟨h0, rfl⟩
  · rw [if_neg h1]
  · rw [if_pos]
    rw [Int64.lt_iff_toInt_lt, own_o64 (by omega), own_o64 (by omega)]
    omega
theorem own_max3 : ∀ n, n < 4 → ∀ p, p < 4 → (if (0 : Int64) < Int64.ofNat n - Int64.ofNat p then Int64.ofNat n - Int64.ofNat p else (0 : Int64)) = Int64.ofNat (n - p) := by decide
theorem own_mx {n p e : Nat} (hn : n ≤ 3) (hp : p ≤ 3) {b : Int64} (h : b = Int64.ofNat p) (he : e = n - p) : (if (0 : Int64) < Int64.ofNat n - b then Int64.ofNat n - b else (0 : Int64)) = Int64.ofNat e := by
  subst h he
  exact own_max3 n (by omega) p (by omega)
def own_law_Q (Z : State) (i0 : Int64) (i1 : Int32) (i2 i3 i4 : Int64) (h0 : Heap) (n0 : Nat) (v : Option Value) (h : Heap) (L : List Loc) : Prop := v = some (.int (1 : Int32)) ∧ Fr n0 L
theorem pn_com_example_capow_capow_service_AdmissionQueueIsEmptyPinLaw : plainName "com/example/capow/capow/service/AdmissionQueueIsEmptyPinLaw" = true := by first | (simp [plainName, overriddenIn]; done) | decide +kernel
theorem ef_own_law (m : MethodId) (x0 : Int64) (x1 : Int32) (x2 : Int64) (x3 : Int64) (x4 : Int64) : entryFrame m #[(.long x0), (.int x1), (.long x2), (.long x3), (.long x4)] maxLocals = mkF m 0 #[vj x0, .second, vi x1, vj x2, .second, vj x3, .second, vj x4, .second, .unset, .unset, .unset, .unset, .unset, .unset, .unset, .unset, .unset, .unset] [] := by first | (simp [entryFrame, mkF, argsToLocals, Value.category, maxLocals]; done) | rfl
theorem pd_30 : parseMethodDescriptor "(JJ)J" = some ⟨[.long, .long], some .long⟩ := by decide +kernel
theorem pd_31 : parseMethodDescriptor "(I)Ljava/lang/Integer;" = some ⟨[.int], some (.object "java/lang/Integer")⟩ := by decide +kernel
theorem pd_32 : parseMethodDescriptor "(JJLjava/lang/Object;)Ljava/lang/Object;" = some ⟨[.long, .long, (.object "java/lang/Object")], some (.object "java/lang/Object")⟩ := by decide +kernel
set_option maxRecDepth 65536 in
set_option maxHeartbeats 40000000 in
theorem own_law (l : Launch) (Z : State) (a0 : Array Value) (hW : own_W Z a0) (ws : List Jvm.Cond) (i0 : Int64) (i1 : Int32) (i2 i3 i4 : Int64) (h0 : Heap) (n0 : Nat) (Z0 : n0 ≤ h0.size) (O0 : Old Z n0 h0)  :
    MetFree l x (head1 (Jvm.Cond.code x code maxLocals ret :: ws) room_1) (fun a U => a = #[(.long i0), (.int i1), (.long i2), (.long i3), (.long i4)] ∧ Z.WarmedH U.vm ∧ U.heap = h0) (fun _ _ _ _ _ => True) (fun _ U o U' => ∃ v L, o = .returned v ∧ own_law_Q Z i0 i1 i2 i3 i4 h0 n0 v U'.heap L ∧ FrameEnd U o U' L room_1.cells room_1.slots) := by
  refine own_enterJ (own := "com/example/capow/capow/service/AdmissionQueueIsEmptyPinLaw") rfl (plainFor_of_name pn_com_example_capow_capow_service_AdmissionQueueIsEmptyPinLaw) (fun m => ef_own_law m i0 i1 i2 i3 i4) ?_
  intro p e s m below meth c s₁ Bd hZH hh hx hby hml hown hnm X0 e0
  have hZ := hZH.wide
  have Y := And.intro hx hby
  have hw := hW.1
  have N0 := Fr.nil n0
  have K0 := Keep.refl h0 []
  refine own_cut (fun D => s₁.setTop (mkF m 19 #[vj i0, ss, vi i1, vj i2, ss, vj i3, ss, vj i4, ss, vj D, ss, uu, uu, uu, uu, uu, uu, uu, uu] [])) ?_ ?_
  · intro D0 hD
    show own_Fin p e below (s₁.setTop (mkF m 19 #[vj i0, ss, vi i1, vj i2, ss, vj i3, ss, vj i4, ss, vj D0, ss, uu, uu, uu, uu, uu, uu, uu, uu] [])) _
    have J185 : ∀ (q1 nn ee B : Nat) (kv pv : Int32) (T11 : State) (L11 : List Loc) (h11 : Heap) (X11 : Stand p l e room_1 s m #[(.long i0), (.int i1), (.long i2), (.long i3), (.long i4)] below meth c T11 L11 40 170) (e11 : T11.heap = h11) (N11 : Fr n0 L11) (O11 : Old Z n0 h11) (Zz11 : n0 ≤ h11.size) (A11 : own_AQ Z h11 n0 q1 D0 ee B) (hee : ee ≤ 3) (hmx : (if (0 : Int64) < ((Int64.ofNat nn) - (pv.toInt64)) then ((Int64.ofNat nn) - (pv.toInt64)) else (0 : Int64)) = Int64.ofNat ee), own_Fin p e below (T11.setTop (mkF m 185 #[vj i0, ss, vi i1, vj i2, ss, vj i3, ss, vj i4, ss, vj D0, ss, vi kv, vi pv, vr q1, vi (1 : Int32), vj (Int64.ofNat nn), ss, uu, uu] [])) (own_G s (own_law_Q Z i0 i1 i2 i3 i4 h0 n0) room_1) := by
      intro q1 nn ee B kv pv T11 L11 h11 X11 e11 N11 O11 Zz11 A11 hee hmx
      obtain ⟨T12, L12, X12, Nq12, e12, st12⟩ := own_pcall (own_max l Z a0 hW (0 : Int64) ((Int64.ofNat nn) - (pv.toInt64)) h11 n0 Zz11 O11) X11 hx hZH hown (tw_ hw 207 rfl) (tw_ hw 208 rfl) (tw_ hw 205 rfl) (tw_ hw 209 rfl) (by decide) e11 (g := (mkF m 192 #[vj i0, ss, vi i1, vj i2, ss, vj i3, ss, vj i4, ss, vj D0, ss, vi kv, vi pv, vr q1, vi (1 : Int32), vj (Int64.ofNat nn), ss, uu, uu] [(.long ((Int64.ofNat nn) - (pv.toInt64))), (.long (0 : Int64))])) rfl hml.symm (argsL := [(.long (0 : Int64)), (.long ((Int64.ofNat nn) - (pv.toInt64)))]) (rest := []) (lenOf pd_30 rfl) rfl (hb hby at_192) (own_le rfl) (own_le rfl)
      have N12 := Fr.app N11 Nq12
      refine own_gs ?_ (own_gs st12 ?_)
      · refine XS.lconst X11.here hx rfl (hb hby at_185) ?_
        refine XS.lload X11.here hx rfl (hb hby at_186) rfl ?_
        refine XS.iload X11.here hx rfl (hb hby at_188) rfl ?_
        refine XS.i2l X11.here hx rfl (hb hby at_190) rfl ?_
        exact XS.lsub X11.here hx rfl (hb hby at_191) rfl (Steps.refl _)
      rw [hmx]
      refine own_gs (cur' := T12.setTop (mkF m 204 #[vj i0, ss, vi i1, vj i2, ss, vj i3, ss, vj i4, ss, vj D0, ss, vi kv, vi pv, vr q1, vi (1 : Int32), vj (Int64.ofNat nn), ss, vj (Int64.ofNat ee), ss] [(.ref q1)])) ?_ ?_
      · refine XS.lstore X12.here hx rfl (hb hby at_195) rfl (l' := #[vj i0, ss, vi i1, vj i2, ss, vj i3, ss, vj i4, ss, vj D0, ss, vi kv, vi pv, vr q1, vi (1 : Int32), vj (Int64.ofNat nn), ss, vj (Int64.ofNat ee), ss]) rfl ?_
        refine XS.iload X12.here hx rfl (hb hby at_197) rfl ?_
        refine XS.ifNo X12.here hx rfl (hb hby at_199) rfl ((if0 _ _).trans (feq ((by decide) : ¬ ((1 : Int32) = (0 : Int32)))).1) ?_
        exact XS.aload X12.here hx rfl (hb hby at_202) rfl rfl (Steps.refl _)
      rcases Nat.eq_zero_or_pos ee with hz | hz
      · obtain ⟨v13, T13, Lc13, X13, hQ13, st13⟩ := own_virt (own_ie1 l Z a0 hW q1 ee h11 n0 Zz11 O11 (own_AQ.ex A11) (own_AQ.sz A11) hz) X12 Y hZH hown (tw_ hw 51 rfl) (tw_ hw 52 rfl) (tw_ hw 54 rfl) (tw_ hw 53 rfl) (tw_ hw 55 rfl) (tw_ hw 2 rfl) (by decide) e12 (own_AQ.ex A11) (g := (mkF m 204 #[vj i0, ss, vi i1, vj i2, ss, vj i3, ss, vj i4, ss, vj D0, ss, vi kv, vi pv, vr q1, vi (1 : Int32), vj (Int64.ofNat nn), ss, vj (Int64.ofNat ee), ss] [(.ref q1)])) rfl hml.symm (argsL := []) (rest := []) (lenOf pd_24 rfl) rfl at_204
        obtain ⟨rfl, Nq13, eh13⟩ := hQ13
        have N13 := Fr.app N12 Nq13
        refine own_gs st13 ?_
        refine own_gs (cur' := T13.setTop (mkF m 231 #[vj i0, ss, vi i1, vj i2, ss, vj i3, ss, vj i4, ss, vj D0, ss, vi kv, vi pv, vr q1, vi (1 : Int32), vj (Int64.ofNat nn), ss, vj (Int64.ofNat ee), ss] [(.int (1 : Int32))])) ?_ ?_
        · refine XS.lload X13.here hx rfl (hb hby at_207) rfl ?_
          refine XS.lconst X13.here hx rfl (hb hby at_209) ?_
          refine XS.lcmp X13.here hx rfl (hb hby at_210) rfl ?_
          refine XS.ifNo X13.here hx rfl (hb hby at_211) rfl ((if0 _ _).trans (teq ((own_eq64 (own_o64z hz)) : (lcmpW (Int64.ofNat ee) (0 : Int64)) = (0 : Int32))).2) ?_
          refine XS.iconst X13.here hx rfl (hb hby at_214) ?_
          refine XS.goto X13.here hx rfl (pc0 := 215) (pc' := 219) rfl (hb hby at_215) (by decide) (by decide) ?_
          refine XS.icmpNo X13.here hx rfl (hb hby at_219) rfl (teq ((by decide) : (1 : Int32) = (1 : Int32))).2 ?_
          refine XS.iconst X13.here hx rfl (hb hby at_222) ?_
          refine XS.goto X13.here hx rfl (pc0 := 223) (pc' := 227) rfl (hb hby at_223) (by decide) (by decide) ?_
          refine XS.istore X13.here hx rfl (hb hby at_227) rfl (l' := #[vj i0, ss, vi i1, vj i2, ss, vj i3, ss, vj i4, ss, vj D0, ss, vi kv, vi pv, vr q1, vi (1 : Int32), vj (Int64.ofNat nn), ss, vj (Int64.ofNat ee), ss]) rfl ?_
          exact XS.iload X13.here hx rfl (hb hby at_229) rfl (Steps.refl _)
        exact own_rN X13 Bd (by simp) (v := (1 : Int32)) rfl (hb hby at_231) eh13 (⟨rfl, N13⟩) rfl rfl
      · obtain ⟨v14, T14, Lc14, X14, hQ14, st14⟩ := own_virt (own_ie0 l Z a0 hW q1 ee h11 n0 Zz11 O11 (own_AQ.ex A11) (own_AQ.sz A11) hz (by omega)) X12 Y hZH hown (tw_ hw 51 rfl) (tw_ hw 52 rfl) (tw_ hw 54 rfl) (tw_ hw 53 rfl) (tw_ hw 55 rfl) (tw_ hw 2 rfl) (by decide) e12 (own_AQ.ex A11) (g := (mkF m 204 #[vj i0, ss, vi i1, vj i2, ss, vj i3, ss, vj i4, ss, vj D0, ss, vi kv, vi pv, vr q1, vi (1 : Int32), vj (Int64.ofNat nn), ss, vj (Int64.ofNat ee), ss] [(.ref q1)])) rfl hml.symm (argsL := []) (rest := []) (lenOf pd_24 rfl) rfl at_204
        obtain ⟨rfl, Nq14, eh14⟩ := hQ14
        have N14 := Fr.app N12 Nq14
        refine own_gs st14 ?_
        refine own_gs (cur' := T14.setTop (mkF m 231 #[vj i0, ss, vi i1, vj i2, ss, vj i3, ss, vj i4, ss, vj D0, ss, vi kv, vi pv, vr q1, vi (1 : Int32), vj (Int64.ofNat nn), ss, vj (Int64.ofNat ee), ss] [(.int (1 : Int32))])) ?_ ?_
        · refine XS.lload X14.here hx rfl (hb hby at_207) rfl ?_
          refine XS.lconst X14.here hx rfl (hb hby at_209) ?_
          refine XS.lcmp X14.here hx rfl (hb hby at_210) rfl ?_
          refine XS.ifYes X14.here hx rfl (pc0 := 211) (pc' := 218) rfl (hb hby at_211) rfl ((if0 _ _).trans (feq ((own_neq64 (own_o64n hz (by omega))) : ¬ ((lcmpW (Int64.ofNat ee) (0 : Int64)) = (0 : Int32)))).2) (by decide) (by decide) ?_
          refine XS.iconst X14.here hx rfl (hb hby at_218) ?_
          refine XS.icmpNo X14.here hx rfl (hb hby at_219) rfl (teq ((by decide) : (0 : Int32) = (0 : Int32))).2 ?_
          refine XS.iconst X14.here hx rfl (hb hby at_222) ?_
          refine XS.goto X14.here hx rfl (pc0 := 223) (pc' := 227) rfl (hb hby at_223) (by decide) (by decide) ?_
          refine XS.istore X14.here hx rfl (hb hby at_227) rfl (l' := #[vj i0, ss, vi i1, vj i2, ss, vj i3, ss, vj i4, ss, vj D0, ss, vi kv, vi pv, vr q1, vi (1 : Int32), vj (Int64.ofNat nn), ss, vj (Int64.ofNat ee), ss]) rfl ?_
          exact XS.iload X14.here hx rfl (hb hby at_229) rfl (Steps.refl _)
        exact own_rN X14 Bd (by simp) (v := (1 : Int32)) rfl (hb hby at_231) eh14 (⟨rfl, N14⟩) rfl rfl
    have J149 : ∀ (q1 nn B : Nat) (kv pv : Int32) (T15 : State) (L15 : List Loc) (h15 : Heap) (X15 : Stand p l e room_1 s m #[(.long i0), (.int i1), (.long i2), (.long i3), (.long i4)] below meth c T15 L15 30 150) (e15 : T15.heap = h15) (N15 : Fr n0 L15) (O15 : Old Z n0 h15) (Zz15 : n0 ≤ h15.size) (A15 : own_AQ Z h15 n0 q1 D0 nn B) (hB : B ≤ 15) (hnn : nn ≤ 3) (hp4 : pv = (0 : Int32) ∨ pv = (1 : Int32) ∨ pv = (2 : Int32) ∨ pv = (3 : Int32)), own_Fin p e below (T15.setTop (mkF m 149 #[vj i0, ss, vi i1, vj i2, ss, vj i3, ss, vj i4, ss, vj D0, ss, vi kv, vi pv, vr q1, vi (1 : Int32), vj (Int64.ofNat nn), ss, uu, uu] [])) (own_G s (own_law_Q Z i0 i1 i2 i3 i4 h0 n0) room_1) := by
      intro q1 nn B kv pv T15 L15 h15 X15 e15 N15 O15 Zz15 A15 hB hnn hp4
      rcases hp4 with rfl | rfl | rfl | rfl
      · refine own_gs (cur' := T15.setTop (mkF m 185 #[vj i0, ss, vi i1, vj i2, ss, vj i3, ss, vj i4, ss, vj D0, ss, vi kv, vi (0 : Int32), vr q1, vi (1 : Int32), vj (Int64.ofNat nn), ss, uu, uu] [])) ?_ ?_
        · refine XS.iload X15.here hx rfl (hb hby at_149) rfl ?_
          refine XS.iconst X15.here hx rfl (hb hby at_151) ?_
          refine XS.icmpYes X15.here hx rfl (pc0 := 152) (pc' := 161) rfl (hb hby at_152) rfl (tlt ((by decide) : (0 : Int32) < (1 : Int32))).1 (by decide) (by decide) ?_
          refine XS.iload X15.here hx rfl (hb hby at_161) rfl ?_
          refine XS.iconst X15.here hx rfl (hb hby at_163) ?_
          refine XS.icmpYes X15.here hx rfl (pc0 := 164) (pc' := 173) rfl (hb hby at_164) rfl (tlt ((by decide) : (0 : Int32) < (2 : Int32))).1 (by decide) (by decide) ?_
          refine XS.iload X15.here hx rfl (hb hby at_173) rfl ?_
          refine XS.iconst X15.here hx rfl (hb hby at_175) ?_
          exact XS.icmpYes X15.here hx rfl (pc0 := 176) (pc' := 185) rfl (hb hby at_176) rfl (tlt ((by decide) : (0 : Int32) < (3 : Int32))).1 (by decide) (by decide) (Steps.refl _)
        exact J185 q1 nn nn B _ _ _ _ _ (X15.more (own_le rfl) (own_le rfl)) e15 N15 O15 Zz15 A15 (by omega) (own_mx (p := 0) hnn (by decide) rfl (by omega))
      · obtain ⟨v16, T16, Lc16, X16, hQ16, st16⟩ := own_virt (own_pol l Z a0 hW q1 D0 nn B h15 n0 Zz15 O15 A15 (by omega) (by omega)) X15 Y hZH hown (tw_ hw 235 rfl) (tw_ hw 236 rfl) (tw_ hw 238 rfl) (tw_ hw 237 rfl) (tw_ hw 239 rfl) (tw_ hw 2 rfl) (by decide) e15 (own_AQ.ex A15) (g := (mkF m 157 #[vj i0, ss, vi i1, vj i2, ss, vj i3, ss, vj i4, ss, vj D0, ss, vi kv, vi (1 : Int32), vr q1, vi (1 : Int32), vj (Int64.ofNat nn), ss, uu, uu] [(.ref q1)])) rfl hml.symm (argsL := []) (rest := []) (lenOf pd_6 rfl) rfl at_157
        obtain ⟨A16, ⟨vv16, rfl, hv16⟩, Nq16, O16, Zz16⟩ := hQ16
        have N16 := Fr.app N15 Nq16
        refine own_gs ?_ (own_gs st16 ?_)
        · refine XS.iload X15.here hx rfl (hb hby at_149) rfl ?_
          refine XS.iconst X15.here hx rfl (hb hby at_151) ?_
          refine XS.icmpNo X15.here hx rfl (hb hby at_152) rfl (flt ((by decide) : ¬ ((1 : Int32) < (1 : Int32)))).1 ?_
          exact XS.aload X15.here hx rfl (hb hby at_155) rfl rfl (Steps.refl _)
        refine own_gs (cur' := T16.setTop (mkF m 185 #[vj i0, ss, vi i1, vj i2, ss, vj i3, ss, vj i4, ss, vj D0, ss, vi kv, vi (1 : Int32), vr q1, vi (1 : Int32), vj (Int64.ofNat nn), ss, uu, uu] [])) ?_ ?_
        · refine XS.pop X16.here hx rfl (hb hby at_160) rfl hv16 ?_
          refine XS.iload X16.here hx rfl (hb hby at_161) rfl ?_
          refine XS.iconst X16.here hx rfl (hb hby at_163) ?_
          refine XS.icmpYes X16.here hx rfl (pc0 := 164) (pc' := 173) rfl (hb hby at_164) rfl (tlt ((by decide) : (1 : Int32) < (2 : Int32))).1 (by decide) (by decide) ?_
          refine XS.iload X16.here hx rfl (hb hby at_173) rfl ?_
          refine XS.iconst X16.here hx rfl (hb hby at_175) ?_
          exact XS.icmpYes X16.here hx rfl (pc0 := 176) (pc' := 185) rfl (hb hby at_176) rfl (tlt ((by decide) : (1 : Int32) < (3 : Int32))).1 (by decide) (by decide) (Steps.refl _)
        exact J185 q1 nn (nn - 1) B _ _ _ _ _ (X16.more (own_le rfl) (own_le rfl)) rfl N16 O16 Zz16 A16 (by omega) (own_mx (p := 1) hnn (by decide) rfl (by omega))
      · obtain ⟨v17, T17, Lc17, X17, hQ17, st17⟩ := own_virt (own_pol l Z a0 hW q1 D0 nn B h15 n0 Zz15 O15 A15 (by omega) (by omega)) X15 Y hZH hown (tw_ hw 235 rfl) (tw_ hw 236 rfl) (tw_ hw 238 rfl) (tw_ hw 237 rfl) (tw_ hw 239 rfl) (tw_ hw 2 rfl) (by decide) e15 (own_AQ.ex A15) (g := (mkF m 157 #[vj i0, ss, vi i1, vj i2, ss, vj i3, ss, vj i4, ss, vj D0, ss, vi kv, vi (2 : Int32), vr q1, vi (1 : Int32), vj (Int64.ofNat nn), ss, uu, uu] [(.ref q1)])) rfl hml.symm (argsL := []) (rest := []) (lenOf pd_6 rfl) rfl at_157
        obtain ⟨A17, ⟨vv17, rfl, hv17⟩, Nq17, O17, Zz17⟩ := hQ17
        have N17 := Fr.app N15 Nq17
        refine own_gs ?_ (own_gs st17 ?_)
        · refine XS.iload X15.here hx rfl (hb hby at_149) rfl ?_
          refine XS.iconst X15.here hx rfl (hb hby at_151) ?_
          refine XS.icmpNo X15.here hx rfl (hb hby at_152) rfl (flt ((by decide) : ¬ ((2 : Int32) < (1 : Int32)))).1 ?_
          exact XS.aload X15.here hx rfl (hb hby at_155) rfl rfl (Steps.refl _)
        obtain ⟨v18, T18, Lc18, X18, hQ18, st18⟩ := own_virt (own_pol l Z a0 hW q1 D0 (nn - 1) B T17.heap n0 Zz17 O17 A17 (by omega) (by omega)) X17 Y hZH hown (tw_ hw 235 rfl) (tw_ hw 236 rfl) (tw_ hw 238 rfl) (tw_ hw 237 rfl) (tw_ hw 239 rfl) (tw_ hw 2 rfl) (by decide) rfl (own_AQ.ex A17) (g := (mkF m 169 #[vj i0, ss, vi i1, vj i2, ss, vj i3, ss, vj i4, ss, vj D0, ss, vi kv, vi (2 : Int32), vr q1, vi (1 : Int32), vj (Int64.ofNat nn), ss, uu, uu] [(.ref q1)])) rfl hml.symm (argsL := []) (rest := []) (lenOf pd_6 rfl) rfl at_169
        obtain ⟨A18, ⟨vv18, rfl, hv18⟩, Nq18, O18, Zz18⟩ := hQ18
        have N18 := Fr.app N17 Nq18
        refine own_gs ?_ (own_gs st18 ?_)
        · refine XS.pop X17.here hx rfl (hb hby at_160) rfl hv17 ?_
          refine XS.iload X17.here hx rfl (hb hby at_161) rfl ?_
          refine XS.iconst X17.here hx rfl (hb hby at_163) ?_
          refine XS.icmpNo X17.here hx rfl (hb hby at_164) rfl (flt ((by decide) : ¬ ((2 : Int32) < (2 : Int32)))).1 ?_
          exact XS.aload X17.here hx rfl (hb hby at_167) rfl rfl (Steps.refl _)
        refine own_gs (cur' := T18.setTop (mkF m 185 #[vj i0, ss, vi i1, vj i2, ss, vj i3, ss, vj i4, ss, vj D0, ss, vi kv, vi (2 : Int32), vr q1, vi (1 : Int32), vj (Int64.ofNat nn), ss, uu, uu] [])) ?_ ?_
        · refine XS.pop X18.here hx rfl (hb hby at_172) rfl hv18 ?_
          refine XS.iload X18.here hx rfl (hb hby at_173) rfl ?_
          refine XS.iconst X18.here hx rfl (hb hby at_175) ?_
          exact XS.icmpYes X18.here hx rfl (pc0 := 176) (pc' := 185) rfl (hb hby at_176) rfl (tlt ((by decide) : (2 : Int32) < (3 : Int32))).1 (by decide) (by decide) (Steps.refl _)
        exact J185 q1 nn ((nn - 1) - 1) B _ _ _ _ _ (X18.more (own_le rfl) (own_le rfl)) rfl N18 O18 Zz18 A18 (by omega) (own_mx (p := 2) hnn (by decide) rfl (by omega))
      · obtain ⟨v19, T19, Lc19, X19, hQ19, st19⟩ := own_virt (own_pol l Z a0 hW q1 D0 nn B h15 n0 Zz15 O15 A15 (by omega) (by omega)) X15 Y hZH hown (tw_ hw 235 rfl) (tw_ hw 236 rfl) (tw_ hw 238 rfl) (tw_ hw 237 rfl) (tw_ hw 239 rfl) (tw_ hw 2 rfl) (by decide) e15 (own_AQ.ex A15) (g := (mkF m 157 #[vj i0, ss, vi i1, vj i2, ss, vj i3, ss, vj i4, ss, vj D0, ss, vi kv, vi (3 : Int32), vr q1, vi (1 : Int32), vj (Int64.ofNat nn), ss, uu, uu] [(.ref q1)])) rfl hml.symm (argsL := []) (rest := []) (lenOf pd_6 rfl) rfl at_157
        obtain ⟨A19, ⟨vv19, rfl, hv19⟩, Nq19, O19, Zz19⟩ := hQ19
        have N19 := Fr.app N15 Nq19
        refine own_gs ?_ (own_gs st19 ?_)
        · refine XS.iload X15.here hx rfl (hb hby at_149) rfl ?_
          refine XS.iconst X15.here hx rfl (hb hby at_151) ?_
          refine XS.icmpNo X15.here hx rfl (hb hby at_152) rfl (flt ((by decide) : ¬ ((3 : Int32) < (1 : Int32)))).1 ?_
          exact XS.aload X15.here hx rfl (hb hby at_155) rfl rfl (Steps.refl _)
        obtain ⟨v20, T20, Lc20, X20, hQ20, st20⟩ := own_virt (own_pol l Z a0 hW q1 D0 (nn - 1) B T19.heap n0 Zz19 O19 A19 (by omega) (by omega)) X19 Y hZH hown (tw_ hw 235 rfl) (tw_ hw 236 rfl) (tw_ hw 238 rfl) (tw_ hw 237 rfl) (tw_ hw 239 rfl) (tw_ hw 2 rfl) (by decide) rfl (own_AQ.ex A19) (g := (mkF m 169 #[vj i0, ss, vi i1, vj i2, ss, vj i3, ss, vj i4, ss, vj D0, ss, vi kv, vi (3 : Int32), vr q1, vi (1 : Int32), vj (Int64.ofNat nn), ss, uu, uu] [(.ref q1)])) rfl hml.symm (argsL := []) (rest := []) (lenOf pd_6 rfl) rfl at_169
        obtain ⟨A20, ⟨vv20, rfl, hv20⟩, Nq20, O20, Zz20⟩ := hQ20
        have N20 := Fr.app N19 Nq20
        refine own_gs ?_ (own_gs st20 ?_)
        · refine XS.pop X19.here hx rfl (hb hby at_160) rfl hv19 ?_
          refine XS.iload X19.here hx rfl (hb hby at_161) rfl ?_
          refine XS.iconst X19.here hx rfl (hb hby at_163) ?_
          refine XS.icmpNo X19.here hx rfl (hb hby at_164) rfl (flt ((by decide) : ¬ ((3 : Int32) < (2 : Int32)))).1 ?_
          exact XS.aload X19.here hx rfl (hb hby at_167) rfl rfl (Steps.refl _)
        obtain ⟨v21, T21, Lc21, X21, hQ21, st21⟩ := own_virt (own_pol l Z a0 hW q1 D0 ((nn - 1) - 1) B T20.heap n0 Zz20 O20 A20 (by omega) (by omega)) X20 Y hZH hown (tw_ hw 235 rfl) (tw_ hw 236 rfl) (tw_ hw 238 rfl) (tw_ hw 237 rfl) (tw_ hw 239 rfl) (tw_ hw 2 rfl) (by decide) rfl (own_AQ.ex A20) (g := (mkF m 181 #[vj i0, ss, vi i1, vj i2, ss, vj i3, ss, vj i4, ss, vj D0, ss, vi kv, vi (3 : Int32), vr q1, vi (1 : Int32), vj (Int64.ofNat nn), ss, uu, uu] [(.ref q1)])) rfl hml.symm (argsL := []) (rest := []) (lenOf pd_6 rfl) rfl at_181
        obtain ⟨A21, ⟨vv21, rfl, hv21⟩, Nq21, O21, Zz21⟩ := hQ21
        have N21 := Fr.app N20 Nq21
        refine own_gs ?_ (own_gs st21 ?_)
        · refine XS.pop X20.here hx rfl (hb hby at_172) rfl hv20 ?_
          refine XS.iload X20.here hx rfl (hb hby at_173) rfl ?_
          refine XS.iconst X20.here hx rfl (hb hby at_175) ?_
          refine XS.icmpNo X20.here hx rfl (hb hby at_176) rfl (flt ((by decide) : ¬ ((3 : Int32) < (3 : Int32)))).1 ?_
          exact XS.aload X20.here hx rfl (hb hby at_179) rfl rfl (Steps.refl _)
        refine own_gs (cur' := T21.setTop (mkF m 185 #[vj i0, ss, vi i1, vj i2, ss, vj i3, ss, vj i4, ss, vj D0, ss, vi kv, vi (3 : Int32), vr q1, vi (1 : Int32), vj (Int64.ofNat nn), ss, uu, uu] [])) ?_ ?_
        · exact XS.pop X21.here hx rfl (hb hby at_184) rfl hv21 (Steps.refl _)
        exact J185 q1 nn (((nn - 1) - 1) - 1) B _ _ _ _ _ (X21.more (own_le rfl) (own_le rfl)) rfl N21 O21 Zz21 A21 (by omega) (own_mx (p := 3) hnn (by decide) rfl (by omega))
    have J107 : ∀ (q1 nn B : Nat) (kv pv : Int32) (T22 : State) (L22 : List Loc) (h22 : Heap) (X22 : Stand p l e room_1 s m #[(.long i0), (.int i1), (.long i2), (.long i3), (.long i4)] below meth c T22 L22 30 150) (e22 : T22.heap = h22) (N22 : Fr n0 L22) (O22 : Old Z n0 h22) (Zz22 : n0 ≤ h22.size) (A22 : own_AQ Z h22 n0 q1 D0 nn B) (hB : B ≤ 15) (hnn : nn ≤ 3) (hp4 : pv = (0 : Int32) ∨ pv = (1 : Int32) ∨ pv = (2 : Int32) ∨ pv = (3 : Int32)) (hmn : (if D0 < (kv.toInt64) then D0 else (kv.toInt64)) = Int64.ofNat nn), own_Fin p e below (T22.setTop (mkF m 107 #[vj i0, ss, vi i1, vj i2, ss, vj i3, ss, vj i4, ss, vj D0, ss, vi kv, vi pv, vr q1, vi (1 : Int32), uu, uu, uu, uu] [])) (own_G s (own_law_Q Z i0 i1 i2 i3 i4 h0 n0) room_1) := by
      intro q1 nn B kv pv T22 L22 h22 X22 e22 N22 O22 Zz22 A22 hB hnn hp4 hmn
      obtain ⟨T23, L23, X23, Nq23, e23, st23⟩ := own_pcall (own_min l Z a0 hW (kv.toInt64) D0 h22 n0 Zz22 O22) X22 hx hZH hown (tw_ hw 203 rfl) (tw_ hw 204 rfl) (tw_ hw 205 rfl) (tw_ hw 206 rfl) (by decide) e22 (g := (mkF m 112 #[vj i0, ss, vi i1, vj i2, ss, vj i3, ss, vj i4, ss, vj D0, ss, vi kv, vi pv, vr q1, vi (1 : Int32), uu, uu, uu, uu] [(.long D0), (.long (kv.toInt64))])) rfl hml.symm (argsL := [(.long (kv.toInt64)), (.long D0)]) (rest := []) (lenOf pd_30 rfl) rfl (hb hby at_112) (own_le rfl) (own_le rfl)
      have N23 := Fr.app N22 Nq23
      refine own_gs ?_ (own_gs st23 ?_)
      · refine XS.iload X22.here hx rfl (hb hby at_107) rfl ?_
        refine XS.i2l X22.here hx rfl (hb hby at_109) rfl ?_
        exact XS.lload X22.here hx rfl (hb hby at_110) rfl (Steps.refl _)
      rw [hmn]
      refine own_gs (cur' := T23.setTop (mkF m 124 #[vj i0, ss, vi i1, vj i2, ss, vj i3, ss, vj i4, ss, vj D0, ss, vi kv, vi pv, vr q1, vi (1 : Int32), vj (Int64.ofNat nn), ss, uu, uu] [(.ref q1)])) ?_ ?_
      · refine XS.lstore X23.here hx rfl (hb hby at_115) rfl (l' := #[vj i0, ss, vi i1, vj i2, ss, vj i3, ss, vj i4, ss, vj D0, ss, vi kv, vi pv, vr q1, vi (1 : Int32), vj (Int64.ofNat nn), ss, uu, uu]) rfl ?_
        refine XS.iload X23.here hx rfl (hb hby at_117) rfl ?_
        refine XS.ifNo X23.here hx rfl (hb hby at_119) rfl ((if0 _ _).trans (feq ((by decide) : ¬ ((1 : Int32) = (0 : Int32)))).1) ?_
        exact XS.aload X23.here hx rfl (hb hby at_122) rfl rfl (Steps.refl _)
      rcases Nat.eq_zero_or_pos nn with hz | hz
      · obtain ⟨v24, T24, Lc24, X24, hQ24, st24⟩ := own_virt (own_ie1 l Z a0 hW q1 nn h22 n0 Zz22 O22 (own_AQ.ex A22) (own_AQ.sz A22) hz) X23 Y hZH hown (tw_ hw 51 rfl) (tw_ hw 52 rfl) (tw_ hw 54 rfl) (tw_ hw 53 rfl) (tw_ hw 55 rfl) (tw_ hw 2 rfl) (by decide) e23 (own_AQ.ex A22) (g := (mkF m 124 #[vj i0, ss, vi i1, vj i2, ss, vj i3, ss, vj i4, ss, vj D0, ss, vi kv, vi pv, vr q1, vi (1 : Int32), vj (Int64.ofNat nn), ss, uu, uu] [(.ref q1)])) rfl hml.symm (argsL := []) (rest := []) (lenOf pd_24 rfl) rfl at_124
        obtain ⟨rfl, Nq24, eh24⟩ := hQ24
        have N24 := Fr.app N23 Nq24
        refine own_gs st24 ?_
        refine own_gs (cur' := T24.setTop (mkF m 149 #[vj i0, ss, vi i1, vj i2, ss, vj i3, ss, vj i4, ss, vj D0, ss, vi kv, vi pv, vr q1, vi (1 : Int32), vj (Int64.ofNat nn), ss, uu, uu] [])) ?_ ?_
        · refine XS.lload X24.here hx rfl (hb hby at_127) rfl ?_
          refine XS.lconst X24.here hx rfl (hb hby at_129) ?_
          refine XS.lcmp X24.here hx rfl (hb hby at_130) rfl ?_
          refine XS.ifNo X24.here hx rfl (hb hby at_131) rfl ((if0 _ _).trans (teq ((own_eq64 (own_o64z hz)) : (lcmpW (Int64.ofNat nn) (0 : Int64)) = (0 : Int32))).2) ?_
          refine XS.iconst X24.here hx rfl (hb hby at_134) ?_
          refine XS.goto X24.here hx rfl (pc0 := 135) (pc' := 139) rfl (hb hby at_135) (by decide) (by decide) ?_
          refine XS.icmpNo X24.here hx rfl (hb hby at_139) rfl (teq ((by decide) : (1 : Int32) = (1 : Int32))).2 ?_
          refine XS.iconst X24.here hx rfl (hb hby at_142) ?_
          refine XS.goto X24.here hx rfl (pc0 := 143) (pc' := 147) rfl (hb hby at_143) (by decide) (by decide) ?_
          exact XS.istore X24.here hx rfl (hb hby at_147) rfl (l' := #[vj i0, ss, vi i1, vj i2, ss, vj i3, ss, vj i4, ss, vj D0, ss, vi kv, vi pv, vr q1, vi (1 : Int32), vj (Int64.ofNat nn), ss, uu, uu]) rfl (Steps.refl _)
        exact J149 q1 nn B _ _ _ _ _ (X24.more (own_le rfl) (own_le rfl)) eh24 N24 O22 Zz22 A22 hB hnn hp4
      · obtain ⟨v25, T25, Lc25, X25, hQ25, st25⟩ := own_virt (own_ie0 l Z a0 hW q1 nn h22 n0 Zz22 O22 (own_AQ.ex A22) (own_AQ.sz A22) hz (by omega)) X23 Y hZH hown (tw_ hw 51 rfl) (tw_ hw 52 rfl) (tw_ hw 54 rfl) (tw_ hw 53 rfl) (tw_ hw 55 rfl) (tw_ hw 2 rfl) (by decide) e23 (own_AQ.ex A22) (g := (mkF m 124 #[vj i0, ss, vi i1, vj i2, ss, vj i3, ss, vj i4, ss, vj D0, ss, vi kv, vi pv, vr q1, vi (1 : Int32), vj (Int64.ofNat nn), ss, uu, uu] [(.ref q1)])) rfl hml.symm (argsL := []) (rest := []) (lenOf pd_24 rfl) rfl at_124
        obtain ⟨rfl, Nq25, eh25⟩ := hQ25
        have N25 := Fr.app N23 Nq25
        refine own_gs st25 ?_
        refine own_gs (cur' := T25.setTop (mkF m 149 #[vj i0, ss, vi i1, vj i2, ss, vj i3, ss, vj i4, ss, vj D0, ss, vi kv, vi pv, vr q1, vi (1 : Int32), vj (Int64.ofNat nn), ss, uu, uu] [])) ?_ ?_
        · refine XS.lload X25.here hx rfl (hb hby at_127) rfl ?_
          refine XS.lconst X25.here hx rfl (hb hby at_129) ?_
          refine XS.lcmp X25.here hx rfl (hb hby at_130) rfl ?_
          refine XS.ifYes X25.here hx rfl (pc0 := 131) (pc' := 138) rfl (hb hby at_131) rfl ((if0 _ _).trans (feq ((own_neq64 (own_o64n hz (by omega))) : ¬ ((lcmpW (Int64.ofNat nn) (0 : Int64)) = (0 : Int32)))).2) (by decide) (by decide) ?_
          refine XS.iconst X25.here hx rfl (hb hby at_138) ?_
          refine XS.icmpNo X25.here hx rfl (hb hby at_139) rfl (teq ((by decide) : (0 : Int32) = (0 : Int32))).2 ?_
          refine XS.iconst X25.here hx rfl (hb hby at_142) ?_
          refine XS.goto X25.here hx rfl (pc0 := 143) (pc' := 147) rfl (hb hby at_143) (by decide) (by decide) ?_
          exact XS.istore X25.here hx rfl (hb hby at_147) rfl (l' := #[vj i0, ss, vi i1, vj i2, ss, vj i3, ss, vj i4, ss, vj D0, ss, vi kv, vi pv, vr q1, vi (1 : Int32), vj (Int64.ofNat nn), ss, uu, uu]) rfl (Steps.refl _)
        exact J149 q1 nn B _ _ _ _ _ (X25.more (own_le rfl) (own_le rfl)) eh25 N25 O22 Zz22 A22 hB hnn hp4
    refine own_gs (cur' := s₁.setTop (mkF m 22 #[vj i0, ss, vi i1, vj i2, ss, vj i3, ss, vj i4, ss, vj D0, ss, uu, uu, uu, uu, uu, uu, uu, uu] [(.int (i1 &&& (3 : Int32)))])) ?_ ?_
    · refine XS.iloadN X0.here hx rfl (hb hby at_19) rfl ?_
      refine XS.iconst X0.here hx rfl (hb hby at_20) ?_
      exact XS.iand X0.here hx rfl (hb hby at_21) rfl (Steps.refl _)
    have hk4 := own_and3 i1
    generalize (i1 &&& (3 : Int32)) = kv at hk4 ⊢
    refine own_gs (cur' := s₁.setTop (mkF m 29 #[vj i0, ss, vi i1, vj i2, ss, vj i3, ss, vj i4, ss, vj D0, ss, vi kv, uu, uu, uu, uu, uu, uu, uu] [(.int (((i1.toUInt32 >>> ((2 : Int32) &&& 31).toUInt32).toInt32) &&& (3 : Int32)))])) ?_ ?_
    · refine XS.istore X0.here hx rfl (hb hby at_22) rfl (l' := #[vj i0, ss, vi i1, vj i2, ss, vj i3, ss, vj i4, ss, vj D0, ss, vi kv, uu, uu, uu, uu, uu, uu, uu]) rfl ?_
      refine XS.iloadN X0.here hx rfl (hb hby at_24) rfl ?_
      refine XS.iconst X0.here hx rfl (hb hby at_25) ?_
      refine XS.iushr X0.here hx rfl (hb hby at_26) rfl ?_
      refine XS.iconst X0.here hx rfl (hb hby at_27) ?_
      exact XS.iand X0.here hx rfl (hb hby at_28) rfl (Steps.refl _)
    have hp4 := own_and3 ((i1.toUInt32 >>> ((2 : Int32) &&& 31).toUInt32).toInt32)
    generalize (((i1.toUInt32 >>> ((2 : Int32) &&& 31).toUInt32).toInt32) &&& (3 : Int32)) = pv at hp4 ⊢
    obtain ⟨T26, h26, X26, e26, E26, A26, D26, -, st26⟩ := newO X0 hx hZ hown (tw_ hw 0 rfl) (tw_ hw 1 rfl) (tw_ hw 2 rfl) e0 (g := (mkF m 31 #[vj i0, ss, vi i1, vj i2, ss, vj i3, ss, vj i4, ss, vj D0, ss, vi kv, vi pv, uu, uu, uu, uu, uu, uu] [])) rfl (hb hby at_31) (by decide) (by decide)
    obtain ⟨b26, g26⟩ : ∃ z, z = h0.size := ⟨_, rfl⟩
    rw [← g26] at A26 D26 st26
    have lt26 := own_lt A26.lt
    refine own_gs ?_ (own_go st26 ?_)
    · exact XS.istore X0.here hx rfl (hb hby at_29) rfl (l' := #[vj i0, ss, vi i1, vj i2, ss, vj i3, ss, vj i4, ss, vj D0, ss, vi kv, vi pv, uu, uu, uu, uu, uu, uu]) rfl (Steps.refl _)
    have z27 := E26.1
    have Zz27 := Nat.le_trans Z0 z27
    have K27 := K0.ext E26
    have O27 := O0.ext E26
    have F26_byEffort : Fld Z h26 b26 "com/example/capow/capow/service/AdmissionQueue" "byEffort" "Ljava/util/TreeMap;" .null := D26 (Or.inr (tw_ hw 29 rfl)) (ty := (.object "java/util/TreeMap")) (by decide)
    have F26_byArrival : Fld Z h26 b26 "com/example/capow/capow/service/AdmissionQueue" "byArrival" "Ljava/util/ArrayDeque;" .null := D26 (Or.inr (tw_ hw 48 rfl)) (ty := (.object "java/util/ArrayDeque")) (by decide)
    have F26_depth : Fld Z h26 b26 "com/example/capow/capow/service/AdmissionQueue" "depth" "J" (.long (0 : Int64)) := D26 (Or.inr (tw_ hw 50 rfl)) (ty := .long) (by decide)
    have F26_size : Fld Z h26 b26 "com/example/capow/capow/service/AdmissionQueue" "size" "J" (.long (0 : Int64)) := D26 (Or.inl (tw_ hw 57 rfl)) (ty := .long) (by decide)
    obtain ⟨v28, T28, Lc28, X28, hQ28, st28⟩ := own_make (own_aqi l Z a0 hW b26 D0 h26 n0 Zz27 O27 A26 F26_byEffort F26_byArrival F26_depth F26_size (by omega) hD) X26 Y hZH hown (tw_ hw 3 rfl) (tw_ hw 4 rfl) (tw_ hw 5 rfl) (tw_ hw 2 rfl) (by decide) rfl e26 (a := b26) (g := (mkF m 37 #[vj i0, ss, vi i1, vj i2, ss, vj i3, ss, vj i4, ss, vj D0, ss, vi kv, vi pv, uu, uu, uu, uu, uu, uu] [(.long D0), (.ref b26), (.ref b26)])) rfl hml.symm (argsL := [(.long D0)]) (rest := [(.ref b26)]) (lenOf pd_3 rfl) rfl at_37
    obtain ⟨rfl, Nq28, Kq28, A28⟩ := hQ28
    have N28 := Fr.app N0 Nq28
    obtain ⟨z29, Zz29, K29, O29⟩ := own_eK Kq28 Zz27 K27 O27 (allS (Or.inr (by omega)) all0) (allS (by omega) all0)
    refine own_gs ?_ (own_gs st28 ?_)
    · refine XS.dup X26.here hx rfl (hb hby at_34) rfl rfl ?_
      exact XS.lload X26.here hx rfl (hb hby at_35) rfl (Steps.refl _)
    obtain ⟨q1, hq1⟩ : ∃ q, q = b26 := ⟨_, rfl⟩
    rw [← hq1] at A28
    rw [← hq1]
    obtain ⟨v30, T30, Lc30, X30, hQ30, st30⟩ := own_virt (own_ie1 l Z a0 hW q1 0 T28.heap n0 Zz29 O29 (own_AQ.ex A28) (own_AQ.sz A28) rfl) X28 Y hZH hown (tw_ hw 51 rfl) (tw_ hw 52 rfl) (tw_ hw 54 rfl) (tw_ hw 53 rfl) (tw_ hw 55 rfl) (tw_ hw 2 rfl) (by decide) rfl (own_AQ.ex A28) (g := (mkF m 44 #[vj i0, ss, vi i1, vj i2, ss, vj i3, ss, vj i4, ss, vj D0, ss, vi kv, vi pv, vr q1, uu, uu, uu, uu, uu] [(.ref q1)])) rfl hml.symm (argsL := []) (rest := []) (lenOf pd_24 rfl) rfl at_44
    obtain ⟨rfl, Nq30, eh30⟩ := hQ30
    have N30 := Fr.app N28 Nq30
    refine own_gs ?_ (own_gs st30 ?_)
    · refine XS.astore X28.here hx rfl (hb hby at_40) rfl rfl (l' := #[vj i0, ss, vi i1, vj i2, ss, vj i3, ss, vj i4, ss, vj D0, ss, vi kv, vi pv, vr q1, uu, uu, uu, uu, uu]) rfl ?_
      exact XS.aload X28.here hx rfl (hb hby at_42) rfl rfl (Steps.refl _)
    refine own_gs (cur' := T30.setTop (mkF m 49 #[vj i0, ss, vi i1, vj i2, ss, vj i3, ss, vj i4, ss, vj D0, ss, vi kv, vi pv, vr q1, vi (1 : Int32), uu, uu, uu, uu] [])) ?_ ?_
    · exact XS.istore X30.here hx rfl (hb hby at_47) rfl (l' := #[vj i0, ss, vi i1, vj i2, ss, vj i3, ss, vj i4, ss, vj D0, ss, vi kv, vi pv, vr q1, vi (1 : Int32), uu, uu, uu, uu]) rfl (Steps.refl _)
    rcases hk4 with rfl | rfl | rfl | rfl
    · refine own_gs (cur' := T30.setTop (mkF m 107 #[vj i0, ss, vi i1, vj i2, ss, vj i3, ss, vj i4, ss, vj D0, ss, vi (0 : Int32), vi pv, vr q1, vi (1 : Int32), uu, uu, uu, uu] [])) ?_ ?_
      · refine XS.iload X30.here hx rfl (hb hby at_49) rfl ?_
        refine XS.iconst X30.here hx rfl (hb hby at_51) ?_
        refine XS.icmpYes X30.here hx rfl (pc0 := 52) (pc' := 67) rfl (hb hby at_52) rfl (tlt ((by decide) : (0 : Int32) < (1 : Int32))).1 (by decide) (by decide) ?_
        refine XS.iload X30.here hx rfl (hb hby at_67) rfl ?_
        refine XS.iconst X30.here hx rfl (hb hby at_69) ?_
        refine XS.icmpYes X30.here hx rfl (pc0 := 70) (pc' := 86) rfl (hb hby at_70) rfl (tlt ((by decide) : (0 : Int32) < (2 : Int32))).1 (by decide) (by decide) ?_
        refine XS.iload X30.here hx rfl (hb hby at_86) rfl ?_
        refine XS.iconst X30.here hx rfl (hb hby at_88) ?_
        exact XS.icmpYes X30.here hx rfl (pc0 := 89) (pc' := 107) rfl (hb hby at_89) rfl (tlt ((by decide) : (0 : Int32) < (3 : Int32))).1 (by decide) (by decide) (Steps.refl _)
      exact J107 q1 0 0 _ _ _ _ _ (X30.more (own_le rfl) (own_le rfl)) eh30 N30 O29 Zz29 A28 (by omega) (by omega) hp4 (own_P.min (k := 0) (by decide) (own_P.zero hD) rfl)
    · obtain ⟨v31, T31, Lc31, X31, hQ31, st31⟩ := own_stat (own_ivo1 l Z a0 hW T28.heap n0 Zz29 O29) X30 Y hZH hown (tw_ hw 58 rfl) (tw_ hw 59 rfl) (tw_ hw 61 rfl) (tw_ hw 60 rfl) (by decide) eh30 (g := (mkF m 60 #[vj i0, ss, vi i1, vj i2, ss, vj i3, ss, vj i4, ss, vj D0, ss, vi (1 : Int32), vi pv, vr q1, vi (1 : Int32), uu, uu, uu, uu] [(.int (1 : Int32)), (.long (0 : Int64)), (.long i2), (.ref q1)])) rfl hml.symm (argsL := [(.int (1 : Int32))]) (rest := [(.long (0 : Int64)), (.long i2), (.ref q1)]) (lenOf pd_31 rfl) rfl at_60
      obtain ⟨⟨r31, rfl⟩, Nq31, eh31⟩ := hQ31
      have N31 := Fr.app N30 Nq31
      refine own_gs ?_ (own_gs st31 ?_)
      · refine XS.iload X30.here hx rfl (hb hby at_49) rfl ?_
        refine XS.iconst X30.here hx rfl (hb hby at_51) ?_
        refine XS.icmpNo X30.here hx rfl (hb hby at_52) rfl (flt ((by decide) : ¬ ((1 : Int32) < (1 : Int32)))).1 ?_
        refine XS.aload X30.here hx rfl (hb hby at_55) rfl rfl ?_
        refine XS.lloadN X30.here hx rfl (hb hby at_57) rfl ?_
        refine XS.lconst X30.here hx rfl (hb hby at_58) ?_
        exact XS.iconst X30.here hx rfl (hb hby at_59) (Steps.refl _)
      obtain ⟨v32, T32, Lc32, X32, hQ32, st32⟩ := own_virt (own_add l Z a0 hW q1 r31 i2 (0 : Int64) D0 0 0 T28.heap n0 Zz29 O29 A28 (by omega) (by omega)) X31 Y hZH hown (tw_ hw 65 rfl) (tw_ hw 66 rfl) (tw_ hw 68 rfl) (tw_ hw 67 rfl) (tw_ hw 69 rfl) (tw_ hw 2 rfl) (by decide) eh31 (own_AQ.ex A28) (g := (mkF m 63 #[vj i0, ss, vi i1, vj i2, ss, vj i3, ss, vj i4, ss, vj D0, ss, vi (1 : Int32), vi pv, vr q1, vi (1 : Int32), uu, uu, uu, uu] [(.ref r31), (.long (0 : Int64)), (.long i2), (.ref q1)])) rfl hml.symm (argsL := [(.long i2), (.long (0 : Int64)), (.ref r31)]) (rest := []) (lenOf pd_32 rfl) rfl at_63
      obtain ⟨n32, A32, hn32, ⟨vv32, rfl, hv32⟩, Nq32, O32, Zz32⟩ := hQ32
      have N32 := Fr.app N31 Nq32
      have P32 := own_P.step (by decide) (own_P.zero hD) hn32
      have le32 := own_P.le P32
      refine own_gs st32 ?_
      refine own_gs (cur' := T32.setTop (mkF m 107 #[vj i0, ss, vi i1, vj i2, ss, vj i3, ss, vj i4, ss, vj D0, ss, vi (1 : Int32), vi pv, vr q1, vi (1 : Int32), uu, uu, uu, uu] [])) ?_ ?_
      · refine XS.pop X32.here hx rfl (hb hby at_66) rfl hv32 ?_
        refine XS.iload X32.here hx rfl (hb hby at_67) rfl ?_
        refine XS.iconst X32.here hx rfl (hb hby at_69) ?_
        refine XS.icmpYes X32.here hx rfl (pc0 := 70) (pc' := 86) rfl (hb hby at_70) rfl (tlt ((by decide) : (1 : Int32) < (2 : Int32))).1 (by decide) (by decide) ?_
        refine XS.iload X32.here hx rfl (hb hby at_86) rfl ?_
        refine XS.iconst X32.here hx rfl (hb hby at_88) ?_
        exact XS.icmpYes X32.here hx rfl (pc0 := 89) (pc' := 107) rfl (hb hby at_89) rfl (tlt ((by decide) : (1 : Int32) < (3 : Int32))).1 (by decide) (by decide) (Steps.refl _)
      exact J107 q1 n32 (0 + 2) _ _ _ _ _ (X32.more (own_le rfl) (own_le rfl)) rfl N32 O32 Zz32 A32 (by omega) (by omega) hp4 (own_P.min (k := 1) (by decide) P32 rfl)
    · obtain ⟨v33, T33, Lc33, X33, hQ33, st33⟩ := own_stat (own_ivo1 l Z a0 hW T28.heap n0 Zz29 O29) X30 Y hZH hown (tw_ hw 58 rfl) (tw_ hw 59 rfl) (tw_ hw 61 rfl) (tw_ hw 60 rfl) (by decide) eh30 (g := (mkF m 60 #[vj i0, ss, vi i1, vj i2, ss, vj i3, ss, vj i4, ss, vj D0, ss, vi (2 : Int32), vi pv, vr q1, vi (1 : Int32), uu, uu, uu, uu] [(.int (1 : Int32)), (.long (0 : Int64)), (.long i2), (.ref q1)])) rfl hml.symm (argsL := [(.int (1 : Int32))]) (rest := [(.long (0 : Int64)), (.long i2), (.ref q1)]) (lenOf pd_31 rfl) rfl at_60
      obtain ⟨⟨r33, rfl⟩, Nq33, eh33⟩ := hQ33
      have N33 := Fr.app N30 Nq33
      refine own_gs ?_ (own_gs st33 ?_)
      · refine XS.iload X30.here hx rfl (hb hby at_49) rfl ?_
        refine XS.iconst X30.here hx rfl (hb hby at_51) ?_
        refine XS.icmpNo X30.here hx rfl (hb hby at_52) rfl (flt ((by decide) : ¬ ((2 : Int32) < (1 : Int32)))).1 ?_
        refine XS.aload X30.here hx rfl (hb hby at_55) rfl rfl ?_
        refine XS.lloadN X30.here hx rfl (hb hby at_57) rfl ?_
        refine XS.lconst X30.here hx rfl (hb hby at_58) ?_
        exact XS.iconst X30.here hx rfl (hb hby at_59) (Steps.refl _)
      obtain ⟨v34, T34, Lc34, X34, hQ34, st34⟩ := own_virt (own_add l Z a0 hW q1 r33 i2 (0 : Int64) D0 0 0 T28.heap n0 Zz29 O29 A28 (by omega) (by omega)) X33 Y hZH hown (tw_ hw 65 rfl) (tw_ hw 66 rfl) (tw_ hw 68 rfl) (tw_ hw 67 rfl) (tw_ hw 69 rfl) (tw_ hw 2 rfl) (by decide) eh33 (own_AQ.ex A28) (g := (mkF m 63 #[vj i0, ss, vi i1, vj i2, ss, vj i3, ss, vj i4, ss, vj D0, ss, vi (2 : Int32), vi pv, vr q1, vi (1 : Int32), uu, uu, uu, uu] [(.ref r33), (.long (0 : Int64)), (.long i2), (.ref q1)])) rfl hml.symm (argsL := [(.long i2), (.long (0 : Int64)), (.ref r33)]) (rest := []) (lenOf pd_32 rfl) rfl at_63
      obtain ⟨n34, A34, hn34, ⟨vv34, rfl, hv34⟩, Nq34, O34, Zz34⟩ := hQ34
      have N34 := Fr.app N33 Nq34
      have P34 := own_P.step (by decide) (own_P.zero hD) hn34
      have le34 := own_P.le P34
      refine own_gs st34 ?_
      obtain ⟨v35, T35, Lc35, X35, hQ35, st35⟩ := own_stat (own_ivo2 l Z a0 hW T34.heap n0 Zz34 O34) X34 Y hZH hown (tw_ hw 58 rfl) (tw_ hw 59 rfl) (tw_ hw 61 rfl) (tw_ hw 60 rfl) (by decide) rfl (g := (mkF m 79 #[vj i0, ss, vi i1, vj i2, ss, vj i3, ss, vj i4, ss, vj D0, ss, vi (2 : Int32), vi pv, vr q1, vi (1 : Int32), uu, uu, uu, uu] [(.int (2 : Int32)), (.long (1 : Int64)), (.long i3), (.ref q1)])) rfl hml.symm (argsL := [(.int (2 : Int32))]) (rest := [(.long (1 : Int64)), (.long i3), (.ref q1)]) (lenOf pd_31 rfl) rfl at_79
      obtain ⟨⟨r35, rfl⟩, Nq35, eh35⟩ := hQ35
      have N35 := Fr.app N34 Nq35
      refine own_gs ?_ (own_gs st35 ?_)
      · refine XS.pop X34.here hx rfl (hb hby at_66) rfl hv34 ?_
        refine XS.iload X34.here hx rfl (hb hby at_67) rfl ?_
        refine XS.iconst X34.here hx rfl (hb hby at_69) ?_
        refine XS.icmpNo X34.here hx rfl (hb hby at_70) rfl (flt ((by decide) : ¬ ((2 : Int32) < (2 : Int32)))).1 ?_
        refine XS.aload X34.here hx rfl (hb hby at_73) rfl rfl ?_
        refine XS.lload X34.here hx rfl (hb hby at_75) rfl ?_
        refine XS.lconst X34.here hx rfl (hb hby at_77) ?_
        exact XS.iconst X34.here hx rfl (hb hby at_78) (Steps.refl _)
      obtain ⟨v36, T36, Lc36, X36, hQ36, st36⟩ := own_virt (own_add l Z a0 hW q1 r35 i3 (1 : Int64) D0 n34 (0 + 2) T34.heap n0 Zz34 O34 A34 (by omega) (by omega)) X35 Y hZH hown (tw_ hw 65 rfl) (tw_ hw 66 rfl) (tw_ hw 68 rfl) (tw_ hw 67 rfl) (tw_ hw 69 rfl) (tw_ hw 2 rfl) (by decide) eh35 (own_AQ.ex A34) (g := (mkF m 82 #[vj i0, ss, vi i1, vj i2, ss, vj i3, ss, vj i4, ss, vj D0, ss, vi (2 : Int32), vi pv, vr q1, vi (1 : Int32), uu, uu, uu, uu] [(.ref r35), (.long (1 : Int64)), (.long i3), (.ref q1)])) rfl hml.symm (argsL := [(.long i3), (.long (1 : Int64)), (.ref r35)]) (rest := []) (lenOf pd_32 rfl) rfl at_82
      obtain ⟨n36, A36, hn36, ⟨vv36, rfl, hv36⟩, Nq36, O36, Zz36⟩ := hQ36
      have N36 := Fr.app N35 Nq36
      have P36 := own_P.step (by decide) P34 hn36
      have le36 := own_P.le P36
      refine own_gs st36 ?_
      refine own_gs (cur' := T36.setTop (mkF m 107 #[vj i0, ss, vi i1, vj i2, ss, vj i3, ss, vj i4, ss, vj D0, ss, vi (2 : Int32), vi pv, vr q1, vi (1 : Int32), uu, uu, uu, uu] [])) ?_ ?_
      · refine XS.pop X36.here hx rfl (hb hby at_85) rfl hv36 ?_
        refine XS.iload X36.here hx rfl (hb hby at_86) rfl ?_
        refine XS.iconst X36.here hx rfl (hb hby at_88) ?_
        exact XS.icmpYes X36.here hx rfl (pc0 := 89) (pc' := 107) rfl (hb hby at_89) rfl (tlt ((by decide) : (2 : Int32) < (3 : Int32))).1 (by decide) (by decide) (Steps.refl _)
      exact J107 q1 n36 ((0 + 2) + 2) _ _ _ _ _ (X36.more (own_le rfl) (own_le rfl)) rfl N36 O36 Zz36 A36 (by omega) (by omega) hp4 (own_P.min (k := 2) (by decide) P36 rfl)
    · obtain ⟨v37, T37, Lc37, X37, hQ37, st37⟩ := own_stat (own_ivo1 l Z a0 hW T28.heap n0 Zz29 O29) X30 Y hZH hown (tw_ hw 58 rfl) (tw_ hw 59 rfl) (tw_ hw 61 rfl) (tw_ hw 60 rfl) (by decide) eh30 (g := (mkF m 60 #[vj i0, ss, vi i1, vj i2, ss, vj i3, ss, vj i4, ss, vj D0, ss, vi (3 : Int32), vi pv, vr q1, vi (1 : Int32), uu, uu, uu, uu] [(.int (1 : Int32)), (.long (0 : Int64)), (.long i2), (.ref q1)])) rfl hml.symm (argsL := [(.int (1 : Int32))]) (rest := [(.long (0 : Int64)), (.long i2), (.ref q1)]) (lenOf pd_31 rfl) rfl at_60
      obtain ⟨⟨r37, rfl⟩, Nq37, eh37⟩ := hQ37
      have N37 := Fr.app N30 Nq37
      refine own_gs ?_ (own_gs st37 ?_)
      · refine XS.iload X30.here hx rfl (hb hby at_49) rfl ?_
        refine XS.iconst X30.here hx rfl (hb hby at_51) ?_
        refine XS.icmpNo X30.here hx rfl (hb hby at_52) rfl (flt ((by decide) : ¬ ((3 : Int32) < (1 : Int32)))).1 ?_
        refine XS.aload X30.here hx rfl (hb hby at_55) rfl rfl ?_
        refine XS.lloadN X30.here hx rfl (hb hby at_57) rfl ?_
        refine XS.lconst X30.here hx rfl (hb hby at_58) ?_
        exact XS.iconst X30.here hx rfl (hb hby at_59) (Steps.refl _)
      obtain ⟨v38, T38, Lc38, X38, hQ38, st38⟩ := own_virt (own_add l Z a0 hW q1 r37 i2 (0 : Int64) D0 0 0 T28.heap n0 Zz29 O29 A28 (by omega) (by omega)) X37 Y hZH hown (tw_ hw 65 rfl) (tw_ hw 66 rfl) (tw_ hw 68 rfl) (tw_ hw 67 rfl) (tw_ hw 69 rfl) (tw_ hw 2 rfl) (by decide) eh37 (own_AQ.ex A28) (g := (mkF m 63 #[vj i0, ss, vi i1, vj i2, ss, vj i3, ss, vj i4, ss, vj D0, ss, vi (3 : Int32), vi pv, vr q1, vi (1 : Int32), uu, uu, uu, uu] [(.ref r37), (.long (0 : Int64)), (.long i2), (.ref q1)])) rfl hml.symm (argsL := [(.long i2), (.long (0 : Int64)), (.ref r37)]) (rest := []) (lenOf pd_32 rfl) rfl at_63
      obtain ⟨n38, A38, hn38, ⟨vv38, rfl, hv38⟩, Nq38, O38, Zz38⟩ := hQ38
      have N38 := Fr.app N37 Nq38
      have P38 := own_P.step (by decide) (own_P.zero hD) hn38
      have le38 := own_P.le P38
      refine own_gs st38 ?_
      obtain ⟨v39, T39, Lc39, X39, hQ39, st39⟩ := own_stat (own_ivo2 l Z a0 hW T38.heap n0 Zz38 O38) X38 Y hZH hown (tw_ hw 58 rfl) (tw_ hw 59 rfl) (tw_ hw 61 rfl) (tw_ hw 60 rfl) (by decide) rfl (g := (mkF m 79 #[vj i0, ss, vi i1, vj i2, ss, vj i3, ss, vj i4, ss, vj D0, ss, vi (3 : Int32), vi pv, vr q1, vi (1 : Int32), uu, uu, uu, uu] [(.int (2 : Int32)), (.long (1 : Int64)), (.long i3), (.ref q1)])) rfl hml.symm (argsL := [(.int (2 : Int32))]) (rest := [(.long (1 : Int64)), (.long i3), (.ref q1)]) (lenOf pd_31 rfl) rfl at_79
      obtain ⟨⟨r39, rfl⟩, Nq39, eh39⟩ := hQ39
      have N39 := Fr.app N38 Nq39
      refine own_gs ?_ (own_gs st39 ?_)
      · refine XS.pop X38.here hx rfl (hb hby at_66) rfl hv38 ?_
        refine XS.iload X38.here hx rfl (hb hby at_67) rfl ?_
        refine XS.iconst X38.here hx rfl (hb hby at_69) ?_
        refine XS.icmpNo X38.here hx rfl (hb hby at_70) rfl (flt ((by decide) : ¬ ((3 : Int32) < (2 : Int32)))).1 ?_
        refine XS.aload X38.here hx rfl (hb hby at_73) rfl rfl ?_
        refine XS.lload X38.here hx rfl (hb hby at_75) rfl ?_
        refine XS.lconst X38.here hx rfl (hb hby at_77) ?_
        exact XS.iconst X38.here hx rfl (hb hby at_78) (Steps.refl _)
      obtain ⟨v40, T40, Lc40, X40, hQ40, st40⟩ := own_virt (own_add l Z a0 hW q1 r39 i3 (1 : Int64) D0 n38 (0 + 2) T38.heap n0 Zz38 O38 A38 (by omega) (by omega)) X39 Y hZH hown (tw_ hw 65 rfl) (tw_ hw 66 rfl) (tw_ hw 68 rfl) (tw_ hw 67 rfl) (tw_ hw 69 rfl) (tw_ hw 2 rfl) (by decide) eh39 (own_AQ.ex A38) (g := (mkF m 82 #[vj i0, ss, vi i1, vj i2, ss, vj i3, ss, vj i4, ss, vj D0, ss, vi (3 : Int32), vi pv, vr q1, vi (1 : Int32), uu, uu, uu, uu] [(.ref r39), (.long (1 : Int64)), (.long i3), (.ref q1)])) rfl hml.symm (argsL := [(.long i3), (.long (1 : Int64)), (.ref r39)]) (rest := []) (lenOf pd_32 rfl) rfl at_82
      obtain ⟨n40, A40, hn40, ⟨vv40, rfl, hv40⟩, Nq40, O40, Zz40⟩ := hQ40
      have N40 := Fr.app N39 Nq40
      have P40 := own_P.step (by decide) P38 hn40
      have le40 := own_P.le P40
      refine own_gs st40 ?_
      obtain ⟨v41, T41, Lc41, X41, hQ41, st41⟩ := own_stat (own_ivo3 l Z a0 hW T40.heap n0 Zz40 O40) X40 Y hZH hown (tw_ hw 58 rfl) (tw_ hw 59 rfl) (tw_ hw 61 rfl) (tw_ hw 60 rfl) (by decide) rfl (g := (mkF m 100 #[vj i0, ss, vi i1, vj i2, ss, vj i3, ss, vj i4, ss, vj D0, ss, vi (3 : Int32), vi pv, vr q1, vi (1 : Int32), uu, uu, uu, uu] [(.int (3 : Int32)), (.long (2 : Int64)), (.long i4), (.ref q1)])) rfl hml.symm (argsL := [(.int (3 : Int32))]) (rest := [(.long (2 : Int64)), (.long i4), (.ref q1)]) (lenOf pd_31 rfl) rfl at_100
      obtain ⟨⟨r41, rfl⟩, Nq41, eh41⟩ := hQ41
      have N41 := Fr.app N40 Nq41
      refine own_gs ?_ (own_gs st41 ?_)
      · refine XS.pop X40.here hx rfl (hb hby at_85) rfl hv40 ?_
        refine XS.iload X40.here hx rfl (hb hby at_86) rfl ?_
        refine XS.iconst X40.here hx rfl (hb hby at_88) ?_
        refine XS.icmpNo X40.here hx rfl (hb hby at_89) rfl (flt ((by decide) : ¬ ((3 : Int32) < (3 : Int32)))).1 ?_
        refine XS.aload X40.here hx rfl (hb hby at_92) rfl rfl ?_
        refine XS.lload X40.here hx rfl (hb hby at_94) rfl ?_
        refine X40.ldc2Long hx hown (mvT hZ (tw_ hw 210 rfl)) (g := (mkF m 96 #[vj i0, ss, vi i1, vj i2, ss, vj i3, ss, vj i4, ss, vj D0, ss, vi (3 : Int32), vi pv, vr q1, vi (1 : Int32), uu, uu, uu, uu] [(.long i4), (.ref q1)])) rfl (hb hby at_96) _ ?_
        exact XS.iconst X40.here hx rfl (hb hby at_99) (Steps.refl _)
      obtain ⟨v42, T42, Lc42, X42, hQ42, st42⟩ := own_virt (own_add l Z a0 hW q1 r41 i4 (2 : Int64) D0 n40 ((0 + 2) + 2) T40.heap n0 Zz40 O40 A40 (by omega) (by omega)) X41 Y hZH hown (tw_ hw 65 rfl) (tw_ hw 66 rfl) (tw_ hw 68 rfl) (tw_ hw 67 rfl) (tw_ hw 69 rfl) (tw_ hw 2 rfl) (by decide) eh41 (own_AQ.ex A40) (g := (mkF m 103 #[vj i0, ss, vi i1, vj i2, ss, vj i3, ss, vj i4, ss, vj D0, ss, vi (3 : Int32), vi pv, vr q1, vi (1 : Int32), uu, uu, uu, uu] [(.ref r41), (.long (2 : Int64)), (.long i4), (.ref q1)])) rfl hml.symm (argsL := [(.long i4), (.long (2 : Int64)), (.ref r41)]) (rest := []) (lenOf pd_32 rfl) rfl at_103
      obtain ⟨n42, A42, hn42, ⟨vv42, rfl, hv42⟩, Nq42, O42, Zz42⟩ := hQ42
      have N42 := Fr.app N41 Nq42
      have P42 := own_P.step (by decide) P40 hn42
      have le42 := own_P.le P42
      refine own_gs st42 ?_
      refine own_gs (cur' := T42.setTop (mkF m 107 #[vj i0, ss, vi i1, vj i2, ss, vj i3, ss, vj i4, ss, vj D0, ss, vi (3 : Int32), vi pv, vr q1, vi (1 : Int32), uu, uu, uu, uu] [])) ?_ ?_
      · exact XS.pop X42.here hx rfl (hb hby at_106) rfl hv42 (Steps.refl _)
      exact J107 q1 n42 (((0 + 2) + 2) + 2) _ _ _ _ _ (X42.more (own_le rfl) (own_le rfl)) rfl N42 O42 Zz42 A42 (by omega) (by omega) hp4 (own_P.min (k := 3) (by decide) P42 rfl)
  · intro J19
    refine own_gs (cur' := s₁.setTop (mkF m 3 #[vj i0, ss, vi i1, vj i2, ss, vj i3, ss, vj i4, ss, uu, uu, uu, uu, uu, uu, uu, uu, uu, uu] [(.int (lcmpW i0 (1 : Int64)))])) ?_ ?_
    · refine XS.lloadN X0.here hx rfl (hb hby at_0) rfl ?_
      refine XS.lconst X0.here hx rfl (hb hby at_1) ?_
      exact XS.lcmp X0.here hx rfl (hb hby at_2) rfl (Steps.refl _)
    by_cases hc3_43 : i0 < (1 : Int64)
    · refine own_gs (cur' := s₁.setTop (mkF m 19 #[vj i0, ss, vi i1, vj i2, ss, vj i3, ss, vj i4, ss, vj ((i0 &&& (3 : Int64)) + (1 : Int64)), ss, uu, uu, uu, uu, uu, uu, uu, uu] [])) ?_ ?_
      · refine XS.ifYes X0.here hx rfl (pc0 := 3) (pc' := 10) rfl (hb hby at_3) rfl ((if0 _ _).trans (tlt ((own_lt64 hc3_43) : (lcmpW i0 (1 : Int64)) < (0 : Int32))).1) (by decide) (by decide) ?_
        refine XS.lloadN X0.here hx rfl (hb hby at_10) rfl ?_
        refine X0.ldc2Long hx hown (mvT hZ (tw_ hw 326 rfl)) (g := (mkF m 11 #[vj i0, ss, vi i1, vj i2, ss, vj i3, ss, vj i4, ss, uu, uu, uu, uu, uu, uu, uu, uu, uu, uu] [(.long i0)])) rfl (hb hby at_11) _ ?_
        refine XS.land X0.here hx rfl (hb hby at_14) rfl ?_
        refine XS.lconst X0.here hx rfl (hb hby at_15) ?_
        refine XS.ladd X0.here hx rfl (hb hby at_16) rfl ?_
        exact XS.lstore X0.here hx rfl (hb hby at_17) rfl (l' := #[vj i0, ss, vi i1, vj i2, ss, vj i3, ss, vj i4, ss, vj ((i0 &&& (3 : Int64)) + (1 : Int64)), ss, uu, uu, uu, uu, uu, uu, uu, uu]) rfl (Steps.refl _)
      exact J19 _ (own_dp _)
    · refine own_gs (cur' := s₁.setTop (mkF m 19 #[vj i0, ss, vi i1, vj i2, ss, vj i3, ss, vj i4, ss, vj i0, ss, uu, uu, uu, uu, uu, uu, uu, uu] [])) ?_ ?_
      · refine XS.ifNo X0.here hx rfl (hb hby at_3) rfl ((if0 _ _).trans (flt ((own_nlt64 hc3_43) : ¬ ((lcmpW i0 (1 : Int64)) < (0 : Int32)))).1) ?_
        refine XS.lloadN X0.here hx rfl (hb hby at_6) rfl ?_
        refine XS.goto X0.here hx rfl (pc0 := 7) (pc' := 17) rfl (hb hby at_7) (by decide) (by decide) ?_
        exact XS.lstore X0.here hx rfl (hb hby at_17) rfl (l' := #[vj i0, ss, vi i1, vj i2, ss, vj i3, ss, vj i4, ss, vj i0, ss, uu, uu, uu, uu, uu, uu, uu, uu]) rfl (Steps.refl _)
      exact J19 _ hc3_43
set_option maxRecDepth 65536 in
set_option maxHeartbeats 40000000 in
theorem comes_1 {Post : Tables → Env → Array Value → State → Outcome → State → Prop} (hpost : ∀ tb e args s v u, (limb_1_1.after args s (.returned v) u = true ∧ limb_1_2.after args s (.returned v) u = true ∧ True) → FrameEnd s (.returned v) u (Jvm.fieldLocs frame_1_writes args s ++ Jvm.arrayLocs frame_1_arrays args s ++ Jvm.staticLocs frame_1_statics s) 64 384 → Post tb e args s (.returned v) u) :
    ArmFor flags0 classFile x code maxLocals ret World_1 tables_1 room_1 Calls_1 rest_1 Pre_1 Post := by
  intro l hfl _ _ p e ha hc hk s m args below hf hA hF happ hP
  obtain ⟨hcalls, hrest, hpre⟩ := hP
  obtain ⟨-, -, -, hnamed, -, -, -, hat⟩ := (Spec.applies_iff hf).mp happ
  obtain ⟨hg, hn⟩ := and_e (Cond.before_iff.mp (show (Jvm.Cond.and given_1 narrow_1).before args s = true from hpre))
  obtain ⟨ga0, gb0⟩ := and_e hg
  obtain ⟨ga1, gb1⟩ := and_e gb0
  obtain ⟨ga2, gb2⟩ := and_e gb1
  obtain ⟨ga3, gb3⟩ := and_e gb2
  obtain ⟨ga4, gb4⟩ := and_e gb3
  obtain ⟨w0, w1, w2, w3, w4, rfl⟩ : ∃ w0 w1 w2 w3 w4 : Value, args = #[w0, w1, w2, w3, w4] := by
    have hs : args.size = 5 := by simpa [Cond.value, given_1] using ga0
    obtain ⟨L⟩ := args
    match L, hs with
    | [w0, w1, w2, w3, w4], _ => exact ⟨w0, w1, w2, w3, w4, rfl⟩
  have hw := fun d (hd : d ∈ tables_1) => atoms_spec (ws := Jvm.Cond.code x code maxLocals ret :: tables_1) hat d (List.mem_cons_of_mem _ hd)
  obtain ⟨hsets, hown0⟩ := atoms_of _ (rest_1_c_eq ▸ (show rest_1_c.before _ s = true from hrest))
  obtain ⟨i0, ei0⟩ := isL_v ga1
  obtain rfl : w0 = (.long i0) := Option.some.inj ei0
  obtain ⟨i1, ei1⟩ := is_v ga2
  obtain rfl : w1 = (.int i1) := Option.some.inj ei1
  obtain ⟨i2, ei2⟩ := isL_v ga3
  obtain rfl : w2 = (.long i2) := Option.some.inj ei2
  obtain ⟨i3, ei3⟩ := isL_v ga4
  obtain rfl : w3 = (.long i3) := Option.some.inj ei3
  obtain ⟨i4, ei4⟩ := isL_v gb4
  obtain rfl : w4 = (.long i4) := Option.some.inj ei4
  have Sh : Sta s s.heap "java/lang/Integer$IntegerCache" "high" "I" (.int (127 : Int32)) := Sta.start (eqv_i (Term.int_eval (127)) (Cond.before_iff.mp (hsets _ (List.mem_of_getElem? (i := 3) rfl)))) (Or.inl (hsets _ (List.mem_of_getElem? (i := 1) rfl)))
  obtain ⟨cI, AI, hI1, hI2, hI3, hI4⟩ := own_box (Or.inr ⟨(tw_ hw 63 rfl), (hsets _ (List.mem_of_getElem? (i := 2) rfl))⟩) (hsets _ (List.mem_of_getElem? (i := 4) rfl)) (hsets _ (List.mem_of_getElem? (i := 6) rfl)) (hsets _ (List.mem_of_getElem? (i := 7) rfl))
  have hLs := own_longs (hsets _ (List.mem_of_getElem? (i := 9) rfl)) (hsets _ (List.mem_of_getElem? (i := 10) rfl)) (hsets _ (List.mem_of_getElem? (i := 12) rfl)) (hsets _ (List.mem_of_getElem? (i := 13) rfl))
  have hW : own_W s _ := ⟨hw, Sh, ⟨cI, AI, hI1, hI2, hI3, fun i hi => by obtain ⟨x, q, -⟩ := hI4 i hi; exact ⟨x, q⟩⟩, hLs⟩
  obtain ⟨n, o, h1, h2, h3, _, L, rfl, ⟨rfl, N⟩, hq⟩ := own_law l s _ hW tables_1 i0 i1 i2 i3 i4 s.heap s.heap.size (Nat.le_refl _) (Old.start s) p e ha hc hk s m _ below hf ((Spec.applies_iff_loose hf).mp happ).1 ⟨rfl, State.WarmedH.refl s, rfl⟩ trivial
  refine ⟨n, _, h1, h2, h3, hpost _ _ _ _ _ _ ⟨Cond.after_iff.mpr rfl, Cond.after_iff.mpr (eq_i res_at (Term.int_eval (1)) rfl), trivial⟩ ⟨hq.1, hq.2.1, (hq.2.2.sift fun y hy => Or.inr (N y hy)).mono (by decide) (by decide)⟩⟩
theorem main_1_1 : Claimed_1_1 := comes_1 fun _ _ _ _ _ _ h hF => ⟨h.1, LamKit.wideOf hF⟩
theorem main_1_2 : Claimed_1_2 := comes_1 fun _ _ _ _ _ _ h hF => ⟨h.2.1, LamKit.wideOf hF⟩
end Jvm.Pilot.@@N@@
namespace Jvm.Pilot.@@N@@
open Jvm Jvm.ClassFile Sem Op Lib Jvm.Free Jvm.Stand Jvm.Pilot.@@N@@.Jvm.D
/-! MADE BY PROGRAM (witnessworld.py) out of the Statement's table words and the real class files: 40 classes; the members and pool entries that the words name. The judged class is class 1, her method 1. -/
namespace start1
open Jvm.ClassFile
def u (s : String) : CpInfo := .utf8 (stringToUtf16 s)
/-- a pool by its gaps: so many unusable entries, then the entry; so many at the end -/
def gap : Nat → List CpInfo → List CpInfo
  | 0, r => r
  | n + 1, r => .unusable :: gap n r
def poolList (es : List (Nat × CpInfo)) (last : Nat) : List CpInfo := es.foldr (fun e r => gap e.1 (e.2 :: r)) (gap last [])
def pool (es : List (Nat × CpInfo)) (last : Nat) : Array CpInfo := ⟨poolList es last⟩
def fileOf (pool : Array CpInfo) (this : Nat) (attrs : Array Attribute := #[]) (ms : Array MethodInfo := #[]) (fl : Nat := 33) (sup : Nat := 0) (ifs : Array Nat := #[]) (fds : Array FieldInfo := #[]) : ClassFile where
  minorVersion := 0
  majorVersion := 65
  constantPool := pool
  accessFlags := fl
  thisClass := this
  superClass := sup
  interfaces := ifs
  fields := fds
  methods := ms
  attributes := attrs
def plain (name : String) (sup : Option ClassId) : Class where
  name := name
  kind := .ordinary
  loader := none
  accessFlags := 33
  super := sup
  interfaces := #[]
  cf := none
  fields := #[]
  methods := #[]
  instanceTypes := #[]
  staticTypes := #[]
  resolved := #[]
  callSites := []
  init := .initialized
  statics := none
  mirror := none

def pool0 : Array CpInfo := pool [(5, u "<init>"), (0, u "()V"), (1, .class_ 10), (1, u "java/lang/Object")] 113

def k0c0 : Code := { maxStack := 0, maxLocals := 1, code := object_method_1_code, exceptionTable := #[], attributes := #[] }
def k0m0 : Method := { name := "<init>", desc := "()V", sig := { parameters := [], returnType := none }, accessFlags := 1, code := some k0c0 }
/-- java/lang/Object -/
def k0 : Class := { plain "java/lang/Object" none with
  accessFlags := 33
  interfaces := #[]
  cf := some (fileOf pool0 8 #[] #[{ accessFlags := 1, nameIndex := 5, descriptorIndex := 6, attributes := #[] }] 33 0 #[] #[])
  fields := #[]
  methods := #[k0m0]
  instanceTypes := #[]
  staticTypes := #[]
  resolved := Array.replicate 124 none
  statics := none }

def pool1 : Array CpInfo := pool [(2, .class_ 4), (1, u "java/lang/Object"), (0, u "<init>"), (0, u "()V"), (0, .long 3), (1, .class_ 10), (0, u "com/example/capow/capow/service/AdmissionQueue"), (0, .methodref 9 12), (0, .nameAndType 5 13), (0, u "(J)V"), (0, .methodref 9 15), (0, .nameAndType 16 17), (0, u "isEmpty"), (0, u "()Z"), (0, .methodref 19 20), (0, .class_ 21), (0, .nameAndType 22 23), (0, u "java/lang/Integer"), (0, u "valueOf"), (0, u "(I)Ljava/lang/Integer;"), (0, .methodref 9 25), (0, .nameAndType 26 27), (0, u "add"), (0, u "(JJLjava/lang/Object;)Ljava/lang/Object;"), (0, .long 2), (1, .methodref 31 32), (0, .class_ 33), (0, .nameAndType 34 35), (0, u "java/lang/Math"), (0, u "min"), (0, u "(JJ)J"), (0, .methodref 9 37), (0, .nameAndType 38 39), (0, u "poll"), (0, u "()Ljava/lang/Object;"), (0, .methodref 31 41), (0, .nameAndType 42 35), (0, u "max"), (0, .class_ 44), (0, u "com/example/capow/capow/service/AdmissionQueueIsEmptyPinLaw"), (2, u "law"), (0, u "(JIJJJ)Z")] 3

def k1m0 : Method := { name := "<init>", desc := "()V", sig := { parameters := [], returnType := none }, accessFlags := 1, code := none }
def k1c1 : Code := { maxStack := 6, maxLocals := 19, code := code, exceptionTable := #[], attributes := #[] }
def k1m1 : Method := { name := "law", desc := "(JIJJJ)Z", sig := { parameters := [.long, .int, .long, .long, .long], returnType := some .boolean }, accessFlags := 9, code := some k1c1 }
/-- com/example/capow/capow/service/AdmissionQueueIsEmptyPinLaw -/
def k1 : Class := { plain "com/example/capow/capow/service/AdmissionQueueIsEmptyPinLaw" (some 0) with
  accessFlags := 49
  interfaces := #[]
  cf := some (fileOf pool1 43 #[] #[{ accessFlags := 1, nameIndex := 5, descriptorIndex := 6, attributes := #[] }, { accessFlags := 9, nameIndex := 47, descriptorIndex := 48, attributes := #[] }] 49 2 #[] #[])
  fields := #[]
  methods := #[k1m0, k1m1]
  instanceTypes := #[]
  staticTypes := #[]
  resolved := Array.replicate 52 none
  statics := none }

def pool2 : Array CpInfo := pool [(1, .methodref 2 3), (0, .class_ 4), (0, .nameAndType 5 6), (0, u "java/lang/Object"), (0, u "<init>"), (0, u "()V"), (0, .class_ 8), (0, u "java/util/TreeMap"), (0, .methodref 7 3), (0, .fieldref 11 12), (0, .class_ 13), (0, .nameAndType 14 15), (0, u "com/example/capow/capow/service/AdmissionQueue"), (0, u "byEffort"), (0, u "Ljava/util/TreeMap;"), (0, .class_ 17), (0, u "java/util/ArrayDeque"), (0, .methodref 16 3), (0, .fieldref 11 20), (0, .nameAndType 21 22), (0, u "byArrival"), (0, u "Ljava/util/ArrayDeque;"), (9, .fieldref 11 33), (0, .nameAndType 34 35), (0, u "depth"), (0, u "J"), (0, .class_ 37), (0, u "com/example/capow/capow/service/AdmissionQueue$Entry"), (0, .methodref 36 39), (0, .nameAndType 5 40), (0, u "(Ljava/lang/Object;JJ)V"), (0, .methodref 42 43), (0, .class_ 44), (0, .nameAndType 45 46), (0, u "java/lang/Long"), (0, u "valueOf"), (0, u "(J)Ljava/lang/Long;"), (0, .invokeDynamic 1 48), (0, .nameAndType 49 50), (0, u "apply"), (0, u "()Ljava/util/function/Function;"), (0, .methodref 7 52), (0, .nameAndType 53 54), (0, u "computeIfAbsent"), (0, u "(Ljava/lang/Object;Ljava/util/function/Function;)Ljava/lang/Object;"), (0, .methodref 16 56), (0, .nameAndType 57 58), (0, u "addLast"), (0, u "(Ljava/lang/Object;)V"), (0, .fieldref 11 60), (0, .nameAndType 61 35), (0, u "size"), (0, .methodref 7 63), (0, .nameAndType 64 65), (0, u "firstKey"), (0, u "()Ljava/lang/Object;"), (0, .methodref 42 67), (0, .nameAndType 68 69), (0, u "longValue"), (0, u "()J"), (0, .methodref 11 71), (0, .nameAndType 72 73), (0, u "removeFirst"), (0, u "(J)Ljava/lang/Object;"), (0, .methodref 7 75), (0, .nameAndType 76 65), (0, u "lastKey"), (6, .methodref 16 84), (0, .nameAndType 85 65), (0, u "getFirst"), (7, u "add"), (4, .methodref 7 99), (0, .nameAndType 100 101), (0, u "get"), (0, u "(Ljava/lang/Object;)Ljava/lang/Object;"), (0, .methodref 16 103), (0, .nameAndType 72 65), (0, .methodref 16 105), (0, .nameAndType 106 107), (0, u "isEmpty"), (0, u "()Z"), (0, .methodref 7 109), (0, .nameAndType 110 101), (0, u "remove"), (0, .fieldref 36 112), (0, .nameAndType 113 114), (0, u "removed"), (0, u "Z"), (0, .methodref 16 116), (0, .nameAndType 61 117), (0, u "()I"), (0, .long 2), (1, .long 16), (9, .fieldref 36 131), (0, .nameAndType 132 133), (0, u "request"), (0, u "Ljava/lang/Object;"), (3, u "(J)V"), (3, u "(JJLjava/lang/Object;)Ljava/lang/Object;"), (1, u "poll"), (7, u "lambda$add$0"), (0, u "(Ljava/lang/Long;)Ljava/util/ArrayDeque;"), (7, .methodType 101), (0, .methodHandle 6 162), (0, .methodref 11 163), (0, .nameAndType 151 152), (0, .methodType 152), (11, .methodHandle 6 177), (0, .methodref 178 179), (0, .class_ 180), (0, .nameAndType 181 182), (0, u "java/lang/invoke/LambdaMetafactory"), (0, u "metafactory"), (0, u "(Ljava/lang/invoke/MethodHandles$Lookup;Ljava/lang/String;Ljava/lang/invoke/MethodType;Ljava/lang/invoke/MethodType;Ljava/lang/invoke/MethodHandle;Ljava/lang/invoke/MethodType;)Ljava/lang/invoke/CallSite;")] 7

def k2c0 : Code := { maxStack := 4, maxLocals := 3, code := prog_37_method_1_code, exceptionTable := #[], attributes := #[] }
def k2m0 : Method := { name := "<init>", desc := "(J)V", sig := { parameters := [.long], returnType := none }, accessFlags := 0, code := some k2c0 }
def k2c1 : Code := { maxStack := 7, maxLocals := 8, code := prog_37_method_2_code, exceptionTable := #[], attributes := #[] }
def k2m1 : Method := { name := "add", desc := "(JJLjava/lang/Object;)Ljava/lang/Object;", sig := { parameters := [.long, .long, (.object "java/lang/Object")], returnType := some (.object "java/lang/Object") }, accessFlags := 0, code := some k2c1 }
def k2c2 : Code := { maxStack := 4, maxLocals := 1, code := prog_37_method_3_code, exceptionTable := #[], attributes := #[] }
def k2m2 : Method := { name := "poll", desc := "()Ljava/lang/Object;", sig := { parameters := [], returnType := some (.object "java/lang/Object") }, accessFlags := 0, code := some k2c2 }
def k2c3 : Code := { maxStack := 4, maxLocals := 1, code := prog_37_method_6_code, exceptionTable := #[], attributes := #[] }
def k2m3 : Method := { name := "isEmpty", desc := "()Z", sig := { parameters := [], returnType := some .boolean }, accessFlags := 0, code := some k2c3 }
def k2c4 : Code := { maxStack := 6, maxLocals := 5, code := prog_37_method_7_code, exceptionTable := #[], attributes := #[] }
def k2m4 : Method := { name := "removeFirst", desc := "(J)Ljava/lang/Object;", sig := { parameters := [.long], returnType := some (.object "java/lang/Object") }, accessFlags := 2, code := some k2c4 }
def k2c5 : Code := { maxStack := 2, maxLocals := 1, code := prog_37_method_9_code, exceptionTable := #[], attributes := #[] }
def k2m5 : Method := { name := "lambda$add$0", desc := "(Ljava/lang/Long;)Ljava/util/ArrayDeque;", sig := { parameters := [(.object "java/lang/Long")], returnType := some (.object "java/util/ArrayDeque") }, accessFlags := 4106, code := some k2c5 }
/-- com/example/capow/capow/service/AdmissionQueue -/
def k2 : Class := { plain "com/example/capow/capow/service/AdmissionQueue" (some 0) with
  accessFlags := 48
  interfaces := #[]
  cf := some (fileOf pool2 11 #[.nestMembers #[36], .bootstrapMethods #[⟨0, #[]⟩, ⟨176, #[160, 161, 164]⟩, ⟨0, #[]⟩]] #[{ accessFlags := 0, nameIndex := 5, descriptorIndex := 137, attributes := #[] }, { accessFlags := 0, nameIndex := 93, descriptorIndex := 141, attributes := #[] }, { accessFlags := 0, nameIndex := 143, descriptorIndex := 65, attributes := #[] }, { accessFlags := 0, nameIndex := 106, descriptorIndex := 107, attributes := #[] }, { accessFlags := 2, nameIndex := 72, descriptorIndex := 73, attributes := #[] }, { accessFlags := 4106, nameIndex := 151, descriptorIndex := 152, attributes := #[] }] 48 2 #[] #[{ accessFlags := 18, nameIndex := 34, descriptorIndex := 35, attributes := #[] }, { accessFlags := 18, nameIndex := 14, descriptorIndex := 15, attributes := #[] }, { accessFlags := 18, nameIndex := 21, descriptorIndex := 22, attributes := #[] }, { accessFlags := 2, nameIndex := 61, descriptorIndex := 35, attributes := #[] }])
  fields := #[{ name := "depth", type := .long, accessFlags := 18, slot := 0, constantValue := 0 }, { name := "byEffort", type := (.object "java/util/TreeMap"), accessFlags := 18, slot := 1, constantValue := 0 }, { name := "byArrival", type := (.object "java/util/ArrayDeque"), accessFlags := 18, slot := 2, constantValue := 0 }, { name := "size", type := .long, accessFlags := 2, slot := 3, constantValue := 0 }]
  methods := #[k2m0, k2m1, k2m2, k2m3, k2m4, k2m5]
  instanceTypes := #[.long, (.object "java/util/TreeMap"), (.object "java/util/ArrayDeque"), .long]
  staticTypes := #[]
  resolved := ((Array.replicate 190 none).setIfInBounds 111 (some (.field 24 3))).setIfInBounds 130 (some (.field 24 0))
  callSites := [(1, 21, .constant 2)]
  statics := none }

def pool3 : Array CpInfo := pool [(2, .class_ 4), (1, u "java/util/Map"), (31, .class_ 37), (0, u "java/util/Map$Entry"), (55, .class_ 94), (0, u "java/lang/Object")] 168

/-- java/util/Map -/
def k3 : Class := { plain "java/util/Map" (some 0) with
  accessFlags := 1537
  interfaces := #[]
  cf := some (fileOf pool3 2 #[.nestMembers #[36]] #[] 1537 93 #[] #[])
  fields := #[]
  methods := #[]
  instanceTypes := #[]
  staticTypes := #[]
  resolved := Array.replicate 263 none
  statics := none }

def pool4 : Array CpInfo := pool [(1, .methodref 2 3), (0, .class_ 4), (0, .nameAndType 5 6), (0, u "java/lang/Object"), (0, u "<init>"), (0, u "()V"), (1, .class_ 10), (1, u "java/util/AbstractMap"), (42, .class_ 54), (0, u "java/util/Map"), (9, u "keySet"), (0, u "Ljava/util/Set;"), (0, .class_ 67), (0, u "java/util/AbstractMap$1"), (5, u "values"), (0, u "Ljava/util/Collection;"), (0, .class_ 76), (0, u "java/util/AbstractMap$2"), (104, .class_ 182), (0, u "java/util/AbstractMap$ViewCollection"), (0, .class_ 184), (0, u "java/util/AbstractMap$SimpleImmutableEntry"), (0, .class_ 186), (0, u "java/util/AbstractMap$SimpleEntry"), (0, .class_ 188), (0, u "java/util/AbstractMap$2$1"), (0, .class_ 190), (0, u "java/util/AbstractMap$1$1")] 5

def k4c0 : Code := { maxStack := 1, maxLocals := 1, code := jdk_71_method_1_code, exceptionTable := #[], attributes := #[] }
def k4m0 : Method := { name := "<init>", desc := "()V", sig := { parameters := [], returnType := none }, accessFlags := 4, code := some k4c0 }
/-- java/util/AbstractMap -/
def k4 : Class := { plain "java/util/AbstractMap" (some 0) with
  accessFlags := 1057
  interfaces := #[3]
  cf := some (fileOf pool4 8 #[.nestMembers #[181, 183, 185, 75, 187, 66, 189]] #[{ accessFlags := 4, nameIndex := 5, descriptorIndex := 6, attributes := #[] }] 1057 2 #[53] #[{ accessFlags := 128, nameIndex := 64, descriptorIndex := 65, attributes := #[] }, { accessFlags := 128, nameIndex := 73, descriptorIndex := 74, attributes := #[] }])
  fields := #[{ name := "keySet", type := (.object "java/util/Set"), accessFlags := 128, slot := 0, constantValue := 0 }, { name := "values", type := (.object "java/util/Collection"), accessFlags := 128, slot := 1, constantValue := 0 }]
  methods := #[k4m0]
  instanceTypes := #[(.object "java/util/Set"), (.object "java/util/Collection")]
  staticTypes := #[]
  resolved := Array.replicate 196 none
  statics := none }

def pool5 : Array CpInfo := pool [(2, .class_ 4), (1, u "java/util/SequencedMap"), (38, .class_ 44), (0, u "java/util/SequencedMap$1SeqKeySet"), (3, .class_ 49), (0, u "java/util/SequencedMap$1SeqValues"), (1, .class_ 52), (0, u "java/util/SequencedMap$1SeqEntrySet"), (1, .class_ 55), (0, u "java/lang/Object"), (0, .class_ 57), (0, u "java/util/Map")] 48

/-- java/util/SequencedMap -/
def k5 : Class := { plain "java/util/SequencedMap" (some 0) with
  accessFlags := 1537
  interfaces := #[3]
  cf := some (fileOf pool5 2 #[.nestMembers #[51, 48, 43]] #[] 1537 54 #[56] #[])
  fields := #[]
  methods := #[]
  instanceTypes := #[]
  staticTypes := #[]
  resolved := Array.replicate 106 none
  statics := none }

def pool6 : Array CpInfo := pool [(14, .class_ 16), (1, u "java/util/SortedMap"), (2, .class_ 20), (0, u "java/lang/Object"), (0, .class_ 22), (0, u "java/util/SequencedMap")] 50

/-- java/util/SortedMap -/
def k6 : Class := { plain "java/util/SortedMap" (some 0) with
  accessFlags := 1537
  interfaces := #[5]
  cf := some (fileOf pool6 14 #[] #[] 1537 19 #[21] #[])
  fields := #[]
  methods := #[]
  instanceTypes := #[]
  staticTypes := #[]
  resolved := Array.replicate 73 none
  statics := none }

def pool7 : Array CpInfo := pool [(2, .class_ 4), (1, u "java/util/NavigableMap"), (5, .class_ 11), (0, u "java/lang/Object"), (0, .class_ 13), (0, u "java/util/SortedMap")] 53

/-- java/util/NavigableMap -/
def k7 : Class := { plain "java/util/NavigableMap" (some 0) with
  accessFlags := 1537
  interfaces := #[6]
  cf := some (fileOf pool7 2 #[] #[] 1537 10 #[12] #[])
  fields := #[]
  methods := #[]
  instanceTypes := #[]
  staticTypes := #[]
  resolved := Array.replicate 67 none
  statics := none }

def pool8 : Array CpInfo := pool [(1, .class_ 2), (0, u "java/lang/Cloneable"), (0, .class_ 4), (0, u "java/lang/Object")] 2

/-- java/lang/Cloneable -/
def k8 : Class := { plain "java/lang/Cloneable" (some 0) with
  accessFlags := 1537
  interfaces := #[]
  cf := some (fileOf pool8 1 #[] #[] 1537 3 #[] #[])
  fields := #[]
  methods := #[]
  instanceTypes := #[]
  staticTypes := #[]
  resolved := Array.replicate 7 none
  statics := none }

def pool9 : Array CpInfo := pool [(1, .class_ 2), (0, u "java/io/Serializable"), (0, .class_ 4), (0, u "java/lang/Object")] 2

/-- java/io/Serializable -/
def k9 : Class := { plain "java/io/Serializable" (some 0) with
  accessFlags := 1537
  interfaces := #[]
  cf := some (fileOf pool9 1 #[] #[] 1537 3 #[] #[])
  fields := #[]
  methods := #[]
  instanceTypes := #[]
  staticTypes := #[]
  resolved := Array.replicate 7 none
  statics := none }

def pool10 : Array CpInfo := pool [(1, .methodref 2 3), (0, .class_ 4), (0, .nameAndType 5 6), (0, u "java/util/AbstractMap"), (0, u "<init>"), (0, u "()V"), (0, .fieldref 8 9), (0, .class_ 10), (0, .nameAndType 11 12), (0, u "java/util/TreeMap"), (0, u "size"), (0, u "I"), (0, .fieldref 8 14), (0, .nameAndType 15 12), (0, u "modCount"), (0, .fieldref 8 17), (0, .nameAndType 18 19), (0, u "comparator"), (0, u "Ljava/util/Comparator;"), (14, u "entrySet"), (15, .methodref 8 51), (0, .nameAndType 52 53), (0, u "getEntry"), (0, u "(Ljava/lang/Object;)Ljava/util/TreeMap$Entry;"), (0, .methodref 8 55), (0, .nameAndType 56 57), (0, u "getFirstEntry"), (0, u "()Ljava/util/TreeMap$Entry;"), (0, .fieldref 59 60), (0, .class_ 61), (0, .nameAndType 62 63), (0, u "java/util/TreeMap$Entry"), (0, u "value"), (0, u "Ljava/lang/Object;"), (7, u "(Ljava/util/TreeMap$Entry;)Ljava/util/TreeMap$Entry;"), (0, .methodref 8 73), (0, .nameAndType 74 75), (0, u "key"), (0, u "(Ljava/util/TreeMap$Entry;)Ljava/lang/Object;"), (0, .methodref 8 77), (0, .nameAndType 78 57), (0, u "getLastEntry"), (7, .class_ 88), (1, u "java/util/Objects"), (6, .methodref 86 96), (0, .nameAndType 97 98), (0, u "requireNonNull"), (0, u "(Ljava/lang/Object;)Ljava/lang/Object;"), (0, .class_ 100), (0, u "java/lang/Comparable"), (0, .fieldref 8 102), (0, .nameAndType 103 104), (0, u "root"), (0, u "Ljava/util/TreeMap$Entry;"), (0, .fieldref 59 106), (0, .nameAndType 74 63), (0, .interfaceMethodref 99 108), (0, .nameAndType 109 110), (0, u "compareTo"), (0, u "(Ljava/lang/Object;)I"), (0, .fieldref 59 112), (0, .nameAndType 113 104), (0, u "left"), (0, .fieldref 59 115), (0, .nameAndType 116 104), (0, u "right"), (2, .nameAndType 121 122), (1, u "compare"), (0, u "(Ljava/lang/Object;Ljava/lang/Object;)I"), (0, .methodref 8 119), (0, .fieldref 59 125), (0, .nameAndType 126 104), (0, u "parent"), (4, .methodref 8 132), (0, .nameAndType 133 134), (0, u "callMappingFunctionWithCheck"), (0, u "(Ljava/lang/Object;Ljava/util/function/Function;)Ljava/lang/Object;"), (0, .methodref 8 136), (0, .nameAndType 137 138), (0, u "addEntryToEmptyMap"), (0, u "(Ljava/lang/Object;Ljava/lang/Object;)V"), (0, .methodref 8 140), (0, .nameAndType 141 142), (0, u "addEntry"), (0, u "(Ljava/lang/Object;Ljava/lang/Object;Ljava/util/TreeMap$Entry;Z)V"), (11, .interfaceMethodref 155 156), (0, .class_ 157), (0, .nameAndType 158 98), (0, u "java/util/function/Function"), (0, u "apply"), (8, .methodref 59 168), (0, .nameAndType 5 169), (0, u "(Ljava/lang/Object;Ljava/lang/Object;Ljava/util/TreeMap$Entry;)V"), (0, .methodref 8 171), (0, .nameAndType 172 173), (0, u "fixAfterInsertion"), (0, u "(Ljava/util/TreeMap$Entry;)V"), (0, .methodref 8 175), (0, .nameAndType 176 173), (0, u "deleteEntry"), (3, u "()Ljava/lang/Object;"), (9, u "Ljava/util/TreeMap$EntrySet;"), (2, u "navigableKeySet"), (0, u "Ljava/util/TreeMap$KeySet;"), (2, u "descendingMap"), (0, u "Ljava/util/NavigableMap;"), (23, .class_ 223), (0, u "java/util/TreeMap$KeySet"), (7, .class_ 232), (0, u "java/util/NavigableMap"), (4, .class_ 238), (0, u "java/util/TreeMap$Values"), (3, .class_ 243), (0, u "java/util/TreeMap$EntrySet"), (1, .class_ 246), (0, u "java/util/TreeMap$DescendingSubMap"), (3, .class_ 251), (0, u "java/util/TreeMap$AscendingSubMap"), (17, .class_ 270), (0, u "java/util/TreeMap$KeyIterator"), (3, .class_ 275), (0, u "java/util/TreeMap$DescendingKeyIterator"), (14, .fieldref 59 291), (0, .nameAndType 292 293), (0, u "color"), (0, u "Z"), (0, .methodref 8 295), (0, .nameAndType 296 71), (0, u "parentOf"), (0, .methodref 8 298), (0, .nameAndType 299 71), (0, u "leftOf"), (0, .methodref 8 301), (0, .nameAndType 302 71), (0, u "rightOf"), (0, .methodref 8 304), (0, .nameAndType 305 306), (0, u "colorOf"), (0, u "(Ljava/util/TreeMap$Entry;)Z"), (0, .methodref 8 308), (0, .nameAndType 309 310), (0, u "setColor"), (0, u "(Ljava/util/TreeMap$Entry;Z)V"), (0, .methodref 8 312), (0, .nameAndType 313 173), (0, u "rotateLeft"), (0, .methodref 8 315), (0, .nameAndType 316 173), (0, u "rotateRight"), (0, .methodref 8 318), (0, .nameAndType 319 173), (0, u "fixAfterDeletion"), (68, .class_ 389), (0, u "java/util/TreeMap$NavigableSubMap"), (1, .class_ 392), (0, u "java/util/TreeMap$KeySpliterator"), (3, .class_ 397), (0, u "java/util/TreeMap$DescendingKeySpliterator"), (4, u "UNBOUNDED"), (0, .class_ 404), (0, u "java/lang/Cloneable"), (0, .class_ 406), (0, u "java/io/Serializable"), (6, u "RED"), (2, u "BLACK"), (1, u "serialVersionUID"), (0, u "J"), (23, u "get"), (3, u "firstKey"), (1, u "lastKey"), (17, u "computeIfAbsent"), (27, u "remove"), (138, .class_ 635), (0, u "java/util/TreeMap$EntrySpliterator"), (0, .class_ 637), (0, u "java/util/TreeMap$ValueSpliterator"), (0, .class_ 639), (0, u "java/util/TreeMap$TreeMapSpliterator"), (0, .class_ 641), (0, u "java/util/TreeMap$SubMap"), (0, .class_ 643), (0, u "java/util/TreeMap$DescendingSubMap$DescendingEntrySetView"), (0, .class_ 645), (0, u "java/util/TreeMap$AscendingSubMap$AscendingEntrySetView"), (0, .class_ 647), (0, u "java/util/TreeMap$NavigableSubMap$DescendingSubMapKeyIterator"), (0, .class_ 649), (0, u "java/util/TreeMap$NavigableSubMap$SubMapKeyIterator"), (0, .class_ 651), (0, u "java/util/TreeMap$NavigableSubMap$DescendingSubMapEntryIterator"), (0, .class_ 653), (0, u "java/util/TreeMap$NavigableSubMap$SubMapEntryIterator"), (0, .class_ 655), (0, u "java/util/TreeMap$NavigableSubMap$SubMapIterator"), (0, .class_ 657), (0, u "java/util/TreeMap$NavigableSubMap$EntrySetView"), (0, .class_ 659), (0, u "java/util/TreeMap$ValueIterator"), (0, .class_ 661), (0, u "java/util/TreeMap$EntryIterator"), (0, .class_ 663), (0, u "java/util/TreeMap$PrivateEntryIterator")] 28

def k10c0 : Code := { maxStack := 2, maxLocals := 1, code := jdk_2729_method_1_code, exceptionTable := #[], attributes := #[] }
def k10m0 : Method := { name := "<init>", desc := "()V", sig := { parameters := [], returnType := none }, accessFlags := 1, code := some k10c0 }
def k10c1 : Code := { maxStack := 2, maxLocals := 3, code := jdk_2729_method_8_code, exceptionTable := #[], attributes := #[] }
def k10m1 : Method := { name := "get", desc := "(Ljava/lang/Object;)Ljava/lang/Object;", sig := { parameters := [(.object "java/lang/Object")], returnType := some (.object "java/lang/Object") }, accessFlags := 1, code := some k10c1 }
def k10c2 : Code := { maxStack := 1, maxLocals := 1, code := jdk_2729_method_10_code, exceptionTable := #[], attributes := #[] }
def k10m2 : Method := { name := "firstKey", desc := "()Ljava/lang/Object;", sig := { parameters := [], returnType := some (.object "java/lang/Object") }, accessFlags := 1, code := some k10c2 }
def k10c3 : Code := { maxStack := 1, maxLocals := 1, code := jdk_2729_method_11_code, exceptionTable := #[], attributes := #[] }
def k10m3 : Method := { name := "lastKey", desc := "()Ljava/lang/Object;", sig := { parameters := [], returnType := some (.object "java/lang/Object") }, accessFlags := 1, code := some k10c3 }
def k10c4 : Code := { maxStack := 2, maxLocals := 5, code := jdk_2729_method_15_code, exceptionTable := #[], attributes := #[] }
def k10m4 : Method := { name := "getEntry", desc := "(Ljava/lang/Object;)Ljava/util/TreeMap$Entry;", sig := { parameters := [(.object "java/lang/Object")], returnType := some (.object "java/util/TreeMap$Entry") }, accessFlags := 16, code := some k10c4 }
def k10c5 : Code := { maxStack := 5, maxLocals := 9, code := jdk_2729_method_23_code, exceptionTable := #[], attributes := #[] }
def k10m5 : Method := { name := "computeIfAbsent", desc := "(Ljava/lang/Object;Ljava/util/function/Function;)Ljava/lang/Object;", sig := { parameters := [(.object "java/lang/Object"), (.object "java/util/function/Function")], returnType := some (.object "java/lang/Object") }, accessFlags := 1, code := some k10c5 }
def k10c6 : Code := { maxStack := 2, maxLocals := 5, code := jdk_2729_method_27_code, exceptionTable := #[], attributes := #[] }
def k10m6 : Method := { name := "callMappingFunctionWithCheck", desc := "(Ljava/lang/Object;Ljava/util/function/Function;)Ljava/lang/Object;", sig := { parameters := [(.object "java/lang/Object"), (.object "java/util/function/Function")], returnType := some (.object "java/lang/Object") }, accessFlags := 2, code := some k10c6 }
def k10c7 : Code := { maxStack := 5, maxLocals := 6, code := jdk_2729_method_29_code, exceptionTable := #[], attributes := #[] }
def k10m7 : Method := { name := "addEntry", desc := "(Ljava/lang/Object;Ljava/lang/Object;Ljava/util/TreeMap$Entry;Z)V", sig := { parameters := [(.object "java/lang/Object"), (.object "java/lang/Object"), (.object "java/util/TreeMap$Entry"), .boolean], returnType := none }, accessFlags := 2, code := some k10c7 }
def k10c8 : Code := { maxStack := 6, maxLocals := 3, code := jdk_2729_method_30_code, exceptionTable := #[], attributes := #[] }
def k10m8 : Method := { name := "addEntryToEmptyMap", desc := "(Ljava/lang/Object;Ljava/lang/Object;)V", sig := { parameters := [(.object "java/lang/Object"), (.object "java/lang/Object")], returnType := none }, accessFlags := 2, code := some k10c8 }
def k10c9 : Code := { maxStack := 2, maxLocals := 4, code := jdk_2729_method_34_code, exceptionTable := #[], attributes := #[] }
def k10m9 : Method := { name := "remove", desc := "(Ljava/lang/Object;)Ljava/lang/Object;", sig := { parameters := [(.object "java/lang/Object")], returnType := some (.object "java/lang/Object") }, accessFlags := 1, code := some k10c9 }
def k10c10 : Code := { maxStack := 3, maxLocals := 3, code := jdk_2729_method_67_code, exceptionTable := #[], attributes := #[] }
def k10m10 : Method := { name := "compare", desc := "(Ljava/lang/Object;Ljava/lang/Object;)I", sig := { parameters := [(.object "java/lang/Object"), (.object "java/lang/Object")], returnType := some .int }, accessFlags := 16, code := some k10c10 }
def k10c11 : Code := { maxStack := 2, maxLocals := 1, code := jdk_2729_method_71_code, exceptionTable := #[], attributes := #[] }
def k10m11 : Method := { name := "key", desc := "(Ljava/util/TreeMap$Entry;)Ljava/lang/Object;", sig := { parameters := [(.object "java/util/TreeMap$Entry")], returnType := some (.object "java/lang/Object") }, accessFlags := 8, code := some k10c11 }
def k10c12 : Code := { maxStack := 1, maxLocals := 2, code := jdk_2729_method_72_code, exceptionTable := #[], attributes := #[] }
def k10m12 : Method := { name := "getFirstEntry", desc := "()Ljava/util/TreeMap$Entry;", sig := { parameters := [], returnType := some (.object "java/util/TreeMap$Entry") }, accessFlags := 16, code := some k10c12 }
def k10c13 : Code := { maxStack := 1, maxLocals := 2, code := jdk_2729_method_73_code, exceptionTable := #[], attributes := #[] }
def k10m13 : Method := { name := "getLastEntry", desc := "()Ljava/util/TreeMap$Entry;", sig := { parameters := [], returnType := some (.object "java/util/TreeMap$Entry") }, accessFlags := 16, code := some k10c13 }
def k10c14 : Code := { maxStack := 1, maxLocals := 1, code := jdk_2729_method_76_code, exceptionTable := #[], attributes := #[] }
def k10m14 : Method := { name := "colorOf", desc := "(Ljava/util/TreeMap$Entry;)Z", sig := { parameters := [(.object "java/util/TreeMap$Entry")], returnType := some .boolean }, accessFlags := 10, code := some k10c14 }
def k10c15 : Code := { maxStack := 1, maxLocals := 1, code := jdk_2729_method_77_code, exceptionTable := #[], attributes := #[] }
def k10m15 : Method := { name := "parentOf", desc := "(Ljava/util/TreeMap$Entry;)Ljava/util/TreeMap$Entry;", sig := { parameters := [(.object "java/util/TreeMap$Entry")], returnType := some (.object "java/util/TreeMap$Entry") }, accessFlags := 10, code := some k10c15 }
def k10c16 : Code := { maxStack := 2, maxLocals := 2, code := jdk_2729_method_78_code, exceptionTable := #[], attributes := #[] }
def k10m16 : Method := { name := "setColor", desc := "(Ljava/util/TreeMap$Entry;Z)V", sig := { parameters := [(.object "java/util/TreeMap$Entry"), .boolean], returnType := none }, accessFlags := 10, code := some k10c16 }
def k10c17 : Code := { maxStack := 1, maxLocals := 1, code := jdk_2729_method_79_code, exceptionTable := #[], attributes := #[] }
def k10m17 : Method := { name := "leftOf", desc := "(Ljava/util/TreeMap$Entry;)Ljava/util/TreeMap$Entry;", sig := { parameters := [(.object "java/util/TreeMap$Entry")], returnType := some (.object "java/util/TreeMap$Entry") }, accessFlags := 10, code := some k10c17 }
def k10c18 : Code := { maxStack := 1, maxLocals := 1, code := jdk_2729_method_80_code, exceptionTable := #[], attributes := #[] }
def k10m18 : Method := { name := "rightOf", desc := "(Ljava/util/TreeMap$Entry;)Ljava/util/TreeMap$Entry;", sig := { parameters := [(.object "java/util/TreeMap$Entry")], returnType := some (.object "java/util/TreeMap$Entry") }, accessFlags := 10, code := some k10c18 }
def k10c19 : Code := { maxStack := 2, maxLocals := 3, code := jdk_2729_method_81_code, exceptionTable := #[], attributes := #[] }
def k10m19 : Method := { name := "rotateLeft", desc := "(Ljava/util/TreeMap$Entry;)V", sig := { parameters := [(.object "java/util/TreeMap$Entry")], returnType := none }, accessFlags := 2, code := some k10c19 }
def k10c20 : Code := { maxStack := 2, maxLocals := 3, code := jdk_2729_method_82_code, exceptionTable := #[], attributes := #[] }
def k10m20 : Method := { name := "rotateRight", desc := "(Ljava/util/TreeMap$Entry;)V", sig := { parameters := [(.object "java/util/TreeMap$Entry")], returnType := none }, accessFlags := 2, code := some k10c20 }
def k10c21 : Code := { maxStack := 2, maxLocals := 3, code := jdk_2729_method_83_code, exceptionTable := #[], attributes := #[] }
def k10m21 : Method := { name := "fixAfterInsertion", desc := "(Ljava/util/TreeMap$Entry;)V", sig := { parameters := [(.object "java/util/TreeMap$Entry")], returnType := none }, accessFlags := 2, code := some k10c21 }
def k10c22 : Code := { maxStack := 5, maxLocals := 3, code := jdk_2729_method_84_code, exceptionTable := #[], attributes := #[] }
def k10m22 : Method := { name := "deleteEntry", desc := "(Ljava/util/TreeMap$Entry;)V", sig := { parameters := [(.object "java/util/TreeMap$Entry")], returnType := none }, accessFlags := 2, code := some k10c22 }
def k10c23 : Code := { maxStack := 2, maxLocals := 3, code := jdk_2729_method_85_code, exceptionTable := #[], attributes := #[] }
def k10m23 : Method := { name := "fixAfterDeletion", desc := "(Ljava/util/TreeMap$Entry;)V", sig := { parameters := [(.object "java/util/TreeMap$Entry")], returnType := none }, accessFlags := 2, code := some k10c23 }
/-- java/util/TreeMap -/
def k10 : Class := { plain "java/util/TreeMap" (some 4) with
  accessFlags := 33
  interfaces := #[7, 8, 9]
  cf := some (fileOf pool10 8 #[.nestMembers #[634, 636, 396, 391, 638, 59, 640, 245, 642, 250, 644, 388, 646, 648, 650, 652, 654, 656, 274, 269, 658, 660, 662, 222, 242, 237]] #[{ accessFlags := 1, nameIndex := 5, descriptorIndex := 6, attributes := #[] }, { accessFlags := 1, nameIndex := 443, descriptorIndex := 98, attributes := #[] }, { accessFlags := 1, nameIndex := 447, descriptorIndex := 180, attributes := #[] }, { accessFlags := 1, nameIndex := 449, descriptorIndex := 180, attributes := #[] }, { accessFlags := 16, nameIndex := 52, descriptorIndex := 53, attributes := #[] }, { accessFlags := 1, nameIndex := 467, descriptorIndex := 134, attributes := #[] }, { accessFlags := 2, nameIndex := 133, descriptorIndex := 134, attributes := #[] }, { accessFlags := 2, nameIndex := 141, descriptorIndex := 142, attributes := #[] }, { accessFlags := 2, nameIndex := 137, descriptorIndex := 138, attributes := #[] }, { accessFlags := 1, nameIndex := 495, descriptorIndex := 98, attributes := #[] }, { accessFlags := 16, nameIndex := 121, descriptorIndex := 122, attributes := #[] }, { accessFlags := 8, nameIndex := 74, descriptorIndex := 75, attributes := #[] }, { accessFlags := 16, nameIndex := 56, descriptorIndex := 57, attributes := #[] }, { accessFlags := 16, nameIndex := 78, descriptorIndex := 57, attributes := #[] }, { accessFlags := 10, nameIndex := 305, descriptorIndex := 306, attributes := #[] }, { accessFlags := 10, nameIndex := 296, descriptorIndex := 71, attributes := #[] }, { accessFlags := 10, nameIndex := 309, descriptorIndex := 310, attributes := #[] }, { accessFlags := 10, nameIndex := 299, descriptorIndex := 71, attributes := #[] }, { accessFlags := 10, nameIndex := 302, descriptorIndex := 71, attributes := #[] }, { accessFlags := 2, nameIndex := 313, descriptorIndex := 173, attributes := #[] }, { accessFlags := 2, nameIndex := 316, descriptorIndex := 173, attributes := #[] }, { accessFlags := 2, nameIndex := 172, descriptorIndex := 173, attributes := #[] }, { accessFlags := 2, nameIndex := 176, descriptorIndex := 173, attributes := #[] }, { accessFlags := 2, nameIndex := 319, descriptorIndex := 173, attributes := #[] }] 33 2 #[231, 403, 405] #[{ accessFlags := 18, nameIndex := 18, descriptorIndex := 19, attributes := #[] }, { accessFlags := 130, nameIndex := 103, descriptorIndex := 104, attributes := #[] }, { accessFlags := 130, nameIndex := 11, descriptorIndex := 12, attributes := #[] }, { accessFlags := 130, nameIndex := 15, descriptorIndex := 12, attributes := #[] }, { accessFlags := 130, nameIndex := 34, descriptorIndex := 190, attributes := #[] }, { accessFlags := 130, nameIndex := 193, descriptorIndex := 194, attributes := #[] }, { accessFlags := 130, nameIndex := 197, descriptorIndex := 198, attributes := #[] }, { accessFlags := 26, nameIndex := 402, descriptorIndex := 63, attributes := #[] }, { accessFlags := 26, nameIndex := 413, descriptorIndex := 293, attributes := #[] }, { accessFlags := 26, nameIndex := 416, descriptorIndex := 293, attributes := #[] }, { accessFlags := 26, nameIndex := 418, descriptorIndex := 419, attributes := #[] }])
  fields := #[{ name := "comparator", type := (.object "java/util/Comparator"), accessFlags := 18, slot := 2, constantValue := 0 }, { name := "root", type := (.object "java/util/TreeMap$Entry"), accessFlags := 130, slot := 3, constantValue := 0 }, { name := "size", type := .int, accessFlags := 130, slot := 4, constantValue := 0 }, { name := "modCount", type := .int, accessFlags := 130, slot := 5, constantValue := 0 }, { name := "entrySet", type := (.object "java/util/TreeMap$EntrySet"), accessFlags := 130, slot := 6, constantValue := 0 }, { name := "navigableKeySet", type := (.object "java/util/TreeMap$KeySet"), accessFlags := 130, slot := 7, constantValue := 0 }, { name := "descendingMap", type := (.object "java/util/NavigableMap"), accessFlags := 130, slot := 8, constantValue := 0 }, { name := "UNBOUNDED", type := (.object "java/lang/Object"), accessFlags := 26, slot := 0, constantValue := 0 }, { name := "RED", type := .boolean, accessFlags := 26, slot := 1, constantValue := 0 }, { name := "BLACK", type := .boolean, accessFlags := 26, slot := 2, constantValue := 0 }, { name := "serialVersionUID", type := .long, accessFlags := 26, slot := 3, constantValue := 0 }]
  methods := #[k10m0, k10m1, k10m2, k10m3, k10m4, k10m5, k10m6, k10m7, k10m8, k10m9, k10m10, k10m11, k10m12, k10m13, k10m14, k10m15, k10m16, k10m17, k10m18, k10m19, k10m20, k10m21, k10m22, k10m23]
  instanceTypes := #[(.object "java/util/Set"), (.object "java/util/Collection"), (.object "java/util/Comparator"), (.object "java/util/TreeMap$Entry"), .int, .int, (.object "java/util/TreeMap$EntrySet"), (.object "java/util/TreeMap$KeySet"), (.object "java/util/NavigableMap")]
  staticTypes := #[(.object "java/lang/Object"), .boolean, .boolean, .long]
  resolved := Array.replicate 692 none
  statics := none }

def pool11 : Array CpInfo := pool [(8, .class_ 10), (1, u "java/lang/Iterable"), (24, .class_ 36), (0, u "java/lang/Object")] 25

/-- java/lang/Iterable -/
def k11 : Class := { plain "java/lang/Iterable" (some 0) with
  accessFlags := 1537
  interfaces := #[]
  cf := some (fileOf pool11 8 #[] #[] 1537 35 #[] #[])
  fields := #[]
  methods := #[]
  instanceTypes := #[]
  staticTypes := #[]
  resolved := Array.replicate 62 none
  statics := none }

def pool12 : Array CpInfo := pool [(10, .class_ 12), (1, u "java/util/Collection"), (47, .class_ 61), (0, u "java/lang/Object"), (0, .class_ 63), (0, u "java/lang/Iterable")] 51

/-- java/util/Collection -/
def k12 : Class := { plain "java/util/Collection" (some 0) with
  accessFlags := 1537
  interfaces := #[11]
  cf := some (fileOf pool12 10 #[] #[] 1537 60 #[62] #[])
  fields := #[]
  methods := #[]
  instanceTypes := #[]
  staticTypes := #[]
  resolved := Array.replicate 115 none
  statics := none }

def pool13 : Array CpInfo := pool [(1, .methodref 2 3), (0, .class_ 4), (0, .nameAndType 5 6), (0, u "java/lang/Object"), (0, u "<init>"), (0, u "()V"), (1, .class_ 10), (1, u "java/util/AbstractCollection"), (66, .class_ 78), (0, u "java/util/Collection")] 81

def k13c0 : Code := { maxStack := 1, maxLocals := 1, code := jdk_22_method_1_code, exceptionTable := #[], attributes := #[] }
def k13m0 : Method := { name := "<init>", desc := "()V", sig := { parameters := [], returnType := none }, accessFlags := 4, code := some k13c0 }
/-- java/util/AbstractCollection -/
def k13 : Class := { plain "java/util/AbstractCollection" (some 0) with
  accessFlags := 1057
  interfaces := #[12]
  cf := some (fileOf pool13 8 #[] #[{ accessFlags := 4, nameIndex := 5, descriptorIndex := 6, attributes := #[] }] 1057 2 #[77] #[])
  fields := #[]
  methods := #[k13m0]
  instanceTypes := #[]
  staticTypes := #[]
  resolved := Array.replicate 160 none
  statics := none }

def pool14 : Array CpInfo := pool [(1, .class_ 2), (0, u "java/util/Queue"), (0, .class_ 4), (0, u "java/lang/Object"), (0, .class_ 6), (0, u "java/util/Collection")] 14

/-- java/util/Queue -/
def k14 : Class := { plain "java/util/Queue" (some 0) with
  accessFlags := 1537
  interfaces := #[12]
  cf := some (fileOf pool14 1 #[] #[] 1537 3 #[5] #[])
  fields := #[]
  methods := #[]
  instanceTypes := #[]
  staticTypes := #[]
  resolved := Array.replicate 21 none
  statics := none }

def pool15 : Array CpInfo := pool [(8, .class_ 10), (1, u "java/util/SequencedCollection"), (15, .class_ 27), (0, u "java/lang/Object"), (0, .class_ 29), (0, u "java/util/Collection")] 27

/-- java/util/SequencedCollection -/
def k15 : Class := { plain "java/util/SequencedCollection" (some 0) with
  accessFlags := 1537
  interfaces := #[12]
  cf := some (fileOf pool15 8 #[] #[] 1537 26 #[28] #[])
  fields := #[]
  methods := #[]
  instanceTypes := #[]
  staticTypes := #[]
  resolved := Array.replicate 57 none
  statics := none }

def pool16 : Array CpInfo := pool [(8, .class_ 10), (1, u "java/util/Deque"), (2, .class_ 14), (0, u "java/lang/Object"), (0, .class_ 16), (0, u "java/util/Queue"), (0, .class_ 18), (0, u "java/util/SequencedCollection")] 51

/-- java/util/Deque -/
def k16 : Class := { plain "java/util/Deque" (some 0) with
  accessFlags := 1537
  interfaces := #[14, 15]
  cf := some (fileOf pool16 8 #[] #[] 1537 13 #[15, 17] #[])
  fields := #[]
  methods := #[]
  instanceTypes := #[]
  staticTypes := #[]
  resolved := Array.replicate 70 none
  statics := none }

def pool17 : Array CpInfo := pool [(3, .fieldref 4 5), (0, .class_ 6), (0, .nameAndType 7 8), (0, u "java/util/ArrayDeque"), (0, u "elements"), (0, u "[Ljava/lang/Object;"), (4, u "(II)I"), (6, .fieldref 4 21), (0, .nameAndType 22 23), (0, u "tail"), (0, u "I"), (0, .fieldref 4 25), (0, .nameAndType 26 23), (0, u "head"), (12, u "<init>"), (2, .methodref 43 44), (0, .class_ 45), (0, .nameAndType 39 46), (0, u "java/util/AbstractCollection"), (0, u "()V"), (0, .class_ 48), (0, u "java/lang/Object"), (4, u "size"), (0, u "()I"), (19, .methodref 4 75), (0, .nameAndType 76 13), (0, u "inc"), (12, u "(Ljava/lang/Object;)V"), (2, u "addLast"), (0, .methodref 4 94), (0, .nameAndType 95 96), (0, u "pollFirst"), (0, u "()Ljava/lang/Object;"), (6, .methodref 4 104), (0, .nameAndType 105 106), (0, u "elementAt"), (0, u "([Ljava/lang/Object;I)Ljava/lang/Object;"), (13, u "removeFirst"), (2, u "getFirst"), (3, .methodref 4 128), (0, .nameAndType 129 130), (0, u "sub"), (0, u "(III)I"), (0, .class_ 132), (0, u "java/util/ArrayDeque$DeqIterator"), (3, .class_ 137), (0, u "java/util/ArrayDeque$DescendingIterator"), (1, .class_ 140), (0, u "java/util/ArrayDeque$DeqSpliterator"), (137, .class_ 279), (0, u "java/util/Deque"), (0, .class_ 281), (0, u "java/lang/Cloneable"), (0, .class_ 283), (0, u "java/io/Serializable"), (0, u "MAX_ARRAY_SIZE"), (1, u "serialVersionUID"), (0, u "J"), (59, u "isEmpty"), (0, u "()Z")] 89

def k17c0 : Code := { maxStack := 2, maxLocals := 1, code := jdk_21_method_3_code, exceptionTable := #[], attributes := #[] }
def k17m0 : Method := { name := "<init>", desc := "()V", sig := { parameters := [], returnType := none }, accessFlags := 1, code := some k17c0 }
def k17c1 : Code := { maxStack := 2, maxLocals := 2, code := jdk_21_method_6_code, exceptionTable := #[], attributes := #[] }
def k17m1 : Method := { name := "inc", desc := "(II)I", sig := { parameters := [.int, .int], returnType := some .int }, accessFlags := 24, code := some k17c1 }
def k17c2 : Code := { maxStack := 2, maxLocals := 3, code := jdk_21_method_9_code, exceptionTable := #[], attributes := #[] }
def k17m2 : Method := { name := "sub", desc := "(III)I", sig := { parameters := [.int, .int, .int], returnType := some .int }, accessFlags := 24, code := some k17c2 }
def k17c3 : Code := { maxStack := 2, maxLocals := 2, code := jdk_21_method_10_code, exceptionTable := #[], attributes := #[] }
def k17m3 : Method := { name := "elementAt", desc := "([Ljava/lang/Object;I)Ljava/lang/Object;", sig := { parameters := [(.array (.object "java/lang/Object")), .int], returnType := some (.object "java/lang/Object") }, accessFlags := 24, code := some k17c3 }
def k17c4 : Code := { maxStack := 4, maxLocals := 3, code := jdk_21_method_13_code, exceptionTable := #[], attributes := #[] }
def k17m4 : Method := { name := "addLast", desc := "(Ljava/lang/Object;)V", sig := { parameters := [(.object "java/lang/Object")], returnType := none }, accessFlags := 1, code := some k17c4 }
def k17c5 : Code := { maxStack := 2, maxLocals := 2, code := jdk_21_method_18_code, exceptionTable := #[], attributes := #[] }
def k17m5 : Method := { name := "removeFirst", desc := "()Ljava/lang/Object;", sig := { parameters := [], returnType := some (.object "java/lang/Object") }, accessFlags := 1, code := some k17c5 }
def k17c6 : Code := { maxStack := 3, maxLocals := 4, code := jdk_21_method_20_code, exceptionTable := #[], attributes := #[] }
def k17m6 : Method := { name := "pollFirst", desc := "()Ljava/lang/Object;", sig := { parameters := [], returnType := some (.object "java/lang/Object") }, accessFlags := 1, code := some k17c6 }
def k17c7 : Code := { maxStack := 2, maxLocals := 2, code := jdk_21_method_22_code, exceptionTable := #[], attributes := #[] }
def k17m7 : Method := { name := "getFirst", desc := "()Ljava/lang/Object;", sig := { parameters := [], returnType := some (.object "java/lang/Object") }, accessFlags := 1, code := some k17c7 }
def k17c8 : Code := { maxStack := 3, maxLocals := 1, code := jdk_21_method_37_code, exceptionTable := #[], attributes := #[] }
def k17m8 : Method := { name := "size", desc := "()I", sig := { parameters := [], returnType := some .int }, accessFlags := 1, code := some k17c8 }
def k17c9 : Code := { maxStack := 2, maxLocals := 1, code := jdk_21_method_38_code, exceptionTable := #[], attributes := #[] }
def k17m9 : Method := { name := "isEmpty", desc := "()Z", sig := { parameters := [], returnType := some .boolean }, accessFlags := 1, code := some k17c9 }
/-- java/util/ArrayDeque -/
def k17 : Class := { plain "java/util/ArrayDeque" (some 13) with
  accessFlags := 33
  interfaces := #[16, 8, 9]
  cf := some (fileOf pool17 4 #[.nestMembers #[139, 136, 131]] #[{ accessFlags := 1, nameIndex := 39, descriptorIndex := 46, attributes := #[] }, { accessFlags := 24, nameIndex := 76, descriptorIndex := 13, attributes := #[] }, { accessFlags := 24, nameIndex := 129, descriptorIndex := 130, attributes := #[] }, { accessFlags := 24, nameIndex := 105, descriptorIndex := 106, attributes := #[] }, { accessFlags := 1, nameIndex := 92, descriptorIndex := 89, attributes := #[] }, { accessFlags := 1, nameIndex := 120, descriptorIndex := 96, attributes := #[] }, { accessFlags := 1, nameIndex := 95, descriptorIndex := 96, attributes := #[] }, { accessFlags := 1, nameIndex := 123, descriptorIndex := 96, attributes := #[] }, { accessFlags := 1, nameIndex := 53, descriptorIndex := 54, attributes := #[] }, { accessFlags := 1, nameIndex := 347, descriptorIndex := 348, attributes := #[] }] 33 43 #[278, 280, 282] #[{ accessFlags := 128, nameIndex := 7, descriptorIndex := 8, attributes := #[] }, { accessFlags := 128, nameIndex := 26, descriptorIndex := 23, attributes := #[] }, { accessFlags := 128, nameIndex := 22, descriptorIndex := 23, attributes := #[] }, { accessFlags := 26, nameIndex := 284, descriptorIndex := 23, attributes := #[] }, { accessFlags := 26, nameIndex := 286, descriptorIndex := 287, attributes := #[] }])
  fields := #[{ name := "elements", type := (.array (.object "java/lang/Object")), accessFlags := 128, slot := 0, constantValue := 0 }, { name := "head", type := .int, accessFlags := 128, slot := 1, constantValue := 0 }, { name := "tail", type := .int, accessFlags := 128, slot := 2, constantValue := 0 }, { name := "MAX_ARRAY_SIZE", type := .int, accessFlags := 26, slot := 0, constantValue := 0 }, { name := "serialVersionUID", type := .long, accessFlags := 26, slot := 1, constantValue := 0 }]
  methods := #[k17m0, k17m1, k17m2, k17m3, k17m4, k17m5, k17m6, k17m7, k17m8, k17m9]
  instanceTypes := #[(.array (.object "java/lang/Object")), .int, .int]
  staticTypes := #[.int, .long]
  resolved := Array.replicate 438 none
  statics := none }

def pool18 : Array CpInfo := pool [(1, .methodref 2 3), (0, .class_ 4), (0, .nameAndType 5 6), (0, u "java/lang/Object"), (0, u "<init>"), (0, u "()V"), (1, .class_ 10), (1, u "java/lang/Number"), (2, .class_ 14), (0, u "java/io/Serializable"), (0, u "serialVersionUID"), (0, u "J")] 20

def k18c0 : Code := { maxStack := 1, maxLocals := 1, code := jdk_18_method_1_code, exceptionTable := #[], attributes := #[] }
def k18m0 : Method := { name := "<init>", desc := "()V", sig := { parameters := [], returnType := none }, accessFlags := 1, code := some k18c0 }
/-- java/lang/Number -/
def k18 : Class := { plain "java/lang/Number" (some 0) with
  accessFlags := 1057
  interfaces := #[9]
  cf := some (fileOf pool18 8 #[] #[{ accessFlags := 1, nameIndex := 5, descriptorIndex := 6, attributes := #[] }] 1057 2 #[13] #[{ accessFlags := 26, nameIndex := 15, descriptorIndex := 16, attributes := #[] }])
  fields := #[{ name := "serialVersionUID", type := .long, accessFlags := 26, slot := 0, constantValue := 0 }]
  methods := #[k18m0]
  instanceTypes := #[]
  staticTypes := #[.long]
  resolved := Array.replicate 37 none
  statics := none }

def pool19 : Array CpInfo := pool [(1, .class_ 2), (0, u "java/lang/Comparable"), (0, .class_ 4), (0, u "java/lang/Object"), (0, u "compareTo"), (0, u "(Ljava/lang/Object;)I")] 5

def k19m0 : Method := { name := "compareTo", desc := "(Ljava/lang/Object;)I", sig := { parameters := [(.object "java/lang/Object")], returnType := some .int }, accessFlags := 1025, code := none }
/-- java/lang/Comparable -/
def k19 : Class := { plain "java/lang/Comparable" (some 0) with
  accessFlags := 1537
  interfaces := #[]
  cf := some (fileOf pool19 1 #[] #[{ accessFlags := 1025, nameIndex := 5, descriptorIndex := 6, attributes := #[] }] 1537 3 #[] #[])
  fields := #[]
  methods := #[k19m0]
  instanceTypes := #[]
  staticTypes := #[]
  resolved := Array.replicate 12 none
  statics := none }

def pool20 : Array CpInfo := pool [(1, .class_ 2), (0, u "java/lang/constant/Constable"), (0, .class_ 4), (0, u "java/lang/Object")] 6

/-- java/lang/constant/Constable -/
def k20 : Class := { plain "java/lang/constant/Constable" (some 0) with
  accessFlags := 1537
  interfaces := #[]
  cf := some (fileOf pool20 1 #[] #[] 1537 3 #[] #[])
  fields := #[]
  methods := #[]
  instanceTypes := #[]
  staticTypes := #[]
  resolved := Array.replicate 11 none
  statics := none }

def pool21 : Array CpInfo := pool [(1, .class_ 2), (0, u "java/lang/constant/ConstantDesc"), (0, .class_ 4), (0, u "java/lang/Object")] 32

/-- java/lang/constant/ConstantDesc -/
def k21 : Class := { plain "java/lang/constant/ConstantDesc" (some 0) with
  accessFlags := 1537
  interfaces := #[]
  cf := some (fileOf pool21 1 #[] #[] 1537 3 #[] #[])
  fields := #[]
  methods := #[]
  instanceTypes := #[]
  staticTypes := #[]
  resolved := Array.replicate 37 none
  statics := none }

def pool22 : Array CpInfo := pool [(1, .class_ 2), (0, u "java/lang/Integer"), (16, u "digits"), (0, u "[C"), (64, u "DigitOnes"), (0, u "[B"), (2, u "DigitTens"), (97, u "valueOf"), (0, u "(I)Ljava/lang/Integer;"), (0, .class_ 190), (0, u "java/lang/Integer$IntegerCache"), (0, .fieldref 189 192), (0, .nameAndType 193 194), (0, u "high"), (0, u "I"), (0, .fieldref 189 196), (0, .nameAndType 197 198), (0, u "cache"), (0, u "[Ljava/lang/Integer;"), (4, .class_ 204), (0, u "java/lang/Number"), (2, u "value"), (94, u "TYPE"), (0, u "Ljava/lang/Class;"), (0, .class_ 305), (0, u "java/lang/Comparable"), (0, .class_ 307), (0, u "java/lang/constant/Constable"), (0, .class_ 309), (0, u "java/lang/constant/ConstantDesc"), (0, u "MIN_VALUE"), (1, u "MAX_VALUE"), (3, u "SIZE"), (1, u "BYTES"), (1, u "serialVersionUID"), (0, u "J")] 131

def k22c0 : Code := { maxStack := 3, maxLocals := 1, code := jdk_33_method_22_code, exceptionTable := #[], attributes := #[] }
def k22m0 : Method := { name := "valueOf", desc := "(I)Ljava/lang/Integer;", sig := { parameters := [.int], returnType := some (.object "java/lang/Integer") }, accessFlags := 9, code := some k22c0 }
/-- java/lang/Integer -/
def k22 : Class := { plain "java/lang/Integer" (some 18) with
  accessFlags := 49
  interfaces := #[19, 20, 21]
  cf := some (fileOf pool22 1 #[.nestMembers #[189]] #[{ accessFlags := 9, nameIndex := 187, descriptorIndex := 188, attributes := #[] }] 49 203 #[304, 306, 308] #[{ accessFlags := 25, nameIndex := 310, descriptorIndex := 194, attributes := #[] }, { accessFlags := 25, nameIndex := 312, descriptorIndex := 194, attributes := #[] }, { accessFlags := 25, nameIndex := 302, descriptorIndex := 303, attributes := #[] }, { accessFlags := 24, nameIndex := 19, descriptorIndex := 20, attributes := #[] }, { accessFlags := 24, nameIndex := 89, descriptorIndex := 86, attributes := #[] }, { accessFlags := 24, nameIndex := 85, descriptorIndex := 86, attributes := #[] }, { accessFlags := 18, nameIndex := 207, descriptorIndex := 194, attributes := #[] }, { accessFlags := 25, nameIndex := 316, descriptorIndex := 194, attributes := #[] }, { accessFlags := 25, nameIndex := 318, descriptorIndex := 194, attributes := #[] }, { accessFlags := 26, nameIndex := 320, descriptorIndex := 321, attributes := #[] }])
  fields := #[{ name := "MIN_VALUE", type := .int, accessFlags := 25, slot := 0, constantValue := 0 }, { name := "MAX_VALUE", type := .int, accessFlags := 25, slot := 1, constantValue := 0 }, { name := "TYPE", type := (.object "java/lang/Class"), accessFlags := 25, slot := 2, constantValue := 0 }, { name := "digits", type := (.array .char), accessFlags := 24, slot := 3, constantValue := 0 }, { name := "DigitTens", type := (.array .byte), accessFlags := 24, slot := 4, constantValue := 0 }, { name := "DigitOnes", type := (.array .byte), accessFlags := 24, slot := 5, constantValue := 0 }, { name := "value", type := .int, accessFlags := 18, slot := 0, constantValue := 0 }, { name := "SIZE", type := .int, accessFlags := 25, slot := 6, constantValue := 0 }, { name := "BYTES", type := .int, accessFlags := 25, slot := 7, constantValue := 0 }, { name := "serialVersionUID", type := .long, accessFlags := 26, slot := 8, constantValue := 0 }]
  methods := #[k22m0]
  instanceTypes := #[.int]
  staticTypes := #[.int, .int, (.object "java/lang/Class"), (.array .char), (.array .byte), (.array .byte), .int, .int, .long]
  resolved := Array.replicate 453 none
  statics := none }

def pool23 : Array CpInfo := pool [(2, .class_ 4), (1, u "java/lang/Object"), (0, u "<init>"), (0, u "()V"), (0, .class_ 8), (0, u "java/lang/Integer"), (7, .class_ 18), (1, u "java/lang/Integer$IntegerCache"), (0, u "$assertionsDisabled"), (0, u "Z"), (26, u "high"), (0, u "I"), (8, u "archivedCache"), (0, u "[Ljava/lang/Integer;"), (12, u "cache"), (0, u "low")] 27

def k23m0 : Method := { name := "<init>", desc := "()V", sig := { parameters := [], returnType := none }, accessFlags := 2, code := none }
/-- java/lang/Integer$IntegerCache -/
def k23 : Class := { plain "java/lang/Integer$IntegerCache" (some 0) with
  accessFlags := 48
  interfaces := #[]
  cf := some (fileOf pool23 16 #[.nestHost 7] #[{ accessFlags := 2, nameIndex := 5, descriptorIndex := 6, attributes := #[] }] 48 2 #[] #[{ accessFlags := 24, nameIndex := 72, descriptorIndex := 48, attributes := #[] }, { accessFlags := 24, nameIndex := 47, descriptorIndex := 48, attributes := #[] }, { accessFlags := 24, nameIndex := 71, descriptorIndex := 58, attributes := #[] }, { accessFlags := 8, nameIndex := 57, descriptorIndex := 58, attributes := #[] }, { accessFlags := 4120, nameIndex := 19, descriptorIndex := 20, attributes := #[] }])
  fields := #[{ name := "low", type := .int, accessFlags := 24, slot := 0, constantValue := 0 }, { name := "high", type := .int, accessFlags := 24, slot := 1, constantValue := 0 }, { name := "cache", type := (.array (.object "java/lang/Integer")), accessFlags := 24, slot := 2, constantValue := 0 }, { name := "archivedCache", type := (.array (.object "java/lang/Integer")), accessFlags := 8, slot := 3, constantValue := 0 }, { name := "$assertionsDisabled", type := .boolean, accessFlags := 4120, slot := 4, constantValue := 0 }]
  methods := #[k23m0]
  instanceTypes := #[]
  staticTypes := #[.int, .int, (.array (.object "java/lang/Integer")), (.array (.object "java/lang/Integer")), .boolean]
  resolved := Array.replicate 100 none
  statics := some 0 }

def pool24 : Array CpInfo := pool [(1, .methodref 2 3), (0, .class_ 4), (0, .nameAndType 5 6), (0, u "java/lang/Object"), (0, u "<init>"), (0, u "()V"), (0, .fieldref 8 9), (0, .class_ 10), (0, .nameAndType 11 12), (0, u "com/example/capow/capow/service/AdmissionQueue$Entry"), (0, u "request"), (0, u "Ljava/lang/Object;"), (0, .fieldref 8 14), (0, .nameAndType 15 16), (0, u "effort"), (0, u "J"), (0, .fieldref 8 18), (0, .nameAndType 19 16), (0, u "arrivalMillis"), (2, u "removed"), (0, u "Z"), (0, u "(Ljava/lang/Object;JJ)V"), (7, .class_ 33), (0, u "com/example/capow/capow/service/AdmissionQueue")] 2

def k24c0 : Code := { maxStack := 3, maxLocals := 6, code := prog_38_method_1_code, exceptionTable := #[], attributes := #[] }
def k24m0 : Method := { name := "<init>", desc := "(Ljava/lang/Object;JJ)V", sig := { parameters := [(.object "java/lang/Object"), .long, .long], returnType := none }, accessFlags := 0, code := some k24c0 }
/-- com/example/capow/capow/service/AdmissionQueue$Entry -/
def k24 : Class := { plain "com/example/capow/capow/service/AdmissionQueue$Entry" (some 0) with
  accessFlags := 48
  interfaces := #[]
  cf := some (fileOf pool24 8 #[.nestHost 32] #[{ accessFlags := 0, nameIndex := 5, descriptorIndex := 24, attributes := #[] }] 48 2 #[] #[{ accessFlags := 18, nameIndex := 11, descriptorIndex := 12, attributes := #[] }, { accessFlags := 18, nameIndex := 15, descriptorIndex := 16, attributes := #[] }, { accessFlags := 18, nameIndex := 19, descriptorIndex := 16, attributes := #[] }, { accessFlags := 2, nameIndex := 22, descriptorIndex := 23, attributes := #[] }])
  fields := #[{ name := "request", type := (.object "java/lang/Object"), accessFlags := 18, slot := 0, constantValue := 0 }, { name := "effort", type := .long, accessFlags := 18, slot := 1, constantValue := 0 }, { name := "arrivalMillis", type := .long, accessFlags := 18, slot := 2, constantValue := 0 }, { name := "removed", type := .boolean, accessFlags := 2, slot := 3, constantValue := 0 }]
  methods := #[k24m0]
  instanceTypes := #[(.object "java/lang/Object"), .long, .long, .boolean]
  staticTypes := #[]
  resolved := Array.replicate 36 none
  statics := none }

def pool25 : Array CpInfo := pool [(1, .class_ 2), (0, u "java/lang/Long"), (55, .nameAndType 59 60), (0, u "<init>"), (0, u "()V"), (24, u "valueOf"), (143, u "(J)Ljava/lang/Long;"), (0, .long 18446744073709551488), (1, .long 127), (1, .fieldref 235 236), (0, .class_ 237), (0, .nameAndType 238 239), (0, u "java/lang/Long$LongCache"), (0, u "cache"), (0, u "[Ljava/lang/Long;"), (0, .methodref 1 241), (0, .nameAndType 59 242), (0, u "(J)V"), (27, .methodref 271 58), (0, .class_ 272), (0, u "java/lang/Number"), (0, .fieldref 1 274), (0, .nameAndType 275 276), (0, u "value"), (0, u "J"), (5, u "longValue"), (0, u "()J"), (18, .methodref 1 303), (0, .nameAndType 304 305), (0, u "compare"), (0, u "(JJ)I"), (37, .methodref 1 344), (0, .nameAndType 345 346), (0, u "compareTo"), (0, u "(Ljava/lang/Long;)I"), (14, u "TYPE"), (0, u "Ljava/lang/Class;"), (0, .class_ 364), (0, u "java/lang/Comparable"), (0, .class_ 366), (0, u "java/lang/constant/Constable"), (0, .class_ 368), (0, u "java/lang/constant/ConstantDesc"), (0, u "MIN_VALUE"), (1, u "MAX_VALUE"), (4, u "SIZE"), (0, u "I"), (1, u "BYTES"), (1, u "serialVersionUID"), (124, u "(Ljava/lang/Object;)I")] 17

def k25c0 : Code := { maxStack := 4, maxLocals := 3, code := jdk_35_method_24_code, exceptionTable := #[], attributes := #[] }
def k25m0 : Method := { name := "valueOf", desc := "(J)Ljava/lang/Long;", sig := { parameters := [.long], returnType := some (.object "java/lang/Long") }, accessFlags := 9, code := some k25c0 }
def k25c1 : Code := { maxStack := 3, maxLocals := 3, code := jdk_35_method_26_code, exceptionTable := #[], attributes := #[] }
def k25m1 : Method := { name := "<init>", desc := "(J)V", sig := { parameters := [.long], returnType := none }, accessFlags := 1, code := some k25c1 }
def k25c2 : Code := { maxStack := 2, maxLocals := 1, code := jdk_35_method_31_code, exceptionTable := #[], attributes := #[] }
def k25m2 : Method := { name := "longValue", desc := "()J", sig := { parameters := [], returnType := some .long }, accessFlags := 1, code := some k25c2 }
def k25c3 : Code := { maxStack := 4, maxLocals := 2, code := jdk_35_method_41_code, exceptionTable := #[], attributes := #[] }
def k25m3 : Method := { name := "compareTo", desc := "(Ljava/lang/Long;)I", sig := { parameters := [(.object "java/lang/Long")], returnType := some .int }, accessFlags := 1, code := some k25c3 }
def k25c4 : Code := { maxStack := 4, maxLocals := 4, code := jdk_35_method_42_code, exceptionTable := #[], attributes := #[] }
def k25m4 : Method := { name := "compare", desc := "(JJ)I", sig := { parameters := [.long, .long], returnType := some .int }, accessFlags := 9, code := some k25c4 }
def k25c5 : Code := { maxStack := 2, maxLocals := 2, code := jdk_35_method_64_code, exceptionTable := #[], attributes := #[] }
def k25m5 : Method := { name := "compareTo", desc := "(Ljava/lang/Object;)I", sig := { parameters := [(.object "java/lang/Object")], returnType := some .int }, accessFlags := 4161, code := some k25c5 }
/-- java/lang/Long -/
def k25 : Class := { plain "java/lang/Long" (some 18) with
  accessFlags := 49
  interfaces := #[19, 20, 21]
  cf := some (fileOf pool25 1 #[.nestMembers #[235]] #[{ accessFlags := 9, nameIndex := 85, descriptorIndex := 229, attributes := #[] }, { accessFlags := 1, nameIndex := 59, descriptorIndex := 242, attributes := #[] }, { accessFlags := 1, nameIndex := 282, descriptorIndex := 283, attributes := #[] }, { accessFlags := 1, nameIndex := 345, descriptorIndex := 346, attributes := #[] }, { accessFlags := 9, nameIndex := 304, descriptorIndex := 305, attributes := #[] }, { accessFlags := 4161, nameIndex := 345, descriptorIndex := 506, attributes := #[] }] 49 271 #[363, 365, 367] #[{ accessFlags := 25, nameIndex := 369, descriptorIndex := 276, attributes := #[] }, { accessFlags := 25, nameIndex := 371, descriptorIndex := 276, attributes := #[] }, { accessFlags := 25, nameIndex := 361, descriptorIndex := 362, attributes := #[] }, { accessFlags := 18, nameIndex := 275, descriptorIndex := 276, attributes := #[] }, { accessFlags := 25, nameIndex := 376, descriptorIndex := 377, attributes := #[] }, { accessFlags := 25, nameIndex := 379, descriptorIndex := 377, attributes := #[] }, { accessFlags := 26, nameIndex := 381, descriptorIndex := 276, attributes := #[] }])
  fields := #[{ name := "MIN_VALUE", type := .long, accessFlags := 25, slot := 0, constantValue := 0 }, { name := "MAX_VALUE", type := .long, accessFlags := 25, slot := 1, constantValue := 0 }, { name := "TYPE", type := (.object "java/lang/Class"), accessFlags := 25, slot := 2, constantValue := 0 }, { name := "value", type := .long, accessFlags := 18, slot := 0, constantValue := 0 }, { name := "SIZE", type := .int, accessFlags := 25, slot := 3, constantValue := 0 }, { name := "BYTES", type := .int, accessFlags := 25, slot := 4, constantValue := 0 }, { name := "serialVersionUID", type := .long, accessFlags := 26, slot := 5, constantValue := 0 }]
  methods := #[k25m0, k25m1, k25m2, k25m3, k25m4, k25m5]
  instanceTypes := #[.long]
  staticTypes := #[.long, .long, (.object "java/lang/Class"), .int, .int, .long]
  resolved := Array.replicate 524 none
  statics := none }

def pool26 : Array CpInfo := pool [(6, u "(Ljava/lang/Object;)Ljava/lang/Object;"), (2, u "apply"), (6, .class_ 18), (1, u "java/util/function/Function"), (0, .class_ 20), (0, u "java/lang/Object")] 56

def k26m0 : Method := { name := "apply", desc := "(Ljava/lang/Object;)Ljava/lang/Object;", sig := { parameters := [(.object "java/lang/Object")], returnType := some (.object "java/lang/Object") }, accessFlags := 1025, code := none }
/-- java/util/function/Function -/
def k26 : Class := { plain "java/util/function/Function" (some 0) with
  accessFlags := 1537
  interfaces := #[]
  cf := some (fileOf pool26 16 #[] #[{ accessFlags := 1025, nameIndex := 9, descriptorIndex := 6, attributes := #[] }] 1537 19 #[] #[])
  fields := #[]
  methods := #[k26m0]
  instanceTypes := #[]
  staticTypes := #[]
  resolved := Array.replicate 77 none
  statics := none }

def pool27 : Array CpInfo := pool [(2, .class_ 4), (1, u "java/lang/Object"), (0, u "<init>"), (0, u "()V"), (35, .class_ 44), (1, u "java/util/Objects"), (0, u "requireNonNull"), (0, u "(Ljava/lang/Object;)Ljava/lang/Object;")] 137

def k27m0 : Method := { name := "<init>", desc := "()V", sig := { parameters := [], returnType := none }, accessFlags := 2, code := none }
def k27c1 : Code := { maxStack := 2, maxLocals := 1, code := jdk_31_method_10_code, exceptionTable := #[], attributes := #[] }
def k27m1 : Method := { name := "requireNonNull", desc := "(Ljava/lang/Object;)Ljava/lang/Object;", sig := { parameters := [(.object "java/lang/Object")], returnType := some (.object "java/lang/Object") }, accessFlags := 9, code := some k27c1 }
/-- java/util/Objects -/
def k27 : Class := { plain "java/util/Objects" (some 0) with
  accessFlags := 49
  interfaces := #[]
  cf := some (fileOf pool27 42 #[] #[{ accessFlags := 2, nameIndex := 5, descriptorIndex := 6, attributes := #[] }, { accessFlags := 9, nameIndex := 45, descriptorIndex := 46, attributes := #[] }] 49 2 #[] #[])
  fields := #[]
  methods := #[k27m0, k27m1]
  instanceTypes := #[]
  staticTypes := #[]
  resolved := Array.replicate 184 none
  statics := none }

def pool28 : Array CpInfo := pool [(23, .class_ 25), (1, u "java/util/Map$Entry"), (6, .class_ 34), (1, u "java/util/Map"), (34, .class_ 70), (0, u "java/lang/Object")] 107

/-- java/util/Map$Entry -/
def k28 : Class := { plain "java/util/Map$Entry" (some 0) with
  accessFlags := 1537
  interfaces := #[]
  cf := some (fileOf pool28 23 #[.nestHost 32] #[] 1537 69 #[] #[])
  fields := #[]
  methods := #[]
  instanceTypes := #[]
  staticTypes := #[]
  resolved := Array.replicate 178 none
  statics := none }

def pool29 : Array CpInfo := pool [(1, .class_ 2), (0, u "java/util/TreeMap"), (0, .methodref 4 5), (0, .class_ 6), (0, .nameAndType 7 8), (0, u "java/lang/Object"), (0, u "<init>"), (0, u "()V"), (0, .fieldref 10 11), (0, .class_ 12), (0, .nameAndType 13 14), (0, u "java/util/TreeMap$Entry"), (0, u "color"), (0, u "Z"), (0, .fieldref 10 16), (0, .nameAndType 17 18), (0, u "key"), (0, u "Ljava/lang/Object;"), (0, .fieldref 10 20), (0, .nameAndType 21 18), (0, u "value"), (0, .fieldref 10 23), (0, .nameAndType 24 25), (0, u "parent"), (0, u "Ljava/util/TreeMap$Entry;"), (0, .class_ 27), (0, u "java/util/Map$Entry"), (34, u "left"), (1, u "right"), (0, u "(Ljava/lang/Object;Ljava/lang/Object;Ljava/util/TreeMap$Entry;)V")] 30

def k29c0 : Code := { maxStack := 2, maxLocals := 4, code := jdk_2736_method_1_code, exceptionTable := #[], attributes := #[] }
def k29m0 : Method := { name := "<init>", desc := "(Ljava/lang/Object;Ljava/lang/Object;Ljava/util/TreeMap$Entry;)V", sig := { parameters := [(.object "java/lang/Object"), (.object "java/lang/Object"), (.object "java/util/TreeMap$Entry")], returnType := none }, accessFlags := 0, code := some k29c0 }
/-- java/util/TreeMap$Entry -/
def k29 : Class := { plain "java/util/TreeMap$Entry" (some 0) with
  accessFlags := 48
  interfaces := #[28]
  cf := some (fileOf pool29 10 #[.nestHost 1] #[{ accessFlags := 0, nameIndex := 7, descriptorIndex := 65, attributes := #[] }] 48 4 #[26] #[{ accessFlags := 0, nameIndex := 17, descriptorIndex := 18, attributes := #[] }, { accessFlags := 0, nameIndex := 21, descriptorIndex := 18, attributes := #[] }, { accessFlags := 0, nameIndex := 62, descriptorIndex := 25, attributes := #[] }, { accessFlags := 0, nameIndex := 64, descriptorIndex := 25, attributes := #[] }, { accessFlags := 0, nameIndex := 24, descriptorIndex := 25, attributes := #[] }, { accessFlags := 0, nameIndex := 13, descriptorIndex := 14, attributes := #[] }])
  fields := #[{ name := "key", type := (.object "java/lang/Object"), accessFlags := 0, slot := 0, constantValue := 0 }, { name := "value", type := (.object "java/lang/Object"), accessFlags := 0, slot := 1, constantValue := 0 }, { name := "left", type := (.object "java/util/TreeMap$Entry"), accessFlags := 0, slot := 2, constantValue := 0 }, { name := "right", type := (.object "java/util/TreeMap$Entry"), accessFlags := 0, slot := 3, constantValue := 0 }, { name := "parent", type := (.object "java/util/TreeMap$Entry"), accessFlags := 0, slot := 4, constantValue := 0 }, { name := "color", type := .boolean, accessFlags := 0, slot := 5, constantValue := 0 }]
  methods := #[k29m0]
  instanceTypes := #[(.object "java/lang/Object"), (.object "java/lang/Object"), (.object "java/util/TreeMap$Entry"), (.object "java/util/TreeMap$Entry"), (.object "java/util/TreeMap$Entry"), .boolean]
  staticTypes := #[]
  resolved := Array.replicate 96 none
  statics := none }

def pool30 : Array CpInfo := pool [(2, .class_ 4), (1, u "java/lang/Object"), (0, u "<init>"), (0, u "()V"), (0, .class_ 8), (0, u "java/lang/Long"), (7, .class_ 18), (1, u "java/lang/Long$LongCache"), (0, u "$assertionsDisabled"), (0, u "Z"), (8, u "archivedCache"), (0, u "[Ljava/lang/Long;"), (7, u "cache")] 24

def k30m0 : Method := { name := "<init>", desc := "()V", sig := { parameters := [], returnType := none }, accessFlags := 2, code := none }
/-- java/lang/Long$LongCache -/
def k30 : Class := { plain "java/lang/Long$LongCache" (some 0) with
  accessFlags := 48
  interfaces := #[]
  cf := some (fileOf pool30 16 #[.nestHost 7] #[{ accessFlags := 2, nameIndex := 5, descriptorIndex := 6, attributes := #[] }] 48 2 #[] #[{ accessFlags := 24, nameIndex := 38, descriptorIndex := 30, attributes := #[] }, { accessFlags := 8, nameIndex := 29, descriptorIndex := 30, attributes := #[] }, { accessFlags := 4120, nameIndex := 19, descriptorIndex := 20, attributes := #[] }])
  fields := #[{ name := "cache", type := (.array (.object "java/lang/Long")), accessFlags := 24, slot := 0, constantValue := 0 }, { name := "archivedCache", type := (.array (.object "java/lang/Long")), accessFlags := 8, slot := 1, constantValue := 0 }, { name := "$assertionsDisabled", type := .boolean, accessFlags := 4120, slot := 2, constantValue := 0 }]
  methods := #[k30m0]
  instanceTypes := #[]
  staticTypes := #[(.array (.object "java/lang/Long")), (.array (.object "java/lang/Long")), .boolean]
  resolved := Array.replicate 63 none
  statics := some 1 }

def pool31 : Array CpInfo := pool [(1, .class_ 2), (0, u "java/lang/Math"), (1, .class_ 6), (1, u "java/lang/Object"), (0, u "<init>"), (0, u "()V"), (89, .class_ 100), (1, u "java/lang/Math$RandomNumberGeneratorHolder"), (20, u "(JJ)J"), (50, u "negativeZeroFloatBits"), (0, u "J"), (2, u "negativeZeroDoubleBits"), (21, u "max"), (2, u "min"), (43, u "$assertionsDisabled"), (0, u "Z"), (91, u "twoToTheDoubleScaleDown"), (0, u "D"), (4, u "twoToTheDoubleScaleUp"), (9, u "E"), (3, u "PI"), (2, u "TAU"), (2, u "DEGREES_TO_RADIANS"), (0, u "RADIANS_TO_DEGREES")] 94

def k31m0 : Method := { name := "<init>", desc := "()V", sig := { parameters := [], returnType := none }, accessFlags := 2, code := none }
def k31c1 : Code := { maxStack := 4, maxLocals := 4, code := jdk_29_method_66_code, exceptionTable := #[], attributes := #[] }
def k31m1 : Method := { name := "max", desc := "(JJ)J", sig := { parameters := [.long, .long], returnType := some .long }, accessFlags := 9, code := some k31c1 }
def k31c2 : Code := { maxStack := 4, maxLocals := 4, code := jdk_29_method_70_code, exceptionTable := #[], attributes := #[] }
def k31m2 : Method := { name := "min", desc := "(JJ)J", sig := { parameters := [.long, .long], returnType := some .long }, accessFlags := 9, code := some k31c2 }
/-- java/lang/Math -/
def k31 : Class := { plain "java/lang/Math" (some 0) with
  accessFlags := 49
  interfaces := #[]
  cf := some (fileOf pool31 1 #[.nestMembers #[98]] #[{ accessFlags := 2, nameIndex := 7, descriptorIndex := 8, attributes := #[] }, { accessFlags := 9, nameIndex := 198, descriptorIndex := 121, attributes := #[] }, { accessFlags := 9, nameIndex := 201, descriptorIndex := 121, attributes := #[] }] 49 4 #[] #[{ accessFlags := 25, nameIndex := 354, descriptorIndex := 339, attributes := #[] }, { accessFlags := 25, nameIndex := 358, descriptorIndex := 339, attributes := #[] }, { accessFlags := 25, nameIndex := 361, descriptorIndex := 339, attributes := #[] }, { accessFlags := 26, nameIndex := 364, descriptorIndex := 339, attributes := #[] }, { accessFlags := 26, nameIndex := 365, descriptorIndex := 339, attributes := #[] }, { accessFlags := 26, nameIndex := 172, descriptorIndex := 173, attributes := #[] }, { accessFlags := 26, nameIndex := 176, descriptorIndex := 173, attributes := #[] }, { accessFlags := 8, nameIndex := 344, descriptorIndex := 339, attributes := #[] }, { accessFlags := 8, nameIndex := 338, descriptorIndex := 339, attributes := #[] }, { accessFlags := 4120, nameIndex := 245, descriptorIndex := 246, attributes := #[] }])
  fields := #[{ name := "E", type := .double, accessFlags := 25, slot := 0, constantValue := 0 }, { name := "PI", type := .double, accessFlags := 25, slot := 1, constantValue := 0 }, { name := "TAU", type := .double, accessFlags := 25, slot := 2, constantValue := 0 }, { name := "DEGREES_TO_RADIANS", type := .double, accessFlags := 26, slot := 3, constantValue := 0 }, { name := "RADIANS_TO_DEGREES", type := .double, accessFlags := 26, slot := 4, constantValue := 0 }, { name := "negativeZeroFloatBits", type := .long, accessFlags := 26, slot := 5, constantValue := 0 }, { name := "negativeZeroDoubleBits", type := .long, accessFlags := 26, slot := 6, constantValue := 0 }, { name := "twoToTheDoubleScaleUp", type := .double, accessFlags := 8, slot := 7, constantValue := 0 }, { name := "twoToTheDoubleScaleDown", type := .double, accessFlags := 8, slot := 8, constantValue := 0 }, { name := "$assertionsDisabled", type := .boolean, accessFlags := 4120, slot := 9, constantValue := 0 }]
  methods := #[k31m0, k31m1, k31m2]
  instanceTypes := #[]
  staticTypes := #[.double, .double, .double, .double, .double, .long, .long, .double, .double, .boolean]
  resolved := Array.replicate 460 none
  statics := none }

/-- the primitive byte -/
def k32 : Class := { plain "byte" none with kind := .primitive 'B', accessFlags := 0x411 }
/-- [B -/
def k33 : Class := { plain "[B" (some 0) with kind := .array 32 .byte, interfaces := #[8, 9], accessFlags := 1041 }

/-- the primitive int -/
def k34 : Class := { plain "int" none with kind := .primitive 'I', accessFlags := 0x411 }
/-- [I -/
def k35 : Class := { plain "[I" (some 0) with kind := .array 34 .int, interfaces := #[8, 9], accessFlags := 1041 }

/-- [Ljava/lang/Integer; -/
def k36 : Class := { plain "[Ljava/lang/Integer;" (some 0) with kind := .array 22 (.object "java/lang/Integer"), interfaces := #[8, 9], accessFlags := 1041 }

/-- [Ljava/lang/Long; -/
def k37 : Class := { plain "[Ljava/lang/Long;" (some 0) with kind := .array 25 (.object "java/lang/Long"), interfaces := #[8, 9], accessFlags := 1041 }

/-- [Ljava/lang/Object; -/
def k38 : Class := { plain "[Ljava/lang/Object;" (some 0) with kind := .array 0 (.object "java/lang/Object"), interfaces := #[8, 9], accessFlags := 1041 }

def classes0 : Array Class := #[k0, k1, k2, k3, k4, k5, k6, k7, k8, k9, k10, k11, k12, k13, k14, k15, k16, k17, k18, k19, k20, k21, k22, k23, k24, k25, k26, k27, k28, k29, k30, k31, k32, k33, k34, k35, k36, k37, k38]
/-- the class that the rule has made for the site at 21 of com/example/capow/capow/service/AdmissionQueue.add -/
def k39 : Class := Jvm.LamKit.madeRec { classes := classes0 } "com/example/capow/capow/service/AdmissionQueue" (Jvm.Lambda.Shape.mk "java/util/function/Function" "apply" (Jvm.ClassFile.MethodDescriptor.mk ([(Jvm.ClassFile.FieldType.object "java/lang/Object")] : List Jvm.ClassFile.FieldType) (Option.some (Jvm.ClassFile.FieldType.object "java/lang/Object"))) ([] : List Jvm.ClassFile.FieldType) (6 : Nat) "com/example/capow/capow/service/AdmissionQueue" "lambda$add$0" (Jvm.ClassFile.MethodDescriptor.mk ([(Jvm.ClassFile.FieldType.object "java/lang/Long")] : List Jvm.ClassFile.FieldType) (Option.some (Jvm.ClassFile.FieldType.object "java/util/ArrayDeque"))) false (Jvm.ClassFile.MethodDescriptor.mk ([(Jvm.ClassFile.FieldType.object "java/lang/Long")] : List Jvm.ClassFile.FieldType) (Option.some (Jvm.ClassFile.FieldType.object "java/util/ArrayDeque")))) 39

def heap : Heap := #[{ cls := 23, slots := #[.int 0, .int 127, .ref 3, .null, .int 0], vm := .statics 23 },
  { cls := 30, slots := #[.ref 4, .null, .int 0], vm := .statics 30 },
  { cls := 39, slots := #[], vm := .none },
  { cls := 36, slots := #[.ref 5, .ref 6, .ref 7, .ref 8, .ref 9, .ref 10, .ref 11, .ref 12, .ref 13, .ref 14, .ref 15, .ref 16, .ref 17, .ref 18, .ref 19, .ref 20, .ref 21, .ref 22, .ref 23, .ref 24, .ref 25, .ref 26, .ref 27, .ref 28, .ref 29, .ref 30, .ref 31, .ref 32, .ref 33, .ref 34, .ref 35, .ref 36, .ref 37, .ref 38, .ref 39, .ref 40, .ref 41, .ref 42, .ref 43, .ref 44, .ref 45, .ref 46, .ref 47, .ref 48, .ref 49, .ref 50, .ref 51, .ref 52, .ref 53, .ref 54, .ref 55, .ref 56, .ref 57, .ref 58, .ref 59, .ref 60, .ref 61, .ref 62, .ref 63, .ref 64, .ref 65, .ref 66, .ref 67, .ref 68, .ref 69, .ref 70, .ref 71, .ref 72, .ref 73, .ref 74, .ref 75, .ref 76, .ref 77, .ref 78, .ref 79, .ref 80, .ref 81, .ref 82, .ref 83, .ref 84, .ref 85, .ref 86, .ref 87, .ref 88, .ref 89, .ref 90, .ref 91, .ref 92, .ref 93, .ref 94, .ref 95, .ref 96, .ref 97, .ref 98, .ref 99, .ref 100, .ref 101, .ref 102, .ref 103, .ref 104, .ref 105, .ref 106, .ref 107, .ref 108, .ref 109, .ref 110, .ref 111, .ref 112, .ref 113, .ref 114, .ref 115, .ref 116, .ref 117, .ref 118, .ref 119, .ref 120, .ref 121, .ref 122, .ref 123, .ref 124, .ref 125, .ref 126, .ref 127, .ref 128, .ref 129, .ref 130, .ref 131, .ref 132, .ref 133, .ref 134, .ref 135, .ref 136, .ref 137, .ref 138, .ref 139, .ref 140, .ref 141, .ref 142, .ref 143, .ref 144, .ref 145, .ref 146, .ref 147, .ref 148, .ref 149, .ref 150, .ref 151, .ref 152, .ref 153, .ref 154, .ref 155, .ref 156, .ref 157, .ref 158, .ref 159, .ref 160, .ref 161, .ref 162, .ref 163, .ref 164, .ref 165, .ref 166, .ref 167, .ref 168, .ref 169, .ref 170, .ref 171, .ref 172, .ref 173, .ref 174, .ref 175, .ref 176, .ref 177, .ref 178, .ref 179, .ref 180, .ref 181, .ref 182, .ref 183, .ref 184, .ref 185, .ref 186, .ref 187, .ref 188, .ref 189, .ref 190, .ref 191, .ref 192, .ref 193, .ref 194, .ref 195, .ref 196, .ref 197, .ref 198, .ref 199, .ref 200, .ref 201, .ref 202, .ref 203, .ref 204, .ref 205, .ref 206, .ref 207, .ref 208, .ref 209, .ref 210, .ref 211, .ref 212, .ref 213, .ref 214, .ref 215, .ref 216, .ref 217, .ref 218, .ref 219, .ref 220, .ref 221, .ref 222, .ref 223, .ref 224, .ref 225, .ref 226, .ref 227, .ref 228, .ref 229, .ref 230, .ref 231, .ref 232, .ref 233, .ref 234, .ref 235, .ref 236, .ref 237, .ref 238, .ref 239, .ref 240, .ref 241, .ref 242, .ref 243, .ref 244, .ref 245, .ref 246, .ref 247, .ref 248, .ref 249, .ref 250, .ref 251, .ref 252, .ref 253, .ref 254, .ref 255, .ref 256, .ref 257, .ref 258, .ref 259, .ref 260], vm := .none },
  { cls := 37, slots := #[.ref 261, .ref 262, .ref 263, .ref 264, .ref 265, .ref 266, .ref 267, .ref 268, .ref 269, .ref 270, .ref 271, .ref 272, .ref 273, .ref 274, .ref 275, .ref 276, .ref 277, .ref 278, .ref 279, .ref 280, .ref 281, .ref 282, .ref 283, .ref 284, .ref 285, .ref 286, .ref 287, .ref 288, .ref 289, .ref 290, .ref 291, .ref 292, .ref 293, .ref 294, .ref 295, .ref 296, .ref 297, .ref 298, .ref 299, .ref 300, .ref 301, .ref 302, .ref 303, .ref 304, .ref 305, .ref 306, .ref 307, .ref 308, .ref 309, .ref 310, .ref 311, .ref 312, .ref 313, .ref 314, .ref 315, .ref 316, .ref 317, .ref 318, .ref 319, .ref 320, .ref 321, .ref 322, .ref 323, .ref 324, .ref 325, .ref 326, .ref 327, .ref 328, .ref 329, .ref 330, .ref 331, .ref 332, .ref 333, .ref 334, .ref 335, .ref 336, .ref 337, .ref 338, .ref 339, .ref 340, .ref 341, .ref 342, .ref 343, .ref 344, .ref 345, .ref 346, .ref 347, .ref 348, .ref 349, .ref 350, .ref 351, .ref 352, .ref 353, .ref 354, .ref 355, .ref 356, .ref 357, .ref 358, .ref 359, .ref 360, .ref 361, .ref 362, .ref 363, .ref 364, .ref 365, .ref 366, .ref 367, .ref 368, .ref 369, .ref 370, .ref 371, .ref 372, .ref 373, .ref 374, .ref 375, .ref 376, .ref 377, .ref 378, .ref 379, .ref 380, .ref 381, .ref 382, .ref 383, .ref 384, .ref 385, .ref 386, .ref 387, .ref 388, .ref 389, .ref 390, .ref 391, .ref 392, .ref 393, .ref 394, .ref 395, .ref 396, .ref 397, .ref 398, .ref 399, .ref 400, .ref 401, .ref 402, .ref 403, .ref 404, .ref 405, .ref 406, .ref 407, .ref 408, .ref 409, .ref 410, .ref 411, .ref 412, .ref 413, .ref 414, .ref 415, .ref 416, .ref 417, .ref 418, .ref 419, .ref 420, .ref 421, .ref 422, .ref 423, .ref 424, .ref 425, .ref 426, .ref 427, .ref 428, .ref 429, .ref 430, .ref 431, .ref 432, .ref 433, .ref 434, .ref 435, .ref 436, .ref 437, .ref 438, .ref 439, .ref 440, .ref 441, .ref 442, .ref 443, .ref 444, .ref 445, .ref 446, .ref 447, .ref 448, .ref 449, .ref 450, .ref 451, .ref 452, .ref 453, .ref 454, .ref 455, .ref 456, .ref 457, .ref 458, .ref 459, .ref 460, .ref 461, .ref 462, .ref 463, .ref 464, .ref 465, .ref 466, .ref 467, .ref 468, .ref 469, .ref 470, .ref 471, .ref 472, .ref 473, .ref 474, .ref 475, .ref 476, .ref 477, .ref 478, .ref 479, .ref 480, .ref 481, .ref 482, .ref 483, .ref 484, .ref 485, .ref 486, .ref 487, .ref 488, .ref 489, .ref 490, .ref 491, .ref 492, .ref 493, .ref 494, .ref 495, .ref 496, .ref 497, .ref 498, .ref 499, .ref 500, .ref 501, .ref 502, .ref 503, .ref 504, .ref 505, .ref 506, .ref 507, .ref 508, .ref 509, .ref 510, .ref 511, .ref 512, .ref 513, .ref 514, .ref 515, .ref 516], vm := .none },
  { cls := 22, slots := #[.int (-128)], vm := .none },
  { cls := 22, slots := #[.int (-127)], vm := .none },
  { cls := 22, slots := #[.int (-126)], vm := .none },
  { cls := 22, slots := #[.int (-125)], vm := .none },
  { cls := 22, slots := #[.int (-124)], vm := .none },
  { cls := 22, slots := #[.int (-123)], vm := .none },
  { cls := 22, slots := #[.int (-122)], vm := .none },
  { cls := 22, slots := #[.int (-121)], vm := .none },
  { cls := 22, slots := #[.int (-120)], vm := .none },
  { cls := 22, slots := #[.int (-119)], vm := .none },
  { cls := 22, slots := #[.int (-118)], vm := .none },
  { cls := 22, slots := #[.int (-117)], vm := .none },
  { cls := 22, slots := #[.int (-116)], vm := .none },
  { cls := 22, slots := #[.int (-115)], vm := .none },
  { cls := 22, slots := #[.int (-114)], vm := .none },
  { cls := 22, slots := #[.int (-113)], vm := .none },
  { cls := 22, slots := #[.int (-112)], vm := .none },
  { cls := 22, slots := #[.int (-111)], vm := .none },
  { cls := 22, slots := #[.int (-110)], vm := .none },
  { cls := 22, slots := #[.int (-109)], vm := .none },
  { cls := 22, slots := #[.int (-108)], vm := .none },
  { cls := 22, slots := #[.int (-107)], vm := .none },
  { cls := 22, slots := #[.int (-106)], vm := .none },
  { cls := 22, slots := #[.int (-105)], vm := .none },
  { cls := 22, slots := #[.int (-104)], vm := .none },
  { cls := 22, slots := #[.int (-103)], vm := .none },
  { cls := 22, slots := #[.int (-102)], vm := .none },
  { cls := 22, slots := #[.int (-101)], vm := .none },
  { cls := 22, slots := #[.int (-100)], vm := .none },
  { cls := 22, slots := #[.int (-99)], vm := .none },
  { cls := 22, slots := #[.int (-98)], vm := .none },
  { cls := 22, slots := #[.int (-97)], vm := .none },
  { cls := 22, slots := #[.int (-96)], vm := .none },
  { cls := 22, slots := #[.int (-95)], vm := .none },
  { cls := 22, slots := #[.int (-94)], vm := .none },
  { cls := 22, slots := #[.int (-93)], vm := .none },
  { cls := 22, slots := #[.int (-92)], vm := .none },
  { cls := 22, slots := #[.int (-91)], vm := .none },
  { cls := 22, slots := #[.int (-90)], vm := .none },
  { cls := 22, slots := #[.int (-89)], vm := .none },
  { cls := 22, slots := #[.int (-88)], vm := .none },
  { cls := 22, slots := #[.int (-87)], vm := .none },
  { cls := 22, slots := #[.int (-86)], vm := .none },
  { cls := 22, slots := #[.int (-85)], vm := .none },
  { cls := 22, slots := #[.int (-84)], vm := .none },
  { cls := 22, slots := #[.int (-83)], vm := .none },
  { cls := 22, slots := #[.int (-82)], vm := .none },
  { cls := 22, slots := #[.int (-81)], vm := .none },
  { cls := 22, slots := #[.int (-80)], vm := .none },
  { cls := 22, slots := #[.int (-79)], vm := .none },
  { cls := 22, slots := #[.int (-78)], vm := .none },
  { cls := 22, slots := #[.int (-77)], vm := .none },
  { cls := 22, slots := #[.int (-76)], vm := .none },
  { cls := 22, slots := #[.int (-75)], vm := .none },
  { cls := 22, slots := #[.int (-74)], vm := .none },
  { cls := 22, slots := #[.int (-73)], vm := .none },
  { cls := 22, slots := #[.int (-72)], vm := .none },
  { cls := 22, slots := #[.int (-71)], vm := .none },
  { cls := 22, slots := #[.int (-70)], vm := .none },
  { cls := 22, slots := #[.int (-69)], vm := .none },
  { cls := 22, slots := #[.int (-68)], vm := .none },
  { cls := 22, slots := #[.int (-67)], vm := .none },
  { cls := 22, slots := #[.int (-66)], vm := .none },
  { cls := 22, slots := #[.int (-65)], vm := .none },
  { cls := 22, slots := #[.int (-64)], vm := .none },
  { cls := 22, slots := #[.int (-63)], vm := .none },
  { cls := 22, slots := #[.int (-62)], vm := .none },
  { cls := 22, slots := #[.int (-61)], vm := .none },
  { cls := 22, slots := #[.int (-60)], vm := .none },
  { cls := 22, slots := #[.int (-59)], vm := .none },
  { cls := 22, slots := #[.int (-58)], vm := .none },
  { cls := 22, slots := #[.int (-57)], vm := .none },
  { cls := 22, slots := #[.int (-56)], vm := .none },
  { cls := 22, slots := #[.int (-55)], vm := .none },
  { cls := 22, slots := #[.int (-54)], vm := .none },
  { cls := 22, slots := #[.int (-53)], vm := .none },
  { cls := 22, slots := #[.int (-52)], vm := .none },
  { cls := 22, slots := #[.int (-51)], vm := .none },
  { cls := 22, slots := #[.int (-50)], vm := .none },
  { cls := 22, slots := #[.int (-49)], vm := .none },
  { cls := 22, slots := #[.int (-48)], vm := .none },
  { cls := 22, slots := #[.int (-47)], vm := .none },
  { cls := 22, slots := #[.int (-46)], vm := .none },
  { cls := 22, slots := #[.int (-45)], vm := .none },
  { cls := 22, slots := #[.int (-44)], vm := .none },
  { cls := 22, slots := #[.int (-43)], vm := .none },
  { cls := 22, slots := #[.int (-42)], vm := .none },
  { cls := 22, slots := #[.int (-41)], vm := .none },
  { cls := 22, slots := #[.int (-40)], vm := .none },
  { cls := 22, slots := #[.int (-39)], vm := .none },
  { cls := 22, slots := #[.int (-38)], vm := .none },
  { cls := 22, slots := #[.int (-37)], vm := .none },
  { cls := 22, slots := #[.int (-36)], vm := .none },
  { cls := 22, slots := #[.int (-35)], vm := .none },
  { cls := 22, slots := #[.int (-34)], vm := .none },
  { cls := 22, slots := #[.int (-33)], vm := .none },
  { cls := 22, slots := #[.int (-32)], vm := .none },
  { cls := 22, slots := #[.int (-31)], vm := .none },
  { cls := 22, slots := #[.int (-30)], vm := .none },
  { cls := 22, slots := #[.int (-29)], vm := .none },
  { cls := 22, slots := #[.int (-28)], vm := .none },
  { cls := 22, slots := #[.int (-27)], vm := .none },
  { cls := 22, slots := #[.int (-26)], vm := .none },
  { cls := 22, slots := #[.int (-25)], vm := .none },
  { cls := 22, slots := #[.int (-24)], vm := .none },
  { cls := 22, slots := #[.int (-23)], vm := .none },
  { cls := 22, slots := #[.int (-22)], vm := .none },
  { cls := 22, slots := #[.int (-21)], vm := .none },
  { cls := 22, slots := #[.int (-20)], vm := .none },
  { cls := 22, slots := #[.int (-19)], vm := .none },
  { cls := 22, slots := #[.int (-18)], vm := .none },
  { cls := 22, slots := #[.int (-17)], vm := .none },
  { cls := 22, slots := #[.int (-16)], vm := .none },
  { cls := 22, slots := #[.int (-15)], vm := .none },
  { cls := 22, slots := #[.int (-14)], vm := .none },
  { cls := 22, slots := #[.int (-13)], vm := .none },
  { cls := 22, slots := #[.int (-12)], vm := .none },
  { cls := 22, slots := #[.int (-11)], vm := .none },
  { cls := 22, slots := #[.int (-10)], vm := .none },
  { cls := 22, slots := #[.int (-9)], vm := .none },
  { cls := 22, slots := #[.int (-8)], vm := .none },
  { cls := 22, slots := #[.int (-7)], vm := .none },
  { cls := 22, slots := #[.int (-6)], vm := .none },
  { cls := 22, slots := #[.int (-5)], vm := .none },
  { cls := 22, slots := #[.int (-4)], vm := .none },
  { cls := 22, slots := #[.int (-3)], vm := .none },
  { cls := 22, slots := #[.int (-2)], vm := .none },
  { cls := 22, slots := #[.int (-1)], vm := .none },
  { cls := 22, slots := #[.int 0], vm := .none },
  { cls := 22, slots := #[.int 1], vm := .none },
  { cls := 22, slots := #[.int 2], vm := .none },
  { cls := 22, slots := #[.int 3], vm := .none },
  { cls := 22, slots := #[.int 4], vm := .none },
  { cls := 22, slots := #[.int 5], vm := .none },
  { cls := 22, slots := #[.int 6], vm := .none },
  { cls := 22, slots := #[.int 7], vm := .none },
  { cls := 22, slots := #[.int 8], vm := .none },
  { cls := 22, slots := #[.int 9], vm := .none },
  { cls := 22, slots := #[.int 10], vm := .none },
  { cls := 22, slots := #[.int 11], vm := .none },
  { cls := 22, slots := #[.int 12], vm := .none },
  { cls := 22, slots := #[.int 13], vm := .none },
  { cls := 22, slots := #[.int 14], vm := .none },
  { cls := 22, slots := #[.int 15], vm := .none },
  { cls := 22, slots := #[.int 16], vm := .none },
  { cls := 22, slots := #[.int 17], vm := .none },
  { cls := 22, slots := #[.int 18], vm := .none },
  { cls := 22, slots := #[.int 19], vm := .none },
  { cls := 22, slots := #[.int 20], vm := .none },
  { cls := 22, slots := #[.int 21], vm := .none },
  { cls := 22, slots := #[.int 22], vm := .none },
  { cls := 22, slots := #[.int 23], vm := .none },
  { cls := 22, slots := #[.int 24], vm := .none },
  { cls := 22, slots := #[.int 25], vm := .none },
  { cls := 22, slots := #[.int 26], vm := .none },
  { cls := 22, slots := #[.int 27], vm := .none },
  { cls := 22, slots := #[.int 28], vm := .none },
  { cls := 22, slots := #[.int 29], vm := .none },
  { cls := 22, slots := #[.int 30], vm := .none },
  { cls := 22, slots := #[.int 31], vm := .none },
  { cls := 22, slots := #[.int 32], vm := .none },
  { cls := 22, slots := #[.int 33], vm := .none },
  { cls := 22, slots := #[.int 34], vm := .none },
  { cls := 22, slots := #[.int 35], vm := .none },
  { cls := 22, slots := #[.int 36], vm := .none },
  { cls := 22, slots := #[.int 37], vm := .none },
  { cls := 22, slots := #[.int 38], vm := .none },
  { cls := 22, slots := #[.int 39], vm := .none },
  { cls := 22, slots := #[.int 40], vm := .none },
  { cls := 22, slots := #[.int 41], vm := .none },
  { cls := 22, slots := #[.int 42], vm := .none },
  { cls := 22, slots := #[.int 43], vm := .none },
  { cls := 22, slots := #[.int 44], vm := .none },
  { cls := 22, slots := #[.int 45], vm := .none },
  { cls := 22, slots := #[.int 46], vm := .none },
  { cls := 22, slots := #[.int 47], vm := .none },
  { cls := 22, slots := #[.int 48], vm := .none },
  { cls := 22, slots := #[.int 49], vm := .none },
  { cls := 22, slots := #[.int 50], vm := .none },
  { cls := 22, slots := #[.int 51], vm := .none },
  { cls := 22, slots := #[.int 52], vm := .none },
  { cls := 22, slots := #[.int 53], vm := .none },
  { cls := 22, slots := #[.int 54], vm := .none },
  { cls := 22, slots := #[.int 55], vm := .none },
  { cls := 22, slots := #[.int 56], vm := .none },
  { cls := 22, slots := #[.int 57], vm := .none },
  { cls := 22, slots := #[.int 58], vm := .none },
  { cls := 22, slots := #[.int 59], vm := .none },
  { cls := 22, slots := #[.int 60], vm := .none },
  { cls := 22, slots := #[.int 61], vm := .none },
  { cls := 22, slots := #[.int 62], vm := .none },
  { cls := 22, slots := #[.int 63], vm := .none },
  { cls := 22, slots := #[.int 64], vm := .none },
  { cls := 22, slots := #[.int 65], vm := .none },
  { cls := 22, slots := #[.int 66], vm := .none },
  { cls := 22, slots := #[.int 67], vm := .none },
  { cls := 22, slots := #[.int 68], vm := .none },
  { cls := 22, slots := #[.int 69], vm := .none },
  { cls := 22, slots := #[.int 70], vm := .none },
  { cls := 22, slots := #[.int 71], vm := .none },
  { cls := 22, slots := #[.int 72], vm := .none },
  { cls := 22, slots := #[.int 73], vm := .none },
  { cls := 22, slots := #[.int 74], vm := .none },
  { cls := 22, slots := #[.int 75], vm := .none },
  { cls := 22, slots := #[.int 76], vm := .none },
  { cls := 22, slots := #[.int 77], vm := .none },
  { cls := 22, slots := #[.int 78], vm := .none },
  { cls := 22, slots := #[.int 79], vm := .none },
  { cls := 22, slots := #[.int 80], vm := .none },
  { cls := 22, slots := #[.int 81], vm := .none },
  { cls := 22, slots := #[.int 82], vm := .none },
  { cls := 22, slots := #[.int 83], vm := .none },
  { cls := 22, slots := #[.int 84], vm := .none },
  { cls := 22, slots := #[.int 85], vm := .none },
  { cls := 22, slots := #[.int 86], vm := .none },
  { cls := 22, slots := #[.int 87], vm := .none },
  { cls := 22, slots := #[.int 88], vm := .none },
  { cls := 22, slots := #[.int 89], vm := .none },
  { cls := 22, slots := #[.int 90], vm := .none },
  { cls := 22, slots := #[.int 91], vm := .none },
  { cls := 22, slots := #[.int 92], vm := .none },
  { cls := 22, slots := #[.int 93], vm := .none },
  { cls := 22, slots := #[.int 94], vm := .none },
  { cls := 22, slots := #[.int 95], vm := .none },
  { cls := 22, slots := #[.int 96], vm := .none },
  { cls := 22, slots := #[.int 97], vm := .none },
  { cls := 22, slots := #[.int 98], vm := .none },
  { cls := 22, slots := #[.int 99], vm := .none },
  { cls := 22, slots := #[.int 100], vm := .none },
  { cls := 22, slots := #[.int 101], vm := .none },
  { cls := 22, slots := #[.int 102], vm := .none },
  { cls := 22, slots := #[.int 103], vm := .none },
  { cls := 22, slots := #[.int 104], vm := .none },
  { cls := 22, slots := #[.int 105], vm := .none },
  { cls := 22, slots := #[.int 106], vm := .none },
  { cls := 22, slots := #[.int 107], vm := .none },
  { cls := 22, slots := #[.int 108], vm := .none },
  { cls := 22, slots := #[.int 109], vm := .none },
  { cls := 22, slots := #[.int 110], vm := .none },
  { cls := 22, slots := #[.int 111], vm := .none },
  { cls := 22, slots := #[.int 112], vm := .none },
  { cls := 22, slots := #[.int 113], vm := .none },
  { cls := 22, slots := #[.int 114], vm := .none },
  { cls := 22, slots := #[.int 115], vm := .none },
  { cls := 22, slots := #[.int 116], vm := .none },
  { cls := 22, slots := #[.int 117], vm := .none },
  { cls := 22, slots := #[.int 118], vm := .none },
  { cls := 22, slots := #[.int 119], vm := .none },
  { cls := 22, slots := #[.int 120], vm := .none },
  { cls := 22, slots := #[.int 121], vm := .none },
  { cls := 22, slots := #[.int 122], vm := .none },
  { cls := 22, slots := #[.int 123], vm := .none },
  { cls := 22, slots := #[.int 124], vm := .none },
  { cls := 22, slots := #[.int 125], vm := .none },
  { cls := 22, slots := #[.int 126], vm := .none },
  { cls := 22, slots := #[.int 127], vm := .none },
  { cls := 25, slots := #[.long (-128)], vm := .none },
  { cls := 25, slots := #[.long (-127)], vm := .none },
  { cls := 25, slots := #[.long (-126)], vm := .none },
  { cls := 25, slots := #[.long (-125)], vm := .none },
  { cls := 25, slots := #[.long (-124)], vm := .none },
  { cls := 25, slots := #[.long (-123)], vm := .none },
  { cls := 25, slots := #[.long (-122)], vm := .none },
  { cls := 25, slots := #[.long (-121)], vm := .none },
  { cls := 25, slots := #[.long (-120)], vm := .none },
  { cls := 25, slots := #[.long (-119)], vm := .none },
  { cls := 25, slots := #[.long (-118)], vm := .none },
  { cls := 25, slots := #[.long (-117)], vm := .none },
  { cls := 25, slots := #[.long (-116)], vm := .none },
  { cls := 25, slots := #[.long (-115)], vm := .none },
  { cls := 25, slots := #[.long (-114)], vm := .none },
  { cls := 25, slots := #[.long (-113)], vm := .none },
  { cls := 25, slots := #[.long (-112)], vm := .none },
  { cls := 25, slots := #[.long (-111)], vm := .none },
  { cls := 25, slots := #[.long (-110)], vm := .none },
  { cls := 25, slots := #[.long (-109)], vm := .none },
  { cls := 25, slots := #[.long (-108)], vm := .none },
  { cls := 25, slots := #[.long (-107)], vm := .none },
  { cls := 25, slots := #[.long (-106)], vm := .none },
  { cls := 25, slots := #[.long (-105)], vm := .none },
  { cls := 25, slots := #[.long (-104)], vm := .none },
  { cls := 25, slots := #[.long (-103)], vm := .none },
  { cls := 25, slots := #[.long (-102)], vm := .none },
  { cls := 25, slots := #[.long (-101)], vm := .none },
  { cls := 25, slots := #[.long (-100)], vm := .none },
  { cls := 25, slots := #[.long (-99)], vm := .none },
  { cls := 25, slots := #[.long (-98)], vm := .none },
  { cls := 25, slots := #[.long (-97)], vm := .none },
  { cls := 25, slots := #[.long (-96)], vm := .none },
  { cls := 25, slots := #[.long (-95)], vm := .none },
  { cls := 25, slots := #[.long (-94)], vm := .none },
  { cls := 25, slots := #[.long (-93)], vm := .none },
  { cls := 25, slots := #[.long (-92)], vm := .none },
  { cls := 25, slots := #[.long (-91)], vm := .none },
  { cls := 25, slots := #[.long (-90)], vm := .none },
  { cls := 25, slots := #[.long (-89)], vm := .none },
  { cls := 25, slots := #[.long (-88)], vm := .none },
  { cls := 25, slots := #[.long (-87)], vm := .none },
  { cls := 25, slots := #[.long (-86)], vm := .none },
  { cls := 25, slots := #[.long (-85)], vm := .none },
  { cls := 25, slots := #[.long (-84)], vm := .none },
  { cls := 25, slots := #[.long (-83)], vm := .none },
  { cls := 25, slots := #[.long (-82)], vm := .none },
  { cls := 25, slots := #[.long (-81)], vm := .none },
  { cls := 25, slots := #[.long (-80)], vm := .none },
  { cls := 25, slots := #[.long (-79)], vm := .none },
  { cls := 25, slots := #[.long (-78)], vm := .none },
  { cls := 25, slots := #[.long (-77)], vm := .none },
  { cls := 25, slots := #[.long (-76)], vm := .none },
  { cls := 25, slots := #[.long (-75)], vm := .none },
  { cls := 25, slots := #[.long (-74)], vm := .none },
  { cls := 25, slots := #[.long (-73)], vm := .none },
  { cls := 25, slots := #[.long (-72)], vm := .none },
  { cls := 25, slots := #[.long (-71)], vm := .none },
  { cls := 25, slots := #[.long (-70)], vm := .none },
  { cls := 25, slots := #[.long (-69)], vm := .none },
  { cls := 25, slots := #[.long (-68)], vm := .none },
  { cls := 25, slots := #[.long (-67)], vm := .none },
  { cls := 25, slots := #[.long (-66)], vm := .none },
  { cls := 25, slots := #[.long (-65)], vm := .none },
  { cls := 25, slots := #[.long (-64)], vm := .none },
  { cls := 25, slots := #[.long (-63)], vm := .none },
  { cls := 25, slots := #[.long (-62)], vm := .none },
  { cls := 25, slots := #[.long (-61)], vm := .none },
  { cls := 25, slots := #[.long (-60)], vm := .none },
  { cls := 25, slots := #[.long (-59)], vm := .none },
  { cls := 25, slots := #[.long (-58)], vm := .none },
  { cls := 25, slots := #[.long (-57)], vm := .none },
  { cls := 25, slots := #[.long (-56)], vm := .none },
  { cls := 25, slots := #[.long (-55)], vm := .none },
  { cls := 25, slots := #[.long (-54)], vm := .none },
  { cls := 25, slots := #[.long (-53)], vm := .none },
  { cls := 25, slots := #[.long (-52)], vm := .none },
  { cls := 25, slots := #[.long (-51)], vm := .none },
  { cls := 25, slots := #[.long (-50)], vm := .none },
  { cls := 25, slots := #[.long (-49)], vm := .none },
  { cls := 25, slots := #[.long (-48)], vm := .none },
  { cls := 25, slots := #[.long (-47)], vm := .none },
  { cls := 25, slots := #[.long (-46)], vm := .none },
  { cls := 25, slots := #[.long (-45)], vm := .none },
  { cls := 25, slots := #[.long (-44)], vm := .none },
  { cls := 25, slots := #[.long (-43)], vm := .none },
  { cls := 25, slots := #[.long (-42)], vm := .none },
  { cls := 25, slots := #[.long (-41)], vm := .none },
  { cls := 25, slots := #[.long (-40)], vm := .none },
  { cls := 25, slots := #[.long (-39)], vm := .none },
  { cls := 25, slots := #[.long (-38)], vm := .none },
  { cls := 25, slots := #[.long (-37)], vm := .none },
  { cls := 25, slots := #[.long (-36)], vm := .none },
  { cls := 25, slots := #[.long (-35)], vm := .none },
  { cls := 25, slots := #[.long (-34)], vm := .none },
  { cls := 25, slots := #[.long (-33)], vm := .none },
  { cls := 25, slots := #[.long (-32)], vm := .none },
  { cls := 25, slots := #[.long (-31)], vm := .none },
  { cls := 25, slots := #[.long (-30)], vm := .none },
  { cls := 25, slots := #[.long (-29)], vm := .none },
  { cls := 25, slots := #[.long (-28)], vm := .none },
  { cls := 25, slots := #[.long (-27)], vm := .none },
  { cls := 25, slots := #[.long (-26)], vm := .none },
  { cls := 25, slots := #[.long (-25)], vm := .none },
  { cls := 25, slots := #[.long (-24)], vm := .none },
  { cls := 25, slots := #[.long (-23)], vm := .none },
  { cls := 25, slots := #[.long (-22)], vm := .none },
  { cls := 25, slots := #[.long (-21)], vm := .none },
  { cls := 25, slots := #[.long (-20)], vm := .none },
  { cls := 25, slots := #[.long (-19)], vm := .none },
  { cls := 25, slots := #[.long (-18)], vm := .none },
  { cls := 25, slots := #[.long (-17)], vm := .none },
  { cls := 25, slots := #[.long (-16)], vm := .none },
  { cls := 25, slots := #[.long (-15)], vm := .none },
  { cls := 25, slots := #[.long (-14)], vm := .none },
  { cls := 25, slots := #[.long (-13)], vm := .none },
  { cls := 25, slots := #[.long (-12)], vm := .none },
  { cls := 25, slots := #[.long (-11)], vm := .none },
  { cls := 25, slots := #[.long (-10)], vm := .none },
  { cls := 25, slots := #[.long (-9)], vm := .none },
  { cls := 25, slots := #[.long (-8)], vm := .none },
  { cls := 25, slots := #[.long (-7)], vm := .none },
  { cls := 25, slots := #[.long (-6)], vm := .none },
  { cls := 25, slots := #[.long (-5)], vm := .none },
  { cls := 25, slots := #[.long (-4)], vm := .none },
  { cls := 25, slots := #[.long (-3)], vm := .none },
  { cls := 25, slots := #[.long (-2)], vm := .none },
  { cls := 25, slots := #[.long (-1)], vm := .none },
  { cls := 25, slots := #[.long 0], vm := .none },
  { cls := 25, slots := #[.long 1], vm := .none },
  { cls := 25, slots := #[.long 2], vm := .none },
  { cls := 25, slots := #[.long 3], vm := .none },
  { cls := 25, slots := #[.long 4], vm := .none },
  { cls := 25, slots := #[.long 5], vm := .none },
  { cls := 25, slots := #[.long 6], vm := .none },
  { cls := 25, slots := #[.long 7], vm := .none },
  { cls := 25, slots := #[.long 8], vm := .none },
  { cls := 25, slots := #[.long 9], vm := .none },
  { cls := 25, slots := #[.long 10], vm := .none },
  { cls := 25, slots := #[.long 11], vm := .none },
  { cls := 25, slots := #[.long 12], vm := .none },
  { cls := 25, slots := #[.long 13], vm := .none },
  { cls := 25, slots := #[.long 14], vm := .none },
  { cls := 25, slots := #[.long 15], vm := .none },
  { cls := 25, slots := #[.long 16], vm := .none },
  { cls := 25, slots := #[.long 17], vm := .none },
  { cls := 25, slots := #[.long 18], vm := .none },
  { cls := 25, slots := #[.long 19], vm := .none },
  { cls := 25, slots := #[.long 20], vm := .none },
  { cls := 25, slots := #[.long 21], vm := .none },
  { cls := 25, slots := #[.long 22], vm := .none },
  { cls := 25, slots := #[.long 23], vm := .none },
  { cls := 25, slots := #[.long 24], vm := .none },
  { cls := 25, slots := #[.long 25], vm := .none },
  { cls := 25, slots := #[.long 26], vm := .none },
  { cls := 25, slots := #[.long 27], vm := .none },
  { cls := 25, slots := #[.long 28], vm := .none },
  { cls := 25, slots := #[.long 29], vm := .none },
  { cls := 25, slots := #[.long 30], vm := .none },
  { cls := 25, slots := #[.long 31], vm := .none },
  { cls := 25, slots := #[.long 32], vm := .none },
  { cls := 25, slots := #[.long 33], vm := .none },
  { cls := 25, slots := #[.long 34], vm := .none },
  { cls := 25, slots := #[.long 35], vm := .none },
  { cls := 25, slots := #[.long 36], vm := .none },
  { cls := 25, slots := #[.long 37], vm := .none },
  { cls := 25, slots := #[.long 38], vm := .none },
  { cls := 25, slots := #[.long 39], vm := .none },
  { cls := 25, slots := #[.long 40], vm := .none },
  { cls := 25, slots := #[.long 41], vm := .none },
  { cls := 25, slots := #[.long 42], vm := .none },
  { cls := 25, slots := #[.long 43], vm := .none },
  { cls := 25, slots := #[.long 44], vm := .none },
  { cls := 25, slots := #[.long 45], vm := .none },
  { cls := 25, slots := #[.long 46], vm := .none },
  { cls := 25, slots := #[.long 47], vm := .none },
  { cls := 25, slots := #[.long 48], vm := .none },
  { cls := 25, slots := #[.long 49], vm := .none },
  { cls := 25, slots := #[.long 50], vm := .none },
  { cls := 25, slots := #[.long 51], vm := .none },
  { cls := 25, slots := #[.long 52], vm := .none },
  { cls := 25, slots := #[.long 53], vm := .none },
  { cls := 25, slots := #[.long 54], vm := .none },
  { cls := 25, slots := #[.long 55], vm := .none },
  { cls := 25, slots := #[.long 56], vm := .none },
  { cls := 25, slots := #[.long 57], vm := .none },
  { cls := 25, slots := #[.long 58], vm := .none },
  { cls := 25, slots := #[.long 59], vm := .none },
  { cls := 25, slots := #[.long 60], vm := .none },
  { cls := 25, slots := #[.long 61], vm := .none },
  { cls := 25, slots := #[.long 62], vm := .none },
  { cls := 25, slots := #[.long 63], vm := .none },
  { cls := 25, slots := #[.long 64], vm := .none },
  { cls := 25, slots := #[.long 65], vm := .none },
  { cls := 25, slots := #[.long 66], vm := .none },
  { cls := 25, slots := #[.long 67], vm := .none },
  { cls := 25, slots := #[.long 68], vm := .none },
  { cls := 25, slots := #[.long 69], vm := .none },
  { cls := 25, slots := #[.long 70], vm := .none },
  { cls := 25, slots := #[.long 71], vm := .none },
  { cls := 25, slots := #[.long 72], vm := .none },
  { cls := 25, slots := #[.long 73], vm := .none },
  { cls := 25, slots := #[.long 74], vm := .none },
  { cls := 25, slots := #[.long 75], vm := .none },
  { cls := 25, slots := #[.long 76], vm := .none },
  { cls := 25, slots := #[.long 77], vm := .none },
  { cls := 25, slots := #[.long 78], vm := .none },
  { cls := 25, slots := #[.long 79], vm := .none },
  { cls := 25, slots := #[.long 80], vm := .none },
  { cls := 25, slots := #[.long 81], vm := .none },
  { cls := 25, slots := #[.long 82], vm := .none },
  { cls := 25, slots := #[.long 83], vm := .none },
  { cls := 25, slots := #[.long 84], vm := .none },
  { cls := 25, slots := #[.long 85], vm := .none },
  { cls := 25, slots := #[.long 86], vm := .none },
  { cls := 25, slots := #[.long 87], vm := .none },
  { cls := 25, slots := #[.long 88], vm := .none },
  { cls := 25, slots := #[.long 89], vm := .none },
  { cls := 25, slots := #[.long 90], vm := .none },
  { cls := 25, slots := #[.long 91], vm := .none },
  { cls := 25, slots := #[.long 92], vm := .none },
  { cls := 25, slots := #[.long 93], vm := .none },
  { cls := 25, slots := #[.long 94], vm := .none },
  { cls := 25, slots := #[.long 95], vm := .none },
  { cls := 25, slots := #[.long 96], vm := .none },
  { cls := 25, slots := #[.long 97], vm := .none },
  { cls := 25, slots := #[.long 98], vm := .none },
  { cls := 25, slots := #[.long 99], vm := .none },
  { cls := 25, slots := #[.long 100], vm := .none },
  { cls := 25, slots := #[.long 101], vm := .none },
  { cls := 25, slots := #[.long 102], vm := .none },
  { cls := 25, slots := #[.long 103], vm := .none },
  { cls := 25, slots := #[.long 104], vm := .none },
  { cls := 25, slots := #[.long 105], vm := .none },
  { cls := 25, slots := #[.long 106], vm := .none },
  { cls := 25, slots := #[.long 107], vm := .none },
  { cls := 25, slots := #[.long 108], vm := .none },
  { cls := 25, slots := #[.long 109], vm := .none },
  { cls := 25, slots := #[.long 110], vm := .none },
  { cls := 25, slots := #[.long 111], vm := .none },
  { cls := 25, slots := #[.long 112], vm := .none },
  { cls := 25, slots := #[.long 113], vm := .none },
  { cls := 25, slots := #[.long 114], vm := .none },
  { cls := 25, slots := #[.long 115], vm := .none },
  { cls := 25, slots := #[.long 116], vm := .none },
  { cls := 25, slots := #[.long 117], vm := .none },
  { cls := 25, slots := #[.long 118], vm := .none },
  { cls := 25, slots := #[.long 119], vm := .none },
  { cls := 25, slots := #[.long 120], vm := .none },
  { cls := 25, slots := #[.long 121], vm := .none },
  { cls := 25, slots := #[.long 122], vm := .none },
  { cls := 25, slots := #[.long 123], vm := .none },
  { cls := 25, slots := #[.long 124], vm := .none },
  { cls := 25, slots := #[.long 125], vm := .none },
  { cls := 25, slots := #[.long 126], vm := .none },
  { cls := 25, slots := #[.long 127], vm := .none }]
def classes : Array Class := #[k0, k1, k2, k3, k4, k5, k6, k7, k8, k9, k10, k11, k12, k13, k14, k15, k16, k17, k18, k19, k20, k21, k22, k23, k24, k25, k26, k27, k28, k29, k30, k31, k32, k33, k34, k35, k36, k37, k38, k39]
def interned : List (Array UInt16 × Addr) := []
def slotsUsed : Nat := 1032
def theMethod : MethodId := ⟨1, 1⟩
def args0 : Array Value := #[.long 5, .int 6, .long 7, .long 8, .long 9]
def aboutOver (below : List Frame) : State where
  vm := { classes := classes, interned := interned.toArray }
  heap := heap
  slotsUsed := slotsUsed
  threads := #[{ frames := .invoking theMethod args0 :: below }]
def below0 : List Frame := [.native { method := ⟨0, 0⟩, args := #[] }]
def about1 : State := aboutOver below0
def p0 : Program := .bare "" "" ""
def e0 : Env := launch0.env 0 0 0
theorem w_frames : about1.frames = Frame.invoking theMethod args0 :: below0 := rfl
set_option maxRecDepth 65536 in
theorem w_args : argsFit about1.vm theMethod args0 = true := by decide +kernel
set_option maxRecDepth 65536 in
theorem w_heap : heapFits about1 = true := by decide +kernel
set_option maxRecDepth 65536 in
theorem w_runnable : about1.curStatus? = some .runnable := by decide +kernel
set_option maxRecDepth 65536 in
theorem w_alone : about1.alone = true := by decide +kernel
set_option maxRecDepth 65536 in
theorem w_named : about1.methodNamed? x = some theMethod := by decide +kernel
set_option maxRecDepth 65536 in
theorem w_hears : about1.hears theMethod below0 = true := by decide +kernel
set_option maxRecDepth 65536 in
theorem w_ripe : about1.ripe theMethod args0 below0 = true := by decide +kernel
theorem w_running : about1.status = .running := rfl
set_option maxRecDepth 65536 in
theorem w_room : about1.hasRoom e0.platform room_1 = true :=
  launch0.hasRoom_least _ room_1 (by decide +kernel) (by decide +kernel) (by decide +kernel) (by decide +kernel) (by decide +kernel) (by decide +kernel)
theorem allAtoms_all (ts : List Jvm.Cond) (a : Array Jvm.Value) (st : Jvm.State) : (allAtoms ts).before a st = ts.all (fun c => c.before a st) := by
  induction ts with
  | nil => rfl
  | cons c t ih =>
    show (Jvm.Cond.and c (allAtoms t)).before a st = _
    rw [Jvm.Cond.before_and, ih, List.all_cons]
def words1 : List Jvm.Cond := Jvm.Cond.code x code maxLocals ret :: tables_1
/-- a 'code' word, met by the world's own term for the bytes: nothing is compared byte by byte -/
theorem code_word {y : MethodName} {bytes : ByteArray} {mx : Nat} {rt : Option FieldType} {a : Array Value} {s : State} {m : MethodId} {meth : Method} {c : Code} (h1 : s.methodNamed? y = some m) (h2 : s.vm.method? m = some meth) (h3 : meth.code = some c) (h4 : c.code = bytes)
    (h5 : (c.maxLocals == mx && c.exceptionTable.isEmpty && decide (c.maxStack ≤ mostOperands) && decide (meth.sig.returnType = rt) && !meth.locks && decide (parseMethodDescriptor y.desc = some meth.sig)) = true) : (Jvm.Cond.code y bytes mx rt).before a s = true := by
  simp only [Bool.and_eq_true, beq_iff_eq, Bool.not_eq_true', decide_eq_true_eq] at h5
  obtain ⟨⟨⟨⟨⟨g1, g2⟩, g3⟩, g4⟩, g5⟩, g6⟩ := h5
  simp [Cond.before, Cond.holds, Cond.value, h1, h2, h3, h4, g1, g2, g3, g4, g5, g6]
def isCode : Jvm.Cond → Bool
  | .code _ _ _ _ => true
  | _ => false
theorem all_split {L : List Jvm.Cond} {P : Jvm.Cond → Bool} (h1 : L.all (fun c => isCode c || P c) = true) (h2 : ∀ c ∈ L.filter isCode, P c = true) : L.all P = true := by
  refine List.all_eq_true.mpr fun c hc => ?_
  have h := List.all_eq_true.mp h1 c hc
  rcases Bool.eq_false_or_eq_true (isCode c) with hi | hi
  · exact h2 c (List.mem_filter.mpr ⟨hc, hi⟩)
  · simpa [hi] using h
set_option maxRecDepth 65536 in
theorem w_c0 : (Jvm.Cond.code x code maxLocals ret).before args0 about1 = true := code_word (m := ⟨1, 1⟩) (meth := k1m1) (c := k1c1) (by decide +kernel) rfl rfl rfl (by decide +kernel)
set_option maxRecDepth 65536 in
theorem w_c1 : (Jvm.Cond.code ({ cls := "com/example/capow/capow/service/AdmissionQueue", name := "<init>", desc := "(J)V" } : Jvm.MethodName) prog_37_method_1_code (3 : Nat) (Option.none : Option Jvm.ClassFile.FieldType)).before args0 about1 = true := code_word (m := ⟨2, 0⟩) (meth := k2m0) (c := k2c0) (by decide +kernel) rfl rfl rfl (by decide +kernel)
set_option maxRecDepth 65536 in
theorem w_c2 : (Jvm.Cond.code ({ cls := "java/lang/Object", name := "<init>", desc := "()V" } : Jvm.MethodName) object_method_1_code (1 : Nat) (Option.none : Option Jvm.ClassFile.FieldType)).before args0 about1 = true := code_word (m := ⟨0, 0⟩) (meth := k0m0) (c := k0c0) (by decide +kernel) rfl rfl rfl (by decide +kernel)
set_option maxRecDepth 65536 in
theorem w_c3 : (Jvm.Cond.code ({ cls := "java/util/TreeMap", name := "<init>", desc := "()V" } : Jvm.MethodName) jdk_2729_method_1_code (1 : Nat) (Option.none : Option Jvm.ClassFile.FieldType)).before args0 about1 = true := code_word (m := ⟨10, 0⟩) (meth := k10m0) (c := k10c0) (by decide +kernel) rfl rfl rfl (by decide +kernel)
set_option maxRecDepth 65536 in
theorem w_c4 : (Jvm.Cond.code ({ cls := "java/util/AbstractMap", name := "<init>", desc := "()V" } : Jvm.MethodName) jdk_71_method_1_code (1 : Nat) (Option.none : Option Jvm.ClassFile.FieldType)).before args0 about1 = true := code_word (m := ⟨4, 0⟩) (meth := k4m0) (c := k4c0) (by decide +kernel) rfl rfl rfl (by decide +kernel)
set_option maxRecDepth 65536 in
theorem w_c5 : (Jvm.Cond.code ({ cls := "java/util/ArrayDeque", name := "<init>", desc := "()V" } : Jvm.MethodName) jdk_21_method_3_code (1 : Nat) (Option.none : Option Jvm.ClassFile.FieldType)).before args0 about1 = true := code_word (m := ⟨17, 0⟩) (meth := k17m0) (c := k17c0) (by decide +kernel) rfl rfl rfl (by decide +kernel)
set_option maxRecDepth 65536 in
theorem w_c6 : (Jvm.Cond.code ({ cls := "java/util/AbstractCollection", name := "<init>", desc := "()V" } : Jvm.MethodName) jdk_22_method_1_code (1 : Nat) (Option.none : Option Jvm.ClassFile.FieldType)).before args0 about1 = true := code_word (m := ⟨13, 0⟩) (meth := k13m0) (c := k13c0) (by decide +kernel) rfl rfl rfl (by decide +kernel)
set_option maxRecDepth 65536 in
theorem w_c7 : (Jvm.Cond.code ({ cls := "com/example/capow/capow/service/AdmissionQueue", name := "isEmpty", desc := "()Z" } : Jvm.MethodName) prog_37_method_6_code (1 : Nat) (Option.some Jvm.ClassFile.FieldType.boolean)).before args0 about1 = true := code_word (m := ⟨2, 3⟩) (meth := k2m3) (c := k2c3) (by decide +kernel) rfl rfl rfl (by decide +kernel)
set_option maxRecDepth 65536 in
theorem w_c8 : (Jvm.Cond.code ({ cls := "java/lang/Integer", name := "valueOf", desc := "(I)Ljava/lang/Integer;" } : Jvm.MethodName) jdk_33_method_22_code (1 : Nat) (Option.some (Jvm.ClassFile.FieldType.object "java/lang/Integer"))).before args0 about1 = true := code_word (m := ⟨22, 0⟩) (meth := k22m0) (c := k22c0) (by decide +kernel) rfl rfl rfl (by decide +kernel)
set_option maxRecDepth 65536 in
theorem w_c9 : (Jvm.Cond.code ({ cls := "com/example/capow/capow/service/AdmissionQueue", name := "add", desc := "(JJLjava/lang/Object;)Ljava/lang/Object;" } : Jvm.MethodName) prog_37_method_2_code (8 : Nat) (Option.some (Jvm.ClassFile.FieldType.object "java/lang/Object"))).before args0 about1 = true := code_word (m := ⟨2, 1⟩) (meth := k2m1) (c := k2c1) (by decide +kernel) rfl rfl rfl (by decide +kernel)
set_option maxRecDepth 65536 in
theorem w_c10 : (Jvm.Cond.code ({ cls := "com/example/capow/capow/service/AdmissionQueue$Entry", name := "<init>", desc := "(Ljava/lang/Object;JJ)V" } : Jvm.MethodName) prog_38_method_1_code (6 : Nat) (Option.none : Option Jvm.ClassFile.FieldType)).before args0 about1 = true := code_word (m := ⟨24, 0⟩) (meth := k24m0) (c := k24c0) (by decide +kernel) rfl rfl rfl (by decide +kernel)
set_option maxRecDepth 65536 in
theorem w_c11 : (Jvm.Cond.code ({ cls := "java/lang/Long", name := "valueOf", desc := "(J)Ljava/lang/Long;" } : Jvm.MethodName) jdk_35_method_24_code (3 : Nat) (Option.some (Jvm.ClassFile.FieldType.object "java/lang/Long"))).before args0 about1 = true := code_word (m := ⟨25, 0⟩) (meth := k25m0) (c := k25c0) (by decide +kernel) rfl rfl rfl (by decide +kernel)
set_option maxRecDepth 65536 in
theorem w_c12 : (Jvm.Cond.code ({ cls := "java/lang/Long", name := "<init>", desc := "(J)V" } : Jvm.MethodName) jdk_35_method_26_code (3 : Nat) (Option.none : Option Jvm.ClassFile.FieldType)).before args0 about1 = true := code_word (m := ⟨25, 1⟩) (meth := k25m1) (c := k25c1) (by decide +kernel) rfl rfl rfl (by decide +kernel)
set_option maxRecDepth 65536 in
theorem w_c13 : (Jvm.Cond.code ({ cls := "java/lang/Number", name := "<init>", desc := "()V" } : Jvm.MethodName) jdk_18_method_1_code (1 : Nat) (Option.none : Option Jvm.ClassFile.FieldType)).before args0 about1 = true := code_word (m := ⟨18, 0⟩) (meth := k18m0) (c := k18c0) (by decide +kernel) rfl rfl rfl (by decide +kernel)
set_option maxRecDepth 65536 in
theorem w_c14 : (Jvm.Cond.code ({ cls := "java/util/TreeMap", name := "computeIfAbsent", desc := "(Ljava/lang/Object;Ljava/util/function/Function;)Ljava/lang/Object;" } : Jvm.MethodName) jdk_2729_method_23_code (9 : Nat) (Option.some (Jvm.ClassFile.FieldType.object "java/lang/Object"))).before args0 about1 = true := code_word (m := ⟨10, 5⟩) (meth := k10m5) (c := k10c5) (by decide +kernel) rfl rfl rfl (by decide +kernel)
set_option maxRecDepth 65536 in
theorem w_c15 : (Jvm.Cond.code ({ cls := "java/util/Objects", name := "requireNonNull", desc := "(Ljava/lang/Object;)Ljava/lang/Object;" } : Jvm.MethodName) jdk_31_method_10_code (1 : Nat) (Option.some (Jvm.ClassFile.FieldType.object "java/lang/Object"))).before args0 about1 = true := code_word (m := ⟨27, 1⟩) (meth := k27m1) (c := k27c1) (by decide +kernel) rfl rfl rfl (by decide +kernel)
set_option maxRecDepth 65536 in
theorem w_c16 : (Jvm.Cond.code ({ cls := "java/util/TreeMap", name := "callMappingFunctionWithCheck", desc := "(Ljava/lang/Object;Ljava/util/function/Function;)Ljava/lang/Object;" } : Jvm.MethodName) jdk_2729_method_27_code (5 : Nat) (Option.some (Jvm.ClassFile.FieldType.object "java/lang/Object"))).before args0 about1 = true := code_word (m := ⟨10, 6⟩) (meth := k10m6) (c := k10c6) (by decide +kernel) rfl rfl rfl (by decide +kernel)
set_option maxRecDepth 65536 in
theorem w_c17 : (Jvm.Cond.code ({ cls := "com/example/capow/capow/service/AdmissionQueue", name := "lambda$add$0", desc := "(Ljava/lang/Long;)Ljava/util/ArrayDeque;" } : Jvm.MethodName) prog_37_method_9_code (1 : Nat) (Option.some (Jvm.ClassFile.FieldType.object "java/util/ArrayDeque"))).before args0 about1 = true := code_word (m := ⟨2, 5⟩) (meth := k2m5) (c := k2c5) (by decide +kernel) rfl rfl rfl (by decide +kernel)
set_option maxRecDepth 65536 in
theorem w_c18 : (Jvm.Cond.code ({ cls := "java/util/TreeMap", name := "addEntryToEmptyMap", desc := "(Ljava/lang/Object;Ljava/lang/Object;)V" } : Jvm.MethodName) jdk_2729_method_30_code (3 : Nat) (Option.none : Option Jvm.ClassFile.FieldType)).before args0 about1 = true := code_word (m := ⟨10, 8⟩) (meth := k10m8) (c := k10c8) (by decide +kernel) rfl rfl rfl (by decide +kernel)
set_option maxRecDepth 65536 in
theorem w_c19 : (Jvm.Cond.code ({ cls := "java/util/TreeMap", name := "compare", desc := "(Ljava/lang/Object;Ljava/lang/Object;)I" } : Jvm.MethodName) jdk_2729_method_67_code (3 : Nat) (Option.some Jvm.ClassFile.FieldType.int)).before args0 about1 = true := code_word (m := ⟨10, 10⟩) (meth := k10m10) (c := k10c10) (by decide +kernel) rfl rfl rfl (by decide +kernel)
set_option maxRecDepth 65536 in
theorem w_c20 : (Jvm.Cond.code ({ cls := "java/lang/Long", name := "compareTo", desc := "(Ljava/lang/Object;)I" } : Jvm.MethodName) jdk_35_method_64_code (2 : Nat) (Option.some Jvm.ClassFile.FieldType.int)).before args0 about1 = true := code_word (m := ⟨25, 5⟩) (meth := k25m5) (c := k25c5) (by decide +kernel) rfl rfl rfl (by decide +kernel)
set_option maxRecDepth 65536 in
theorem w_c21 : (Jvm.Cond.code ({ cls := "java/lang/Long", name := "compareTo", desc := "(Ljava/lang/Long;)I" } : Jvm.MethodName) jdk_35_method_41_code (2 : Nat) (Option.some Jvm.ClassFile.FieldType.int)).before args0 about1 = true := code_word (m := ⟨25, 3⟩) (meth := k25m3) (c := k25c3) (by decide +kernel) rfl rfl rfl (by decide +kernel)
set_option maxRecDepth 65536 in
theorem w_c22 : (Jvm.Cond.code ({ cls := "java/lang/Long", name := "compare", desc := "(JJ)I" } : Jvm.MethodName) jdk_35_method_42_code (4 : Nat) (Option.some Jvm.ClassFile.FieldType.int)).before args0 about1 = true := code_word (m := ⟨25, 4⟩) (meth := k25m4) (c := k25c4) (by decide +kernel) rfl rfl rfl (by decide +kernel)
set_option maxRecDepth 65536 in
theorem w_c23 : (Jvm.Cond.code ({ cls := "java/util/TreeMap$Entry", name := "<init>", desc := "(Ljava/lang/Object;Ljava/lang/Object;Ljava/util/TreeMap$Entry;)V" } : Jvm.MethodName) jdk_2736_method_1_code (4 : Nat) (Option.none : Option Jvm.ClassFile.FieldType)).before args0 about1 = true := code_word (m := ⟨29, 0⟩) (meth := k29m0) (c := k29c0) (by decide +kernel) rfl rfl rfl (by decide +kernel)
set_option maxRecDepth 65536 in
theorem w_c24 : (Jvm.Cond.code ({ cls := "java/util/ArrayDeque", name := "addLast", desc := "(Ljava/lang/Object;)V" } : Jvm.MethodName) jdk_21_method_13_code (3 : Nat) (Option.none : Option Jvm.ClassFile.FieldType)).before args0 about1 = true := code_word (m := ⟨17, 4⟩) (meth := k17m4) (c := k17c4) (by decide +kernel) rfl rfl rfl (by decide +kernel)
set_option maxRecDepth 65536 in
theorem w_c25 : (Jvm.Cond.code ({ cls := "java/util/ArrayDeque", name := "inc", desc := "(II)I" } : Jvm.MethodName) jdk_21_method_6_code (2 : Nat) (Option.some Jvm.ClassFile.FieldType.int)).before args0 about1 = true := code_word (m := ⟨17, 1⟩) (meth := k17m1) (c := k17c1) (by decide +kernel) rfl rfl rfl (by decide +kernel)
set_option maxRecDepth 65536 in
theorem w_c26 : (Jvm.Cond.code ({ cls := "java/util/TreeMap", name := "addEntry", desc := "(Ljava/lang/Object;Ljava/lang/Object;Ljava/util/TreeMap$Entry;Z)V" } : Jvm.MethodName) jdk_2729_method_29_code (6 : Nat) (Option.none : Option Jvm.ClassFile.FieldType)).before args0 about1 = true := code_word (m := ⟨10, 7⟩) (meth := k10m7) (c := k10c7) (by decide +kernel) rfl rfl rfl (by decide +kernel)
set_option maxRecDepth 65536 in
theorem w_c27 : (Jvm.Cond.code ({ cls := "java/util/TreeMap", name := "fixAfterInsertion", desc := "(Ljava/util/TreeMap$Entry;)V" } : Jvm.MethodName) jdk_2729_method_83_code (3 : Nat) (Option.none : Option Jvm.ClassFile.FieldType)).before args0 about1 = true := code_word (m := ⟨10, 21⟩) (meth := k10m21) (c := k10c21) (by decide +kernel) rfl rfl rfl (by decide +kernel)
set_option maxRecDepth 65536 in
theorem w_c28 : (Jvm.Cond.code ({ cls := "java/lang/Math", name := "min", desc := "(JJ)J" } : Jvm.MethodName) jdk_29_method_70_code (4 : Nat) (Option.some Jvm.ClassFile.FieldType.long)).before args0 about1 = true := code_word (m := ⟨31, 2⟩) (meth := k31m2) (c := k31c2) (by decide +kernel) rfl rfl rfl (by decide +kernel)
set_option maxRecDepth 65536 in
theorem w_c29 : (Jvm.Cond.code ({ cls := "java/lang/Math", name := "max", desc := "(JJ)J" } : Jvm.MethodName) jdk_29_method_66_code (4 : Nat) (Option.some Jvm.ClassFile.FieldType.long)).before args0 about1 = true := code_word (m := ⟨31, 1⟩) (meth := k31m1) (c := k31c1) (by decide +kernel) rfl rfl rfl (by decide +kernel)
set_option maxRecDepth 65536 in
theorem w_c30 : (Jvm.Cond.code ({ cls := "java/util/TreeMap", name := "parentOf", desc := "(Ljava/util/TreeMap$Entry;)Ljava/util/TreeMap$Entry;" } : Jvm.MethodName) jdk_2729_method_77_code (1 : Nat) (Option.some (Jvm.ClassFile.FieldType.object "java/util/TreeMap$Entry"))).before args0 about1 = true := code_word (m := ⟨10, 15⟩) (meth := k10m15) (c := k10c15) (by decide +kernel) rfl rfl rfl (by decide +kernel)
set_option maxRecDepth 65536 in
theorem w_c31 : (Jvm.Cond.code ({ cls := "java/util/TreeMap", name := "leftOf", desc := "(Ljava/util/TreeMap$Entry;)Ljava/util/TreeMap$Entry;" } : Jvm.MethodName) jdk_2729_method_79_code (1 : Nat) (Option.some (Jvm.ClassFile.FieldType.object "java/util/TreeMap$Entry"))).before args0 about1 = true := code_word (m := ⟨10, 17⟩) (meth := k10m17) (c := k10c17) (by decide +kernel) rfl rfl rfl (by decide +kernel)
set_option maxRecDepth 65536 in
theorem w_c32 : (Jvm.Cond.code ({ cls := "java/util/TreeMap", name := "colorOf", desc := "(Ljava/util/TreeMap$Entry;)Z" } : Jvm.MethodName) jdk_2729_method_76_code (1 : Nat) (Option.some Jvm.ClassFile.FieldType.boolean)).before args0 about1 = true := code_word (m := ⟨10, 14⟩) (meth := k10m14) (c := k10c14) (by decide +kernel) rfl rfl rfl (by decide +kernel)
set_option maxRecDepth 65536 in
theorem w_c33 : (Jvm.Cond.code ({ cls := "java/util/TreeMap", name := "rotateRight", desc := "(Ljava/util/TreeMap$Entry;)V" } : Jvm.MethodName) jdk_2729_method_82_code (3 : Nat) (Option.none : Option Jvm.ClassFile.FieldType)).before args0 about1 = true := code_word (m := ⟨10, 20⟩) (meth := k10m20) (c := k10c20) (by decide +kernel) rfl rfl rfl (by decide +kernel)
set_option maxRecDepth 65536 in
theorem w_c34 : (Jvm.Cond.code ({ cls := "java/util/TreeMap", name := "setColor", desc := "(Ljava/util/TreeMap$Entry;Z)V" } : Jvm.MethodName) jdk_2729_method_78_code (2 : Nat) (Option.none : Option Jvm.ClassFile.FieldType)).before args0 about1 = true := code_word (m := ⟨10, 16⟩) (meth := k10m16) (c := k10c16) (by decide +kernel) rfl rfl rfl (by decide +kernel)
set_option maxRecDepth 65536 in
theorem w_c35 : (Jvm.Cond.code ({ cls := "java/util/TreeMap", name := "rotateLeft", desc := "(Ljava/util/TreeMap$Entry;)V" } : Jvm.MethodName) jdk_2729_method_81_code (3 : Nat) (Option.none : Option Jvm.ClassFile.FieldType)).before args0 about1 = true := code_word (m := ⟨10, 19⟩) (meth := k10m19) (c := k10c19) (by decide +kernel) rfl rfl rfl (by decide +kernel)
set_option maxRecDepth 65536 in
theorem w_c36 : (Jvm.Cond.code ({ cls := "com/example/capow/capow/service/AdmissionQueue", name := "poll", desc := "()Ljava/lang/Object;" } : Jvm.MethodName) prog_37_method_3_code (1 : Nat) (Option.some (Jvm.ClassFile.FieldType.object "java/lang/Object"))).before args0 about1 = true := code_word (m := ⟨2, 2⟩) (meth := k2m2) (c := k2c2) (by decide +kernel) rfl rfl rfl (by decide +kernel)
set_option maxRecDepth 65536 in
theorem w_c37 : (Jvm.Cond.code ({ cls := "java/util/TreeMap", name := "lastKey", desc := "()Ljava/lang/Object;" } : Jvm.MethodName) jdk_2729_method_11_code (1 : Nat) (Option.some (Jvm.ClassFile.FieldType.object "java/lang/Object"))).before args0 about1 = true := code_word (m := ⟨10, 3⟩) (meth := k10m3) (c := k10c3) (by decide +kernel) rfl rfl rfl (by decide +kernel)
set_option maxRecDepth 65536 in
theorem w_c38 : (Jvm.Cond.code ({ cls := "java/util/TreeMap", name := "getLastEntry", desc := "()Ljava/util/TreeMap$Entry;" } : Jvm.MethodName) jdk_2729_method_73_code (2 : Nat) (Option.some (Jvm.ClassFile.FieldType.object "java/util/TreeMap$Entry"))).before args0 about1 = true := code_word (m := ⟨10, 13⟩) (meth := k10m13) (c := k10c13) (by decide +kernel) rfl rfl rfl (by decide +kernel)
set_option maxRecDepth 65536 in
theorem w_c39 : (Jvm.Cond.code ({ cls := "java/util/TreeMap", name := "key", desc := "(Ljava/util/TreeMap$Entry;)Ljava/lang/Object;" } : Jvm.MethodName) jdk_2729_method_71_code (1 : Nat) (Option.some (Jvm.ClassFile.FieldType.object "java/lang/Object"))).before args0 about1 = true := code_word (m := ⟨10, 11⟩) (meth := k10m11) (c := k10c11) (by decide +kernel) rfl rfl rfl (by decide +kernel)
set_option maxRecDepth 65536 in
theorem w_c40 : (Jvm.Cond.code ({ cls := "java/lang/Long", name := "longValue", desc := "()J" } : Jvm.MethodName) jdk_35_method_31_code (1 : Nat) (Option.some Jvm.ClassFile.FieldType.long)).before args0 about1 = true := code_word (m := ⟨25, 2⟩) (meth := k25m2) (c := k25c2) (by decide +kernel) rfl rfl rfl (by decide +kernel)
set_option maxRecDepth 65536 in
theorem w_c41 : (Jvm.Cond.code ({ cls := "com/example/capow/capow/service/AdmissionQueue", name := "removeFirst", desc := "(J)Ljava/lang/Object;" } : Jvm.MethodName) prog_37_method_7_code (5 : Nat) (Option.some (Jvm.ClassFile.FieldType.object "java/lang/Object"))).before args0 about1 = true := code_word (m := ⟨2, 4⟩) (meth := k2m4) (c := k2c4) (by decide +kernel) rfl rfl rfl (by decide +kernel)
set_option maxRecDepth 65536 in
theorem w_c42 : (Jvm.Cond.code ({ cls := "java/util/TreeMap", name := "get", desc := "(Ljava/lang/Object;)Ljava/lang/Object;" } : Jvm.MethodName) jdk_2729_method_8_code (3 : Nat) (Option.some (Jvm.ClassFile.FieldType.object "java/lang/Object"))).before args0 about1 = true := code_word (m := ⟨10, 1⟩) (meth := k10m1) (c := k10c1) (by decide +kernel) rfl rfl rfl (by decide +kernel)
set_option maxRecDepth 65536 in
theorem w_c43 : (Jvm.Cond.code ({ cls := "java/util/TreeMap", name := "getEntry", desc := "(Ljava/lang/Object;)Ljava/util/TreeMap$Entry;" } : Jvm.MethodName) jdk_2729_method_15_code (5 : Nat) (Option.some (Jvm.ClassFile.FieldType.object "java/util/TreeMap$Entry"))).before args0 about1 = true := code_word (m := ⟨10, 4⟩) (meth := k10m4) (c := k10c4) (by decide +kernel) rfl rfl rfl (by decide +kernel)
set_option maxRecDepth 65536 in
theorem w_c44 : (Jvm.Cond.code ({ cls := "java/util/ArrayDeque", name := "removeFirst", desc := "()Ljava/lang/Object;" } : Jvm.MethodName) jdk_21_method_18_code (2 : Nat) (Option.some (Jvm.ClassFile.FieldType.object "java/lang/Object"))).before args0 about1 = true := code_word (m := ⟨17, 5⟩) (meth := k17m5) (c := k17c5) (by decide +kernel) rfl rfl rfl (by decide +kernel)
set_option maxRecDepth 65536 in
theorem w_c45 : (Jvm.Cond.code ({ cls := "java/util/ArrayDeque", name := "pollFirst", desc := "()Ljava/lang/Object;" } : Jvm.MethodName) jdk_21_method_20_code (4 : Nat) (Option.some (Jvm.ClassFile.FieldType.object "java/lang/Object"))).before args0 about1 = true := code_word (m := ⟨17, 6⟩) (meth := k17m6) (c := k17c6) (by decide +kernel) rfl rfl rfl (by decide +kernel)
set_option maxRecDepth 65536 in
theorem w_c46 : (Jvm.Cond.code ({ cls := "java/util/ArrayDeque", name := "elementAt", desc := "([Ljava/lang/Object;I)Ljava/lang/Object;" } : Jvm.MethodName) jdk_21_method_10_code (2 : Nat) (Option.some (Jvm.ClassFile.FieldType.object "java/lang/Object"))).before args0 about1 = true := code_word (m := ⟨17, 3⟩) (meth := k17m3) (c := k17c3) (by decide +kernel) rfl rfl rfl (by decide +kernel)
set_option maxRecDepth 65536 in
theorem w_c47 : (Jvm.Cond.code ({ cls := "java/util/ArrayDeque", name := "isEmpty", desc := "()Z" } : Jvm.MethodName) jdk_21_method_38_code (1 : Nat) (Option.some Jvm.ClassFile.FieldType.boolean)).before args0 about1 = true := code_word (m := ⟨17, 9⟩) (meth := k17m9) (c := k17c9) (by decide +kernel) rfl rfl rfl (by decide +kernel)
set_option maxRecDepth 65536 in
theorem w_c48 : (Jvm.Cond.code ({ cls := "java/util/TreeMap", name := "remove", desc := "(Ljava/lang/Object;)Ljava/lang/Object;" } : Jvm.MethodName) jdk_2729_method_34_code (4 : Nat) (Option.some (Jvm.ClassFile.FieldType.object "java/lang/Object"))).before args0 about1 = true := code_word (m := ⟨10, 9⟩) (meth := k10m9) (c := k10c9) (by decide +kernel) rfl rfl rfl (by decide +kernel)
set_option maxRecDepth 65536 in
theorem w_c49 : (Jvm.Cond.code ({ cls := "java/util/TreeMap", name := "deleteEntry", desc := "(Ljava/util/TreeMap$Entry;)V" } : Jvm.MethodName) jdk_2729_method_84_code (3 : Nat) (Option.none : Option Jvm.ClassFile.FieldType)).before args0 about1 = true := code_word (m := ⟨10, 22⟩) (meth := k10m22) (c := k10c22) (by decide +kernel) rfl rfl rfl (by decide +kernel)
set_option maxRecDepth 65536 in
theorem w_c50 : (Jvm.Cond.code ({ cls := "java/util/ArrayDeque", name := "getFirst", desc := "()Ljava/lang/Object;" } : Jvm.MethodName) jdk_21_method_22_code (2 : Nat) (Option.some (Jvm.ClassFile.FieldType.object "java/lang/Object"))).before args0 about1 = true := code_word (m := ⟨17, 7⟩) (meth := k17m7) (c := k17c7) (by decide +kernel) rfl rfl rfl (by decide +kernel)
set_option maxRecDepth 65536 in
theorem w_c51 : (Jvm.Cond.code ({ cls := "java/util/ArrayDeque", name := "size", desc := "()I" } : Jvm.MethodName) jdk_21_method_37_code (1 : Nat) (Option.some Jvm.ClassFile.FieldType.int)).before args0 about1 = true := code_word (m := ⟨17, 8⟩) (meth := k17m8) (c := k17c8) (by decide +kernel) rfl rfl rfl (by decide +kernel)
set_option maxRecDepth 65536 in
theorem w_c52 : (Jvm.Cond.code ({ cls := "java/util/ArrayDeque", name := "sub", desc := "(III)I" } : Jvm.MethodName) jdk_21_method_9_code (3 : Nat) (Option.some Jvm.ClassFile.FieldType.int)).before args0 about1 = true := code_word (m := ⟨17, 2⟩) (meth := k17m2) (c := k17c2) (by decide +kernel) rfl rfl rfl (by decide +kernel)
set_option maxRecDepth 65536 in
theorem w_c53 : (Jvm.Cond.code ({ cls := "java/util/TreeMap", name := "fixAfterDeletion", desc := "(Ljava/util/TreeMap$Entry;)V" } : Jvm.MethodName) jdk_2729_method_85_code (3 : Nat) (Option.none : Option Jvm.ClassFile.FieldType)).before args0 about1 = true := code_word (m := ⟨10, 23⟩) (meth := k10m23) (c := k10c23) (by decide +kernel) rfl rfl rfl (by decide +kernel)
set_option maxRecDepth 65536 in
theorem w_c54 : (Jvm.Cond.code ({ cls := "java/util/TreeMap", name := "firstKey", desc := "()Ljava/lang/Object;" } : Jvm.MethodName) jdk_2729_method_10_code (1 : Nat) (Option.some (Jvm.ClassFile.FieldType.object "java/lang/Object"))).before args0 about1 = true := code_word (m := ⟨10, 2⟩) (meth := k10m2) (c := k10c2) (by decide +kernel) rfl rfl rfl (by decide +kernel)
set_option maxRecDepth 65536 in
theorem w_c55 : (Jvm.Cond.code ({ cls := "java/util/TreeMap", name := "getFirstEntry", desc := "()Ljava/util/TreeMap$Entry;" } : Jvm.MethodName) jdk_2729_method_72_code (2 : Nat) (Option.some (Jvm.ClassFile.FieldType.object "java/util/TreeMap$Entry"))).before args0 about1 = true := code_word (m := ⟨10, 12⟩) (meth := k10m12) (c := k10c12) (by decide +kernel) rfl rfl rfl (by decide +kernel)
set_option maxRecDepth 65536 in
theorem w_c56 : (Jvm.Cond.code ({ cls := "java/util/TreeMap", name := "rightOf", desc := "(Ljava/util/TreeMap$Entry;)Ljava/util/TreeMap$Entry;" } : Jvm.MethodName) jdk_2729_method_80_code (1 : Nat) (Option.some (Jvm.ClassFile.FieldType.object "java/util/TreeMap$Entry"))).before args0 about1 = true := code_word (m := ⟨10, 18⟩) (meth := k10m18) (c := k10c18) (by decide +kernel) rfl rfl rfl (by decide +kernel)
def codes1 : List Jvm.Cond := [Jvm.Cond.code x code maxLocals ret, Jvm.Cond.code ({ cls := "com/example/capow/capow/service/AdmissionQueue", name := "<init>", desc := "(J)V" } : Jvm.MethodName) prog_37_method_1_code (3 : Nat) (Option.none : Option Jvm.ClassFile.FieldType), Jvm.Cond.code ({ cls := "java/lang/Object", name := "<init>", desc := "()V" } : Jvm.MethodName) object_method_1_code (1 : Nat) (Option.none : Option Jvm.ClassFile.FieldType), Jvm.Cond.code ({ cls := "java/util/TreeMap", name := "<init>", desc := "()V" } : Jvm.MethodName) jdk_2729_method_1_code (1 : Nat) (Option.none : Option Jvm.ClassFile.FieldType), Jvm.Cond.code ({ cls := "java/util/AbstractMap", name := "<init>", desc := "()V" } : Jvm.MethodName) jdk_71_method_1_code (1 : Nat) (Option.none : Option Jvm.ClassFile.FieldType), Jvm.Cond.code ({ cls := "java/util/ArrayDeque", name := "<init>", desc := "()V" } : Jvm.MethodName) jdk_21_method_3_code (1 : Nat) (Option.none : Option Jvm.ClassFile.FieldType), Jvm.Cond.code ({ cls := "java/util/AbstractCollection", name := "<init>", desc := "()V" } : Jvm.MethodName) jdk_22_method_1_code (1 : Nat) (Option.none : Option Jvm.ClassFile.FieldType), Jvm.Cond.code ({ cls := "com/example/capow/capow/service/AdmissionQueue", name := "isEmpty", desc := "()Z" } : Jvm.MethodName) prog_37_method_6_code (1 : Nat) (Option.some Jvm.ClassFile.FieldType.boolean), Jvm.Cond.code ({ cls := "java/lang/Integer", name := "valueOf", desc := "(I)Ljava/lang/Integer;" } : Jvm.MethodName) jdk_33_method_22_code (1 : Nat) (Option.some (Jvm.ClassFile.FieldType.object "java/lang/Integer")), Jvm.Cond.code ({ cls := "com/example/capow/capow/service/AdmissionQueue", name := "add", desc := "(JJLjava/lang/Object;)Ljava/lang/Object;" } : Jvm.MethodName) prog_37_method_2_code (8 : Nat) (Option.some (Jvm.ClassFile.FieldType.object "java/lang/Object")), Jvm.Cond.code ({ cls := "com/example/capow/capow/service/AdmissionQueue$Entry", name := "<init>", desc := "(Ljava/lang/Object;JJ)V" } : Jvm.MethodName) prog_38_method_1_code (6 : Nat) (Option.none : Option Jvm.ClassFile.FieldType), Jvm.Cond.code ({ cls := "java/lang/Long", name := "valueOf", desc := "(J)Ljava/lang/Long;" } : Jvm.MethodName) jdk_35_method_24_code (3 : Nat) (Option.some (Jvm.ClassFile.FieldType.object "java/lang/Long")), Jvm.Cond.code ({ cls := "java/lang/Long", name := "<init>", desc := "(J)V" } : Jvm.MethodName) jdk_35_method_26_code (3 : Nat) (Option.none : Option Jvm.ClassFile.FieldType), Jvm.Cond.code ({ cls := "java/lang/Number", name := "<init>", desc := "()V" } : Jvm.MethodName) jdk_18_method_1_code (1 : Nat) (Option.none : Option Jvm.ClassFile.FieldType), Jvm.Cond.code ({ cls := "java/util/TreeMap", name := "computeIfAbsent", desc := "(Ljava/lang/Object;Ljava/util/function/Function;)Ljava/lang/Object;" } : Jvm.MethodName) jdk_2729_method_23_code (9 : Nat) (Option.some (Jvm.ClassFile.FieldType.object "java/lang/Object")), Jvm.Cond.code ({ cls := "java/util/Objects", name := "requireNonNull", desc := "(Ljava/lang/Object;)Ljava/lang/Object;" } : Jvm.MethodName) jdk_31_method_10_code (1 : Nat) (Option.some (Jvm.ClassFile.FieldType.object "java/lang/Object")), Jvm.Cond.code ({ cls := "java/util/TreeMap", name := "callMappingFunctionWithCheck", desc := "(Ljava/lang/Object;Ljava/util/function/Function;)Ljava/lang/Object;" } : Jvm.MethodName) jdk_2729_method_27_code (5 : Nat) (Option.some (Jvm.ClassFile.FieldType.object "java/lang/Object")), Jvm.Cond.code ({ cls := "com/example/capow/capow/service/AdmissionQueue", name := "lambda$add$0", desc := "(Ljava/lang/Long;)Ljava/util/ArrayDeque;" } : Jvm.MethodName) prog_37_method_9_code (1 : Nat) (Option.some (Jvm.ClassFile.FieldType.object "java/util/ArrayDeque")), Jvm.Cond.code ({ cls := "java/util/TreeMap", name := "addEntryToEmptyMap", desc := "(Ljava/lang/Object;Ljava/lang/Object;)V" } : Jvm.MethodName) jdk_2729_method_30_code (3 : Nat) (Option.none : Option Jvm.ClassFile.FieldType), Jvm.Cond.code ({ cls := "java/util/TreeMap", name := "compare", desc := "(Ljava/lang/Object;Ljava/lang/Object;)I" } : Jvm.MethodName) jdk_2729_method_67_code (3 : Nat) (Option.some Jvm.ClassFile.FieldType.int), Jvm.Cond.code ({ cls := "java/lang/Long", name := "compareTo", desc := "(Ljava/lang/Object;)I" } : Jvm.MethodName) jdk_35_method_64_code (2 : Nat) (Option.some Jvm.ClassFile.FieldType.int), Jvm.Cond.code ({ cls := "java/lang/Long", name := "compareTo", desc := "(Ljava/lang/Long;)I" } : Jvm.MethodName) jdk_35_method_41_code (2 : Nat) (Option.some Jvm.ClassFile.FieldType.int), Jvm.Cond.code ({ cls := "java/lang/Long", name := "compare", desc := "(JJ)I" } : Jvm.MethodName) jdk_35_method_42_code (4 : Nat) (Option.some Jvm.ClassFile.FieldType.int), Jvm.Cond.code ({ cls := "java/util/TreeMap$Entry", name := "<init>", desc := "(Ljava/lang/Object;Ljava/lang/Object;Ljava/util/TreeMap$Entry;)V" } : Jvm.MethodName) jdk_2736_method_1_code (4 : Nat) (Option.none : Option Jvm.ClassFile.FieldType), Jvm.Cond.code ({ cls := "java/util/ArrayDeque", name := "addLast", desc := "(Ljava/lang/Object;)V" } : Jvm.MethodName) jdk_21_method_13_code (3 : Nat) (Option.none : Option Jvm.ClassFile.FieldType), Jvm.Cond.code ({ cls := "java/util/ArrayDeque", name := "inc", desc := "(II)I" } : Jvm.MethodName) jdk_21_method_6_code (2 : Nat) (Option.some Jvm.ClassFile.FieldType.int), Jvm.Cond.code ({ cls := "java/util/TreeMap", name := "addEntry", desc := "(Ljava/lang/Object;Ljava/lang/Object;Ljava/util/TreeMap$Entry;Z)V" } : Jvm.MethodName) jdk_2729_method_29_code (6 : Nat) (Option.none : Option Jvm.ClassFile.FieldType), Jvm.Cond.code ({ cls := "java/util/TreeMap", name := "fixAfterInsertion", desc := "(Ljava/util/TreeMap$Entry;)V" } : Jvm.MethodName) jdk_2729_method_83_code (3 : Nat) (Option.none : Option Jvm.ClassFile.FieldType), Jvm.Cond.code ({ cls := "java/lang/Math", name := "min", desc := "(JJ)J" } : Jvm.MethodName) jdk_29_method_70_code (4 : Nat) (Option.some Jvm.ClassFile.FieldType.long), Jvm.Cond.code ({ cls := "java/lang/Math", name := "max", desc := "(JJ)J" } : Jvm.MethodName) jdk_29_method_66_code (4 : Nat) (Option.some Jvm.ClassFile.FieldType.long), Jvm.Cond.code ({ cls := "java/util/TreeMap", name := "parentOf", desc := "(Ljava/util/TreeMap$Entry;)Ljava/util/TreeMap$Entry;" } : Jvm.MethodName) jdk_2729_method_77_code (1 : Nat) (Option.some (Jvm.ClassFile.FieldType.object "java/util/TreeMap$Entry")), Jvm.Cond.code ({ cls := "java/util/TreeMap", name := "leftOf", desc := "(Ljava/util/TreeMap$Entry;)Ljava/util/TreeMap$Entry;" } : Jvm.MethodName) jdk_2729_method_79_code (1 : Nat) (Option.some (Jvm.ClassFile.FieldType.object "java/util/TreeMap$Entry")), Jvm.Cond.code ({ cls := "java/util/TreeMap", name := "colorOf", desc := "(Ljava/util/TreeMap$Entry;)Z" } : Jvm.MethodName) jdk_2729_method_76_code (1 : Nat) (Option.some Jvm.ClassFile.FieldType.boolean), Jvm.Cond.code ({ cls := "java/util/TreeMap", name := "rotateRight", desc := "(Ljava/util/TreeMap$Entry;)V" } : Jvm.MethodName) jdk_2729_method_82_code (3 : Nat) (Option.none : Option Jvm.ClassFile.FieldType), Jvm.Cond.code ({ cls := "java/util/TreeMap", name := "setColor", desc := "(Ljava/util/TreeMap$Entry;Z)V" } : Jvm.MethodName) jdk_2729_method_78_code (2 : Nat) (Option.none : Option Jvm.ClassFile.FieldType), Jvm.Cond.code ({ cls := "java/util/TreeMap", name := "rotateLeft", desc := "(Ljava/util/TreeMap$Entry;)V" } : Jvm.MethodName) jdk_2729_method_81_code (3 : Nat) (Option.none : Option Jvm.ClassFile.FieldType), Jvm.Cond.code ({ cls := "com/example/capow/capow/service/AdmissionQueue", name := "poll", desc := "()Ljava/lang/Object;" } : Jvm.MethodName) prog_37_method_3_code (1 : Nat) (Option.some (Jvm.ClassFile.FieldType.object "java/lang/Object")), Jvm.Cond.code ({ cls := "java/util/TreeMap", name := "lastKey", desc := "()Ljava/lang/Object;" } : Jvm.MethodName) jdk_2729_method_11_code (1 : Nat) (Option.some (Jvm.ClassFile.FieldType.object "java/lang/Object")), Jvm.Cond.code ({ cls := "java/util/TreeMap", name := "getLastEntry", desc := "()Ljava/util/TreeMap$Entry;" } : Jvm.MethodName) jdk_2729_method_73_code (2 : Nat) (Option.some (Jvm.ClassFile.FieldType.object "java/util/TreeMap$Entry")), Jvm.Cond.code ({ cls := "java/util/TreeMap", name := "key", desc := "(Ljava/util/TreeMap$Entry;)Ljava/lang/Object;" } : Jvm.MethodName) jdk_2729_method_71_code (1 : Nat) (Option.some (Jvm.ClassFile.FieldType.object "java/lang/Object")), Jvm.Cond.code ({ cls := "java/lang/Long", name := "longValue", desc := "()J" } : Jvm.MethodName) jdk_35_method_31_code (1 : Nat) (Option.some Jvm.ClassFile.FieldType.long), Jvm.Cond.code ({ cls := "com/example/capow/capow/service/AdmissionQueue", name := "removeFirst", desc := "(J)Ljava/lang/Object;" } : Jvm.MethodName) prog_37_method_7_code (5 : Nat) (Option.some (Jvm.ClassFile.FieldType.object "java/lang/Object")), Jvm.Cond.code ({ cls := "java/util/TreeMap", name := "get", desc := "(Ljava/lang/Object;)Ljava/lang/Object;" } : Jvm.MethodName) jdk_2729_method_8_code (3 : Nat) (Option.some (Jvm.ClassFile.FieldType.object "java/lang/Object")), Jvm.Cond.code ({ cls := "java/util/TreeMap", name := "getEntry", desc := "(Ljava/lang/Object;)Ljava/util/TreeMap$Entry;" } : Jvm.MethodName) jdk_2729_method_15_code (5 : Nat) (Option.some (Jvm.ClassFile.FieldType.object "java/util/TreeMap$Entry")), Jvm.Cond.code ({ cls := "java/util/ArrayDeque", name := "removeFirst", desc := "()Ljava/lang/Object;" } : Jvm.MethodName) jdk_21_method_18_code (2 : Nat) (Option.some (Jvm.ClassFile.FieldType.object "java/lang/Object")), Jvm.Cond.code ({ cls := "java/util/ArrayDeque", name := "pollFirst", desc := "()Ljava/lang/Object;" } : Jvm.MethodName) jdk_21_method_20_code (4 : Nat) (Option.some (Jvm.ClassFile.FieldType.object "java/lang/Object")), Jvm.Cond.code ({ cls := "java/util/ArrayDeque", name := "elementAt", desc := "([Ljava/lang/Object;I)Ljava/lang/Object;" } : Jvm.MethodName) jdk_21_method_10_code (2 : Nat) (Option.some (Jvm.ClassFile.FieldType.object "java/lang/Object")), Jvm.Cond.code ({ cls := "java/util/ArrayDeque", name := "isEmpty", desc := "()Z" } : Jvm.MethodName) jdk_21_method_38_code (1 : Nat) (Option.some Jvm.ClassFile.FieldType.boolean), Jvm.Cond.code ({ cls := "java/util/TreeMap", name := "remove", desc := "(Ljava/lang/Object;)Ljava/lang/Object;" } : Jvm.MethodName) jdk_2729_method_34_code (4 : Nat) (Option.some (Jvm.ClassFile.FieldType.object "java/lang/Object")), Jvm.Cond.code ({ cls := "java/util/TreeMap", name := "deleteEntry", desc := "(Ljava/util/TreeMap$Entry;)V" } : Jvm.MethodName) jdk_2729_method_84_code (3 : Nat) (Option.none : Option Jvm.ClassFile.FieldType), Jvm.Cond.code ({ cls := "java/util/ArrayDeque", name := "getFirst", desc := "()Ljava/lang/Object;" } : Jvm.MethodName) jdk_21_method_22_code (2 : Nat) (Option.some (Jvm.ClassFile.FieldType.object "java/lang/Object")), Jvm.Cond.code ({ cls := "java/util/ArrayDeque", name := "size", desc := "()I" } : Jvm.MethodName) jdk_21_method_37_code (1 : Nat) (Option.some Jvm.ClassFile.FieldType.int), Jvm.Cond.code ({ cls := "java/util/ArrayDeque", name := "sub", desc := "(III)I" } : Jvm.MethodName) jdk_21_method_9_code (3 : Nat) (Option.some Jvm.ClassFile.FieldType.int), Jvm.Cond.code ({ cls := "java/util/TreeMap", name := "fixAfterDeletion", desc := "(Ljava/util/TreeMap$Entry;)V" } : Jvm.MethodName) jdk_2729_method_85_code (3 : Nat) (Option.none : Option Jvm.ClassFile.FieldType), Jvm.Cond.code ({ cls := "java/util/TreeMap", name := "firstKey", desc := "()Ljava/lang/Object;" } : Jvm.MethodName) jdk_2729_method_10_code (1 : Nat) (Option.some (Jvm.ClassFile.FieldType.object "java/lang/Object")), Jvm.Cond.code ({ cls := "java/util/TreeMap", name := "getFirstEntry", desc := "()Ljava/util/TreeMap$Entry;" } : Jvm.MethodName) jdk_2729_method_72_code (2 : Nat) (Option.some (Jvm.ClassFile.FieldType.object "java/util/TreeMap$Entry")), Jvm.Cond.code ({ cls := "java/util/TreeMap", name := "rightOf", desc := "(Ljava/util/TreeMap$Entry;)Ljava/util/TreeMap$Entry;" } : Jvm.MethodName) jdk_2729_method_80_code (1 : Nat) (Option.some (Jvm.ClassFile.FieldType.object "java/util/TreeMap$Entry"))]
set_option maxRecDepth 65536 in
theorem codes_eq : words1.filter isCode = codes1 := rfl
theorem w_codes : ∀ c ∈ words1.filter isCode, c.before args0 about1 = true := by
  rw [codes_eq]
  intro c hc
  simp only [codes1, List.mem_cons, List.not_mem_nil, or_false] at hc
  rcases hc with rfl | rfl | rfl | rfl | rfl | rfl | rfl | rfl | rfl | rfl | rfl | rfl | rfl | rfl | rfl | rfl | rfl | rfl | rfl | rfl | rfl | rfl | rfl | rfl | rfl | rfl | rfl | rfl | rfl | rfl | rfl | rfl | rfl | rfl | rfl | rfl | rfl | rfl | rfl | rfl | rfl | rfl | rfl | rfl | rfl | rfl | rfl | rfl | rfl | rfl | rfl | rfl | rfl | rfl | rfl | rfl | rfl
  · exact w_c0
  · exact w_c1
  · exact w_c2
  · exact w_c3
  · exact w_c4
  · exact w_c5
  · exact w_c6
  · exact w_c7
  · exact w_c8
  · exact w_c9
  · exact w_c10
  · exact w_c11
  · exact w_c12
  · exact w_c13
  · exact w_c14
  · exact w_c15
  · exact w_c16
  · exact w_c17
  · exact w_c18
  · exact w_c19
  · exact w_c20
  · exact w_c21
  · exact w_c22
  · exact w_c23
  · exact w_c24
  · exact w_c25
  · exact w_c26
  · exact w_c27
  · exact w_c28
  · exact w_c29
  · exact w_c30
  · exact w_c31
  · exact w_c32
  · exact w_c33
  · exact w_c34
  · exact w_c35
  · exact w_c36
  · exact w_c37
  · exact w_c38
  · exact w_c39
  · exact w_c40
  · exact w_c41
  · exact w_c42
  · exact w_c43
  · exact w_c44
  · exact w_c45
  · exact w_c46
  · exact w_c47
  · exact w_c48
  · exact w_c49
  · exact w_c50
  · exact w_c51
  · exact w_c52
  · exact w_c53
  · exact w_c54
  · exact w_c55
  · exact w_c56
set_option maxRecDepth 65536 in
theorem w_t1 : (words1.take 24).all (fun c => isCode c || c.before args0 about1) = true := by decide +kernel
set_option maxRecDepth 65536 in
theorem w_t2 : ((words1.drop 24).take 24).all (fun c => isCode c || c.before args0 about1) = true := by decide +kernel
set_option maxRecDepth 65536 in
theorem w_t3 : (((words1.drop 24).drop 24).take 24).all (fun c => isCode c || c.before args0 about1) = true := by decide +kernel
set_option maxRecDepth 65536 in
theorem w_t4 : ((((words1.drop 24).drop 24).drop 24).take 24).all (fun c => isCode c || c.before args0 about1) = true := by decide +kernel
set_option maxRecDepth 65536 in
theorem w_t5 : (((((words1.drop 24).drop 24).drop 24).drop 24).take 24).all (fun c => isCode c || c.before args0 about1) = true := by decide +kernel
set_option maxRecDepth 65536 in
theorem w_t6 : ((((((words1.drop 24).drop 24).drop 24).drop 24).drop 24).take 24).all (fun c => isCode c || c.before args0 about1) = true := by decide +kernel
set_option maxRecDepth 65536 in
theorem w_t7 : (((((((words1.drop 24).drop 24).drop 24).drop 24).drop 24).drop 24).take 24).all (fun c => isCode c || c.before args0 about1) = true := by decide +kernel
set_option maxRecDepth 65536 in
theorem w_t8 : ((((((((words1.drop 24).drop 24).drop 24).drop 24).drop 24).drop 24).drop 24).take 24).all (fun c => isCode c || c.before args0 about1) = true := by decide +kernel
set_option maxRecDepth 65536 in
theorem w_t9 : (((((((((words1.drop 24).drop 24).drop 24).drop 24).drop 24).drop 24).drop 24).drop 24).take 24).all (fun c => isCode c || c.before args0 about1) = true := by decide +kernel
set_option maxRecDepth 65536 in
theorem w_t10 : ((((((((((words1.drop 24).drop 24).drop 24).drop 24).drop 24).drop 24).drop 24).drop 24).drop 24).take 24).all (fun c => isCode c || c.before args0 about1) = true := by decide +kernel
set_option maxRecDepth 65536 in
theorem w_t11 : (((((((((((words1.drop 24).drop 24).drop 24).drop 24).drop 24).drop 24).drop 24).drop 24).drop 24).drop 24).take 24).all (fun c => isCode c || c.before args0 about1) = true := by decide +kernel
set_option maxRecDepth 65536 in
theorem w_t12 : ((((((((((((words1.drop 24).drop 24).drop 24).drop 24).drop 24).drop 24).drop 24).drop 24).drop 24).drop 24).drop 24).take 24).all (fun c => isCode c || c.before args0 about1) = true := by decide +kernel
set_option maxRecDepth 65536 in
theorem w_t13 : (((((((((((((words1.drop 24).drop 24).drop 24).drop 24).drop 24).drop 24).drop 24).drop 24).drop 24).drop 24).drop 24).drop 24).take 24).all (fun c => isCode c || c.before args0 about1) = true := by decide +kernel
set_option maxRecDepth 65536 in
theorem w_t14 : ((((((((((((((words1.drop 24).drop 24).drop 24).drop 24).drop 24).drop 24).drop 24).drop 24).drop 24).drop 24).drop 24).drop 24).drop 24).take 24).all (fun c => isCode c || c.before args0 about1) = true := by decide +kernel
set_option maxRecDepth 65536 in
theorem w_t15 : ((((((((((((((words1.drop 24).drop 24).drop 24).drop 24).drop 24).drop 24).drop 24).drop 24).drop 24).drop 24).drop 24).drop 24).drop 24).drop 24).all (fun c => isCode c || c.before args0 about1) = true := by decide +kernel
theorem w_tables : (allAtoms (Jvm.Cond.code x code maxLocals ret :: tables_1)).before args0 about1 = true := by
  rw [allAtoms_all]
  show words1.all (fun c => c.before args0 about1) = true
  refine all_split ?_ w_codes
  rw [← List.take_append_drop 24 words1, List.all_append, w_t1, ← List.take_append_drop 24 (words1.drop 24), List.all_append, w_t2, ← List.take_append_drop 24 ((words1.drop 24).drop 24), List.all_append, w_t3, ← List.take_append_drop 24 (((words1.drop 24).drop 24).drop 24), List.all_append, w_t4, ← List.take_append_drop 24 ((((words1.drop 24).drop 24).drop 24).drop 24), List.all_append, w_t5, ← List.take_append_drop 24 (((((words1.drop 24).drop 24).drop 24).drop 24).drop 24), List.all_append, w_t6, ← List.take_append_drop 24 ((((((words1.drop 24).drop 24).drop 24).drop 24).drop 24).drop 24), List.all_append, w_t7, ← List.take_append_drop 24 (((((((words1.drop 24).drop 24).drop 24).drop 24).drop 24).drop 24).drop 24), List.all_append, w_t8, ← List.take_append_drop 24 ((((((((words1.drop 24).drop 24).drop 24).drop 24).drop 24).drop 24).drop 24).drop 24), List.all_append, w_t9, ← List.take_append_drop 24 (((((((((words1.drop 24).drop 24).drop 24).drop 24).drop 24).drop 24).drop 24).drop 24).drop 24), List.all_append, w_t10, ← List.take_append_drop 24 ((((((((((words1.drop 24).drop 24).drop 24).drop 24).drop 24).drop 24).drop 24).drop 24).drop 24).drop 24), List.all_append, w_t11, ← List.take_append_drop 24 (((((((((((words1.drop 24).drop 24).drop 24).drop 24).drop 24).drop 24).drop 24).drop 24).drop 24).drop 24).drop 24), List.all_append, w_t12, ← List.take_append_drop 24 ((((((((((((words1.drop 24).drop 24).drop 24).drop 24).drop 24).drop 24).drop 24).drop 24).drop 24).drop 24).drop 24).drop 24), List.all_append, w_t13, ← List.take_append_drop 24 (((((((((((((words1.drop 24).drop 24).drop 24).drop 24).drop 24).drop 24).drop 24).drop 24).drop 24).drop 24).drop 24).drop 24).drop 24), List.all_append, w_t14, w_t15]
  rfl
set_option maxRecDepth 65536 in
theorem w_rest : rest_1_c.before args0 about1 = true := by decide +kernel
set_option maxRecDepth 65536 in
theorem w_case : (Jvm.Cond.and given_1 narrow_1).before args0 about1 = true := by decide +kernel
theorem w_applies : (headSpec (Jvm.Cond.code x code maxLocals ret :: tables_1) room_1).applies x e0.platform about1 = true :=
  (Spec.applies_iff w_frames).mpr ⟨w_running, w_runnable, w_alone, w_named, w_hears, w_ripe, w_room, w_tables⟩
theorem atStart : AtStart classFile x code maxLocals ret World_1 tables_1 room_1 Calls_1 rest_1 Pre_1 launch0 p0 e0 about1 theMethod args0 below0 :=
  ⟨lists_1, trivial, launch0.admits_env _ _ _, launch0.least_env, fairChoices_fair.cas, fairChoices_fair.clock, w_frames, w_args, w_heap, w_applies, trivial, w_rest, w_case⟩
end start1
theorem witness_1 : WitnessClaimed_1 := ⟨start1.p0, start1.e0, start1.about1, start1.theMethod, start1.args0, start1.below0, start1.atStart⟩
end Jvm.Pilot.@@N@@
