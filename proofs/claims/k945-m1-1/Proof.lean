import JvmDerived
import JvmDerived.Pilot.@@N@@Statement
import JvmDerived.Pilot.@@N@@Code
set_option linter.unusedVariables false
set_option linter.unusedSimpArgs false
namespace Jvm.RoadKit
open Sem ClassFile Op Lib Jvm.Stand Jvm.Free Jvm.LawKit
section New
variable {p : Program} {l : Launch} {e : Env} {R : Room} {s : State} {m : MethodId} {args : Array Value} {below : List Frame} {meth : Method} {c : Code} {T : State} {locs : List Loc} {cells slots : Nat}
theorem retI (X : Stand p l e R s m args below meth c T locs cells slots) (hx : p.tables.exec = Jvm.exec) {pc : Nat} {Ls : Array Slot} {z : Int32} {rest : List Value} (hret : meth.sig.returnType = some .int) (hd : decode c.code pc = .ok (.ireturn, 1)) {fs : List Frame}
    (hl : ∀ (f : JFrame) (acts : List Action), f.method = m → f.locked = none → f.entered = [] → (doReturn e (T.setTop f) acts (some (.int z))).1 = T.setFrames fs) : Steps p.tables e below (T.setTop (mkF m pc Ls (.int z :: rest))) (T.setFrames fs) := by
  have hm' : T.vm.method? m = some meth := X.method'
  have hn : narrow .int (.int z) = .int z := rfl
  show Steps p.tables e below (T.setTop { method := m, pc := pc, locals := Ls, stack := _ :: rest, locked := none }) _
  jvm_step X.here [X.here.top, hx, hd, hm', hret, hn]
  first | (intro acts; rw [hl _ acts rfl rfl rfl]) | rw [hl _ _ rfl rfl rfl]
  exact Steps.refl _
end New
/-- from the state A the run comes to an end of which G speaks -/
def own_R (tb : Tables) (e : Env) (below : List Frame) (G : State → Outcome → Prop) (A : State) : Prop := ∃ s₂ o, Steps tb e below A s₂ ∧ G s₂ o
theorem own_go {tb : Tables} {e : Env} {below : List Frame} {G : State → Outcome → Prop} {A B : State} (k : ∀ t, Steps tb e below B t → Steps tb e below A t) (h : own_R tb e below G B) : own_R tb e below G A := by
  obtain ⟨s₂, o, hs, hp⟩ := h
  exact ⟨s₂, o, k _ hs, hp⟩
theorem own_open {tb : Tables} {e : Env} {below : List Frame} {A : State} {P : State → Outcome → Prop} (h : ∀ G : State → Outcome → Prop, (∀ s₂ o, P s₂ o → G s₂ o) → own_R tb e below G A) : ∃ s₂ o, Steps tb e below A s₂ ∧ P s₂ o := h P fun _ _ q => q
theorem own_at {tb : Tables} {e : Env} {below : List Frame} {G : State → Outcome → Prop} {A : State} {s₂ : State} {o : Outcome} (h : Steps tb e below A s₂) (g : G s₂ o) : own_R tb e below G A := ⟨s₂, o, h, g⟩
theorem own_iload (pc' : Nat) {tb : Tables} [Ours tb] {e : Env} {below : List Frame} {G : State → Outcome → Prop} {T : State} {m : MethodId} {c : Code} {pc : Nat} {k : Nat} {ls : Array Slot} {v : Int32} {st : List Value} (h : At T m c below) (hx : tb.exec = Jvm.exec) (hd : decode c.code pc = .ok (.iload k, 2)) (hl : ls[k]? = some (.val (.int v))) (hp : pc + 2 = pc') (r : own_R tb e below G (T.setTop (mkF m pc' ls (.int v :: st)))) : own_R tb e below G (T.setTop (mkF m pc ls st)) := by
  subst hp
  exact own_go (fun _ q => XS.iload h hx rfl hd hl q) r
theorem own_iloadN (pc' : Nat) {tb : Tables} [Ours tb] {e : Env} {below : List Frame} {G : State → Outcome → Prop} {T : State} {m : MethodId} {c : Code} {pc : Nat} {k : Fin 4} {ls : Array Slot} {v : Int32} {st : List Value} (h : At T m c below) (hx : tb.exec = Jvm.exec) (hd : decode c.code pc = .ok (.iload_n k, 1)) (hl : ls[k.val]? = some (.val (.int v))) (hp : pc + 1 = pc') (r : own_R tb e below G (T.setTop (mkF m pc' ls (.int v :: st)))) : own_R tb e below G (T.setTop (mkF m pc ls st)) := by
  subst hp
  exact own_go (fun _ q => XS.iloadN h hx rfl hd hl q) r
theorem own_aload (pc' : Nat) {tb : Tables} [Ours tb] {e : Env} {below : List Frame} {G : State → Outcome → Prop} {T : State} {m : MethodId} {c : Code} {pc : Nat} {k : Nat} {ls : Array Slot} {v : Value} {st : List Value} (h : At T m c below) (hx : tb.exec = Jvm.exec) (hd : decode c.code pc = .ok (.aload k, 2)) (hl : ls[k]? = some (.val v)) (hv : v.isRef = true) (hp : pc + 2 = pc') (r : own_R tb e below G (T.setTop (mkF m pc' ls (v :: st)))) : own_R tb e below G (T.setTop (mkF m pc ls st)) := by
  subst hp
  exact own_go (fun _ q => XS.aload h hx rfl hd hl hv q) r
theorem own_aloadN (pc' : Nat) {tb : Tables} [Ours tb] {e : Env} {below : List Frame} {G : State → Outcome → Prop} {T : State} {m : MethodId} {c : Code} {pc : Nat} {k : Fin 4} {ls : Array Slot} {v : Value} {st : List Value} (h : At T m c below) (hx : tb.exec = Jvm.exec) (hd : decode c.code pc = .ok (.aload_n k, 1)) (hl : ls[k.val]? = some (.val v)) (hv : v.isRef = true) (hp : pc + 1 = pc') (r : own_R tb e below G (T.setTop (mkF m pc' ls (v :: st)))) : own_R tb e below G (T.setTop (mkF m pc ls st)) := by
  subst hp
  exact own_go (fun _ q => XS.aloadN h hx rfl hd hl hv q) r
theorem own_s (pc' : Nat) (st' : List Value) {tb : Tables} {e : Env} {below : List Frame} {G : State → Outcome → Prop} {T T' : State} {m : MethodId} {pc : Nat} {ls : Array Slot} {st : List Value} (k : ∀ t, Steps tb e below (T'.setTop (mkF m pc' ls st')) t → Steps tb e below (T.setTop (mkF m pc ls st)) t) (h : own_R tb e below G (T'.setTop (mkF m pc' ls st'))) : own_R tb e below G (T.setTop (mkF m pc ls st)) := own_go k h
theorem own_istore (pc' : Nat) (l' : Array Slot) {tb : Tables} [Ours tb] {e : Env} {below : List Frame} {G : State → Outcome → Prop} {T : State} {m : MethodId} {c : Code} {pc k : Nat} {ls : Array Slot} {x : Int32} {rest : List Value} (h : At T m c below) (hx : tb.exec = Jvm.exec) (hd : decode c.code pc = .ok (.istore k, 2)) (hl : storeLocals ls k (.int x) = some l') (hp : pc + 2 = pc') (r : own_R tb e below G (T.setTop (mkF m pc' l' rest))) : own_R tb e below G (T.setTop (mkF m pc ls (.int x :: rest))) := by
  subst hp
  exact own_go (fun _ q => XS.istore h hx rfl hd rfl hl q) r
theorem own_istoreN (pc' : Nat) (l' : Array Slot) {tb : Tables} [Ours tb] {e : Env} {below : List Frame} {G : State → Outcome → Prop} {T : State} {m : MethodId} {c : Code} {pc : Nat} {k : Fin 4} {ls : Array Slot} {x : Int32} {rest : List Value} (h : At T m c below) (hx : tb.exec = Jvm.exec) (hd : decode c.code pc = .ok (.istore_n k, 1)) (hl : storeLocals ls k.val (.int x) = some l') (hp : pc + 1 = pc') (r : own_R tb e below G (T.setTop (mkF m pc' l' rest))) : own_R tb e below G (T.setTop (mkF m pc ls (.int x :: rest))) := by
  subst hp
  exact own_go (fun _ q => XS.istoreN h hx rfl hd rfl hl q) r
section OwnRef
variable {p : Program} {l : Launch} {e : Env} {R : Room} {s : State} {m : MethodId} {args : Array Value} {below : List Frame} {meth : Method} {c : Code} {T : State} {locs : List Loc} {cells slots : Nat} {Z : State} {a0 : Array Value} {h : Heap}
/-- an entry that the sheet calls resolved ('fieldRef') is ready where the walk stands -/
theorem own_ready (X : Stand p l e R s m args below meth c T locs cells slots) (hZ : Z.Warmed39 s.vm) {own O n d : String} {index : Nat} (hown : s.vm.findClass own = some m.cls) (w : (Cond.fieldRef own index O n d).before a0 Z = true) {cf i : Nat} {k : Class} {f : Field} (hf : Z.fieldFound? O n d = some (cf, k, i, f)) : T.vm.fieldReady m.cls index cf f := by
  have hT : Z.Warmed39 T.vm := wtrans hZ X.warmed
  have w' := Cond.fieldRef_warmed39 hT w
  have ho : (Z.setVm T.vm).vm.findClass own = some m.cls := by
    show T.vm.findClass own = _
    rw [X.warmed.alike.findClass]; exact hown
  obtain ⟨c1, k1, i1, f1, h1, h2⟩ := Cond.fieldRef_spec ho w'
  obtain ⟨k', hk', -⟩ := State.fieldFound?_setVm (s := Z) hT.alike hf
  cases h1.symm.trans hk'
  exact h2
theorem own_getR (X : Stand p l e R s m args below meth c T locs cells slots) (hx : p.tables.exec = Jvm.exec) (hZ : Z.Warmed39 s.vm) {own O n d : String} {index : Nat} (hown : s.vm.findClass own = some m.cls) (w : (Cond.fieldRef own index O n d).before a0 Z = true)
    (eT : T.heap = h) {a : Addr} {v : Value} (F : Fld Z h a O n d v) {g : JFrame} (hg : g.method = m) {rest : List Value} (hs : g.stack = .ref a :: rest) (hd : decode c.code g.pc = .ok (.getfield index, 3)) :
    ∃ T', Stand p l e R s m args below meth c T' locs cells slots ∧ T'.heap = h ∧ ∀ target, Steps p.tables e below (T'.setTop { g with pc := g.pc + 3, stack := v :: rest }) target → Steps p.tables e below (T.setTop g) target := by
  obtain ⟨cell, cf, k, i, f, h1, h2, h3, h4, -, -, h7⟩ := F
  have hr := own_ready X hZ hown w h2
  refine ⟨T, X, eT, fun target q => ?_⟩
  subst hg
  jvm_step X.here [hx, hd, getfield.wp_ready (e := e) (s := T) (f := g) X.here.top hr h3 hs (by rw [eT]; exact h1) h4 h7]
  exact q
theorem own_putR (X : Stand p l e R s m args below meth c T locs cells slots) (hx : p.tables.exec = Jvm.exec) (hZ : Z.Warmed39 s.vm) {own O n d C : String} {index kk : Nat} {ty : FieldType} (hown : s.vm.findClass own = some m.cls) (w : (Cond.fieldRef own index O n d).before a0 Z = true)
    (eT : T.heap = h) {a : Addr} {v old : Value} (F : Fld Z h a O n d old) (E : Exa Z h a C) (L : (Cond.lays C O n d).before a0 Z = true) (wi : (Cond.instantiable C kk).before a0 Z = true)
    (hty : parseFieldDescriptor d = some ty) (hn : narrow ty v = v) (hf : fits ty v = true) {g : JFrame} (hg : g.method = m) {rest : List Value} (hs : g.stack = v :: .ref a :: rest) (hd : decode c.code g.pc = .ok (.putfield index, 3)) :
    ∃ T' h', Stand p l e R s m args below meth c T' (locs ++ [⟨a, slotOf Z O n d⟩]) cells slots ∧ T'.heap = h' ∧ Wr h h' a (slotOf Z O n d) v ∧ ∀ target, Steps p.tables e below (T'.setTop { g with pc := g.pc + 3, stack := rest }) target → Steps p.tables e below (T.setTop g) target := by
  obtain ⟨cell, cf, k, i, f, h1, h2, h3, h4, h5, -, h7⟩ := F
  have hr := own_ready X hZ hown w h2
  obtain ⟨cell', kc, e1, e2, e3, -⟩ := E
  cases h1.symm.trans e1
  obtain ⟨c1, k1, cf1, kf1, i1, f1, a1, a2, a3, -, -, a6, -⟩ := Laid.spec (Or.inl L)
  cases h2.symm.trans a3
  cases e2.symm.trans a1
  obtain ⟨c2, k2, j1, j2, j3, -⟩ := Cond.instantiable_spec wi
  cases e2.symm.trans j1
  cases a2.symm.trans j2
  have ht := (State.fieldFound?_type h2 hty).2
  have hT : Z.Warmed39 T.vm := wtrans hZ X.warmed
  have hsl : Z.slotType? cell.cls cell.vm f.slot = some ty := by
    simp only [State.slotType?, a2, Option.bind_eq_bind, Option.bind_some, j3]
    cases hq : cell.vm <;> first | (rw [hq] at h5; exact Bool.noConfusion h5) | (rw [a6, ht])
  have hfit : Z.fitsSlot cell.cls cell.vm f.slot v = true := by simp [State.fitsSlot, hsl, hf]
  have hfit' : T.fitsSlot cell.cls cell.vm f.slot v = true := by rw [← State.fitsSlot_setVm hT.alike] at hfit; exact hfit
  obtain ⟨_, _, _, _, _, _, -, -, b3, -, b5, -⟩ := Cond.lays_spec L
  cases b3.symm.trans h2
  have hlt : f.slot < cell.slots.size := (Array.getElem?_eq_some_iff.mp h7).1
  obtain ⟨Y, st⟩ := X.putfieldReady hx hr h3 (Or.inl b5) (by rw [eT]; exact h1) h4 hlt (by rw [ht]; exact hn) hfit' hg hs hd
  have es : slotOf Z O n d = f.slot := by simp [slotOf, h2]
  refine ⟨_, _, by rw [es]; exact Y, rfl, ⟨cell, h1, h5, by rw [es]; exact hlt, ?_⟩, st⟩
  rw [es, ← eT]; rfl
/-- an invokevirtual of a private method through an entry that the sheet calls resolved ('methodRef') -/
theorem own_privR (X : Stand p l e R s m args below meth c T locs cells slots) (hx : p.tables.exec = Jvm.exec) (hZ : Z.Warmed39 s.vm) {own : String} {index kk : Nat} {y : MethodName} {bytes : ByteArray} {maxL : Nat} {ret : Option FieldType} (hown : s.vm.findClass own = some m.cls)
    (w : (Cond.methodRef own index y).before a0 Z = true) (wi : (Cond.instanceMethod y).before a0 Z = true) (wp : (Cond.privateMethod y).before a0 Z = true) (wk : (Cond.instantiable y.cls kk).before a0 Z = true) (wc : (Cond.code y bytes maxL ret).before a0 Z = true)
    (hy : y.cls ≠ "java/lang/invoke/MethodHandle" ∧ y.cls ≠ "java/lang/invoke/VarHandle") {W : Nat} {Pre : Pt → Array Value → Prop} {Post : Pt → Array Value → Option Value → Pt → Prop} (hK : Back l R p e below s args y 3 W Pre Post)
    {g : JFrame} (hg : g.method = m) (hsize : g.locals.size = c.maxLocals) (eT : T.heap = h) {a : Addr} {C : String} (E : Exa Z h a C) {argsL rest : List Value}
    (hlen : ∀ sig, parseMethodDescriptor y.desc = some sig → argsL.length = sig.parameters.length) (hstack : g.stack = argsL.reverse ++ .ref a :: rest) (hW : 2 * g.monitorRoom + (rest.map fun v => v.category).sum ≤ W)
    (hdg : decode c.code g.pc = .ok (.invokevirtual index, 3)) (hpre : ∀ _ _ : Unit, Pre ⟨T, locs, cells, slots⟩ (.ref a :: argsL).toArray) :
    ∃ (v : Option Value) (_ : Unit) (B : Pt), True ∧ Stand p l e R s m args below meth c B.U B.locs B.cells B.slots ∧ Post ⟨T, locs, cells, slots⟩ (.ref a :: argsL).toArray v B ∧
      Steps p.tables e below (T.setTop g) (B.U.setTop { g with pc := g.pc + 3, stack := v.toList ++ rest }) := by
  have hT : Z.Warmed39 T.vm := wtrans hZ X.warmed
  obtain ⟨mz, methZ, hnZ, hmZ, -, -⟩ := Cond.instanceMethod_spec wi
  obtain ⟨mk, methM, hn, hm, hst, hab⟩ := Cond.instanceMethod_spec (mv (args := args) (s := T) hT wi)
  obtain ⟨m2, cM, q1, -, -, -, -, -, -, hsig⟩ := Cond.code_spec hn (mv (args := args) (s := T) hT wc)
  cases hm.symm.trans q1
  have hpr := Cond.privateMethod_at (mvP (s := T) (args := args) hT wp) _ _ hn hm
  have w' := Cond.methodRef_warmed39 hT hnZ hy w
  have ho : (Z.setVm T.vm).vm.findClass own = some m.cls := by
    show T.vm.findClass own = _
    rw [X.warmed.alike.findClass]; exact hown
  obtain ⟨r, c', ci, b, r1, r2, r3, r4, r5⟩ := Cond.methodRef_spec (e := e) ho w'
  have hnT : (Z.setVm T.vm).methodNamed? y = some mk := hn
  cases (State.methodFound?_of_named hnT hy).symm.trans r1
  have hnames : (Z.setVm T.vm).names own index (.method y.cls y.name y.desc) = true := by
    simp only [Cond.before, Cond.holds, Cond.value, ho, r1] at w'
    simp only [beq_iff_eq, Option.some.injEq, Bool.and_eq_true] at w'
    exact w'.1.1
  obtain ⟨cp, hcp, hno⟩ := State.names_spec hnames
  obtain ⟨ci', nt, hentry, hnt, -⟩ := namesOf?_method hno
  obtain ⟨kO, cfO, hkO, hcfO, rfl⟩ := State.poolOf?_spec ho hcp
  obtain ⟨b', hask⟩ := memberRef_ask' (e := e) hkO hcfO hentry hnt
  cases hask.symm.trans r4
  obtain ⟨c2, k2, j1, j2, -, j4, -⟩ := Cond.instantiable_spec (mv (args := args) (s := T) hT wk)
  have hcls := findClass_of_methodNamed hn
  cases hcls.symm.trans j1
  cases hcls.symm.trans (show T.vm.findClass y.cls = some c' from r3)
  have hni : k2.isInterface = false := (Bool.or_eq_false_iff.mp j4).1
  obtain ⟨kx, hkx, hnx⟩ := className_of_methodNamed hn
  cases hkx.symm.trans j2
  have hpoly : ∀ q, signaturePolymorphic k2 q = false := fun q => by simp [signaturePolymorphic, hnx, hy.1, hy.2]
  obtain ⟨cell, q1, q2⟩ := E.cell
  have hlenM : argsL.length = methM.sig.parameters.length := hlen _ hsig
  have hms : s.methodNamed? y = some mk := by
    obtain ⟨ms, meths, hns, -, -, -⟩ := Cond.instanceMethod_spec (mv (args := args) hZ wi)
    have := X.named hns
    cases hn.symm.trans this
    exact hns
  obtain ⟨v, B, X', hpost, hsteps⟩ := hK m meth c ⟨T, locs, cells, slots⟩ { g with stack := rest } (.invokevirtual index) mk (.ref a :: argsL).toArray X hg hsize hdg hW (X.named hms) (hpre () ())
  refine ⟨v, (), B, trivial, X', hpost, Steps.trans ?_ hsteps⟩
  subst hg
  jvm_step X.here [hx, hdg, invokevirtual.wp_named (e := e) (s := T) (f := g) (r := mk) (m := mk) (c' := mk.cls) (k := k2) (k' := k2) (mk := k2) (rmeth := methM) (meth := methM) (a := a) (args := argsL) (rest := rest) (cell := cell)
      X.here.top ⟨kO, cfO, ci, nt, hkO, hcfO, hentry, r5⟩ j2 hni r2 j2 hm (hpoly _) hst hlenM hstack (by rw [eT]; exact q1) q2 (selectMethod_private hm hpr) hm hab j2 hni]
  first | (intro acts; rw [doInvoke_state]; exact Steps.refl _) | (rw [doInvoke_state]; exact Steps.refl _)
/-- an invokevirtual of a private method of a class that can be made (no 'selects' word is asked) -/
theorem own_privL (X : Stand p l e R s m args below meth c T locs cells slots) (hx : p.tables.exec = Jvm.exec) (hZ : Z.Warmed39 s.vm) {own : String} {index kk : Nat} {y : MethodName} {bytes : ByteArray} {maxL : Nat} {ret : Option FieldType} (hown : s.vm.findClass own = some m.cls)
    (w : (Cond.methodLink own index y).before a0 Z = true) (wi : (Cond.instanceMethod y).before a0 Z = true) (wp : (Cond.privateMethod y).before a0 Z = true) (wk : (Cond.instantiable y.cls kk).before a0 Z = true) (wc : (Cond.code y bytes maxL ret).before a0 Z = true)
    (hy : y.cls ≠ "java/lang/invoke/MethodHandle" ∧ y.cls ≠ "java/lang/invoke/VarHandle") {W : Nat} {Pre : Pt → Array Value → Prop} {Post : Pt → Array Value → Option Value → Pt → Prop} (hK : Back l R p e below s args y 3 W Pre Post)
    {g : JFrame} (hg : g.method = m) (hsize : g.locals.size = c.maxLocals) (eT : T.heap = h) {a : Addr} {C : String} (E : Exa Z h a C) {argsL rest : List Value}
    (hlen : ∀ sig, parseMethodDescriptor y.desc = some sig → argsL.length = sig.parameters.length) (hstack : g.stack = argsL.reverse ++ .ref a :: rest) (hW : 2 * g.monitorRoom + (rest.map fun v => v.category).sum ≤ W)
    (hdg : decode c.code g.pc = .ok (.invokevirtual index, 3)) (hpre : ∀ vm₁, s.WarmedH vm₁ → Pre ⟨T.setVm vm₁, locs, cells, slots⟩ (.ref a :: argsL).toArray) :
    ∃ (v : Option Value) (vm₁ : Vm) (B : Pt), s.WarmedH vm₁ ∧ Stand p l e R s m args below meth c B.U B.locs B.cells B.slots ∧ Post ⟨T.setVm vm₁, locs, cells, slots⟩ (.ref a :: argsL).toArray v B ∧
      Steps p.tables e below (T.setTop g) (B.U.setTop { g with pc := g.pc + 3, stack := v.toList ++ rest }) := by
  obtain ⟨mk, methM, hn, hm, hst, hab⟩ := Cond.instanceMethod_spec (mv (args := args) hZ wi)
  obtain ⟨m2, cM, q1, -, -, -, -, -, -, hsig⟩ := Cond.code_spec hn (mv (args := args) hZ wc)
  cases hm.symm.trans q1
  have hpr := Cond.privateMethod_at (mvP (args := args) hZ wp) _ _ hn hm
  obtain ⟨c2, k2, j1, j2, -, j4, -⟩ := Cond.instantiable_spec (mv (args := args) hZ wk)
  cases (findClass_of_methodNamed hn).symm.trans j1
  have hni : k2.isInterface = false := (Bool.or_eq_false_iff.mp j4).1
  obtain ⟨cell, q1, q2⟩ := E.cell
  obtain ⟨vm₁, Y, step⟩ := X.invokevirtual hx hown (mv hZ w) hn hm hst j2 hni hy (a := a) (by rw [eT]; exact q1) q2 (selectMethod_private hm hpr) hm hab j2 hni hg (hlen _ hsig) hstack hdg
  obtain ⟨v, B, Y', hpost, hsteps⟩ := hK m meth c ⟨T.setVm vm₁, locs, cells, slots⟩ { g with stack := rest } (.invokevirtual index) mk (.ref a :: argsL).toArray Y hg hsize hdg hW (Y.named hn) (hpre vm₁ Y.warmed)
  refine ⟨v, vm₁, B, Y.warmed, Y', hpost, Steps.trans (step _ fun acts => ?_) hsteps⟩
  rw [doInvoke_state]; exact Steps.refl _
end OwnRef
end Jvm.RoadKit
namespace Jvm.Pilot.@@N@@
open Jvm Jvm.ClassFile Sem Op Lib Jvm.Free Jvm.Stand Jvm.LawKit Jvm.RoadKit Bundle Jvm.Pilot.@@N@@.Jvm.D
theorem own_w (i : Nat) {Z : State} {a0 : Array Value} {d : Jvm.Cond} (hw : ∀ d ∈ tables_1, d.before a0 Z = true) (h : tables_1[i]? = some d) : d.before a0 Z = true := hw _ (List.mem_of_getElem? h)
theorem pd__28_II_29_I : parseMethodDescriptor "(II)I" = some ⟨[.int, .int], some .int⟩ := by decide +kernel
theorem pd__28__5b_II_29__5b_I : parseMethodDescriptor "([II)[I" = some ⟨[(.array .int), .int], some (.array .int)⟩ := by decide +kernel
theorem pd__28__5b_JI_29__5b_J : parseMethodDescriptor "([JI)[J" = some ⟨[(.array .long), .int], some (.array .long)⟩ := by decide +kernel
theorem pd__28_I_29_Z : parseMethodDescriptor "(I)Z" = some ⟨[.int], some .boolean⟩ := by decide +kernel
theorem pd__28__29_I : parseMethodDescriptor "()I" = some ⟨[], some .int⟩ := by decide +kernel
theorem pd__28_IDJZ_29_V : parseMethodDescriptor "(IDJZ)V" = some ⟨[.int, .double, .long, .boolean], none⟩ := by decide +kernel
theorem pd__28_I_29_V : parseMethodDescriptor "(I)V" = some ⟨[.int], none⟩ := by decide +kernel
theorem pd__28_DJDJ_29_Z : parseMethodDescriptor "(DJDJ)Z" = some ⟨[.double, .long, .double, .long], some .boolean⟩ := by decide +kernel
theorem pd__28__29_V : parseMethodDescriptor "()V" = some ⟨[], none⟩ := by decide +kernel
theorem pd__28_Lcom_2f_example_2f_adfair_2f_adfair_2f_Ranking_24_Places_3b__29_V : parseMethodDescriptor "(Lcom/example/adfair/adfair/Ranking$Places;)V" = some ⟨[(.object "com/example/adfair/adfair/Ranking$Places")], none⟩ := by decide +kernel
theorem pd__28_IDJ_29_V : parseMethodDescriptor "(IDJ)V" = some ⟨[.int, .double, .long], none⟩ := by decide +kernel
def own_upd (f : Nat → Int64) (j : Nat) (x : Int64) : Nat → Int64 := fun i => if i = j then x else f i
def own_updI (f : Nat → Int32) (j : Nat) (x : Int32) : Nat → Int32 := fun i => if i = j then x else f i
theorem own_upd_self {f : Nat → Int64} {j : Nat} {x : Int64} : own_upd f j x j = x := if_pos rfl
theorem own_upd_ne {f : Nat → Int64} {i j : Nat} {x : Int64} (h : i ≠ j) : own_upd f j x i = f i := if_neg h
theorem own_updI_self {f : Nat → Int32} {j : Nat} {x : Int32} : own_updI f j x j = x := if_pos rfl
theorem own_updI_ne {f : Nat → Int32} {i j : Nat} {x : Int32} (h : i ≠ j) : own_updI f j x i = f i := if_neg h
/-- zero from N on -/
def own_z (f : Nat → Int64) (N : Nat) : Prop := ∀ i, N ≤ i → f i = 0
def own_zI (f : Nat → Int32) (N : Nat) : Prop := ∀ i, N ≤ i → f i = 0
theorem own_z.upd {f : Nat → Int64} {N j : Nat} {x : Int64} (h : own_z f N) (hj : j < N) : own_z (own_upd f j x) N := fun i hi => by rw [own_upd_ne (by omega)]; exact h i hi
theorem own_zI.upd {f : Nat → Int32} {N j : Nat} {x : Int32} (h : own_zI f N) (hj : j < N) : own_zI (own_updI f j x) N := fun i hi => by rw [own_updI_ne (by omega)]; exact h i hi
theorem own_z.mono {f : Nat → Int64} {N M : Nat} (h : own_z f N) (q : N ≤ M) : own_z f M := fun i hi => h i (by omega)
theorem own_zI.mono {f : Nat → Int32} {N M : Nat} (h : own_zI f N) (q : N ≤ M) : own_zI f M := fun i hi => h i (by omega)
theorem own_toInt {n : Nat} (h : n < 2147483648) : (Int32.ofNat n).toInt = n := Int32.toInt_ofNat_of_lt (by omega)
theorem own_clamp {n : Nat} (h : n < 2147483648) : (Int32.ofNat n).toNatClampNeg = n := by
  unfold Int32.toNatClampNeg
  rw [own_toInt h]
  rfl
theorem own_lt {i n : Nat} (hi : i < 2147483648) (hn : n < 2147483648) : Int32.ofNat i < Int32.ofNat n ↔ i < n := by
  rw [Int32.lt_iff_toInt_lt, own_toInt hi, own_toInt hn]
  omega
theorem own_nn {i : Nat} (hi : i < 2147483648) : ¬ Int32.ofNat i < 0 := by
  have z : (0 : Int32).toInt = 0 := by decide
  rw [Int32.lt_iff_toInt_lt, own_toInt hi, z]
  omega
theorem own_inj {i n : Nat} (hi : i < 2147483648) (hn : n < 2147483648) : Int32.ofNat i = Int32.ofNat n ↔ i = n := by
  rw [← Int32.toInt_inj, own_toInt hi, own_toInt hn]
  omega
/-! long and int arrays of N places -/
def own_LN (Z : State) (h : Heap) (a : Addr) (N : Nat) (f : Nat → Int64) : Prop := ∃ cl : Cell, Arr Z h a cl .long ∧ cl.slots.size = N ∧ ∀ j, j < N → cl.slots[j]? = some (.long (f j))
def own_IN (Z : State) (h : Heap) (a : Addr) (N : Nat) (f : Nat → Int32) : Prop := ∃ cl : Cell, Arr Z h a cl .int ∧ cl.slots.size = N ∧ ∀ j, j < N → cl.slots[j]? = some (.int (f j))
section OwnArr
variable {Z : State} {h h' : Heap} {a b : Addr} {N M : Nat} {f g : Nat → Int64} {fi : Nat → Int32} {sl : Nat} {v : Value} {ws : List Addr}
theorem own_LN.ext (F : own_LN Z h a N f) (E : Ext h h') : own_LN Z h' a N f := by obtain ⟨c, A, r⟩ := F; exact ⟨c, Arr.ext E A, r⟩
theorem own_IN.ext (F : own_IN Z h a N fi) (E : Ext h h') : own_IN Z h' a N fi := by obtain ⟨c, A, r⟩ := F; exact ⟨c, Arr.ext E A, r⟩
theorem own_LN.other (F : own_LN Z h b N f) (W : Wr h h' a sl v) (q : b ≠ a) : own_LN Z h' b N f := by obtain ⟨c, A, r⟩ := F; exact ⟨c, Arr.other W A q, r⟩
theorem own_IN.other (F : own_IN Z h b N fi) (W : Wr h h' a sl v) (q : b ≠ a) : own_IN Z h' b N fi := by obtain ⟨c, A, r⟩ := F; exact ⟨c, Arr.other W A q, r⟩
theorem own_LN.keep (F : own_LN Z h a N f) (K : Keep h h' ws) (q : a ∉ ws) : own_LN Z h' a N f := by obtain ⟨c, A, r⟩ := F; exact ⟨c, ⟨K.2.1 a c A.1 q, A.2⟩, r⟩
theorem own_IN.keep (F : own_IN Z h a N fi) (K : Keep h h' ws) (q : a ∉ ws) : own_IN Z h' a N fi := by obtain ⟨c, A, r⟩ := F; exact ⟨c, ⟨K.2.1 a c A.1 q, A.2⟩, r⟩
theorem own_LN.lt (F : own_LN Z h a N f) : a < h.size := by obtain ⟨c, A, r⟩ := F; exact A.lt
theorem own_IN.lt (F : own_IN Z h a N fi) : a < h.size := by obtain ⟨c, A, r⟩ := F; exact A.lt
theorem own_LN.set {j : Nat} {x : Int64} (F : own_LN Z h a N f) (W : Wr h h' a j (.long x)) (hj : j < N) : own_LN Z h' a N (own_upd f j x) := by
  obtain ⟨c, A, S, H⟩ := F
  refine ⟨c.setSlot j (.long x), Arr.same W A, by rw [sz_set]; exact S, fun i hi => ?_⟩
  by_cases e : j = i
  · subst e
    rw [Cell.slots_setSlot_self _ (by omega), own_upd_self]
  · rw [Cell.slots_setSlot_ne _ e, H i hi, own_upd_ne (fun q => e q.symm)]
theorem own_IN.set {j : Nat} {x : Int32} (F : own_IN Z h a N fi) (W : Wr h h' a j (.int x)) (hj : j < N) : own_IN Z h' a N (own_updI fi j x) := by
  obtain ⟨c, A, S, H⟩ := F
  refine ⟨c.setSlot j (.int x), Arr.same W A, by rw [sz_set]; exact S, fun i hi => ?_⟩
  by_cases e : j = i
  · subst e
    rw [Cell.slots_setSlot_self _ (by omega), own_updI_self]
  · rw [Cell.slots_setSlot_ne _ e, H i hi, own_updI_ne (fun q => e q.symm)]
theorem own_k16 : (16 : Int32).toNatClampNeg = 16 := by decide
theorem own_LN.new {k : ClassId} (A : Arr Z h a (newA k .long (16 : Int32)) .long) : own_LN Z h a 16 (fun _ => 0) := by
  refine ⟨_, A, by rw [sz_new]; exact own_k16, fun j hj => ?_⟩
  show (Array.replicate ((16 : Int32).toNatClampNeg) (defaultValue .long))[j]? = some (.long 0)
  rw [own_k16, Array.getElem?_replicate, if_pos hj]
  rfl
theorem own_IN.new {k : ClassId} (A : Arr Z h a (newA k .int (16 : Int32)) .int) : own_IN Z h a 16 (fun _ => 0) := by
  refine ⟨_, A, by rw [sz_new]; exact own_k16, fun j hj => ?_⟩
  show (Array.replicate ((16 : Int32).toNatClampNeg) (defaultValue .int))[j]? = some (.int 0)
  rw [own_k16, Array.getElem?_replicate, if_pos hj]
  rfl
theorem own_inb {cl : Cell} {j : Nat} (S : cl.slots.size = N) (hN : N < 2147483648) (hj : j < N) : ¬ (Int32.ofNat j < 0 ∨ cl.slots.size ≤ (Int32.ofNat j).toNatClampNeg) := by
  rw [own_clamp (by omega), S]
  rintro (q | q)
  · exact own_nn (by omega) q
  · omega
theorem own_len {cl : Cell} (S : cl.slots.size = N) : cl.slots.size.toInt32 = Int32.ofNat N := by first | (rw [S]; done) | (rw [S]; rfl)
theorem own_gm {f : Nat → Value} {n i : Nat} {d : Value} (h : i < n) : ((List.range n).map f).getD i d = f i := by
  simp [List.getD, h]
theorem own_LN.arv (F : own_LN Z h a N f) (hN : N < 2147483648) : ∃ k, Arv Z h a k .long (Int32.ofNat N) ((List.range N).map fun i => Value.long (f i)) (.long 0) := by
  obtain ⟨c, A, S, H⟩ := F
  refine ⟨c.cls, c, A, rfl, by rw [own_clamp hN]; exact S, own_nn hN, fun i hi => ?_, fun i hi => ?_⟩
  · rw [own_gm (by omega)]; exact H i (by omega)
  · rw [own_gm (by omega)]; rfl
theorem own_IN.arv (F : own_IN Z h a N fi) (hN : N < 2147483648) : ∃ k, Arv Z h a k .int (Int32.ofNat N) ((List.range N).map fun i => Value.int (fi i)) (.int 0) := by
  obtain ⟨c, A, S, H⟩ := F
  refine ⟨c.cls, c, A, rfl, by rw [own_clamp hN]; exact S, own_nn hN, fun i hi => ?_, fun i hi => ?_⟩
  · rw [own_gm (by omega)]; exact H i (by omega)
  · rw [own_gm (by omega)]; rfl
theorem own_cat {N M i : Nat} {d : Value} {gf : Nat → Value} (hi : i < M) (hNM : N ≤ M) : ((([] ++ List.replicate M d).take (0 : Int32).toNatClampNeg ++ ((List.range N).map gf)) ++ ([] ++ List.replicate M d).drop ((0 : Int32).toNatClampNeg + N)).getD i d = if i < N then gf i else d := by
  have z : (0 : Int32).toNatClampNeg = 0 := by decide
  rw [z]
  simp only [List.nil_append, List.take_zero, Nat.zero_add, List.drop_replicate]
  by_cases q : i < N
  · rw [if_pos q]
    simp [List.getD, List.getElem?_append, q]
  · rw [if_neg q]
    have w : i - N < M - N := by omega
    simp [List.getD, List.getElem?_append, q, List.getElem?_replicate, w]
theorem own_LN.cp {k : ClassId} (hN : N < 2147483648) (hM : M < 2147483648) (hNM : N ≤ M) (hz : own_z f N)
    (A : Arv Z h b k .long (Int32.ofNat M) ((([] ++ List.replicate M (Value.long (0 : Int64))).take (0 : Int32).toNatClampNeg ++ ((List.range (Int32.ofNat N).toNatClampNeg).map fun i => ((List.range N).map fun i => Value.long (f i)).getD ((0 : Int32).toNatClampNeg + i) (.long 0))) ++ ([] ++ List.replicate M (Value.long (0 : Int64))).drop ((0 : Int32).toNatClampNeg + (Int32.ofNat N).toNatClampNeg)) (.long 0)) : own_LN Z h b M f := by
  obtain ⟨c, A, q1, S, q3, H, G⟩ := A
  rw [own_clamp hM] at S
  rw [own_clamp hN] at H
  refine ⟨c, A, S, fun j hj => ?_⟩
  rw [H j (by omega), own_cat hj hNM]
  have z : (0 : Int32).toNatClampNeg = 0 := by decide
  by_cases q : j < N
  · rw [if_pos q, z, Nat.zero_add, own_gm q]
  · rw [if_neg q, hz j (by omega)]
theorem own_IN.cp {k : ClassId} (hN : N < 2147483648) (hM : M < 2147483648) (hNM : N ≤ M) (hz : own_zI fi N)
    (A : Arv Z h b k .int (Int32.ofNat M) ((([] ++ List.replicate M (Value.int (0 : Int32))).take (0 : Int32).toNatClampNeg ++ ((List.range (Int32.ofNat N).toNatClampNeg).map fun i => ((List.range N).map fun i => Value.int (fi i)).getD ((0 : Int32).toNatClampNeg + i) (.int 0))) ++ ([] ++ List.replicate M (Value.int (0 : Int32))).drop ((0 : Int32).toNatClampNeg + (Int32.ofNat N).toNatClampNeg)) (.int 0)) : own_IN Z h b M fi := by
  obtain ⟨c, A, q1, S, q3, H, G⟩ := A
  rw [own_clamp hM] at S
  rw [own_clamp hN] at H
  refine ⟨c, A, S, fun j hj => ?_⟩
  rw [H j (by omega), own_cat hj hNM]
  have z : (0 : Int32).toNatClampNeg = 0 := by decide
  by_cases q : j < N
  · rw [if_pos q, z, Nat.zero_add, own_gm q]
  · rw [if_neg q, hz j (by omega)]
end OwnArr
/-! small sums -/
theorem own_add {i j : Nat} (h : i + j < 2147483648) : Int32.ofNat i + Int32.ofNat j = Int32.ofNat (i + j) := by
  apply Int32.toInt_inj.mp
  have s := c_iadd (Int32.ofNat i) (Int32.ofNat j)
  rw [own_toInt (by omega), own_toInt (by omega)] at s
  have r := rng32 (Int32.ofNat i + Int32.ofNat j)
  rw [own_toInt h]
  omega
def own_max (x y : Int32) : Int32 := if x < y then y else x
theorem own_mx {N i : Nat} (h1 : 16 ≤ N) (h2 : N ≤ i) (h3 : i < 64) : ∃ M, own_max ((2 : Int32) * (Int32.ofNat N)) ((Int32.ofNat i) + (1 : Int32)) = Int32.ofNat M ∧ i < M ∧ N < M ∧ M ≤ 126 := by
  have e1 : (2 : Int32) * (Int32.ofNat N) = Int32.ofNat (2 * N) := by
    have t : (2 : Int32) = Int32.ofNat 2 := rfl
    rw [t, ← Int32.ofNat_mul]
  have e2 : (Int32.ofNat i) + (1 : Int32) = Int32.ofNat (i + 1) := own_add (j := 1) (by omega)
  rw [e1, e2]
  unfold own_max
  by_cases q : Int32.ofNat (2 * N) < Int32.ofNat (i + 1)
  · rw [if_pos q]
    rw [own_lt (by omega) (by omega)] at q
    exact ⟨i + 1, rfl, by omega, by omega, by omega⟩
  · rw [if_neg q]
    rw [own_lt (by omega) (by omega)] at q
    exact ⟨2 * N, rfl, by omega, by omega, by omega⟩
theorem own_m63 (x : Int32) : ∃ i, i < 64 ∧ x &&& (63 : Int32) = Int32.ofNat i ∧ (i : Int) = x.toInt % 64 := by
  have m := c_mask x 63 6 (by decide) (by decide)
  have p : ((2 ^ 6 : Nat) : Int) = 64 := by decide
  rw [p] at m
  refine ⟨(x.toInt % 64).toNat, by omega, ?_, by omega⟩
  apply Int32.toInt_inj.mp
  rw [m, own_toInt (by omega)]
  omega
theorem own_b (i : Nat) (hi : i < 64) (y : Int32) : ∃ j t, j < 64 ∧ t < 32 ∧ (((Int32.ofNat i) + (1 : Int32)) + (y &&& (31 : Int32))) &&& (63 : Int32) = Int32.ofNat j ∧ j = (i + 1 + t) % 64 := by
  have m := c_mask y 31 5 (by decide) (by decide)
  have p : ((2 ^ 5 : Nat) : Int) = 32 := by decide
  rw [p] at m
  obtain ⟨t, ht⟩ : ∃ t : Nat, (t : Int) = y.toInt % 32 := ⟨(y.toInt % 32).toNat, by omega⟩
  have e : y &&& (31 : Int32) = Int32.ofNat t := by
    apply Int32.toInt_inj.mp
    rw [m, own_toInt (by omega)]; omega
  have e2 : ((Int32.ofNat i) + (1 : Int32)) + (y &&& (31 : Int32)) = Int32.ofNat (i + 1 + t) := by
    rw [e, show (Int32.ofNat i) + (1 : Int32) = Int32.ofNat (i + 1) from own_add (j := 1) (by omega), own_add (by omega)]
  rw [e2]
  obtain ⟨j, h1, h2, h3⟩ := own_m63 (Int32.ofNat (i + 1 + t))
  rw [own_toInt (by omega)] at h3
  exact ⟨j, t, h1, by omega, h2, by omega⟩
theorem own_c (i : Nat) (hi : i < 64) (y : Int32) : ∃ j t, j < 64 ∧ t < 16 ∧ (((Int32.ofNat i) + (33 : Int32)) + (y &&& (15 : Int32))) &&& (63 : Int32) = Int32.ofNat j ∧ j = (i + 33 + t) % 64 := by
  have m := c_mask y 15 4 (by decide) (by decide)
  have p : ((2 ^ 4 : Nat) : Int) = 16 := by decide
  rw [p] at m
  obtain ⟨t, ht⟩ : ∃ t : Nat, (t : Int) = y.toInt % 16 := ⟨(y.toInt % 16).toNat, by omega⟩
  have e : y &&& (15 : Int32) = Int32.ofNat t := by
    apply Int32.toInt_inj.mp
    rw [m, own_toInt (by omega)]; omega
  have e2 : ((Int32.ofNat i) + (33 : Int32)) + (y &&& (15 : Int32)) = Int32.ofNat (i + 33 + t) := by
    rw [e, show (Int32.ofNat i) + (33 : Int32) = Int32.ofNat (i + 33) from own_add (j := 33) (by omega), own_add (by omega)]
  rw [e2]
  obtain ⟨j, h1, h2, h3⟩ := own_m63 (Int32.ofNat (i + 33 + t))
  rw [own_toInt (by omega)] at h3
  exact ⟨j, t, h1, by omega, h2, by omega⟩
theorem own_pos (x : Int32) : ∃ i, i < 2147483648 ∧ x &&& (2147483647 : Int32) = Int32.ofNat i := by
  have m := c_and x 2147483647 (by decide)
  refine ⟨(x &&& (2147483647 : Int32)).toInt.toNat, ?_, ?_⟩
  · have z : (2147483647 : Int32).toInt = 2147483647 := by decide
    omega
  · apply Int32.toInt_inj.mp
    have z : (2147483647 : Int32).toInt = 2147483647 := by decide
    rw [own_toInt (by omega)]; omega
theorem own_b53 (x : Int32) : B53 x.toInt64 := by
  have r := rng32 x
  have e : x.toInt64.toInt = x.toInt := Int32.toInt_toInt64 x
  unfold B53
  rw [e]
  omega
/-- the program's order of keys and numbers -/
def own_low (k : Int64) (o : Int64) (k' : Int64) (o' : Int64) : Int32 := if k < k' ∨ (k = k' ∧ o < o') then 1 else 0
theorem own_low1 {k o k' o' : Int64} (h : k < k') : own_low k o k' o' = 1 := if_pos (Or.inl h)
theorem own_low2 {k o k' o' : Int64} (h : k = k') (h2 : o < o') : own_low k o k' o' = 1 := if_pos (Or.inr ⟨h, h2⟩)
theorem own_low3 {k o k' o' : Int64} (h : ¬ k < k') (h2 : ¬ k = k') : own_low k o k' o' = 0 := if_neg (fun q => q.elim h fun q => h2 q.1)
theorem own_low4 {k o k' o' : Int64} (h : ¬ k < k') (h2 : ¬ o < o') : own_low k o k' o' = 0 := if_neg (fun q => q.elim h fun q => h2 q.2)
theorem own_low12 {k k' : Int64} (h : own_low k (1 : Int64) k' (2 : Int64) = 0) : own_low k' (2 : Int64) k (1 : Int64) = 1 := by
  apply own_low1
  unfold own_low at h
  by_cases q : k < k' ∨ (k = k' ∧ (1 : Int64) < 2)
  · rw [if_pos q] at h; exact absurd h (by decide)
  · rw [Int64.lt_iff_toInt_lt]
    have n1 : ¬ k.toInt < k'.toInt := fun c => q (Or.inl (Int64.lt_iff_toInt_lt.mpr c))
    have n2 : ¬ k.toInt = k'.toInt := fun c => q (Or.inr ⟨Int64.toInt_inj.mp c, by decide⟩)
    omega
def own_con (f : Nat → Int64) (q : Nat) (num : Int64) : Int32 := if f q = num then 1 else 0
theorem own_con1 {f : Nat → Int64} {q : Nat} {num : Int64} (h : f q = num) : own_con f q num = 1 := if_pos h
theorem own_con0 {f : Nat → Int64} {q : Nat} {num : Int64} (h : ¬ f q = num) : own_con f q num = 0 := if_neg h
theorem own_nlt {x y : Int32} (h : x < y) : ¬ y < x := by
  rw [Int32.lt_iff_toInt_lt] at h ⊢
  omega
def own_fin (ia ib ic : Nat) (u9 u10 u11 : Int32) (j : Nat) : Int64 := if j = ia then (if u9 = 0 then 1 else 0) else if j = ib then (if u10 = 0 then 1 else 0) else if j = ic then (if u11 = 0 then 2 else 0) else 0
theorem own_finR {f : Nat → Int64} {ia ib ic : Nat} {u9 u10 u11 : Int32} (hf : ∀ j, f j = own_fin ia ib ic u9 u10 u11 j) (ab : ia ≠ ib) (q : Nat) : own_con f q 1 = if (q = ia ∧ u9 = 0) ∨ (q = ib ∧ u10 = 0) then 1 else 0 := by
  unfold own_con
  rw [hf q]
  unfold own_fin
  have ba : ib ≠ ia := ab.symm
  by_cases q1 : q = ia <;> by_cases q2 : q = ib <;> by_cases q3 : q = ic <;> by_cases z1 : u9 = 0 <;> by_cases z2 : u10 = 0 <;> by_cases z3 : u11 = 0 <;> simp_all
theorem own_finS {f : Nat → Int64} {ia ib ic : Nat} {u9 u10 u11 : Int32} (hf : ∀ j, f j = own_fin ia ib ic u9 u10 u11 j) (ac : ia ≠ ic) (bc : ib ≠ ic) (q : Nat) : own_con f q 2 = if (q = ic ∧ u11 = 0) then 1 else 0 := by
  unfold own_con
  rw [hf q]
  unfold own_fin
  have ca : ic ≠ ia := ac.symm
  have cb : ic ≠ ib := bc.symm
  by_cases q1 : q = ia <;> by_cases q2 : q = ib <;> by_cases q3 : q = ic <;> by_cases z1 : u9 = 0 <;> by_cases z2 : u10 = 0 <;> by_cases z3 : u11 = 0 <;> simp_all
theorem d12_0 : decode jdk_29_method_69_code 0 = .ok (.iload_n 0, 1) := by decide +kernel
theorem d12_1 : decode jdk_29_method_69_code 1 = .ok (.iload_n 1, 1) := by decide +kernel
theorem d12_2 : decode jdk_29_method_69_code 2 = .ok (.if_icmp .gt 7, 3) := by decide +kernel
theorem d12_5 : decode jdk_29_method_69_code 5 = .ok (.iload_n 0, 1) := by decide +kernel
theorem d12_6 : decode jdk_29_method_69_code 6 = .ok (.goto 4, 3) := by decide +kernel
theorem d12_9 : decode jdk_29_method_69_code 9 = .ok (.iload_n 1, 1) := by decide +kernel
theorem d12_10 : decode jdk_29_method_69_code 10 = .ok (.ireturn, 1) := by decide +kernel
theorem ef_rm12 (m : MethodId) (x0 : Int32) (x1 : Int32) : entryFrame m #[(.int x0), (.int x1)] 2 = mkF m 0 #[.val (.int x0), .val (.int x1)] [] := by first | (simp [entryFrame, mkF, argsToLocals, Value.category]; done) | rfl
def Q12 (Z : State) (p0 : Int32) (p1 : Int32) (h0 : Heap) (n0 : Nat) (v : Option Value) (h : Heap) (L : List Loc) : Prop := v = some (.int p0) ∧ Fr n0 L ∧ h = h0
set_option maxRecDepth 65536 in
set_option maxHeartbeats 40000000 in
theorem rm12 (l : Launch) (Z : State) (a0 : Array Value) (hw : ∀ d ∈ tables_1, d.before a0 Z = true) (ws : List Jvm.Cond) (p0 : Int32) (p1 : Int32) (h0 : Heap) (n0 : Nat) (Z0 : n0 ≤ h0.size) (hlt : p0 < p1) :
    MetFree l (⟨"java/lang/Math", "min", "(II)I"⟩ : MethodName) (head1 (Jvm.Cond.code (⟨"java/lang/Math", "min", "(II)I"⟩ : MethodName) jdk_29_method_69_code 2 (some .int) :: ws) ({ frames := 0, cells := 0, slots := 0, locals := 0 } : Room)) (fun a U => a = #[(.int p0), (.int p1)] ∧ Z.Warmed39 U.vm ∧ U.heap = h0) (fun _ _ _ _ _ => True) (fun _ U o U' => ∃ v L, o = .returned v ∧ Q12 Z p0 p1 h0 n0 v U'.heap L ∧ FrameEnd U o U' L ({ frames := 0, cells := 0, slots := 0, locals := 0 } : Room).cells ({ frames := 0, cells := 0, slots := 0, locals := 0 } : Room).slots) := by
  refine MetFree.of_bodySF (Jvm.Free.JP.mathPlain rfl (by decide +kernel)) hisR ?_
  intro p e s m args below meth c s₁ Bd hml0 hP hK
  obtain ⟨rfl, hZ, hh⟩ := hP
  have hx := Bd.exec
  have hby := Bd.bytes
  have hml : c.maxLocals = 2 := hml0
  have hown : s.vm.findClass "java/lang/Math" = some m.cls := findClass_of_methodNamed Bd.named
  have hnm := (name_of_methodNamed Bd.named Bd.method).1
  have X0 : Stand p l e ({ frames := 0, cells := 0, slots := 0, locals := 0 } : Room) s m #[(.int p0), (.int p1)] below meth c s₁ [] 0 0 := Stand.of_body Bd
  have e0 : s₁.heap = h0 := by rw [← hh, Bd.state]; rfl
  have N0 := Fr.nil n0
  refine own_open fun G hG => ?_
  refine own_go (B := s₁.setTop (mkF m 0 #[.val (.int p0), .val (.int p1)] [])) (fun t_ k_ => castTop (ef_rm12 m p0 p1) k_) ?_
  refine own_iloadN 1 X0.here hx (hb hby d12_0) rfl rfl ?_
  refine own_iloadN 2 X0.here hx (hb hby d12_1) rfl rfl ?_
  refine own_s 5 [] (fun _ k_ => XS.icmpNo X0.here hx rfl (hb hby d12_2) rfl (flt (own_nlt hlt)).2.2.1 k_) ?_
  refine own_iloadN 6 X0.here hx (hb hby d12_5) rfl rfl ?_
  refine own_s 10 [(.int p0)] (fun _ k_ => XS.goto X0.here hx rfl (pc0 := 6) (pc' := 10) rfl (hb hby d12_6) (by decide) (by decide) k_) ?_
  obtain ⟨fs, hr, hrun, hended, hW, hsame⟩ := X0.leave (v := some (.int p0)) (fun h => by rw [Bd.returns] at h; cases h)
  refine own_at ?_ (hG _ _ ⟨hrun, hended, _, _, rfl, ?_, ⟨_, rfl⟩, hW, hsame.mono (by decide) (by decide)⟩)
  · show Steps p.tables e below (s₁.setTop (mkF m 10 #[.val (.int p0), .val (.int p1)] [(.int p0)])) _
    exact retI X0 hx Bd.returns (hb hby d12_10) hr
  · show Q12 Z p0 p1 h0 n0 _ s₁.heap _
    rw [e0]
    exact ⟨rfl, N0, rfl⟩
theorem d10_0 : decode jdk_29_method_65_code 0 = .ok (.iload_n 0, 1) := by decide +kernel
theorem d10_1 : decode jdk_29_method_65_code 1 = .ok (.iload_n 1, 1) := by decide +kernel
theorem d10_2 : decode jdk_29_method_65_code 2 = .ok (.if_icmp .lt 7, 3) := by decide +kernel
theorem d10_5 : decode jdk_29_method_65_code 5 = .ok (.iload_n 0, 1) := by decide +kernel
theorem d10_6 : decode jdk_29_method_65_code 6 = .ok (.goto 4, 3) := by decide +kernel
theorem d10_9 : decode jdk_29_method_65_code 9 = .ok (.iload_n 1, 1) := by decide +kernel
theorem d10_10 : decode jdk_29_method_65_code 10 = .ok (.ireturn, 1) := by decide +kernel
theorem ef_rm10 (m : MethodId) (x0 : Int32) (x1 : Int32) : entryFrame m #[(.int x0), (.int x1)] 2 = mkF m 0 #[.val (.int x0), .val (.int x1)] [] := by first | (simp [entryFrame, mkF, argsToLocals, Value.category]; done) | rfl
def Q10 (Z : State) (p0 : Int32) (p1 : Int32) (h0 : Heap) (n0 : Nat) (v : Option Value) (h : Heap) (L : List Loc) : Prop := v = some (.int (own_max p0 p1)) ∧ Fr n0 L ∧ h = h0
set_option maxRecDepth 65536 in
set_option maxHeartbeats 40000000 in
theorem rm10 (l : Launch) (Z : State) (a0 : Array Value) (hw : ∀ d ∈ tables_1, d.before a0 Z = true) (ws : List Jvm.Cond) (p0 : Int32) (p1 : Int32) (h0 : Heap) (n0 : Nat) (Z0 : n0 ≤ h0.size) :
    MetFree l (⟨"java/lang/Math", "max", "(II)I"⟩ : MethodName) (head1 (Jvm.Cond.code (⟨"java/lang/Math", "max", "(II)I"⟩ : MethodName) jdk_29_method_65_code 2 (some .int) :: ws) ({ frames := 0, cells := 0, slots := 0, locals := 0 } : Room)) (fun a U => a = #[(.int p0), (.int p1)] ∧ Z.Warmed39 U.vm ∧ U.heap = h0) (fun _ _ _ _ _ => True) (fun _ U o U' => ∃ v L, o = .returned v ∧ Q10 Z p0 p1 h0 n0 v U'.heap L ∧ FrameEnd U o U' L ({ frames := 0, cells := 0, slots := 0, locals := 0 } : Room).cells ({ frames := 0, cells := 0, slots := 0, locals := 0 } : Room).slots) := by
  refine MetFree.of_bodySF (Jvm.Free.JP.mathPlain rfl (by decide +kernel)) hisR ?_
  intro p e s m args below meth c s₁ Bd hml0 hP hK
  obtain ⟨rfl, hZ, hh⟩ := hP
  have hx := Bd.exec
  have hby := Bd.bytes
  have hml : c.maxLocals = 2 := hml0
  have hown : s.vm.findClass "java/lang/Math" = some m.cls := findClass_of_methodNamed Bd.named
  have hnm := (name_of_methodNamed Bd.named Bd.method).1
  have X0 : Stand p l e ({ frames := 0, cells := 0, slots := 0, locals := 0 } : Room) s m #[(.int p0), (.int p1)] below meth c s₁ [] 0 0 := Stand.of_body Bd
  have e0 : s₁.heap = h0 := by rw [← hh, Bd.state]; rfl
  have N0 := Fr.nil n0
  refine own_open fun G hG => ?_
  refine own_go (B := s₁.setTop (mkF m 0 #[.val (.int p0), .val (.int p1)] [])) (fun t_ k_ => castTop (ef_rm10 m p0 p1) k_) ?_
  refine own_iloadN 1 X0.here hx (hb hby d10_0) rfl rfl ?_
  refine own_iloadN 2 X0.here hx (hb hby d10_1) rfl rfl ?_
  by_cases hc2 : p0 < p1
  · refine own_s 9 [] (fun _ k_ => XS.icmpYes X0.here hx rfl (pc0 := 2) (pc' := 9) rfl (hb hby d10_2) rfl (tlt hc2).1 (by decide) (by decide) k_) ?_
    refine own_iloadN 10 X0.here hx (hb hby d10_9) rfl rfl ?_
    obtain ⟨fs, hr, hrun, hended, hW, hsame⟩ := X0.leave (v := some (.int p1)) (fun h => by rw [Bd.returns] at h; cases h)
    refine own_at ?_ (hG _ _ ⟨hrun, hended, _, _, rfl, ?_, ⟨_, rfl⟩, hW, hsame.mono (by decide) (by decide)⟩)
    · show Steps p.tables e below (s₁.setTop (mkF m 10 #[.val (.int p0), .val (.int p1)] [(.int p1)])) _
      exact retI X0 hx Bd.returns (hb hby d10_10) hr
    · show Q10 Z p0 p1 h0 n0 _ s₁.heap _
      rw [e0]
      exact ⟨by unfold own_max; rw [if_pos hc2], N0, rfl⟩
  · refine own_s 5 [] (fun _ k_ => XS.icmpNo X0.here hx rfl (hb hby d10_2) rfl (flt hc2).1 k_) ?_
    refine own_iloadN 6 X0.here hx (hb hby d10_5) rfl rfl ?_
    refine own_s 10 [(.int p0)] (fun _ k_ => XS.goto X0.here hx rfl (pc0 := 6) (pc' := 10) rfl (hb hby d10_6) (by decide) (by decide) k_) ?_
    obtain ⟨fs, hr, hrun, hended, hW, hsame⟩ := X0.leave (v := some (.int p0)) (fun h => by rw [Bd.returns] at h; cases h)
    refine own_at ?_ (hG _ _ ⟨hrun, hended, _, _, rfl, ?_, ⟨_, rfl⟩, hW, hsame.mono (by decide) (by decide)⟩)
    · show Steps p.tables e below (s₁.setTop (mkF m 10 #[.val (.int p0), .val (.int p1)] [(.int p0)])) _
      exact retI X0 hx Bd.returns (hb hby d10_10) hr
    · show Q10 Z p0 p1 h0 n0 _ s₁.heap _
      rw [e0]
      exact ⟨by unfold own_max; rw [if_neg hc2], N0, rfl⟩
theorem d11_0 : decode jdk_65_method_123_code 0 = .ok (.iload_n 1, 1) := by decide +kernel
theorem d11_1 : decode jdk_65_method_123_code 1 = .ok (.aload_n 0, 1) := by decide +kernel
theorem d11_2 : decode jdk_65_method_123_code 2 = .ok (.arraylength, 1) := by decide +kernel
theorem d11_3 : decode jdk_65_method_123_code 3 = .ok (.if_icmp .ne 11, 3) := by decide +kernel
theorem d11_6 : decode jdk_65_method_123_code 6 = .ok (.aload_n 0, 1) := by decide +kernel
theorem d11_7 : decode jdk_65_method_123_code 7 = .ok (.invokevirtual 316, 3) := by decide +kernel
theorem d11_10 : decode jdk_65_method_123_code 10 = .ok (.checkcast 317, 3) := by decide +kernel
theorem d11_13 : decode jdk_65_method_123_code 13 = .ok (.areturn, 1) := by decide +kernel
theorem d11_14 : decode jdk_65_method_123_code 14 = .ok (.iload_n 1, 1) := by decide +kernel
theorem d11_15 : decode jdk_65_method_123_code 15 = .ok (.newarray .int, 2) := by decide +kernel
theorem d11_17 : decode jdk_65_method_123_code 17 = .ok (.astore_n 2, 1) := by decide +kernel
theorem d11_18 : decode jdk_65_method_123_code 18 = .ok (.aload_n 0, 1) := by decide +kernel
theorem d11_19 : decode jdk_65_method_123_code 19 = .ok (.iconst 0, 1) := by decide +kernel
theorem d11_20 : decode jdk_65_method_123_code 20 = .ok (.aload_n 2, 1) := by decide +kernel
theorem d11_21 : decode jdk_65_method_123_code 21 = .ok (.iconst 0, 1) := by decide +kernel
theorem d11_22 : decode jdk_65_method_123_code 22 = .ok (.aload_n 0, 1) := by decide +kernel
theorem d11_23 : decode jdk_65_method_123_code 23 = .ok (.arraylength, 1) := by decide +kernel
theorem d11_24 : decode jdk_65_method_123_code 24 = .ok (.iload_n 1, 1) := by decide +kernel
theorem d11_25 : decode jdk_65_method_123_code 25 = .ok (.invokestatic 304, 3) := by decide +kernel
theorem d11_28 : decode jdk_65_method_123_code 28 = .ok (.invokestatic 150, 3) := by decide +kernel
theorem d11_31 : decode jdk_65_method_123_code 31 = .ok (.aload_n 2, 1) := by decide +kernel
theorem d11_32 : decode jdk_65_method_123_code 32 = .ok (.areturn, 1) := by decide +kernel
theorem pn_11 : plainName "java/util/Arrays" = true := by first | (simp [plainName, overriddenIn]; done) | decide +kernel
theorem ef_rmCpi (m : MethodId) (x0 : Addr) (x1 : Int32) : entryFrame m #[(.ref x0), (.int x1)] 3 = mkF m 0 #[.val (.ref x0), .val (.int x1), .unset] [] := by first | (simp [entryFrame, mkF, argsToLocals, Value.category]; done) | rfl
def QCpi (Z : State) (r0 : Addr) (NN : Nat) (MM : Nat) (ff : Nat → Int32) (h0 : Heap) (n0 : Nat) (v : Option Value) (h : Heap) (L : List Loc) : Prop := ∃ (b : Addr), v = some (.ref b) ∧ Fr n0 L ∧ Keep h0 h [] ∧ n0 ≤ b ∧ h0.size ≤ b ∧ own_IN Z h b MM ff
set_option maxRecDepth 65536 in
set_option maxHeartbeats 40000000 in
theorem rmCpi (l : Launch) (Z : State) (a0 : Array Value) (hw : ∀ d ∈ tables_1, d.before a0 Z = true) (ws : List Jvm.Cond) (r0 : Addr) (NN : Nat) (MM : Nat) (ff : Nat → Int32) (h0 : Heap) (n0 : Nat) (Z0 : n0 ≤ h0.size) (u0 : own_IN Z h0 r0 NN ff) (h1 : NN < MM) (h2 : MM ≤ 126) (h3 : own_zI ff NN) :
    MetFree l (⟨"java/util/Arrays", "copyOf", "([II)[I"⟩ : MethodName) (head1 (Jvm.Cond.code (⟨"java/util/Arrays", "copyOf", "([II)[I"⟩ : MethodName) jdk_65_method_123_code 3 (some (.array .int)) :: ws) ({ frames := 1, cells := 1, slots := 126, locals := 40 } : Room)) (fun a U => a = #[(.ref r0), (.int (Int32.ofNat MM))] ∧ Z.Warmed39 U.vm ∧ U.heap = h0) (fun _ _ _ _ _ => True) (fun _ U o U' => ∃ v L, o = .returned v ∧ QCpi Z r0 NN MM ff h0 n0 v U'.heap L ∧ FrameEnd U o U' L ({ frames := 1, cells := 1, slots := 126, locals := 40 } : Room).cells ({ frames := 1, cells := 1, slots := 126, locals := 40 } : Room).slots) := by
  refine MetFree.of_bodySF (plainFor_of_name pn_11) hisR ?_
  intro p e s m args below meth c s₁ Bd hml0 hP hK
  obtain ⟨rfl, hZ, hh⟩ := hP
  have hx := Bd.exec
  have hby := Bd.bytes
  have hml : c.maxLocals = 3 := hml0
  have hown : s.vm.findClass "java/util/Arrays" = some m.cls := findClass_of_methodNamed Bd.named
  have hnm := (name_of_methodNamed Bd.named Bd.method).1
  have X0 : Stand p l e ({ frames := 1, cells := 1, slots := 126, locals := 40 } : Room) s m #[(.ref r0), (.int (Int32.ofNat MM))] below meth c s₁ [] 0 0 := Stand.of_body Bd
  have e0 : s₁.heap = h0 := by rw [← hh, Bd.state]; rfl
  have N0 := Fr.nil n0
  refine own_open fun G hG => ?_
  refine own_go (B := s₁.setTop (mkF m 0 #[.val (.ref r0), .val (.int (Int32.ofNat MM)), .unset] [])) (fun t_ k_ => castTop (ef_rmCpi m r0 (Int32.ofNat MM)) k_) ?_
  have K0 : Keep h0 h0 [] := Keep.refl h0 _
  refine own_iloadN 1 X0.here hx (hb hby d11_0) rfl rfl ?_
  refine own_aloadN 2 X0.here hx (hb hby d11_1) rfl rfl rfl ?_
  obtain ⟨cl4, Ar4, S4, -⟩ := id u0
  refine own_go (B := s₁.setTop (mkF m 3 #[.val (.ref r0), .val (.int (Int32.ofNat MM)), .unset] [(.int (Int32.ofNat NN)), (.int (Int32.ofNat MM))])) (fun t_ k_ => ?_) ?_
  · refine X0.arraylength hx (by rw [e0]; exact Ar4.1) (State.isArrayOf_alike hZ.alike Ar4.2.1) (g := (mkF m 2 #[.val (.ref r0), .val (.int (Int32.ofNat MM)), .unset] [(.ref r0), (.int (Int32.ofNat MM))])) rfl rfl (hb hby d11_2) _ ?_
    rw [own_len S4]
    exact k_
  refine own_s 14 [] (fun _ k_ => XS.icmpYes X0.here hx rfl (pc0 := 3) (pc' := 14) rfl (hb hby d11_3) rfl (feq (fun q => absurd ((own_inj (by omega) (by omega)).mp q) (by omega))).2 (by decide) (by decide) k_) ?_
  refine own_iloadN 15 X0.here hx (hb hby d11_14) rfl rfl ?_
  obtain ⟨T5, h5, k5, X5, e5, E5, A5, st5⟩ := newP X0 hx hZ (own_w 9 hw rfl) e0 (g := (mkF m 15 #[.val (.ref r0), .val (.int (Int32.ofNat MM)), .unset] [(.int (Int32.ofNat MM))])) rfl (hb hby d11_15) rfl (own_nn (by omega)) (cap := 126) (by rw [own_clamp (by omega)]; omega) (by decide) (by decide) (by decide)
  obtain ⟨b5, g5⟩ : ∃ z, z = h0.size := ⟨_, rfl⟩
  rw [← g5] at A5 st5
  have g_b5 : n0 ≤ b5 := Nat.le_trans Z0 (Nat.le_of_eq g5.symm)
  have ne_r0_b5 : r0 ≠ b5 := Nat.ne_of_lt (Nat.lt_of_lt_of_le u0.lt (Nat.le_of_eq g5.symm))
  have sz_b5 : h0.size ≤ b5 := Nat.le_trans K0.1 (Nat.le_of_eq g5.symm)
  have f6 := u0.ext E5
  have f7 := K0.ext E5
  have Z5 : n0 ≤ h5.size := Nat.le_trans Z0 E5.1
  have f8 : Arv Z h5 b5 k5 .int (Int32.ofNat MM) [] (.int 0) := Arv.new A5 (own_nn (by omega))
  refine own_s 17 [(.ref b5)] (fun _ k_ => st5 _ k_) ?_
  refine own_go (B := T5.setTop (mkF m 18 #[.val (.ref r0), .val (.int (Int32.ofNat MM)), .val (.ref b5)] [])) (fun _ k_ => XS.astoreN X5.here hx rfl (hb hby d11_17) rfl rfl (l' := #[.val (.ref r0), .val (.int (Int32.ofNat MM)), .val (.ref b5)]) rfl k_) ?_
  refine own_aloadN 19 X5.here hx (hb hby d11_18) rfl rfl rfl ?_
  refine own_s 20 [(.int 0), (.ref r0)] (fun _ k_ => XS.iconst X5.here hx rfl (hb hby d11_19) k_) ?_
  refine own_aloadN 21 X5.here hx (hb hby d11_20) rfl rfl rfl ?_
  refine own_s 22 [(.int 0), (.ref b5), (.int 0), (.ref r0)] (fun _ k_ => XS.iconst X5.here hx rfl (hb hby d11_21) k_) ?_
  refine own_aloadN 23 X5.here hx (hb hby d11_22) rfl rfl rfl ?_
  obtain ⟨cl9, Ar9, S9, -⟩ := id f6
  refine own_go (B := T5.setTop (mkF m 24 #[.val (.ref r0), .val (.int (Int32.ofNat MM)), .val (.ref b5)] [(.int (Int32.ofNat NN)), (.int 0), (.ref b5), (.int 0), (.ref r0)])) (fun t_ k_ => ?_) ?_
  · refine X5.arraylength hx (by rw [e5]; exact Ar9.1) (State.isArrayOf_alike hZ.alike Ar9.2.1) (g := (mkF m 23 #[.val (.ref r0), .val (.int (Int32.ofNat MM)), .val (.ref b5)] [(.ref r0), (.int 0), (.ref b5), (.int 0), (.ref r0)])) rfl rfl (hb hby d11_23) _ ?_
    rw [own_len S9]
    exact k_
  refine own_iloadN 25 X5.here hx (hb hby d11_24) rfl rfl ?_
  obtain ⟨vv10, _, ⟨T10, L10, k10, n10⟩, -, X10, ⟨Lc10, hQ10, l10, y10, z10⟩, st10⟩ := Jvm.LawKit.callS X5 hx (y := (⟨"java/lang/Math", "min", "(II)I"⟩ : MethodName)) hown (mvT hZ (own_w 81 hw rfl)) (mvT hZ (own_w 82 hw rfl)) (mvT hZ (own_w 75 hw rfl)) (mvT hZ (own_w 83 hw rfl)) (by decide) (backOf (W := 4) (rm12 l Z a0 hw [] (Int32.ofNat NN) (Int32.ofNat MM) h5 n0 Z5 ((own_lt (by omega) (by omega)).mpr h1)) hZ (own_w 83 hw rfl) (own_w 75 hw rfl) (by decide) (by decide)) (g := (mkF m 25 #[.val (.ref r0), .val (.int (Int32.ofNat MM)), .val (.ref b5)] [(.int (Int32.ofNat MM)), (.int (Int32.ofNat NN)), (.int 0), (.ref b5), (.int 0), (.ref r0)])) rfl (by rw [hml]; rfl) (argsL := [(.int (Int32.ofNat NN)), (.int (Int32.ofNat MM))]) (rest := [(.int 0), (.ref b5), (.int 0), (.ref r0)]) (lenOf pd__28_II_29_I rfl) rfl (by show 2 * 0 + _ ≤ _; exact Nat.le_of_eq rfl) (hb hby d11_25) (fun _ _ => ⟨rfl, e5, (by decide : 1 + 0 ≤ _), (by decide : 126 + 0 ≤ _)⟩)
  dsimp only [Pt.U, Pt.locs, Pt.cells, Pt.slots] at X10 l10 y10 z10 st10 hQ10
  subst l10 y10 z10
  obtain ⟨rfl, N10q, e10q⟩ := hQ10
  have N10 := Fr.app N0 N10q
  refine own_s 28 [(.int (Int32.ofNat NN)), (.int 0), (.ref b5), (.int 0), (.ref r0)] (fun _ k_ => st10 _ k_) ?_
  obtain ⟨ka11, VA11⟩ := f6.arv (by omega)
  have VB11 := Arv.pad f8 (pad_rep [] (.int 0) MM)
  obtain ⟨T11, h11, L11, X11, e11, N11, K11, V11, st11⟩ := cpA X10 hx hZ hown (own_w 84 hw rfl) (own_w 87 hw rfl) (own_w 85 hw rfl) (own_w 86 hw rfl) e10q VA11 VB11 (Or.inl ⟨rfl, rfl⟩) (by decide) (by decide) (own_nn (by omega)) (by rw [own_clamp (by omega)]; simp) (by rw [own_clamp (by omega), own_clamp (by omega)]; simp; omega) rfl (by rw [own_clamp (by omega)]; simp; omega) N10 g_b5 (g := (mkF m 28 #[.val (.ref r0), .val (.int (Int32.ofNat MM)), .val (.ref b5)] [(.int (Int32.ofNat NN)), (.int 0), (.ref b5), (.int 0), (.ref r0)])) rfl (by rw [hml]; rfl) (rest := []) rfl (hb hby d11_28) (by decide) (W := 0) (by show 2 * 0 + _ ≤ _; exact Nat.le_of_eq rfl) (by decide)
  have f13 : Keep h0 h11 [] := f7.trans K11 (allS (Or.inr sz_b5) all0)
  have Z11 : n0 ≤ h11.size := Nat.le_trans Z5 K11.1
  have f11_ : own_IN Z h11 b5 MM ff := own_IN.cp (by omega) (by omega) (by omega) h3 V11
  refine own_s 31 [] (fun _ k_ => st11 _ k_) ?_
  refine own_aloadN 32 X11.here hx (hb hby d11_31) rfl rfl rfl ?_
  obtain ⟨fs, hr, hrun, hended, hW, hsame⟩ := X11.leave (v := some (.ref b5)) (fun h => by rw [Bd.returns] at h; cases h)
  refine own_at ?_ (hG _ _ ⟨hrun, hended, _, _, rfl, ?_, ⟨_, rfl⟩, hW, hsame.mono (by decide) (by decide)⟩)
  · show Steps p.tables e below (T11.setTop (mkF m 32 #[.val (.ref r0), .val (.int (Int32.ofNat MM)), .val (.ref b5)] [(.ref b5)])) _
    exact retOut X11 hx (t := (.array .int)) Bd.returns rfl (Or.inr (Or.inr (Or.inr (Or.inr ⟨rfl, rfl, rfl⟩)))) (hb hby d11_32) hr
  · show QCpi Z r0 NN MM ff h0 n0 _ T11.heap _
    rw [e11]
    exact ⟨b5, rfl, N11, f13, g_b5, sz_b5, f11_⟩
theorem d13_0 : decode jdk_65_method_124_code 0 = .ok (.iload_n 1, 1) := by decide +kernel
theorem d13_1 : decode jdk_65_method_124_code 1 = .ok (.aload_n 0, 1) := by decide +kernel
theorem d13_2 : decode jdk_65_method_124_code 2 = .ok (.arraylength, 1) := by decide +kernel
theorem d13_3 : decode jdk_65_method_124_code 3 = .ok (.if_icmp .ne 11, 3) := by decide +kernel
theorem d13_6 : decode jdk_65_method_124_code 6 = .ok (.aload_n 0, 1) := by decide +kernel
theorem d13_7 : decode jdk_65_method_124_code 7 = .ok (.invokevirtual 319, 3) := by decide +kernel
theorem d13_10 : decode jdk_65_method_124_code 10 = .ok (.checkcast 320, 3) := by decide +kernel
theorem d13_13 : decode jdk_65_method_124_code 13 = .ok (.areturn, 1) := by decide +kernel
theorem d13_14 : decode jdk_65_method_124_code 14 = .ok (.iload_n 1, 1) := by decide +kernel
theorem d13_15 : decode jdk_65_method_124_code 15 = .ok (.newarray .long, 2) := by decide +kernel
theorem d13_17 : decode jdk_65_method_124_code 17 = .ok (.astore_n 2, 1) := by decide +kernel
theorem d13_18 : decode jdk_65_method_124_code 18 = .ok (.aload_n 0, 1) := by decide +kernel
theorem d13_19 : decode jdk_65_method_124_code 19 = .ok (.iconst 0, 1) := by decide +kernel
theorem d13_20 : decode jdk_65_method_124_code 20 = .ok (.aload_n 2, 1) := by decide +kernel
theorem d13_21 : decode jdk_65_method_124_code 21 = .ok (.iconst 0, 1) := by decide +kernel
theorem d13_22 : decode jdk_65_method_124_code 22 = .ok (.aload_n 0, 1) := by decide +kernel
theorem d13_23 : decode jdk_65_method_124_code 23 = .ok (.arraylength, 1) := by decide +kernel
theorem d13_24 : decode jdk_65_method_124_code 24 = .ok (.iload_n 1, 1) := by decide +kernel
theorem d13_25 : decode jdk_65_method_124_code 25 = .ok (.invokestatic 304, 3) := by decide +kernel
theorem d13_28 : decode jdk_65_method_124_code 28 = .ok (.invokestatic 150, 3) := by decide +kernel
theorem d13_31 : decode jdk_65_method_124_code 31 = .ok (.aload_n 2, 1) := by decide +kernel
theorem d13_32 : decode jdk_65_method_124_code 32 = .ok (.areturn, 1) := by decide +kernel
theorem pn_13 : plainName "java/util/Arrays" = true := by first | (simp [plainName, overriddenIn]; done) | decide +kernel
theorem ef_rmCpl (m : MethodId) (x0 : Addr) (x1 : Int32) : entryFrame m #[(.ref x0), (.int x1)] 3 = mkF m 0 #[.val (.ref x0), .val (.int x1), .unset] [] := by first | (simp [entryFrame, mkF, argsToLocals, Value.category]; done) | rfl
def QCpl (Z : State) (r0 : Addr) (NN : Nat) (MM : Nat) (ff : Nat → Int64) (h0 : Heap) (n0 : Nat) (v : Option Value) (h : Heap) (L : List Loc) : Prop := ∃ (b : Addr), v = some (.ref b) ∧ Fr n0 L ∧ Keep h0 h [] ∧ n0 ≤ b ∧ h0.size ≤ b ∧ own_LN Z h b MM ff
set_option maxRecDepth 65536 in
set_option maxHeartbeats 40000000 in
theorem rmCpl (l : Launch) (Z : State) (a0 : Array Value) (hw : ∀ d ∈ tables_1, d.before a0 Z = true) (ws : List Jvm.Cond) (r0 : Addr) (NN : Nat) (MM : Nat) (ff : Nat → Int64) (h0 : Heap) (n0 : Nat) (Z0 : n0 ≤ h0.size) (u0 : own_LN Z h0 r0 NN ff) (h1 : NN < MM) (h2 : MM ≤ 126) (h3 : own_z ff NN) :
    MetFree l (⟨"java/util/Arrays", "copyOf", "([JI)[J"⟩ : MethodName) (head1 (Jvm.Cond.code (⟨"java/util/Arrays", "copyOf", "([JI)[J"⟩ : MethodName) jdk_65_method_124_code 3 (some (.array .long)) :: ws) ({ frames := 1, cells := 1, slots := 126, locals := 40 } : Room)) (fun a U => a = #[(.ref r0), (.int (Int32.ofNat MM))] ∧ Z.Warmed39 U.vm ∧ U.heap = h0) (fun _ _ _ _ _ => True) (fun _ U o U' => ∃ v L, o = .returned v ∧ QCpl Z r0 NN MM ff h0 n0 v U'.heap L ∧ FrameEnd U o U' L ({ frames := 1, cells := 1, slots := 126, locals := 40 } : Room).cells ({ frames := 1, cells := 1, slots := 126, locals := 40 } : Room).slots) := by
  refine MetFree.of_bodySF (plainFor_of_name pn_13) hisR ?_
  intro p e s m args below meth c s₁ Bd hml0 hP hK
  obtain ⟨rfl, hZ, hh⟩ := hP
  have hx := Bd.exec
  have hby := Bd.bytes
  have hml : c.maxLocals = 3 := hml0
  have hown : s.vm.findClass "java/util/Arrays" = some m.cls := findClass_of_methodNamed Bd.named
  have hnm := (name_of_methodNamed Bd.named Bd.method).1
  have X0 : Stand p l e ({ frames := 1, cells := 1, slots := 126, locals := 40 } : Room) s m #[(.ref r0), (.int (Int32.ofNat MM))] below meth c s₁ [] 0 0 := Stand.of_body Bd
  have e0 : s₁.heap = h0 := by rw [← hh, Bd.state]; rfl
  have N0 := Fr.nil n0
  refine own_open fun G hG => ?_
  refine own_go (B := s₁.setTop (mkF m 0 #[.val (.ref r0), .val (.int (Int32.ofNat MM)), .unset] [])) (fun t_ k_ => castTop (ef_rmCpl m r0 (Int32.ofNat MM)) k_) ?_
  have K0 : Keep h0 h0 [] := Keep.refl h0 _
  refine own_iloadN 1 X0.here hx (hb hby d13_0) rfl rfl ?_
  refine own_aloadN 2 X0.here hx (hb hby d13_1) rfl rfl rfl ?_
  obtain ⟨cl15, Ar15, S15, -⟩ := id u0
  refine own_go (B := s₁.setTop (mkF m 3 #[.val (.ref r0), .val (.int (Int32.ofNat MM)), .unset] [(.int (Int32.ofNat NN)), (.int (Int32.ofNat MM))])) (fun t_ k_ => ?_) ?_
  · refine X0.arraylength hx (by rw [e0]; exact Ar15.1) (State.isArrayOf_alike hZ.alike Ar15.2.1) (g := (mkF m 2 #[.val (.ref r0), .val (.int (Int32.ofNat MM)), .unset] [(.ref r0), (.int (Int32.ofNat MM))])) rfl rfl (hb hby d13_2) _ ?_
    rw [own_len S15]
    exact k_
  refine own_s 14 [] (fun _ k_ => XS.icmpYes X0.here hx rfl (pc0 := 3) (pc' := 14) rfl (hb hby d13_3) rfl (feq (fun q => absurd ((own_inj (by omega) (by omega)).mp q) (by omega))).2 (by decide) (by decide) k_) ?_
  refine own_iloadN 15 X0.here hx (hb hby d13_14) rfl rfl ?_
  obtain ⟨T16, h16, k16, X16, e16, E16, A16, st16⟩ := newP X0 hx hZ (own_w 12 hw rfl) e0 (g := (mkF m 15 #[.val (.ref r0), .val (.int (Int32.ofNat MM)), .unset] [(.int (Int32.ofNat MM))])) rfl (hb hby d13_15) rfl (own_nn (by omega)) (cap := 126) (by rw [own_clamp (by omega)]; omega) (by decide) (by decide) (by decide)
  obtain ⟨b16, g16⟩ : ∃ z, z = h0.size := ⟨_, rfl⟩
  rw [← g16] at A16 st16
  have g_b16 : n0 ≤ b16 := Nat.le_trans Z0 (Nat.le_of_eq g16.symm)
  have ne_r0_b16 : r0 ≠ b16 := Nat.ne_of_lt (Nat.lt_of_lt_of_le u0.lt (Nat.le_of_eq g16.symm))
  have sz_b16 : h0.size ≤ b16 := Nat.le_trans K0.1 (Nat.le_of_eq g16.symm)
  have f17 := u0.ext E16
  have f18 := K0.ext E16
  have Z16 : n0 ≤ h16.size := Nat.le_trans Z0 E16.1
  have f19 : Arv Z h16 b16 k16 .long (Int32.ofNat MM) [] (.long 0) := Arv.new A16 (own_nn (by omega))
  refine own_s 17 [(.ref b16)] (fun _ k_ => st16 _ k_) ?_
  refine own_go (B := T16.setTop (mkF m 18 #[.val (.ref r0), .val (.int (Int32.ofNat MM)), .val (.ref b16)] [])) (fun _ k_ => XS.astoreN X16.here hx rfl (hb hby d13_17) rfl rfl (l' := #[.val (.ref r0), .val (.int (Int32.ofNat MM)), .val (.ref b16)]) rfl k_) ?_
  refine own_aloadN 19 X16.here hx (hb hby d13_18) rfl rfl rfl ?_
  refine own_s 20 [(.int 0), (.ref r0)] (fun _ k_ => XS.iconst X16.here hx rfl (hb hby d13_19) k_) ?_
  refine own_aloadN 21 X16.here hx (hb hby d13_20) rfl rfl rfl ?_
  refine own_s 22 [(.int 0), (.ref b16), (.int 0), (.ref r0)] (fun _ k_ => XS.iconst X16.here hx rfl (hb hby d13_21) k_) ?_
  refine own_aloadN 23 X16.here hx (hb hby d13_22) rfl rfl rfl ?_
  obtain ⟨cl20, Ar20, S20, -⟩ := id f17
  refine own_go (B := T16.setTop (mkF m 24 #[.val (.ref r0), .val (.int (Int32.ofNat MM)), .val (.ref b16)] [(.int (Int32.ofNat NN)), (.int 0), (.ref b16), (.int 0), (.ref r0)])) (fun t_ k_ => ?_) ?_
  · refine X16.arraylength hx (by rw [e16]; exact Ar20.1) (State.isArrayOf_alike hZ.alike Ar20.2.1) (g := (mkF m 23 #[.val (.ref r0), .val (.int (Int32.ofNat MM)), .val (.ref b16)] [(.ref r0), (.int 0), (.ref b16), (.int 0), (.ref r0)])) rfl rfl (hb hby d13_23) _ ?_
    rw [own_len S20]
    exact k_
  refine own_iloadN 25 X16.here hx (hb hby d13_24) rfl rfl ?_
  obtain ⟨vv21, _, ⟨T21, L21, k21, n21⟩, -, X21, ⟨Lc21, hQ21, l21, y21, z21⟩, st21⟩ := Jvm.LawKit.callS X16 hx (y := (⟨"java/lang/Math", "min", "(II)I"⟩ : MethodName)) hown (mvT hZ (own_w 81 hw rfl)) (mvT hZ (own_w 82 hw rfl)) (mvT hZ (own_w 75 hw rfl)) (mvT hZ (own_w 83 hw rfl)) (by decide) (backOf (W := 4) (rm12 l Z a0 hw [] (Int32.ofNat NN) (Int32.ofNat MM) h16 n0 Z16 ((own_lt (by omega) (by omega)).mpr h1)) hZ (own_w 83 hw rfl) (own_w 75 hw rfl) (by decide) (by decide)) (g := (mkF m 25 #[.val (.ref r0), .val (.int (Int32.ofNat MM)), .val (.ref b16)] [(.int (Int32.ofNat MM)), (.int (Int32.ofNat NN)), (.int 0), (.ref b16), (.int 0), (.ref r0)])) rfl (by rw [hml]; rfl) (argsL := [(.int (Int32.ofNat NN)), (.int (Int32.ofNat MM))]) (rest := [(.int 0), (.ref b16), (.int 0), (.ref r0)]) (lenOf pd__28_II_29_I rfl) rfl (by show 2 * 0 + _ ≤ _; exact Nat.le_of_eq rfl) (hb hby d13_25) (fun _ _ => ⟨rfl, e16, (by decide : 1 + 0 ≤ _), (by decide : 126 + 0 ≤ _)⟩)
  dsimp only [Pt.U, Pt.locs, Pt.cells, Pt.slots] at X21 l21 y21 z21 st21 hQ21
  subst l21 y21 z21
  obtain ⟨rfl, N21q, e21q⟩ := hQ21
  have N21 := Fr.app N0 N21q
  refine own_s 28 [(.int (Int32.ofNat NN)), (.int 0), (.ref b16), (.int 0), (.ref r0)] (fun _ k_ => st21 _ k_) ?_
  obtain ⟨ka22, VA22⟩ := f17.arv (by omega)
  have VB22 := Arv.pad f19 (pad_rep [] (.long 0) MM)
  obtain ⟨T22, h22, L22, X22, e22, N22, K22, V22, st22⟩ := cpA X21 hx hZ hown (own_w 84 hw rfl) (own_w 87 hw rfl) (own_w 85 hw rfl) (own_w 86 hw rfl) e21q VA22 VB22 (Or.inl ⟨rfl, rfl⟩) (by decide) (by decide) (own_nn (by omega)) (by rw [own_clamp (by omega)]; simp) (by rw [own_clamp (by omega), own_clamp (by omega)]; simp; omega) rfl (by rw [own_clamp (by omega)]; simp; omega) N21 g_b16 (g := (mkF m 28 #[.val (.ref r0), .val (.int (Int32.ofNat MM)), .val (.ref b16)] [(.int (Int32.ofNat NN)), (.int 0), (.ref b16), (.int 0), (.ref r0)])) rfl (by rw [hml]; rfl) (rest := []) rfl (hb hby d13_28) (by decide) (W := 0) (by show 2 * 0 + _ ≤ _; exact Nat.le_of_eq rfl) (by decide)
  have f24 : Keep h0 h22 [] := f18.trans K22 (allS (Or.inr sz_b16) all0)
  have Z22 : n0 ≤ h22.size := Nat.le_trans Z16 K22.1
  have f22_ : own_LN Z h22 b16 MM ff := own_LN.cp (by omega) (by omega) (by omega) h3 V22
  refine own_s 31 [] (fun _ k_ => st22 _ k_) ?_
  refine own_aloadN 32 X22.here hx (hb hby d13_31) rfl rfl rfl ?_
  obtain ⟨fs, hr, hrun, hended, hW, hsame⟩ := X22.leave (v := some (.ref b16)) (fun h => by rw [Bd.returns] at h; cases h)
  refine own_at ?_ (hG _ _ ⟨hrun, hended, _, _, rfl, ?_, ⟨_, rfl⟩, hW, hsame.mono (by decide) (by decide)⟩)
  · show Steps p.tables e below (T22.setTop (mkF m 32 #[.val (.ref r0), .val (.int (Int32.ofNat MM)), .val (.ref b16)] [(.ref b16)])) _
    exact retOut X22 hx (t := (.array .long)) Bd.returns rfl (Or.inr (Or.inr (Or.inr (Or.inr ⟨rfl, rfl, rfl⟩)))) (hb hby d13_32) hr
  · show QCpl Z r0 NN MM ff h0 n0 _ T22.heap _
    rw [e22]
    exact ⟨b16, rfl, N22, f24, g_b16, sz_b16, f22_⟩
theorem d1_0 : decode prog_21_method_1_code 0 = .ok (.aload_n 0, 1) := by decide +kernel
theorem d1_1 : decode prog_21_method_1_code 1 = .ok (.invokespecial 3, 3) := by decide +kernel
theorem d1_4 : decode prog_21_method_1_code 4 = .ok (.aload_n 0, 1) := by decide +kernel
theorem d1_5 : decode prog_21_method_1_code 5 = .ok (.bipush 16, 2) := by decide +kernel
theorem d1_7 : decode prog_21_method_1_code 7 = .ok (.newarray .int, 2) := by decide +kernel
theorem d1_9 : decode prog_21_method_1_code 9 = .ok (.putfield 9, 3) := by decide +kernel
theorem d1_12 : decode prog_21_method_1_code 12 = .ok (.aload_n 0, 1) := by decide +kernel
theorem d1_13 : decode prog_21_method_1_code 13 = .ok (.bipush 16, 2) := by decide +kernel
theorem d1_15 : decode prog_21_method_1_code 15 = .ok (.newarray .long, 2) := by decide +kernel
theorem d1_17 : decode prog_21_method_1_code 17 = .ok (.putfield 15, 3) := by decide +kernel
theorem d1_20 : decode prog_21_method_1_code 20 = .ok (.return_, 1) := by decide +kernel
theorem pn_1 : plainName "com/example/adfair/adfair/Ranking$Places" = true := by first | (simp [plainName, overriddenIn]; done) | decide +kernel
theorem ef_rmPI (m : MethodId) (x0 : Addr) : entryFrame m #[(.ref x0)] 1 = mkF m 0 #[.val (.ref x0)] [] := by first | (simp [entryFrame, mkF, argsToLocals, Value.category]; done) | rfl
def QPI (Z : State) (r0 : Addr) (h0 : Heap) (n0 : Nat) (v : Option Value) (h : Heap) (L : List Loc) : Prop := ∃ (pa : Addr) (ha : Addr), v = none ∧ Fr n0 L ∧ Keep h0 h [r0] ∧ n0 ≤ pa ∧ n0 ≤ ha ∧ h0.size ≤ pa ∧ h0.size ≤ ha ∧ pa ≠ ha ∧ Fld Z h r0 "com/example/adfair/adfair/Ranking$Places" "place" "[I" (.ref pa) ∧ Fld Z h r0 "com/example/adfair/adfair/Ranking$Places" "holder" "[J" (.ref ha) ∧ Fld Z h r0 "com/example/adfair/adfair/Ranking$Places" "rankings" "J" (.long 0) ∧ own_IN Z h pa 16 (fun _ => 0) ∧ own_LN Z h ha 16 (fun _ => 0)
set_option maxRecDepth 65536 in
set_option maxHeartbeats 40000000 in
theorem rmPI (l : Launch) (Z : State) (a0 : Array Value) (hw : ∀ d ∈ tables_1, d.before a0 Z = true) (ws : List Jvm.Cond) (r0 : Addr) (h0 : Heap) (n0 : Nat) (Z0 : n0 ≤ h0.size) (u0 : Exa Z h0 r0 "com/example/adfair/adfair/Ranking$Places") (u1 : Fld Z h0 r0 "com/example/adfair/adfair/Ranking$Places" "place" "[I" .null) (u2 : Fld Z h0 r0 "com/example/adfair/adfair/Ranking$Places" "holder" "[J" .null) (u3 : Fld Z h0 r0 "com/example/adfair/adfair/Ranking$Places" "rankings" "J" (.long 0)) (g_r0 : n0 ≤ r0) :
    MetFree l (⟨"com/example/adfair/adfair/Ranking$Places", "<init>", "()V"⟩ : MethodName) (head1 (Jvm.Cond.code (⟨"com/example/adfair/adfair/Ranking$Places", "<init>", "()V"⟩ : MethodName) prog_21_method_1_code 1 none :: ws) ({ frames := 1, cells := 2, slots := 32, locals := 20 } : Room)) (fun a U => a = #[(.ref r0)] ∧ Z.Warmed39 U.vm ∧ U.heap = h0) (fun _ _ _ _ _ => True) (fun _ U o U' => ∃ v L, o = .returned v ∧ QPI Z r0 h0 n0 v U'.heap L ∧ FrameEnd U o U' L ({ frames := 1, cells := 2, slots := 32, locals := 20 } : Room).cells ({ frames := 1, cells := 2, slots := 32, locals := 20 } : Room).slots) := by
  refine MetFree.of_bodySF (plainFor_of_name pn_1) hisR ?_
  intro p e s m args below meth c s₁ Bd hml0 hP hK
  obtain ⟨rfl, hZ, hh⟩ := hP
  have hx := Bd.exec
  have hby := Bd.bytes
  have hml : c.maxLocals = 1 := hml0
  have hown : s.vm.findClass "com/example/adfair/adfair/Ranking$Places" = some m.cls := findClass_of_methodNamed Bd.named
  have hnm := (name_of_methodNamed Bd.named Bd.method).1
  have X0 : Stand p l e ({ frames := 1, cells := 2, slots := 32, locals := 20 } : Room) s m #[(.ref r0)] below meth c s₁ [] 0 0 := Stand.of_body Bd
  have e0 : s₁.heap = h0 := by rw [← hh, Bd.state]; rfl
  have N0 := Fr.nil n0
  refine own_open fun G hG => ?_
  refine own_go (B := s₁.setTop (mkF m 0 #[.val (.ref r0)] [])) (fun t_ k_ => castTop (ef_rmPI m r0) k_) ?_
  have K0 : Keep h0 h0 [r0] := Keep.refl h0 _
  refine own_aloadN 1 X0.here hx (hb hby d1_0) rfl rfl rfl ?_
  obtain ⟨T26, X26, e26, st26⟩ := initO X0 hx hZ hown (own_w 6 hw rfl) (own_w 7 hw rfl) (own_w 8 hw rfl) e0 (g := (mkF m 1 #[.val (.ref r0)] [(.ref r0)])) rfl (by rw [hml]; rfl) rfl (hb hby d1_1) (by decide) (W := 0) (by show 2 * 0 + _ ≤ _; exact Nat.le_of_eq rfl) (by decide)
  refine own_s 4 [] (fun _ k_ => st26 _ k_) ?_
  refine own_aloadN 5 X26.here hx (hb hby d1_4) rfl rfl rfl ?_
  refine own_s 7 [(.int 16), (.ref r0)] (fun _ k_ => XS.bipush X26.here hx rfl (hb hby d1_5) k_) ?_
  obtain ⟨T27, h27, k27, X27, e27, E27, A27, st27⟩ := newP X26 hx hZ (own_w 9 hw rfl) e26 (g := (mkF m 7 #[.val (.ref r0)] [(.int 16), (.ref r0)])) rfl (hb hby d1_7) rfl (by decide) (cap := 16) (by decide) (by decide) (by decide) (by decide)
  obtain ⟨b27, g27⟩ : ∃ z, z = h0.size := ⟨_, rfl⟩
  rw [← g27] at A27 st27
  have g_b27 : n0 ≤ b27 := Nat.le_trans Z0 (Nat.le_of_eq g27.symm)
  have ne_r0_b27 : r0 ≠ b27 := Nat.ne_of_lt (Nat.lt_of_lt_of_le u0.lt (Nat.le_of_eq g27.symm))
  have sz_b27 : h0.size ≤ b27 := Nat.le_trans K0.1 (Nat.le_of_eq g27.symm)
  have f28 := u0.ext E27
  have f29 := u1.ext E27
  have f30 := u2.ext E27
  have f31 := u3.ext E27
  have f32 := K0.ext E27
  have Z27 : n0 ≤ h27.size := Nat.le_trans Z0 E27.1
  have f33 : own_IN Z h27 b27 16 (fun _ => 0) := own_IN.new A27
  refine own_s 9 [(.ref b27), (.ref r0)] (fun _ k_ => st27 _ k_) ?_
  obtain ⟨T34, h34, X34, e34, W34, st34⟩ := putF X27 hx hZ hown (host := "") (Or.inl (own_w 10 hw rfl)) Via.refl e27 f29 f28 (Or.inl (own_w 11 hw rfl)) (own_w 1 hw rfl) (ty := (.array .int)) (by decide) rfl rfl (g := (mkF m 9 #[.val (.ref r0)] [(.ref b27), (.ref r0)])) rfl rfl (hb hby d1_9)
  have f35 := f28.wr W34
  have f36 : Fld Z h34 r0 "com/example/adfair/adfair/Ranking$Places" "place" "[I" (.ref b27) := f29.same W34
  have f37 := f30.other W34 (Or.inr (slot_ne (Or.inl (own_w 14 hw rfl)) (Or.inl (own_w 11 hw rfl)) (by decide) (t := (.array .long)) (t' := (.array .int)) (by decide) (by decide)))
  have f38 := f31.other W34 (Or.inr (slot_ne (Or.inl (own_w 38 hw rfl)) (Or.inl (own_w 11 hw rfl)) (by decide) (t := .long) (t' := (.array .int)) (by decide) (by decide)))
  have f39 := f32.wr W34 (Or.inl (List.mem_of_getElem? (i := 0) rfl))
  have f40 := f33.other W34 (Ne.symm ne_r0_b27)
  have Z34 : n0 ≤ h34.size := Nat.le_trans Z27 (Keep.of_wr W34).1
  have N34 := Fr.snoc X34 N0 g_r0
  refine own_s 12 [] (fun _ k_ => st34 _ k_) ?_
  refine own_aloadN 13 X34.here hx (hb hby d1_12) rfl rfl rfl ?_
  refine own_s 15 [(.int 16), (.ref r0)] (fun _ k_ => XS.bipush X34.here hx rfl (hb hby d1_13) k_) ?_
  obtain ⟨T41, h41, k41, X41, e41, E41, A41, st41⟩ := newP X34 hx hZ (own_w 12 hw rfl) e34 (g := (mkF m 15 #[.val (.ref r0)] [(.int 16), (.ref r0)])) rfl (hb hby d1_15) rfl (by decide) (cap := 16) (by decide) (by decide) (by decide) (by decide)
  obtain ⟨b41, g41⟩ : ∃ z, z = h34.size := ⟨_, rfl⟩
  rw [← g41] at A41 st41
  have g_b41 : n0 ≤ b41 := Nat.le_trans Z34 (Nat.le_of_eq g41.symm)
  have ne_r0_b41 : r0 ≠ b41 := Nat.ne_of_lt (Nat.lt_of_lt_of_le f35.lt (Nat.le_of_eq g41.symm))
  have ne_b27_b41 : b27 ≠ b41 := Nat.ne_of_lt (Nat.lt_of_lt_of_le f40.lt (Nat.le_of_eq g41.symm))
  have sz_b41 : h0.size ≤ b41 := Nat.le_trans f39.1 (Nat.le_of_eq g41.symm)
  have f42 := f35.ext E41
  have f43 := f36.ext E41
  have f44 := f37.ext E41
  have f45 := f38.ext E41
  have f46 := f39.ext E41
  have f47 := f40.ext E41
  have Z41 : n0 ≤ h41.size := Nat.le_trans Z34 E41.1
  have f48 : own_LN Z h41 b41 16 (fun _ => 0) := own_LN.new A41
  refine own_s 17 [(.ref b41), (.ref r0)] (fun _ k_ => st41 _ k_) ?_
  obtain ⟨T49, h49, X49, e49, W49, st49⟩ := putF X41 hx hZ hown (host := "") (Or.inl (own_w 13 hw rfl)) Via.refl e41 f44 f42 (Or.inl (own_w 14 hw rfl)) (own_w 1 hw rfl) (ty := (.array .long)) (by decide) rfl rfl (g := (mkF m 17 #[.val (.ref r0)] [(.ref b41), (.ref r0)])) rfl rfl (hb hby d1_17)
  have f51 := f43.other W49 (Or.inr (slot_ne (Or.inl (own_w 11 hw rfl)) (Or.inl (own_w 14 hw rfl)) (by decide) (t := (.array .int)) (t' := (.array .long)) (by decide) (by decide)))
  have f52 : Fld Z h49 r0 "com/example/adfair/adfair/Ranking$Places" "holder" "[J" (.ref b41) := f44.same W49
  have f53 := f45.other W49 (Or.inr (slot_ne (Or.inl (own_w 38 hw rfl)) (Or.inl (own_w 14 hw rfl)) (by decide) (t := .long) (t' := (.array .long)) (by decide) (by decide)))
  have f54 := f46.wr W49 (Or.inl (List.mem_of_getElem? (i := 0) rfl))
  have f55 := f47.other W49 (Ne.symm ne_r0_b27)
  have f56 := f48.other W49 (Ne.symm ne_r0_b41)
  have Z49 : n0 ≤ h49.size := Nat.le_trans Z41 (Keep.of_wr W49).1
  have N49 := Fr.snoc X49 N34 g_r0
  refine own_s 20 [] (fun _ k_ => st49 _ k_) ?_
  obtain ⟨fs, hr, hrun, hended, hW, hsame⟩ := X49.leave (v := none) (fun _ => rfl)
  refine own_at ?_ (hG _ _ ⟨hrun, hended, _, _, rfl, ?_, ⟨_, rfl⟩, hW, hsame.mono (by decide) (by decide)⟩)
  · show Steps p.tables e below (T49.setTop (mkF m 20 #[.val (.ref r0)] [])) _
    exact X49.returnOut hx Bd.returns (hb hby d1_20) hr
  · show QPI Z r0 h0 n0 _ T49.heap _
    rw [e49]
    exact ⟨b27, b41, rfl, N49, f54, g_b27, g_b41, sz_b27, sz_b41, ne_b27_b41, f51, f52, f53, f55, f56⟩
theorem d3_0 : decode prog_20_method_2_code 0 = .ok (.aload_n 0, 1) := by decide +kernel
theorem d3_1 : decode prog_20_method_2_code 1 = .ok (.invokespecial 12, 3) := by decide +kernel
theorem d3_4 : decode prog_20_method_2_code 4 = .ok (.aload_n 0, 1) := by decide +kernel
theorem d3_5 : decode prog_20_method_2_code 5 = .ok (.bipush 16, 2) := by decide +kernel
theorem d3_7 : decode prog_20_method_2_code 7 = .ok (.newarray .int, 2) := by decide +kernel
theorem d3_9 : decode prog_20_method_2_code 9 = .ok (.putfield 15, 3) := by decide +kernel
theorem d3_12 : decode prog_20_method_2_code 12 = .ok (.aload_n 0, 1) := by decide +kernel
theorem d3_13 : decode prog_20_method_2_code 13 = .ok (.bipush 16, 2) := by decide +kernel
theorem d3_15 : decode prog_20_method_2_code 15 = .ok (.newarray .double, 2) := by decide +kernel
theorem d3_17 : decode prog_20_method_2_code 17 = .ok (.putfield 19, 3) := by decide +kernel
theorem d3_20 : decode prog_20_method_2_code 20 = .ok (.aload_n 0, 1) := by decide +kernel
theorem d3_21 : decode prog_20_method_2_code 21 = .ok (.bipush 16, 2) := by decide +kernel
theorem d3_23 : decode prog_20_method_2_code 23 = .ok (.newarray .long, 2) := by decide +kernel
theorem d3_25 : decode prog_20_method_2_code 25 = .ok (.putfield 23, 3) := by decide +kernel
theorem d3_28 : decode prog_20_method_2_code 28 = .ok (.aload_n 0, 1) := by decide +kernel
theorem d3_29 : decode prog_20_method_2_code 29 = .ok (.bipush 16, 2) := by decide +kernel
theorem d3_31 : decode prog_20_method_2_code 31 = .ok (.newarray .int, 2) := by decide +kernel
theorem d3_33 : decode prog_20_method_2_code 33 = .ok (.putfield 27, 3) := by decide +kernel
theorem d3_36 : decode prog_20_method_2_code 36 = .ok (.aload_n 0, 1) := by decide +kernel
theorem d3_37 : decode prog_20_method_2_code 37 = .ok (.bipush 16, 2) := by decide +kernel
theorem d3_39 : decode prog_20_method_2_code 39 = .ok (.newarray .double, 2) := by decide +kernel
theorem d3_41 : decode prog_20_method_2_code 41 = .ok (.putfield 30, 3) := by decide +kernel
theorem d3_44 : decode prog_20_method_2_code 44 = .ok (.aload_n 0, 1) := by decide +kernel
theorem d3_45 : decode prog_20_method_2_code 45 = .ok (.bipush 16, 2) := by decide +kernel
theorem d3_47 : decode prog_20_method_2_code 47 = .ok (.newarray .long, 2) := by decide +kernel
theorem d3_49 : decode prog_20_method_2_code 49 = .ok (.putfield 33, 3) := by decide +kernel
theorem d3_52 : decode prog_20_method_2_code 52 = .ok (.aload_n 0, 1) := by decide +kernel
theorem d3_53 : decode prog_20_method_2_code 53 = .ok (.aload_n 1, 1) := by decide +kernel
theorem d3_54 : decode prog_20_method_2_code 54 = .ok (.putfield 36, 3) := by decide +kernel
theorem d3_57 : decode prog_20_method_2_code 57 = .ok (.aload_n 1, 1) := by decide +kernel
theorem d3_58 : decode prog_20_method_2_code 58 = .ok (.dup, 1) := by decide +kernel
theorem d3_59 : decode prog_20_method_2_code 59 = .ok (.getfield 40, 3) := by decide +kernel
theorem d3_62 : decode prog_20_method_2_code 62 = .ok (.lconst 1, 1) := by decide +kernel
theorem d3_63 : decode prog_20_method_2_code 63 = .ok (.ladd, 1) := by decide +kernel
theorem d3_64 : decode prog_20_method_2_code 64 = .ok (.putfield 40, 3) := by decide +kernel
theorem d3_67 : decode prog_20_method_2_code 67 = .ok (.aload_n 0, 1) := by decide +kernel
theorem d3_68 : decode prog_20_method_2_code 68 = .ok (.aload_n 1, 1) := by decide +kernel
theorem d3_69 : decode prog_20_method_2_code 69 = .ok (.getfield 40, 3) := by decide +kernel
theorem d3_72 : decode prog_20_method_2_code 72 = .ok (.putfield 44, 3) := by decide +kernel
theorem d3_75 : decode prog_20_method_2_code 75 = .ok (.return_, 1) := by decide +kernel
theorem pn_3 : plainName "com/example/adfair/adfair/Ranking" = true := by first | (simp [plainName, overriddenIn]; done) | decide +kernel
theorem ef_rmRI0 (m : MethodId) (x0 : Addr) (x1 : Addr) : entryFrame m #[(.ref x0), (.ref x1)] 2 = mkF m 0 #[.val (.ref x0), .val (.ref x1)] [] := by first | (simp [entryFrame, mkF, argsToLocals, Value.category]; done) | rfl
def QRI0 (Z : State) (r0 : Addr) (r1 : Addr) (pa : Addr) (ha : Addr) (h0 : Heap) (n0 : Nat) (v : Option Value) (h : Heap) (L : List Loc) : Prop := ∃ (qa : Addr) (ka : Addr) (oa : Addr) (cq : ClassId) (ck : ClassId) (co : ClassId), v = none ∧ Fr n0 L ∧ Keep h0 h [r0, r1] ∧ n0 ≤ qa ∧ n0 ≤ ka ∧ n0 ≤ oa ∧ h0.size ≤ qa ∧ h0.size ≤ ka ∧ h0.size ≤ oa ∧ qa ≠ ka ∧ qa ≠ oa ∧ ka ≠ oa ∧ Fld Z h r0 "com/example/adfair/adfair/Ranking" "queued" "[I" (.ref qa) ∧ Fld Z h r0 "com/example/adfair/adfair/Ranking" "queuedKeys" "[D" (.ref ka) ∧ Fld Z h r0 "com/example/adfair/adfair/Ranking" "queuedOrders" "[J" (.ref oa) ∧ Fld Z h r0 "com/example/adfair/adfair/Ranking" "places" "Lcom/example/adfair/adfair/Ranking$Places;" (.ref r1) ∧ Fld Z h r0 "com/example/adfair/adfair/Ranking" "number" "J" (.long 1) ∧ Fld Z h r0 "com/example/adfair/adfair/Ranking" "queueFirst" "I" (.int 0) ∧ Fld Z h r0 "com/example/adfair/adfair/Ranking" "queueSize" "I" (.int 0) ∧ Fld Z h r1 "com/example/adfair/adfair/Ranking$Places" "rankings" "J" (.long 1) ∧ Fld Z h r1 "com/example/adfair/adfair/Ranking$Places" "place" "[I" (.ref pa) ∧ Fld Z h r1 "com/example/adfair/adfair/Ranking$Places" "holder" "[J" (.ref ha) ∧ Arv Z h qa cq .int (16 : Int32) [(.int 0), (.int 0), (.int 0), (.int 0), (.int 0), (.int 0), (.int 0), (.int 0), (.int 0), (.int 0), (.int 0), (.int 0), (.int 0), (.int 0), (.int 0), (.int 0)] (.int 0) ∧ Arv Z h ka ck .double (16 : Int32) [(.double (FP.l2d 0)), (.double (FP.l2d 0)), (.double (FP.l2d 0)), (.double (FP.l2d 0)), (.double (FP.l2d 0)), (.double (FP.l2d 0)), (.double (FP.l2d 0)), (.double (FP.l2d 0)), (.double (FP.l2d 0)), (.double (FP.l2d 0)), (.double (FP.l2d 0)), (.double (FP.l2d 0)), (.double (FP.l2d 0)), (.double (FP.l2d 0)), (.double (FP.l2d 0)), (.double (FP.l2d 0))] (.double (FP.l2d 0)) ∧ Arv Z h oa co .long (16 : Int32) [(.long 0), (.long 0), (.long 0), (.long 0), (.long 0), (.long 0), (.long 0), (.long 0), (.long 0), (.long 0), (.long 0), (.long 0), (.long 0), (.long 0), (.long 0), (.long 0)] (.long 0)
set_option maxRecDepth 65536 in
set_option maxHeartbeats 40000000 in
theorem rmRI0 (l : Launch) (Z : State) (a0 : Array Value) (hw : ∀ d ∈ tables_1, d.before a0 Z = true) (ws : List Jvm.Cond) (r0 : Addr) (r1 : Addr) (pa : Addr) (ha : Addr) (h0 : Heap) (n0 : Nat) (Z0 : n0 ≤ h0.size) (u0 : Exa Z h0 r0 "com/example/adfair/adfair/Ranking") (u1 : Exa Z h0 r1 "com/example/adfair/adfair/Ranking$Places") (u2 : Fld Z h0 r0 "com/example/adfair/adfair/Ranking" "members" "[I" .null) (u3 : Fld Z h0 r0 "com/example/adfair/adfair/Ranking" "keys" "[D" .null) (u4 : Fld Z h0 r0 "com/example/adfair/adfair/Ranking" "orders" "[J" .null) (u5 : Fld Z h0 r0 "com/example/adfair/adfair/Ranking" "queued" "[I" .null) (u6 : Fld Z h0 r0 "com/example/adfair/adfair/Ranking" "queuedKeys" "[D" .null) (u7 : Fld Z h0 r0 "com/example/adfair/adfair/Ranking" "queuedOrders" "[J" .null) (u8 : Fld Z h0 r0 "com/example/adfair/adfair/Ranking" "places" "Lcom/example/adfair/adfair/Ranking$Places;" .null) (u9 : Fld Z h0 r0 "com/example/adfair/adfair/Ranking" "number" "J" (.long 0)) (u10 : Fld Z h0 r0 "com/example/adfair/adfair/Ranking" "queueFirst" "I" (.int 0)) (u11 : Fld Z h0 r0 "com/example/adfair/adfair/Ranking" "queueSize" "I" (.int 0)) (u12 : Fld Z h0 r1 "com/example/adfair/adfair/Ranking$Places" "rankings" "J" (.long 0)) (u13 : Fld Z h0 r1 "com/example/adfair/adfair/Ranking$Places" "place" "[I" (.ref pa)) (u14 : Fld Z h0 r1 "com/example/adfair/adfair/Ranking$Places" "holder" "[J" (.ref ha)) (ne_r0_r1 : r0 ≠ r1) (g_r0 : n0 ≤ r0) (g_r1 : n0 ≤ r1) :
    MetFree l (⟨"com/example/adfair/adfair/Ranking", "<init>", "(Lcom/example/adfair/adfair/Ranking$Places;)V"⟩ : MethodName) (head1 (Jvm.Cond.code (⟨"com/example/adfair/adfair/Ranking", "<init>", "(Lcom/example/adfair/adfair/Ranking$Places;)V"⟩ : MethodName) prog_20_method_2_code 2 none :: ws) ({ frames := 1, cells := 6, slots := 96, locals := 20 } : Room)) (fun a U => a = #[(.ref r0), (.ref r1)] ∧ Z.Warmed39 U.vm ∧ U.heap = h0) (fun _ _ _ _ _ => True) (fun _ U o U' => ∃ v L, o = .returned v ∧ QRI0 Z r0 r1 pa ha h0 n0 v U'.heap L ∧ FrameEnd U o U' L ({ frames := 1, cells := 6, slots := 96, locals := 20 } : Room).cells ({ frames := 1, cells := 6, slots := 96, locals := 20 } : Room).slots) := by
  refine MetFree.of_bodySF (plainFor_of_name pn_3) hisR ?_
  intro p e s m args below meth c s₁ Bd hml0 hP hK
  obtain ⟨rfl, hZ, hh⟩ := hP
  have hx := Bd.exec
  have hby := Bd.bytes
  have hml : c.maxLocals = 2 := hml0
  have hown : s.vm.findClass "com/example/adfair/adfair/Ranking" = some m.cls := findClass_of_methodNamed Bd.named
  have hnm := (name_of_methodNamed Bd.named Bd.method).1
  have X0 : Stand p l e ({ frames := 1, cells := 6, slots := 96, locals := 20 } : Room) s m #[(.ref r0), (.ref r1)] below meth c s₁ [] 0 0 := Stand.of_body Bd
  have e0 : s₁.heap = h0 := by rw [← hh, Bd.state]; rfl
  have N0 := Fr.nil n0
  refine own_open fun G hG => ?_
  refine own_go (B := s₁.setTop (mkF m 0 #[.val (.ref r0), .val (.ref r1)] [])) (fun t_ k_ => castTop (ef_rmRI0 m r0 r1) k_) ?_
  have K0 : Keep h0 h0 [r0, r1] := Keep.refl h0 _
  refine own_aloadN 1 X0.here hx (hb hby d3_0) rfl rfl rfl ?_
  obtain ⟨T58, X58, e58, st58⟩ := initO X0 hx hZ hown (own_w 21 hw rfl) (own_w 7 hw rfl) (own_w 8 hw rfl) e0 (g := (mkF m 1 #[.val (.ref r0), .val (.ref r1)] [(.ref r0)])) rfl (by rw [hml]; rfl) rfl (hb hby d3_1) (by decide) (W := 0) (by show 2 * 0 + _ ≤ _; exact Nat.le_of_eq rfl) (by decide)
  refine own_s 4 [] (fun _ k_ => st58 _ k_) ?_
  refine own_aloadN 5 X58.here hx (hb hby d3_4) rfl rfl rfl ?_
  refine own_s 7 [(.int 16), (.ref r0)] (fun _ k_ => XS.bipush X58.here hx rfl (hb hby d3_5) k_) ?_
  obtain ⟨T59, h59, k59, X59, e59, E59, A59, st59⟩ := newP X58 hx hZ (own_w 9 hw rfl) e58 (g := (mkF m 7 #[.val (.ref r0), .val (.ref r1)] [(.int 16), (.ref r0)])) rfl (hb hby d3_7) rfl (by decide) (cap := 16) (by decide) (by decide) (by decide) (by decide)
  obtain ⟨b59, g59⟩ : ∃ z, z = h0.size := ⟨_, rfl⟩
  rw [← g59] at A59 st59
  have g_b59 : n0 ≤ b59 := Nat.le_trans Z0 (Nat.le_of_eq g59.symm)
  have ne_r0_b59 : r0 ≠ b59 := Nat.ne_of_lt (Nat.lt_of_lt_of_le u0.lt (Nat.le_of_eq g59.symm))
  have ne_r1_b59 : r1 ≠ b59 := Nat.ne_of_lt (Nat.lt_of_lt_of_le u1.lt (Nat.le_of_eq g59.symm))
  have sz_b59 : h0.size ≤ b59 := Nat.le_trans K0.1 (Nat.le_of_eq g59.symm)
  have f60 := u0.ext E59
  have f61 := u1.ext E59
  have f62 := u2.ext E59
  have f63 := u3.ext E59
  have f64 := u4.ext E59
  have f65 := u5.ext E59
  have f66 := u6.ext E59
  have f67 := u7.ext E59
  have f68 := u8.ext E59
  have f69 := u9.ext E59
  have f70 := u10.ext E59
  have f71 := u11.ext E59
  have f72 := u12.ext E59
  have f73 := u13.ext E59
  have f74 := u14.ext E59
  have f75 := K0.ext E59
  have Z59 : n0 ≤ h59.size := Nat.le_trans Z0 E59.1
  refine own_s 9 [(.ref b59), (.ref r0)] (fun _ k_ => st59 _ k_) ?_
  obtain ⟨T77, h77, X77, e77, W77, st77⟩ := putF X59 hx hZ hown (host := "") (Or.inl (own_w 22 hw rfl)) Via.refl e59 f62 f60 (Or.inl (own_w 23 hw rfl)) (own_w 16 hw rfl) (ty := (.array .int)) (by decide) rfl rfl (g := (mkF m 9 #[.val (.ref r0), .val (.ref r1)] [(.ref b59), (.ref r0)])) rfl rfl (hb hby d3_9)
  have f78 := f60.wr W77
  have f79 := f61.wr W77
  have f81 := f63.other W77 (Or.inr (slot_ne (Or.inl (own_w 26 hw rfl)) (Or.inl (own_w 23 hw rfl)) (by decide) (t := (.array .double)) (t' := (.array .int)) (by decide) (by decide)))
  have f82 := f64.other W77 (Or.inr (slot_ne (Or.inl (own_w 28 hw rfl)) (Or.inl (own_w 23 hw rfl)) (by decide) (t := (.array .long)) (t' := (.array .int)) (by decide) (by decide)))
  have f83 := f65.other W77 (Or.inr (slot_ne (Or.inl (own_w 30 hw rfl)) (Or.inl (own_w 23 hw rfl)) (by decide) (t := (.array .int)) (t' := (.array .int)) (by decide) (by decide)))
  have f84 := f66.other W77 (Or.inr (slot_ne (Or.inl (own_w 32 hw rfl)) (Or.inl (own_w 23 hw rfl)) (by decide) (t := (.array .double)) (t' := (.array .int)) (by decide) (by decide)))
  have f85 := f67.other W77 (Or.inr (slot_ne (Or.inl (own_w 34 hw rfl)) (Or.inl (own_w 23 hw rfl)) (by decide) (t := (.array .long)) (t' := (.array .int)) (by decide) (by decide)))
  have f86 := f68.other W77 (Or.inr (slot_ne (Or.inr (own_w 36 hw rfl)) (Or.inl (own_w 23 hw rfl)) (by decide) (t := (.object "com/example/adfair/adfair/Ranking$Places")) (t' := (.array .int)) (by decide) (by decide)))
  have f87 := f69.other W77 (Or.inr (slot_ne (Or.inr (own_w 40 hw rfl)) (Or.inl (own_w 23 hw rfl)) (by decide) (t := .long) (t' := (.array .int)) (by decide) (by decide)))
  have f88 := f70.other W77 (Or.inr (slot_ne (Or.inl (own_w 56 hw rfl)) (Or.inl (own_w 23 hw rfl)) (by decide) (t := .int) (t' := (.array .int)) (by decide) (by decide)))
  have f89 := f71.other W77 (Or.inr (slot_ne (Or.inl (own_w 58 hw rfl)) (Or.inl (own_w 23 hw rfl)) (by decide) (t := .int) (t' := (.array .int)) (by decide) (by decide)))
  have f90 := f72.other W77 (Or.inl (Ne.symm ne_r0_r1))
  have f91 := f73.other W77 (Or.inl (Ne.symm ne_r0_r1))
  have f92 := f74.other W77 (Or.inl (Ne.symm ne_r0_r1))
  have f93 := f75.wr W77 (Or.inl (List.mem_of_getElem? (i := 0) rfl))
  have Z77 : n0 ≤ h77.size := Nat.le_trans Z59 (Keep.of_wr W77).1
  have N77 := Fr.snoc X77 N0 g_r0
  refine own_s 12 [] (fun _ k_ => st77 _ k_) ?_
  refine own_aloadN 13 X77.here hx (hb hby d3_12) rfl rfl rfl ?_
  refine own_s 15 [(.int 16), (.ref r0)] (fun _ k_ => XS.bipush X77.here hx rfl (hb hby d3_13) k_) ?_
  obtain ⟨T95, h95, k95, X95, e95, E95, A95, st95⟩ := newP X77 hx hZ (own_w 24 hw rfl) e77 (g := (mkF m 15 #[.val (.ref r0), .val (.ref r1)] [(.int 16), (.ref r0)])) rfl (hb hby d3_15) rfl (by decide) (cap := 16) (by decide) (by decide) (by decide) (by decide)
  obtain ⟨b95, g95⟩ : ∃ z, z = h77.size := ⟨_, rfl⟩
  rw [← g95] at A95 st95
  have g_b95 : n0 ≤ b95 := Nat.le_trans Z77 (Nat.le_of_eq g95.symm)
  have ne_r0_b95 : r0 ≠ b95 := Nat.ne_of_lt (Nat.lt_of_lt_of_le f78.lt (Nat.le_of_eq g95.symm))
  have ne_r1_b95 : r1 ≠ b95 := Nat.ne_of_lt (Nat.lt_of_lt_of_le f79.lt (Nat.le_of_eq g95.symm))
  have sz_b95 : h0.size ≤ b95 := Nat.le_trans f93.1 (Nat.le_of_eq g95.symm)
  have f96 := f78.ext E95
  have f97 := f79.ext E95
  have f98 := f81.ext E95
  have f99 := f82.ext E95
  have f100 := f83.ext E95
  have f101 := f84.ext E95
  have f102 := f85.ext E95
  have f103 := f86.ext E95
  have f104 := f87.ext E95
  have f105 := f88.ext E95
  have f106 := f89.ext E95
  have f107 := f90.ext E95
  have f108 := f91.ext E95
  have f109 := f92.ext E95
  have f110 := f93.ext E95
  have Z95 : n0 ≤ h95.size := Nat.le_trans Z77 E95.1
  refine own_s 17 [(.ref b95), (.ref r0)] (fun _ k_ => st95 _ k_) ?_
  obtain ⟨T112, h112, X112, e112, W112, st112⟩ := putF X95 hx hZ hown (host := "") (Or.inl (own_w 25 hw rfl)) Via.refl e95 f98 f96 (Or.inl (own_w 26 hw rfl)) (own_w 16 hw rfl) (ty := (.array .double)) (by decide) rfl rfl (g := (mkF m 17 #[.val (.ref r0), .val (.ref r1)] [(.ref b95), (.ref r0)])) rfl rfl (hb hby d3_17)
  have f113 := f96.wr W112
  have f114 := f97.wr W112
  have f116 := f99.other W112 (Or.inr (slot_ne (Or.inl (own_w 28 hw rfl)) (Or.inl (own_w 26 hw rfl)) (by decide) (t := (.array .long)) (t' := (.array .double)) (by decide) (by decide)))
  have f117 := f100.other W112 (Or.inr (slot_ne (Or.inl (own_w 30 hw rfl)) (Or.inl (own_w 26 hw rfl)) (by decide) (t := (.array .int)) (t' := (.array .double)) (by decide) (by decide)))
  have f118 := f101.other W112 (Or.inr (slot_ne (Or.inl (own_w 32 hw rfl)) (Or.inl (own_w 26 hw rfl)) (by decide) (t := (.array .double)) (t' := (.array .double)) (by decide) (by decide)))
  have f119 := f102.other W112 (Or.inr (slot_ne (Or.inl (own_w 34 hw rfl)) (Or.inl (own_w 26 hw rfl)) (by decide) (t := (.array .long)) (t' := (.array .double)) (by decide) (by decide)))
  have f120 := f103.other W112 (Or.inr (slot_ne (Or.inr (own_w 36 hw rfl)) (Or.inl (own_w 26 hw rfl)) (by decide) (t := (.object "com/example/adfair/adfair/Ranking$Places")) (t' := (.array .double)) (by decide) (by decide)))
  have f121 := f104.other W112 (Or.inr (slot_ne (Or.inr (own_w 40 hw rfl)) (Or.inl (own_w 26 hw rfl)) (by decide) (t := .long) (t' := (.array .double)) (by decide) (by decide)))
  have f122 := f105.other W112 (Or.inr (slot_ne (Or.inl (own_w 56 hw rfl)) (Or.inl (own_w 26 hw rfl)) (by decide) (t := .int) (t' := (.array .double)) (by decide) (by decide)))
  have f123 := f106.other W112 (Or.inr (slot_ne (Or.inl (own_w 58 hw rfl)) (Or.inl (own_w 26 hw rfl)) (by decide) (t := .int) (t' := (.array .double)) (by decide) (by decide)))
  have f124 := f107.other W112 (Or.inl (Ne.symm ne_r0_r1))
  have f125 := f108.other W112 (Or.inl (Ne.symm ne_r0_r1))
  have f126 := f109.other W112 (Or.inl (Ne.symm ne_r0_r1))
  have f127 := f110.wr W112 (Or.inl (List.mem_of_getElem? (i := 0) rfl))
  have Z112 : n0 ≤ h112.size := Nat.le_trans Z95 (Keep.of_wr W112).1
  have N112 := Fr.snoc X112 N77 g_r0
  refine own_s 20 [] (fun _ k_ => st112 _ k_) ?_
  refine own_aloadN 21 X112.here hx (hb hby d3_20) rfl rfl rfl ?_
  refine own_s 23 [(.int 16), (.ref r0)] (fun _ k_ => XS.bipush X112.here hx rfl (hb hby d3_21) k_) ?_
  obtain ⟨T129, h129, k129, X129, e129, E129, A129, st129⟩ := newP X112 hx hZ (own_w 12 hw rfl) e112 (g := (mkF m 23 #[.val (.ref r0), .val (.ref r1)] [(.int 16), (.ref r0)])) rfl (hb hby d3_23) rfl (by decide) (cap := 16) (by decide) (by decide) (by decide) (by decide)
  obtain ⟨b129, g129⟩ : ∃ z, z = h112.size := ⟨_, rfl⟩
  rw [← g129] at A129 st129
  have g_b129 : n0 ≤ b129 := Nat.le_trans Z112 (Nat.le_of_eq g129.symm)
  have ne_r0_b129 : r0 ≠ b129 := Nat.ne_of_lt (Nat.lt_of_lt_of_le f113.lt (Nat.le_of_eq g129.symm))
  have ne_r1_b129 : r1 ≠ b129 := Nat.ne_of_lt (Nat.lt_of_lt_of_le f114.lt (Nat.le_of_eq g129.symm))
  have sz_b129 : h0.size ≤ b129 := Nat.le_trans f127.1 (Nat.le_of_eq g129.symm)
  have f130 := f113.ext E129
  have f131 := f114.ext E129
  have f132 := f116.ext E129
  have f133 := f117.ext E129
  have f134 := f118.ext E129
  have f135 := f119.ext E129
  have f136 := f120.ext E129
  have f137 := f121.ext E129
  have f138 := f122.ext E129
  have f139 := f123.ext E129
  have f140 := f124.ext E129
  have f141 := f125.ext E129
  have f142 := f126.ext E129
  have f143 := f127.ext E129
  have Z129 : n0 ≤ h129.size := Nat.le_trans Z112 E129.1
  refine own_s 25 [(.ref b129), (.ref r0)] (fun _ k_ => st129 _ k_) ?_
  obtain ⟨T145, h145, X145, e145, W145, st145⟩ := putF X129 hx hZ hown (host := "") (Or.inl (own_w 27 hw rfl)) Via.refl e129 f132 f130 (Or.inl (own_w 28 hw rfl)) (own_w 16 hw rfl) (ty := (.array .long)) (by decide) rfl rfl (g := (mkF m 25 #[.val (.ref r0), .val (.ref r1)] [(.ref b129), (.ref r0)])) rfl rfl (hb hby d3_25)
  have f146 := f130.wr W145
  have f147 := f131.wr W145
  have f149 := f133.other W145 (Or.inr (slot_ne (Or.inl (own_w 30 hw rfl)) (Or.inl (own_w 28 hw rfl)) (by decide) (t := (.array .int)) (t' := (.array .long)) (by decide) (by decide)))
  have f150 := f134.other W145 (Or.inr (slot_ne (Or.inl (own_w 32 hw rfl)) (Or.inl (own_w 28 hw rfl)) (by decide) (t := (.array .double)) (t' := (.array .long)) (by decide) (by decide)))
  have f151 := f135.other W145 (Or.inr (slot_ne (Or.inl (own_w 34 hw rfl)) (Or.inl (own_w 28 hw rfl)) (by decide) (t := (.array .long)) (t' := (.array .long)) (by decide) (by decide)))
  have f152 := f136.other W145 (Or.inr (slot_ne (Or.inr (own_w 36 hw rfl)) (Or.inl (own_w 28 hw rfl)) (by decide) (t := (.object "com/example/adfair/adfair/Ranking$Places")) (t' := (.array .long)) (by decide) (by decide)))
  have f153 := f137.other W145 (Or.inr (slot_ne (Or.inr (own_w 40 hw rfl)) (Or.inl (own_w 28 hw rfl)) (by decide) (t := .long) (t' := (.array .long)) (by decide) (by decide)))
  have f154 := f138.other W145 (Or.inr (slot_ne (Or.inl (own_w 56 hw rfl)) (Or.inl (own_w 28 hw rfl)) (by decide) (t := .int) (t' := (.array .long)) (by decide) (by decide)))
  have f155 := f139.other W145 (Or.inr (slot_ne (Or.inl (own_w 58 hw rfl)) (Or.inl (own_w 28 hw rfl)) (by decide) (t := .int) (t' := (.array .long)) (by decide) (by decide)))
  have f156 := f140.other W145 (Or.inl (Ne.symm ne_r0_r1))
  have f157 := f141.other W145 (Or.inl (Ne.symm ne_r0_r1))
  have f158 := f142.other W145 (Or.inl (Ne.symm ne_r0_r1))
  have f159 := f143.wr W145 (Or.inl (List.mem_of_getElem? (i := 0) rfl))
  have Z145 : n0 ≤ h145.size := Nat.le_trans Z129 (Keep.of_wr W145).1
  have N145 := Fr.snoc X145 N112 g_r0
  refine own_s 28 [] (fun _ k_ => st145 _ k_) ?_
  refine own_aloadN 29 X145.here hx (hb hby d3_28) rfl rfl rfl ?_
  refine own_s 31 [(.int 16), (.ref r0)] (fun _ k_ => XS.bipush X145.here hx rfl (hb hby d3_29) k_) ?_
  obtain ⟨T161, h161, k161, X161, e161, E161, A161, st161⟩ := newP X145 hx hZ (own_w 9 hw rfl) e145 (g := (mkF m 31 #[.val (.ref r0), .val (.ref r1)] [(.int 16), (.ref r0)])) rfl (hb hby d3_31) rfl (by decide) (cap := 16) (by decide) (by decide) (by decide) (by decide)
  obtain ⟨b161, g161⟩ : ∃ z, z = h145.size := ⟨_, rfl⟩
  rw [← g161] at A161 st161
  have g_b161 : n0 ≤ b161 := Nat.le_trans Z145 (Nat.le_of_eq g161.symm)
  have ne_r0_b161 : r0 ≠ b161 := Nat.ne_of_lt (Nat.lt_of_lt_of_le f146.lt (Nat.le_of_eq g161.symm))
  have ne_r1_b161 : r1 ≠ b161 := Nat.ne_of_lt (Nat.lt_of_lt_of_le f147.lt (Nat.le_of_eq g161.symm))
  have sz_b161 : h0.size ≤ b161 := Nat.le_trans f159.1 (Nat.le_of_eq g161.symm)
  have f162 := f146.ext E161
  have f163 := f147.ext E161
  have f164 := f149.ext E161
  have f165 := f150.ext E161
  have f166 := f151.ext E161
  have f167 := f152.ext E161
  have f168 := f153.ext E161
  have f169 := f154.ext E161
  have f170 := f155.ext E161
  have f171 := f156.ext E161
  have f172 := f157.ext E161
  have f173 := f158.ext E161
  have f174 := f159.ext E161
  have Z161 : n0 ≤ h161.size := Nat.le_trans Z145 E161.1
  have f175 : Arv Z h161 b161 k161 .int (16 : Int32) [(.int 0), (.int 0), (.int 0), (.int 0), (.int 0), (.int 0), (.int 0), (.int 0), (.int 0), (.int 0), (.int 0), (.int 0), (.int 0), (.int 0), (.int 0), (.int 0)] (.int 0) := (Arv.new A161 (by decide)).pad (pad_rep [] (.int 0) 16)
  refine own_s 33 [(.ref b161), (.ref r0)] (fun _ k_ => st161 _ k_) ?_
  obtain ⟨T176, h176, X176, e176, W176, st176⟩ := putF X161 hx hZ hown (host := "") (Or.inl (own_w 29 hw rfl)) Via.refl e161 f164 f162 (Or.inl (own_w 30 hw rfl)) (own_w 16 hw rfl) (ty := (.array .int)) (by decide) rfl rfl (g := (mkF m 33 #[.val (.ref r0), .val (.ref r1)] [(.ref b161), (.ref r0)])) rfl rfl (hb hby d3_33)
  have f177 := f162.wr W176
  have f178 := f163.wr W176
  have f179 : Fld Z h176 r0 "com/example/adfair/adfair/Ranking" "queued" "[I" (.ref b161) := f164.same W176
  have f180 := f165.other W176 (Or.inr (slot_ne (Or.inl (own_w 32 hw rfl)) (Or.inl (own_w 30 hw rfl)) (by decide) (t := (.array .double)) (t' := (.array .int)) (by decide) (by decide)))
  have f181 := f166.other W176 (Or.inr (slot_ne (Or.inl (own_w 34 hw rfl)) (Or.inl (own_w 30 hw rfl)) (by decide) (t := (.array .long)) (t' := (.array .int)) (by decide) (by decide)))
  have f182 := f167.other W176 (Or.inr (slot_ne (Or.inr (own_w 36 hw rfl)) (Or.inl (own_w 30 hw rfl)) (by decide) (t := (.object "com/example/adfair/adfair/Ranking$Places")) (t' := (.array .int)) (by decide) (by decide)))
  have f183 := f168.other W176 (Or.inr (slot_ne (Or.inr (own_w 40 hw rfl)) (Or.inl (own_w 30 hw rfl)) (by decide) (t := .long) (t' := (.array .int)) (by decide) (by decide)))
  have f184 := f169.other W176 (Or.inr (slot_ne (Or.inl (own_w 56 hw rfl)) (Or.inl (own_w 30 hw rfl)) (by decide) (t := .int) (t' := (.array .int)) (by decide) (by decide)))
  have f185 := f170.other W176 (Or.inr (slot_ne (Or.inl (own_w 58 hw rfl)) (Or.inl (own_w 30 hw rfl)) (by decide) (t := .int) (t' := (.array .int)) (by decide) (by decide)))
  have f186 := f171.other W176 (Or.inl (Ne.symm ne_r0_r1))
  have f187 := f172.other W176 (Or.inl (Ne.symm ne_r0_r1))
  have f188 := f173.other W176 (Or.inl (Ne.symm ne_r0_r1))
  have f189 := f174.wr W176 (Or.inl (List.mem_of_getElem? (i := 0) rfl))
  have f190 := f175.other W176 (Ne.symm ne_r0_b161)
  have Z176 : n0 ≤ h176.size := Nat.le_trans Z161 (Keep.of_wr W176).1
  have N176 := Fr.snoc X176 N145 g_r0
  refine own_s 36 [] (fun _ k_ => st176 _ k_) ?_
  refine own_aloadN 37 X176.here hx (hb hby d3_36) rfl rfl rfl ?_
  refine own_s 39 [(.int 16), (.ref r0)] (fun _ k_ => XS.bipush X176.here hx rfl (hb hby d3_37) k_) ?_
  obtain ⟨T191, h191, k191, X191, e191, E191, A191, st191⟩ := newP X176 hx hZ (own_w 24 hw rfl) e176 (g := (mkF m 39 #[.val (.ref r0), .val (.ref r1)] [(.int 16), (.ref r0)])) rfl (hb hby d3_39) rfl (by decide) (cap := 16) (by decide) (by decide) (by decide) (by decide)
  obtain ⟨b191, g191⟩ : ∃ z, z = h176.size := ⟨_, rfl⟩
  rw [← g191] at A191 st191
  have g_b191 : n0 ≤ b191 := Nat.le_trans Z176 (Nat.le_of_eq g191.symm)
  have ne_r0_b191 : r0 ≠ b191 := Nat.ne_of_lt (Nat.lt_of_lt_of_le f177.lt (Nat.le_of_eq g191.symm))
  have ne_r1_b191 : r1 ≠ b191 := Nat.ne_of_lt (Nat.lt_of_lt_of_le f178.lt (Nat.le_of_eq g191.symm))
  have ne_b161_b191 : b161 ≠ b191 := Nat.ne_of_lt (Nat.lt_of_lt_of_le f190.lt (Nat.le_of_eq g191.symm))
  have sz_b191 : h0.size ≤ b191 := Nat.le_trans f189.1 (Nat.le_of_eq g191.symm)
  have f192 := f177.ext E191
  have f193 := f178.ext E191
  have f194 := f179.ext E191
  have f195 := f180.ext E191
  have f196 := f181.ext E191
  have f197 := f182.ext E191
  have f198 := f183.ext E191
  have f199 := f184.ext E191
  have f200 := f185.ext E191
  have f201 := f186.ext E191
  have f202 := f187.ext E191
  have f203 := f188.ext E191
  have f204 := f189.ext E191
  have f205 := f190.ext E191
  have Z191 : n0 ≤ h191.size := Nat.le_trans Z176 E191.1
  have f206 : Arv Z h191 b191 k191 .double (16 : Int32) [(.double (FP.l2d 0)), (.double (FP.l2d 0)), (.double (FP.l2d 0)), (.double (FP.l2d 0)), (.double (FP.l2d 0)), (.double (FP.l2d 0)), (.double (FP.l2d 0)), (.double (FP.l2d 0)), (.double (FP.l2d 0)), (.double (FP.l2d 0)), (.double (FP.l2d 0)), (.double (FP.l2d 0)), (.double (FP.l2d 0)), (.double (FP.l2d 0)), (.double (FP.l2d 0)), (.double (FP.l2d 0))] (.double (FP.l2d 0)) := (Arv.newD A191 (by decide)).pad (pad_rep [] (.double (FP.l2d 0)) 16)
  refine own_s 41 [(.ref b191), (.ref r0)] (fun _ k_ => st191 _ k_) ?_
  obtain ⟨T207, h207, X207, e207, W207, st207⟩ := putF X191 hx hZ hown (host := "") (Or.inl (own_w 31 hw rfl)) Via.refl e191 f195 f192 (Or.inl (own_w 32 hw rfl)) (own_w 16 hw rfl) (ty := (.array .double)) (by decide) rfl rfl (g := (mkF m 41 #[.val (.ref r0), .val (.ref r1)] [(.ref b191), (.ref r0)])) rfl rfl (hb hby d3_41)
  have f208 := f192.wr W207
  have f209 := f193.wr W207
  have f210 := f194.other W207 (Or.inr (slot_ne (Or.inl (own_w 30 hw rfl)) (Or.inl (own_w 32 hw rfl)) (by decide) (t := (.array .int)) (t' := (.array .double)) (by decide) (by decide)))
  have f211 : Fld Z h207 r0 "com/example/adfair/adfair/Ranking" "queuedKeys" "[D" (.ref b191) := f195.same W207
  have f212 := f196.other W207 (Or.inr (slot_ne (Or.inl (own_w 34 hw rfl)) (Or.inl (own_w 32 hw rfl)) (by decide) (t := (.array .long)) (t' := (.array .double)) (by decide) (by decide)))
  have f213 := f197.other W207 (Or.inr (slot_ne (Or.inr (own_w 36 hw rfl)) (Or.inl (own_w 32 hw rfl)) (by decide) (t := (.object "com/example/adfair/adfair/Ranking$Places")) (t' := (.array .double)) (by decide) (by decide)))
  have f214 := f198.other W207 (Or.inr (slot_ne (Or.inr (own_w 40 hw rfl)) (Or.inl (own_w 32 hw rfl)) (by decide) (t := .long) (t' := (.array .double)) (by decide) (by decide)))
  have f215 := f199.other W207 (Or.inr (slot_ne (Or.inl (own_w 56 hw rfl)) (Or.inl (own_w 32 hw rfl)) (by decide) (t := .int) (t' := (.array .double)) (by decide) (by decide)))
  have f216 := f200.other W207 (Or.inr (slot_ne (Or.inl (own_w 58 hw rfl)) (Or.inl (own_w 32 hw rfl)) (by decide) (t := .int) (t' := (.array .double)) (by decide) (by decide)))
  have f217 := f201.other W207 (Or.inl (Ne.symm ne_r0_r1))
  have f218 := f202.other W207 (Or.inl (Ne.symm ne_r0_r1))
  have f219 := f203.other W207 (Or.inl (Ne.symm ne_r0_r1))
  have f220 := f204.wr W207 (Or.inl (List.mem_of_getElem? (i := 0) rfl))
  have f221 := f205.other W207 (Ne.symm ne_r0_b161)
  have f222 := f206.other W207 (Ne.symm ne_r0_b191)
  have Z207 : n0 ≤ h207.size := Nat.le_trans Z191 (Keep.of_wr W207).1
  have N207 := Fr.snoc X207 N176 g_r0
  refine own_s 44 [] (fun _ k_ => st207 _ k_) ?_
  refine own_aloadN 45 X207.here hx (hb hby d3_44) rfl rfl rfl ?_
  refine own_s 47 [(.int 16), (.ref r0)] (fun _ k_ => XS.bipush X207.here hx rfl (hb hby d3_45) k_) ?_
  obtain ⟨T223, h223, k223, X223, e223, E223, A223, st223⟩ := newP X207 hx hZ (own_w 12 hw rfl) e207 (g := (mkF m 47 #[.val (.ref r0), .val (.ref r1)] [(.int 16), (.ref r0)])) rfl (hb hby d3_47) rfl (by decide) (cap := 16) (by decide) (by decide) (by decide) (by decide)
  obtain ⟨b223, g223⟩ : ∃ z, z = h207.size := ⟨_, rfl⟩
  rw [← g223] at A223 st223
  have g_b223 : n0 ≤ b223 := Nat.le_trans Z207 (Nat.le_of_eq g223.symm)
  have ne_r0_b223 : r0 ≠ b223 := Nat.ne_of_lt (Nat.lt_of_lt_of_le f208.lt (Nat.le_of_eq g223.symm))
  have ne_r1_b223 : r1 ≠ b223 := Nat.ne_of_lt (Nat.lt_of_lt_of_le f209.lt (Nat.le_of_eq g223.symm))
  have ne_b161_b223 : b161 ≠ b223 := Nat.ne_of_lt (Nat.lt_of_lt_of_le f221.lt (Nat.le_of_eq g223.symm))
  have ne_b191_b223 : b191 ≠ b223 := Nat.ne_of_lt (Nat.lt_of_lt_of_le f222.lt (Nat.le_of_eq g223.symm))
  have sz_b223 : h0.size ≤ b223 := Nat.le_trans f220.1 (Nat.le_of_eq g223.symm)
  have f224 := f208.ext E223
  have f225 := f209.ext E223
  have f226 := f210.ext E223
  have f227 := f211.ext E223
  have f228 := f212.ext E223
  have f229 := f213.ext E223
  have f230 := f214.ext E223
  have f231 := f215.ext E223
  have f232 := f216.ext E223
  have f233 := f217.ext E223
  have f234 := f218.ext E223
  have f235 := f219.ext E223
  have f236 := f220.ext E223
  have f237 := f221.ext E223
  have f238 := f222.ext E223
  have Z223 : n0 ≤ h223.size := Nat.le_trans Z207 E223.1
  have f239 : Arv Z h223 b223 k223 .long (16 : Int32) [(.long 0), (.long 0), (.long 0), (.long 0), (.long 0), (.long 0), (.long 0), (.long 0), (.long 0), (.long 0), (.long 0), (.long 0), (.long 0), (.long 0), (.long 0), (.long 0)] (.long 0) := (Arv.new A223 (by decide)).pad (pad_rep [] (.long 0) 16)
  refine own_s 49 [(.ref b223), (.ref r0)] (fun _ k_ => st223 _ k_) ?_
  obtain ⟨T240, h240, X240, e240, W240, st240⟩ := putF X223 hx hZ hown (host := "") (Or.inl (own_w 33 hw rfl)) Via.refl e223 f228 f224 (Or.inl (own_w 34 hw rfl)) (own_w 16 hw rfl) (ty := (.array .long)) (by decide) rfl rfl (g := (mkF m 49 #[.val (.ref r0), .val (.ref r1)] [(.ref b223), (.ref r0)])) rfl rfl (hb hby d3_49)
  have f241 := f224.wr W240
  have f242 := f225.wr W240
  have f243 := f226.other W240 (Or.inr (slot_ne (Or.inl (own_w 30 hw rfl)) (Or.inl (own_w 34 hw rfl)) (by decide) (t := (.array .int)) (t' := (.array .long)) (by decide) (by decide)))
  have f244 := f227.other W240 (Or.inr (slot_ne (Or.inl (own_w 32 hw rfl)) (Or.inl (own_w 34 hw rfl)) (by decide) (t := (.array .double)) (t' := (.array .long)) (by decide) (by decide)))
  have f245 : Fld Z h240 r0 "com/example/adfair/adfair/Ranking" "queuedOrders" "[J" (.ref b223) := f228.same W240
  have f246 := f229.other W240 (Or.inr (slot_ne (Or.inr (own_w 36 hw rfl)) (Or.inl (own_w 34 hw rfl)) (by decide) (t := (.object "com/example/adfair/adfair/Ranking$Places")) (t' := (.array .long)) (by decide) (by decide)))
  have f247 := f230.other W240 (Or.inr (slot_ne (Or.inr (own_w 40 hw rfl)) (Or.inl (own_w 34 hw rfl)) (by decide) (t := .long) (t' := (.array .long)) (by decide) (by decide)))
  have f248 := f231.other W240 (Or.inr (slot_ne (Or.inl (own_w 56 hw rfl)) (Or.inl (own_w 34 hw rfl)) (by decide) (t := .int) (t' := (.array .long)) (by decide) (by decide)))
  have f249 := f232.other W240 (Or.inr (slot_ne (Or.inl (own_w 58 hw rfl)) (Or.inl (own_w 34 hw rfl)) (by decide) (t := .int) (t' := (.array .long)) (by decide) (by decide)))
  have f250 := f233.other W240 (Or.inl (Ne.symm ne_r0_r1))
  have f251 := f234.other W240 (Or.inl (Ne.symm ne_r0_r1))
  have f252 := f235.other W240 (Or.inl (Ne.symm ne_r0_r1))
  have f253 := f236.wr W240 (Or.inl (List.mem_of_getElem? (i := 0) rfl))
  have f254 := f237.other W240 (Ne.symm ne_r0_b161)
  have f255 := f238.other W240 (Ne.symm ne_r0_b191)
  have f256 := f239.other W240 (Ne.symm ne_r0_b223)
  have Z240 : n0 ≤ h240.size := Nat.le_trans Z223 (Keep.of_wr W240).1
  have N240 := Fr.snoc X240 N207 g_r0
  refine own_s 52 [] (fun _ k_ => st240 _ k_) ?_
  refine own_aloadN 53 X240.here hx (hb hby d3_52) rfl rfl rfl ?_
  refine own_aloadN 54 X240.here hx (hb hby d3_53) rfl rfl rfl ?_
  obtain ⟨T257, h257, X257, e257, W257, st257⟩ := putF X240 hx hZ hown (host := "") (Or.inl (own_w 35 hw rfl)) Via.refl e240 f246 f241 (Or.inr ⟨(own_w 36 hw rfl), rfl, hnm⟩) (own_w 16 hw rfl) (ty := (.object "com/example/adfair/adfair/Ranking$Places")) (by decide) rfl rfl (g := (mkF m 54 #[.val (.ref r0), .val (.ref r1)] [(.ref r1), (.ref r0)])) rfl rfl (hb hby d3_54)
  have f258 := f241.wr W257
  have f259 := f242.wr W257
  have f260 := f243.other W257 (Or.inr (slot_ne (Or.inl (own_w 30 hw rfl)) (Or.inr (own_w 36 hw rfl)) (by decide) (t := (.array .int)) (t' := (.object "com/example/adfair/adfair/Ranking$Places")) (by decide) (by decide)))
  have f261 := f244.other W257 (Or.inr (slot_ne (Or.inl (own_w 32 hw rfl)) (Or.inr (own_w 36 hw rfl)) (by decide) (t := (.array .double)) (t' := (.object "com/example/adfair/adfair/Ranking$Places")) (by decide) (by decide)))
  have f262 := f245.other W257 (Or.inr (slot_ne (Or.inl (own_w 34 hw rfl)) (Or.inr (own_w 36 hw rfl)) (by decide) (t := (.array .long)) (t' := (.object "com/example/adfair/adfair/Ranking$Places")) (by decide) (by decide)))
  have f263 : Fld Z h257 r0 "com/example/adfair/adfair/Ranking" "places" "Lcom/example/adfair/adfair/Ranking$Places;" (.ref r1) := f246.same W257
  have f264 := f247.other W257 (Or.inr (slot_ne (Or.inr (own_w 40 hw rfl)) (Or.inr (own_w 36 hw rfl)) (by decide) (t := .long) (t' := (.object "com/example/adfair/adfair/Ranking$Places")) (by decide) (by decide)))
  have f265 := f248.other W257 (Or.inr (slot_ne (Or.inl (own_w 56 hw rfl)) (Or.inr (own_w 36 hw rfl)) (by decide) (t := .int) (t' := (.object "com/example/adfair/adfair/Ranking$Places")) (by decide) (by decide)))
  have f266 := f249.other W257 (Or.inr (slot_ne (Or.inl (own_w 58 hw rfl)) (Or.inr (own_w 36 hw rfl)) (by decide) (t := .int) (t' := (.object "com/example/adfair/adfair/Ranking$Places")) (by decide) (by decide)))
  have f267 := f250.other W257 (Or.inl (Ne.symm ne_r0_r1))
  have f268 := f251.other W257 (Or.inl (Ne.symm ne_r0_r1))
  have f269 := f252.other W257 (Or.inl (Ne.symm ne_r0_r1))
  have f270 := f253.wr W257 (Or.inl (List.mem_of_getElem? (i := 0) rfl))
  have f271 := f254.other W257 (Ne.symm ne_r0_b161)
  have f272 := f255.other W257 (Ne.symm ne_r0_b191)
  have f273 := f256.other W257 (Ne.symm ne_r0_b223)
  have Z257 : n0 ≤ h257.size := Nat.le_trans Z240 (Keep.of_wr W257).1
  have N257 := Fr.snoc X257 N240 g_r0
  refine own_s 57 [] (fun _ k_ => st257 _ k_) ?_
  refine own_aloadN 58 X257.here hx (hb hby d3_57) rfl rfl rfl ?_
  refine own_s 59 [(.ref r1), (.ref r1)] (fun _ k_ => XS.dup X257.here hx rfl (hb hby d3_58) rfl rfl k_) ?_
  obtain ⟨T274, X274, e274, st274⟩ := own_getR X257 hx hZ hown (own_w 37 hw rfl) e257 f267 (g := (mkF m 59 #[.val (.ref r0), .val (.ref r1)] [(.ref r1), (.ref r1)])) rfl rfl (hb hby d3_59)
  refine own_s 62 [(.long 0), (.ref r1)] (fun _ k_ => st274 _ k_) ?_
  refine own_s 63 [(.long 1), (.long 0), (.ref r1)] (fun _ k_ => XS.lconst X274.here hx rfl (hb hby d3_62) k_) ?_
  refine own_s 64 [(.long ((0 : Int64) + (1 : Int64))), (.ref r1)] (fun _ k_ => XS.ladd X274.here hx rfl (hb hby d3_63) rfl k_) ?_
  rw [show ((0 : Int64) + (1 : Int64)) = (1 : Int64) from by decide]
  obtain ⟨T275, h275, X275, e275, W275, st275⟩ := own_putR X274 hx hZ hown (own_w 37 hw rfl) e274 f267 f259 (own_w 38 hw rfl) (own_w 1 hw rfl) (ty := .long) (by decide) rfl rfl (g := (mkF m 64 #[.val (.ref r0), .val (.ref r1)] [(.long 1), (.ref r1)])) rfl rfl (hb hby d3_64)
  have f276 := f258.wr W275
  have f278 := f260.other W275 (Or.inl ne_r0_r1)
  have f279 := f261.other W275 (Or.inl ne_r0_r1)
  have f280 := f262.other W275 (Or.inl ne_r0_r1)
  have f281 := f263.other W275 (Or.inl ne_r0_r1)
  have f282 := f264.other W275 (Or.inl ne_r0_r1)
  have f283 := f265.other W275 (Or.inl ne_r0_r1)
  have f284 := f266.other W275 (Or.inl ne_r0_r1)
  have f285 : Fld Z h275 r1 "com/example/adfair/adfair/Ranking$Places" "rankings" "J" (.long 1) := f267.same W275
  have f286 := f268.other W275 (Or.inr (slot_ne (Or.inl (own_w 11 hw rfl)) (Or.inl (own_w 38 hw rfl)) (by decide) (t := (.array .int)) (t' := .long) (by decide) (by decide)))
  have f287 := f269.other W275 (Or.inr (slot_ne (Or.inl (own_w 14 hw rfl)) (Or.inl (own_w 38 hw rfl)) (by decide) (t := (.array .long)) (t' := .long) (by decide) (by decide)))
  have f288 := f270.wr W275 (Or.inl (List.mem_of_getElem? (i := 1) rfl))
  have f289 := f271.other W275 (Ne.symm ne_r1_b161)
  have f290 := f272.other W275 (Ne.symm ne_r1_b191)
  have f291 := f273.other W275 (Ne.symm ne_r1_b223)
  have Z275 : n0 ≤ h275.size := Nat.le_trans Z257 (Keep.of_wr W275).1
  have N275 := Fr.snoc X275 N257 g_r1
  refine own_s 67 [] (fun _ k_ => st275 _ k_) ?_
  refine own_aloadN 68 X275.here hx (hb hby d3_67) rfl rfl rfl ?_
  refine own_aloadN 69 X275.here hx (hb hby d3_68) rfl rfl rfl ?_
  obtain ⟨T292, X292, e292, st292⟩ := own_getR X275 hx hZ hown (own_w 37 hw rfl) e275 f285 (g := (mkF m 69 #[.val (.ref r0), .val (.ref r1)] [(.ref r1), (.ref r0)])) rfl rfl (hb hby d3_69)
  refine own_s 72 [(.long 1), (.ref r0)] (fun _ k_ => st292 _ k_) ?_
  obtain ⟨T293, h293, X293, e293, W293, st293⟩ := putF X292 hx hZ hown (host := "") (Or.inl (own_w 39 hw rfl)) Via.refl e292 f282 f276 (Or.inr ⟨(own_w 40 hw rfl), rfl, hnm⟩) (own_w 16 hw rfl) (ty := .long) (by decide) rfl rfl (g := (mkF m 72 #[.val (.ref r0), .val (.ref r1)] [(.long 1), (.ref r0)])) rfl rfl (hb hby d3_72)
  have f296 := f278.other W293 (Or.inr (slot_ne (Or.inl (own_w 30 hw rfl)) (Or.inr (own_w 40 hw rfl)) (by decide) (t := (.array .int)) (t' := .long) (by decide) (by decide)))
  have f297 := f279.other W293 (Or.inr (slot_ne (Or.inl (own_w 32 hw rfl)) (Or.inr (own_w 40 hw rfl)) (by decide) (t := (.array .double)) (t' := .long) (by decide) (by decide)))
  have f298 := f280.other W293 (Or.inr (slot_ne (Or.inl (own_w 34 hw rfl)) (Or.inr (own_w 40 hw rfl)) (by decide) (t := (.array .long)) (t' := .long) (by decide) (by decide)))
  have f299 := f281.other W293 (Or.inr (slot_ne (Or.inr (own_w 36 hw rfl)) (Or.inr (own_w 40 hw rfl)) (by decide) (t := (.object "com/example/adfair/adfair/Ranking$Places")) (t' := .long) (by decide) (by decide)))
  have f300 : Fld Z h293 r0 "com/example/adfair/adfair/Ranking" "number" "J" (.long 1) := f282.same W293
  have f301 := f283.other W293 (Or.inr (slot_ne (Or.inl (own_w 56 hw rfl)) (Or.inr (own_w 40 hw rfl)) (by decide) (t := .int) (t' := .long) (by decide) (by decide)))
  have f302 := f284.other W293 (Or.inr (slot_ne (Or.inl (own_w 58 hw rfl)) (Or.inr (own_w 40 hw rfl)) (by decide) (t := .int) (t' := .long) (by decide) (by decide)))
  have f303 := f285.other W293 (Or.inl (Ne.symm ne_r0_r1))
  have f304 := f286.other W293 (Or.inl (Ne.symm ne_r0_r1))
  have f305 := f287.other W293 (Or.inl (Ne.symm ne_r0_r1))
  have f306 := f288.wr W293 (Or.inl (List.mem_of_getElem? (i := 0) rfl))
  have f307 := f289.other W293 (Ne.symm ne_r0_b161)
  have f308 := f290.other W293 (Ne.symm ne_r0_b191)
  have f309 := f291.other W293 (Ne.symm ne_r0_b223)
  have Z293 : n0 ≤ h293.size := Nat.le_trans Z275 (Keep.of_wr W293).1
  have N293 := Fr.snoc X293 N275 g_r0
  refine own_s 75 [] (fun _ k_ => st293 _ k_) ?_
  obtain ⟨fs, hr, hrun, hended, hW, hsame⟩ := X293.leave (v := none) (fun _ => rfl)
  refine own_at ?_ (hG _ _ ⟨hrun, hended, _, _, rfl, ?_, ⟨_, rfl⟩, hW, hsame.mono (by decide) (by decide)⟩)
  · show Steps p.tables e below (T293.setTop (mkF m 75 #[.val (.ref r0), .val (.ref r1)] [])) _
    exact X293.returnOut hx Bd.returns (hb hby d3_75) hr
  · show QRI0 Z r0 r1 pa ha h0 n0 _ T293.heap _
    rw [e293]
    exact ⟨b161, b191, b223, k161, k191, k223, rfl, N293, f306, g_b161, g_b191, g_b223, sz_b161, sz_b191, sz_b223, ne_b161_b191, ne_b161_b223, ne_b191_b223, f296, f297, f298, f299, f300, f301, f302, f303, f304, f305, f307, f308, f309⟩
theorem ef_rmRI1 (m : MethodId) (x0 : Addr) (x1 : Addr) : entryFrame m #[(.ref x0), (.ref x1)] 2 = mkF m 0 #[.val (.ref x0), .val (.ref x1)] [] := by first | (simp [entryFrame, mkF, argsToLocals, Value.category]; done) | rfl
def QRI1 (Z : State) (r0 : Addr) (r1 : Addr) (pa : Addr) (ha : Addr) (h0 : Heap) (n0 : Nat) (v : Option Value) (h : Heap) (L : List Loc) : Prop := ∃ (qa : Addr) (ka : Addr) (oa : Addr) (cq : ClassId) (ck : ClassId) (co : ClassId), v = none ∧ Fr n0 L ∧ Keep h0 h [r0, r1] ∧ n0 ≤ qa ∧ n0 ≤ ka ∧ n0 ≤ oa ∧ h0.size ≤ qa ∧ h0.size ≤ ka ∧ h0.size ≤ oa ∧ qa ≠ ka ∧ qa ≠ oa ∧ ka ≠ oa ∧ Fld Z h r0 "com/example/adfair/adfair/Ranking" "queued" "[I" (.ref qa) ∧ Fld Z h r0 "com/example/adfair/adfair/Ranking" "queuedKeys" "[D" (.ref ka) ∧ Fld Z h r0 "com/example/adfair/adfair/Ranking" "queuedOrders" "[J" (.ref oa) ∧ Fld Z h r0 "com/example/adfair/adfair/Ranking" "places" "Lcom/example/adfair/adfair/Ranking$Places;" (.ref r1) ∧ Fld Z h r0 "com/example/adfair/adfair/Ranking" "number" "J" (.long 2) ∧ Fld Z h r0 "com/example/adfair/adfair/Ranking" "queueFirst" "I" (.int 0) ∧ Fld Z h r0 "com/example/adfair/adfair/Ranking" "queueSize" "I" (.int 0) ∧ Fld Z h r1 "com/example/adfair/adfair/Ranking$Places" "rankings" "J" (.long 2) ∧ Fld Z h r1 "com/example/adfair/adfair/Ranking$Places" "place" "[I" (.ref pa) ∧ Fld Z h r1 "com/example/adfair/adfair/Ranking$Places" "holder" "[J" (.ref ha) ∧ Arv Z h qa cq .int (16 : Int32) [(.int 0), (.int 0), (.int 0), (.int 0), (.int 0), (.int 0), (.int 0), (.int 0), (.int 0), (.int 0), (.int 0), (.int 0), (.int 0), (.int 0), (.int 0), (.int 0)] (.int 0) ∧ Arv Z h ka ck .double (16 : Int32) [(.double (FP.l2d 0)), (.double (FP.l2d 0)), (.double (FP.l2d 0)), (.double (FP.l2d 0)), (.double (FP.l2d 0)), (.double (FP.l2d 0)), (.double (FP.l2d 0)), (.double (FP.l2d 0)), (.double (FP.l2d 0)), (.double (FP.l2d 0)), (.double (FP.l2d 0)), (.double (FP.l2d 0)), (.double (FP.l2d 0)), (.double (FP.l2d 0)), (.double (FP.l2d 0)), (.double (FP.l2d 0))] (.double (FP.l2d 0)) ∧ Arv Z h oa co .long (16 : Int32) [(.long 0), (.long 0), (.long 0), (.long 0), (.long 0), (.long 0), (.long 0), (.long 0), (.long 0), (.long 0), (.long 0), (.long 0), (.long 0), (.long 0), (.long 0), (.long 0)] (.long 0)
set_option maxRecDepth 65536 in
set_option maxHeartbeats 40000000 in
theorem rmRI1 (l : Launch) (Z : State) (a0 : Array Value) (hw : ∀ d ∈ tables_1, d.before a0 Z = true) (ws : List Jvm.Cond) (r0 : Addr) (r1 : Addr) (pa : Addr) (ha : Addr) (h0 : Heap) (n0 : Nat) (Z0 : n0 ≤ h0.size) (u0 : Exa Z h0 r0 "com/example/adfair/adfair/Ranking") (u1 : Exa Z h0 r1 "com/example/adfair/adfair/Ranking$Places") (u2 : Fld Z h0 r0 "com/example/adfair/adfair/Ranking" "members" "[I" .null) (u3 : Fld Z h0 r0 "com/example/adfair/adfair/Ranking" "keys" "[D" .null) (u4 : Fld Z h0 r0 "com/example/adfair/adfair/Ranking" "orders" "[J" .null) (u5 : Fld Z h0 r0 "com/example/adfair/adfair/Ranking" "queued" "[I" .null) (u6 : Fld Z h0 r0 "com/example/adfair/adfair/Ranking" "queuedKeys" "[D" .null) (u7 : Fld Z h0 r0 "com/example/adfair/adfair/Ranking" "queuedOrders" "[J" .null) (u8 : Fld Z h0 r0 "com/example/adfair/adfair/Ranking" "places" "Lcom/example/adfair/adfair/Ranking$Places;" .null) (u9 : Fld Z h0 r0 "com/example/adfair/adfair/Ranking" "number" "J" (.long 0)) (u10 : Fld Z h0 r0 "com/example/adfair/adfair/Ranking" "queueFirst" "I" (.int 0)) (u11 : Fld Z h0 r0 "com/example/adfair/adfair/Ranking" "queueSize" "I" (.int 0)) (u12 : Fld Z h0 r1 "com/example/adfair/adfair/Ranking$Places" "rankings" "J" (.long 1)) (u13 : Fld Z h0 r1 "com/example/adfair/adfair/Ranking$Places" "place" "[I" (.ref pa)) (u14 : Fld Z h0 r1 "com/example/adfair/adfair/Ranking$Places" "holder" "[J" (.ref ha)) (ne_r0_r1 : r0 ≠ r1) (g_r0 : n0 ≤ r0) (g_r1 : n0 ≤ r1) :
    MetFree l (⟨"com/example/adfair/adfair/Ranking", "<init>", "(Lcom/example/adfair/adfair/Ranking$Places;)V"⟩ : MethodName) (head1 (Jvm.Cond.code (⟨"com/example/adfair/adfair/Ranking", "<init>", "(Lcom/example/adfair/adfair/Ranking$Places;)V"⟩ : MethodName) prog_20_method_2_code 2 none :: ws) ({ frames := 1, cells := 6, slots := 96, locals := 20 } : Room)) (fun a U => a = #[(.ref r0), (.ref r1)] ∧ Z.Warmed39 U.vm ∧ U.heap = h0) (fun _ _ _ _ _ => True) (fun _ U o U' => ∃ v L, o = .returned v ∧ QRI1 Z r0 r1 pa ha h0 n0 v U'.heap L ∧ FrameEnd U o U' L ({ frames := 1, cells := 6, slots := 96, locals := 20 } : Room).cells ({ frames := 1, cells := 6, slots := 96, locals := 20 } : Room).slots) := by
  refine MetFree.of_bodySF (plainFor_of_name pn_3) hisR ?_
  intro p e s m args below meth c s₁ Bd hml0 hP hK
  obtain ⟨rfl, hZ, hh⟩ := hP
  have hx := Bd.exec
  have hby := Bd.bytes
  have hml : c.maxLocals = 2 := hml0
  have hown : s.vm.findClass "com/example/adfair/adfair/Ranking" = some m.cls := findClass_of_methodNamed Bd.named
  have hnm := (name_of_methodNamed Bd.named Bd.method).1
  have X0 : Stand p l e ({ frames := 1, cells := 6, slots := 96, locals := 20 } : Room) s m #[(.ref r0), (.ref r1)] below meth c s₁ [] 0 0 := Stand.of_body Bd
  have e0 : s₁.heap = h0 := by rw [← hh, Bd.state]; rfl
  have N0 := Fr.nil n0
  refine own_open fun G hG => ?_
  refine own_go (B := s₁.setTop (mkF m 0 #[.val (.ref r0), .val (.ref r1)] [])) (fun t_ k_ => castTop (ef_rmRI1 m r0 r1) k_) ?_
  have K0 : Keep h0 h0 [r0, r1] := Keep.refl h0 _
  refine own_aloadN 1 X0.here hx (hb hby d3_0) rfl rfl rfl ?_
  obtain ⟨T311, X311, e311, st311⟩ := initO X0 hx hZ hown (own_w 21 hw rfl) (own_w 7 hw rfl) (own_w 8 hw rfl) e0 (g := (mkF m 1 #[.val (.ref r0), .val (.ref r1)] [(.ref r0)])) rfl (by rw [hml]; rfl) rfl (hb hby d3_1) (by decide) (W := 0) (by show 2 * 0 + _ ≤ _; exact Nat.le_of_eq rfl) (by decide)
  refine own_s 4 [] (fun _ k_ => st311 _ k_) ?_
  refine own_aloadN 5 X311.here hx (hb hby d3_4) rfl rfl rfl ?_
  refine own_s 7 [(.int 16), (.ref r0)] (fun _ k_ => XS.bipush X311.here hx rfl (hb hby d3_5) k_) ?_
  obtain ⟨T312, h312, k312, X312, e312, E312, A312, st312⟩ := newP X311 hx hZ (own_w 9 hw rfl) e311 (g := (mkF m 7 #[.val (.ref r0), .val (.ref r1)] [(.int 16), (.ref r0)])) rfl (hb hby d3_7) rfl (by decide) (cap := 16) (by decide) (by decide) (by decide) (by decide)
  obtain ⟨b312, g312⟩ : ∃ z, z = h0.size := ⟨_, rfl⟩
  rw [← g312] at A312 st312
  have g_b312 : n0 ≤ b312 := Nat.le_trans Z0 (Nat.le_of_eq g312.symm)
  have ne_r0_b312 : r0 ≠ b312 := Nat.ne_of_lt (Nat.lt_of_lt_of_le u0.lt (Nat.le_of_eq g312.symm))
  have ne_r1_b312 : r1 ≠ b312 := Nat.ne_of_lt (Nat.lt_of_lt_of_le u1.lt (Nat.le_of_eq g312.symm))
  have sz_b312 : h0.size ≤ b312 := Nat.le_trans K0.1 (Nat.le_of_eq g312.symm)
  have f313 := u0.ext E312
  have f314 := u1.ext E312
  have f315 := u2.ext E312
  have f316 := u3.ext E312
  have f317 := u4.ext E312
  have f318 := u5.ext E312
  have f319 := u6.ext E312
  have f320 := u7.ext E312
  have f321 := u8.ext E312
  have f322 := u9.ext E312
  have f323 := u10.ext E312
  have f324 := u11.ext E312
  have f325 := u12.ext E312
  have f326 := u13.ext E312
  have f327 := u14.ext E312
  have f328 := K0.ext E312
  have Z312 : n0 ≤ h312.size := Nat.le_trans Z0 E312.1
  refine own_s 9 [(.ref b312), (.ref r0)] (fun _ k_ => st312 _ k_) ?_
  obtain ⟨T330, h330, X330, e330, W330, st330⟩ := putF X312 hx hZ hown (host := "") (Or.inl (own_w 22 hw rfl)) Via.refl e312 f315 f313 (Or.inl (own_w 23 hw rfl)) (own_w 16 hw rfl) (ty := (.array .int)) (by decide) rfl rfl (g := (mkF m 9 #[.val (.ref r0), .val (.ref r1)] [(.ref b312), (.ref r0)])) rfl rfl (hb hby d3_9)
  have f331 := f313.wr W330
  have f332 := f314.wr W330
  have f334 := f316.other W330 (Or.inr (slot_ne (Or.inl (own_w 26 hw rfl)) (Or.inl (own_w 23 hw rfl)) (by decide) (t := (.array .double)) (t' := (.array .int)) (by decide) (by decide)))
  have f335 := f317.other W330 (Or.inr (slot_ne (Or.inl (own_w 28 hw rfl)) (Or.inl (own_w 23 hw rfl)) (by decide) (t := (.array .long)) (t' := (.array .int)) (by decide) (by decide)))
  have f336 := f318.other W330 (Or.inr (slot_ne (Or.inl (own_w 30 hw rfl)) (Or.inl (own_w 23 hw rfl)) (by decide) (t := (.array .int)) (t' := (.array .int)) (by decide) (by decide)))
  have f337 := f319.other W330 (Or.inr (slot_ne (Or.inl (own_w 32 hw rfl)) (Or.inl (own_w 23 hw rfl)) (by decide) (t := (.array .double)) (t' := (.array .int)) (by decide) (by decide)))
  have f338 := f320.other W330 (Or.inr (slot_ne (Or.inl (own_w 34 hw rfl)) (Or.inl (own_w 23 hw rfl)) (by decide) (t := (.array .long)) (t' := (.array .int)) (by decide) (by decide)))
  have f339 := f321.other W330 (Or.inr (slot_ne (Or.inr (own_w 36 hw rfl)) (Or.inl (own_w 23 hw rfl)) (by decide) (t := (.object "com/example/adfair/adfair/Ranking$Places")) (t' := (.array .int)) (by decide) (by decide)))
  have f340 := f322.other W330 (Or.inr (slot_ne (Or.inr (own_w 40 hw rfl)) (Or.inl (own_w 23 hw rfl)) (by decide) (t := .long) (t' := (.array .int)) (by decide) (by decide)))
  have f341 := f323.other W330 (Or.inr (slot_ne (Or.inl (own_w 56 hw rfl)) (Or.inl (own_w 23 hw rfl)) (by decide) (t := .int) (t' := (.array .int)) (by decide) (by decide)))
  have f342 := f324.other W330 (Or.inr (slot_ne (Or.inl (own_w 58 hw rfl)) (Or.inl (own_w 23 hw rfl)) (by decide) (t := .int) (t' := (.array .int)) (by decide) (by decide)))
  have f343 := f325.other W330 (Or.inl (Ne.symm ne_r0_r1))
  have f344 := f326.other W330 (Or.inl (Ne.symm ne_r0_r1))
  have f345 := f327.other W330 (Or.inl (Ne.symm ne_r0_r1))
  have f346 := f328.wr W330 (Or.inl (List.mem_of_getElem? (i := 0) rfl))
  have Z330 : n0 ≤ h330.size := Nat.le_trans Z312 (Keep.of_wr W330).1
  have N330 := Fr.snoc X330 N0 g_r0
  refine own_s 12 [] (fun _ k_ => st330 _ k_) ?_
  refine own_aloadN 13 X330.here hx (hb hby d3_12) rfl rfl rfl ?_
  refine own_s 15 [(.int 16), (.ref r0)] (fun _ k_ => XS.bipush X330.here hx rfl (hb hby d3_13) k_) ?_
  obtain ⟨T348, h348, k348, X348, e348, E348, A348, st348⟩ := newP X330 hx hZ (own_w 24 hw rfl) e330 (g := (mkF m 15 #[.val (.ref r0), .val (.ref r1)] [(.int 16), (.ref r0)])) rfl (hb hby d3_15) rfl (by decide) (cap := 16) (by decide) (by decide) (by decide) (by decide)
  obtain ⟨b348, g348⟩ : ∃ z, z = h330.size := ⟨_, rfl⟩
  rw [← g348] at A348 st348
  have g_b348 : n0 ≤ b348 := Nat.le_trans Z330 (Nat.le_of_eq g348.symm)
  have ne_r0_b348 : r0 ≠ b348 := Nat.ne_of_lt (Nat.lt_of_lt_of_le f331.lt (Nat.le_of_eq g348.symm))
  have ne_r1_b348 : r1 ≠ b348 := Nat.ne_of_lt (Nat.lt_of_lt_of_le f332.lt (Nat.le_of_eq g348.symm))
  have sz_b348 : h0.size ≤ b348 := Nat.le_trans f346.1 (Nat.le_of_eq g348.symm)
  have f349 := f331.ext E348
  have f350 := f332.ext E348
  have f351 := f334.ext E348
  have f352 := f335.ext E348
  have f353 := f336.ext E348
  have f354 := f337.ext E348
  have f355 := f338.ext E348
  have f356 := f339.ext E348
  have f357 := f340.ext E348
  have f358 := f341.ext E348
  have f359 := f342.ext E348
  have f360 := f343.ext E348
  have f361 := f344.ext E348
  have f362 := f345.ext E348
  have f363 := f346.ext E348
  have Z348 : n0 ≤ h348.size := Nat.le_trans Z330 E348.1
  refine own_s 17 [(.ref b348), (.ref r0)] (fun _ k_ => st348 _ k_) ?_
  obtain ⟨T365, h365, X365, e365, W365, st365⟩ := putF X348 hx hZ hown (host := "") (Or.inl (own_w 25 hw rfl)) Via.refl e348 f351 f349 (Or.inl (own_w 26 hw rfl)) (own_w 16 hw rfl) (ty := (.array .double)) (by decide) rfl rfl (g := (mkF m 17 #[.val (.ref r0), .val (.ref r1)] [(.ref b348), (.ref r0)])) rfl rfl (hb hby d3_17)
  have f366 := f349.wr W365
  have f367 := f350.wr W365
  have f369 := f352.other W365 (Or.inr (slot_ne (Or.inl (own_w 28 hw rfl)) (Or.inl (own_w 26 hw rfl)) (by decide) (t := (.array .long)) (t' := (.array .double)) (by decide) (by decide)))
  have f370 := f353.other W365 (Or.inr (slot_ne (Or.inl (own_w 30 hw rfl)) (Or.inl (own_w 26 hw rfl)) (by decide) (t := (.array .int)) (t' := (.array .double)) (by decide) (by decide)))
  have f371 := f354.other W365 (Or.inr (slot_ne (Or.inl (own_w 32 hw rfl)) (Or.inl (own_w 26 hw rfl)) (by decide) (t := (.array .double)) (t' := (.array .double)) (by decide) (by decide)))
  have f372 := f355.other W365 (Or.inr (slot_ne (Or.inl (own_w 34 hw rfl)) (Or.inl (own_w 26 hw rfl)) (by decide) (t := (.array .long)) (t' := (.array .double)) (by decide) (by decide)))
  have f373 := f356.other W365 (Or.inr (slot_ne (Or.inr (own_w 36 hw rfl)) (Or.inl (own_w 26 hw rfl)) (by decide) (t := (.object "com/example/adfair/adfair/Ranking$Places")) (t' := (.array .double)) (by decide) (by decide)))
  have f374 := f357.other W365 (Or.inr (slot_ne (Or.inr (own_w 40 hw rfl)) (Or.inl (own_w 26 hw rfl)) (by decide) (t := .long) (t' := (.array .double)) (by decide) (by decide)))
  have f375 := f358.other W365 (Or.inr (slot_ne (Or.inl (own_w 56 hw rfl)) (Or.inl (own_w 26 hw rfl)) (by decide) (t := .int) (t' := (.array .double)) (by decide) (by decide)))
  have f376 := f359.other W365 (Or.inr (slot_ne (Or.inl (own_w 58 hw rfl)) (Or.inl (own_w 26 hw rfl)) (by decide) (t := .int) (t' := (.array .double)) (by decide) (by decide)))
  have f377 := f360.other W365 (Or.inl (Ne.symm ne_r0_r1))
  have f378 := f361.other W365 (Or.inl (Ne.symm ne_r0_r1))
  have f379 := f362.other W365 (Or.inl (Ne.symm ne_r0_r1))
  have f380 := f363.wr W365 (Or.inl (List.mem_of_getElem? (i := 0) rfl))
  have Z365 : n0 ≤ h365.size := Nat.le_trans Z348 (Keep.of_wr W365).1
  have N365 := Fr.snoc X365 N330 g_r0
  refine own_s 20 [] (fun _ k_ => st365 _ k_) ?_
  refine own_aloadN 21 X365.here hx (hb hby d3_20) rfl rfl rfl ?_
  refine own_s 23 [(.int 16), (.ref r0)] (fun _ k_ => XS.bipush X365.here hx rfl (hb hby d3_21) k_) ?_
  obtain ⟨T382, h382, k382, X382, e382, E382, A382, st382⟩ := newP X365 hx hZ (own_w 12 hw rfl) e365 (g := (mkF m 23 #[.val (.ref r0), .val (.ref r1)] [(.int 16), (.ref r0)])) rfl (hb hby d3_23) rfl (by decide) (cap := 16) (by decide) (by decide) (by decide) (by decide)
  obtain ⟨b382, g382⟩ : ∃ z, z = h365.size := ⟨_, rfl⟩
  rw [← g382] at A382 st382
  have g_b382 : n0 ≤ b382 := Nat.le_trans Z365 (Nat.le_of_eq g382.symm)
  have ne_r0_b382 : r0 ≠ b382 := Nat.ne_of_lt (Nat.lt_of_lt_of_le f366.lt (Nat.le_of_eq g382.symm))
  have ne_r1_b382 : r1 ≠ b382 := Nat.ne_of_lt (Nat.lt_of_lt_of_le f367.lt (Nat.le_of_eq g382.symm))
  have sz_b382 : h0.size ≤ b382 := Nat.le_trans f380.1 (Nat.le_of_eq g382.symm)
  have f383 := f366.ext E382
  have f384 := f367.ext E382
  have f385 := f369.ext E382
  have f386 := f370.ext E382
  have f387 := f371.ext E382
  have f388 := f372.ext E382
  have f389 := f373.ext E382
  have f390 := f374.ext E382
  have f391 := f375.ext E382
  have f392 := f376.ext E382
  have f393 := f377.ext E382
  have f394 := f378.ext E382
  have f395 := f379.ext E382
  have f396 := f380.ext E382
  have Z382 : n0 ≤ h382.size := Nat.le_trans Z365 E382.1
  refine own_s 25 [(.ref b382), (.ref r0)] (fun _ k_ => st382 _ k_) ?_
  obtain ⟨T398, h398, X398, e398, W398, st398⟩ := putF X382 hx hZ hown (host := "") (Or.inl (own_w 27 hw rfl)) Via.refl e382 f385 f383 (Or.inl (own_w 28 hw rfl)) (own_w 16 hw rfl) (ty := (.array .long)) (by decide) rfl rfl (g := (mkF m 25 #[.val (.ref r0), .val (.ref r1)] [(.ref b382), (.ref r0)])) rfl rfl (hb hby d3_25)
  have f399 := f383.wr W398
  have f400 := f384.wr W398
  have f402 := f386.other W398 (Or.inr (slot_ne (Or.inl (own_w 30 hw rfl)) (Or.inl (own_w 28 hw rfl)) (by decide) (t := (.array .int)) (t' := (.array .long)) (by decide) (by decide)))
  have f403 := f387.other W398 (Or.inr (slot_ne (Or.inl (own_w 32 hw rfl)) (Or.inl (own_w 28 hw rfl)) (by decide) (t := (.array .double)) (t' := (.array .long)) (by decide) (by decide)))
  have f404 := f388.other W398 (Or.inr (slot_ne (Or.inl (own_w 34 hw rfl)) (Or.inl (own_w 28 hw rfl)) (by decide) (t := (.array .long)) (t' := (.array .long)) (by decide) (by decide)))
  have f405 := f389.other W398 (Or.inr (slot_ne (Or.inr (own_w 36 hw rfl)) (Or.inl (own_w 28 hw rfl)) (by decide) (t := (.object "com/example/adfair/adfair/Ranking$Places")) (t' := (.array .long)) (by decide) (by decide)))
  have f406 := f390.other W398 (Or.inr (slot_ne (Or.inr (own_w 40 hw rfl)) (Or.inl (own_w 28 hw rfl)) (by decide) (t := .long) (t' := (.array .long)) (by decide) (by decide)))
  have f407 := f391.other W398 (Or.inr (slot_ne (Or.inl (own_w 56 hw rfl)) (Or.inl (own_w 28 hw rfl)) (by decide) (t := .int) (t' := (.array .long)) (by decide) (by decide)))
  have f408 := f392.other W398 (Or.inr (slot_ne (Or.inl (own_w 58 hw rfl)) (Or.inl (own_w 28 hw rfl)) (by decide) (t := .int) (t' := (.array .long)) (by decide) (by decide)))
  have f409 := f393.other W398 (Or.inl (Ne.symm ne_r0_r1))
  have f410 := f394.other W398 (Or.inl (Ne.symm ne_r0_r1))
  have f411 := f395.other W398 (Or.inl (Ne.symm ne_r0_r1))
  have f412 := f396.wr W398 (Or.inl (List.mem_of_getElem? (i := 0) rfl))
  have Z398 : n0 ≤ h398.size := Nat.le_trans Z382 (Keep.of_wr W398).1
  have N398 := Fr.snoc X398 N365 g_r0
  refine own_s 28 [] (fun _ k_ => st398 _ k_) ?_
  refine own_aloadN 29 X398.here hx (hb hby d3_28) rfl rfl rfl ?_
  refine own_s 31 [(.int 16), (.ref r0)] (fun _ k_ => XS.bipush X398.here hx rfl (hb hby d3_29) k_) ?_
  obtain ⟨T414, h414, k414, X414, e414, E414, A414, st414⟩ := newP X398 hx hZ (own_w 9 hw rfl) e398 (g := (mkF m 31 #[.val (.ref r0), .val (.ref r1)] [(.int 16), (.ref r0)])) rfl (hb hby d3_31) rfl (by decide) (cap := 16) (by decide) (by decide) (by decide) (by decide)
  obtain ⟨b414, g414⟩ : ∃ z, z = h398.size := ⟨_, rfl⟩
  rw [← g414] at A414 st414
  have g_b414 : n0 ≤ b414 := Nat.le_trans Z398 (Nat.le_of_eq g414.symm)
  have ne_r0_b414 : r0 ≠ b414 := Nat.ne_of_lt (Nat.lt_of_lt_of_le f399.lt (Nat.le_of_eq g414.symm))
  have ne_r1_b414 : r1 ≠ b414 := Nat.ne_of_lt (Nat.lt_of_lt_of_le f400.lt (Nat.le_of_eq g414.symm))
  have sz_b414 : h0.size ≤ b414 := Nat.le_trans f412.1 (Nat.le_of_eq g414.symm)
  have f415 := f399.ext E414
  have f416 := f400.ext E414
  have f417 := f402.ext E414
  have f418 := f403.ext E414
  have f419 := f404.ext E414
  have f420 := f405.ext E414
  have f421 := f406.ext E414
  have f422 := f407.ext E414
  have f423 := f408.ext E414
  have f424 := f409.ext E414
  have f425 := f410.ext E414
  have f426 := f411.ext E414
  have f427 := f412.ext E414
  have Z414 : n0 ≤ h414.size := Nat.le_trans Z398 E414.1
  have f428 : Arv Z h414 b414 k414 .int (16 : Int32) [(.int 0), (.int 0), (.int 0), (.int 0), (.int 0), (.int 0), (.int 0), (.int 0), (.int 0), (.int 0), (.int 0), (.int 0), (.int 0), (.int 0), (.int 0), (.int 0)] (.int 0) := (Arv.new A414 (by decide)).pad (pad_rep [] (.int 0) 16)
  refine own_s 33 [(.ref b414), (.ref r0)] (fun _ k_ => st414 _ k_) ?_
  obtain ⟨T429, h429, X429, e429, W429, st429⟩ := putF X414 hx hZ hown (host := "") (Or.inl (own_w 29 hw rfl)) Via.refl e414 f417 f415 (Or.inl (own_w 30 hw rfl)) (own_w 16 hw rfl) (ty := (.array .int)) (by decide) rfl rfl (g := (mkF m 33 #[.val (.ref r0), .val (.ref r1)] [(.ref b414), (.ref r0)])) rfl rfl (hb hby d3_33)
  have f430 := f415.wr W429
  have f431 := f416.wr W429
  have f432 : Fld Z h429 r0 "com/example/adfair/adfair/Ranking" "queued" "[I" (.ref b414) := f417.same W429
  have f433 := f418.other W429 (Or.inr (slot_ne (Or.inl (own_w 32 hw rfl)) (Or.inl (own_w 30 hw rfl)) (by decide) (t := (.array .double)) (t' := (.array .int)) (by decide) (by decide)))
  have f434 := f419.other W429 (Or.inr (slot_ne (Or.inl (own_w 34 hw rfl)) (Or.inl (own_w 30 hw rfl)) (by decide) (t := (.array .long)) (t' := (.array .int)) (by decide) (by decide)))
  have f435 := f420.other W429 (Or.inr (slot_ne (Or.inr (own_w 36 hw rfl)) (Or.inl (own_w 30 hw rfl)) (by decide) (t := (.object "com/example/adfair/adfair/Ranking$Places")) (t' := (.array .int)) (by decide) (by decide)))
  have f436 := f421.other W429 (Or.inr (slot_ne (Or.inr (own_w 40 hw rfl)) (Or.inl (own_w 30 hw rfl)) (by decide) (t := .long) (t' := (.array .int)) (by decide) (by decide)))
  have f437 := f422.other W429 (Or.inr (slot_ne (Or.inl (own_w 56 hw rfl)) (Or.inl (own_w 30 hw rfl)) (by decide) (t := .int) (t' := (.array .int)) (by decide) (by decide)))
  have f438 := f423.other W429 (Or.inr (slot_ne (Or.inl (own_w 58 hw rfl)) (Or.inl (own_w 30 hw rfl)) (by decide) (t := .int) (t' := (.array .int)) (by decide) (by decide)))
  have f439 := f424.other W429 (Or.inl (Ne.symm ne_r0_r1))
  have f440 := f425.other W429 (Or.inl (Ne.symm ne_r0_r1))
  have f441 := f426.other W429 (Or.inl (Ne.symm ne_r0_r1))
  have f442 := f427.wr W429 (Or.inl (List.mem_of_getElem? (i := 0) rfl))
  have f443 := f428.other W429 (Ne.symm ne_r0_b414)
  have Z429 : n0 ≤ h429.size := Nat.le_trans Z414 (Keep.of_wr W429).1
  have N429 := Fr.snoc X429 N398 g_r0
  refine own_s 36 [] (fun _ k_ => st429 _ k_) ?_
  refine own_aloadN 37 X429.here hx (hb hby d3_36) rfl rfl rfl ?_
  refine own_s 39 [(.int 16), (.ref r0)] (fun _ k_ => XS.bipush X429.here hx rfl (hb hby d3_37) k_) ?_
  obtain ⟨T444, h444, k444, X444, e444, E444, A444, st444⟩ := newP X429 hx hZ (own_w 24 hw rfl) e429 (g := (mkF m 39 #[.val (.ref r0), .val (.ref r1)] [(.int 16), (.ref r0)])) rfl (hb hby d3_39) rfl (by decide) (cap := 16) (by decide) (by decide) (by decide) (by decide)
  obtain ⟨b444, g444⟩ : ∃ z, z = h429.size := ⟨_, rfl⟩
  rw [← g444] at A444 st444
  have g_b444 : n0 ≤ b444 := Nat.le_trans Z429 (Nat.le_of_eq g444.symm)
  have ne_r0_b444 : r0 ≠ b444 := Nat.ne_of_lt (Nat.lt_of_lt_of_le f430.lt (Nat.le_of_eq g444.symm))
  have ne_r1_b444 : r1 ≠ b444 := Nat.ne_of_lt (Nat.lt_of_lt_of_le f431.lt (Nat.le_of_eq g444.symm))
  have ne_b414_b444 : b414 ≠ b444 := Nat.ne_of_lt (Nat.lt_of_lt_of_le f443.lt (Nat.le_of_eq g444.symm))
  have sz_b444 : h0.size ≤ b444 := Nat.le_trans f442.1 (Nat.le_of_eq g444.symm)
  have f445 := f430.ext E444
  have f446 := f431.ext E444
  have f447 := f432.ext E444
  have f448 := f433.ext E444
  have f449 := f434.ext E444
  have f450 := f435.ext E444
  have f451 := f436.ext E444
  have f452 := f437.ext E444
  have f453 := f438.ext E444
  have f454 := f439.ext E444
  have f455 := f440.ext E444
  have f456 := f441.ext E444
  have f457 := f442.ext E444
  have f458 := f443.ext E444
  have Z444 : n0 ≤ h444.size := Nat.le_trans Z429 E444.1
  have f459 : Arv Z h444 b444 k444 .double (16 : Int32) [(.double (FP.l2d 0)), (.double (FP.l2d 0)), (.double (FP.l2d 0)), (.double (FP.l2d 0)), (.double (FP.l2d 0)), (.double (FP.l2d 0)), (.double (FP.l2d 0)), (.double (FP.l2d 0)), (.double (FP.l2d 0)), (.double (FP.l2d 0)), (.double (FP.l2d 0)), (.double (FP.l2d 0)), (.double (FP.l2d 0)), (.double (FP.l2d 0)), (.double (FP.l2d 0)), (.double (FP.l2d 0))] (.double (FP.l2d 0)) := (Arv.newD A444 (by decide)).pad (pad_rep [] (.double (FP.l2d 0)) 16)
  refine own_s 41 [(.ref b444), (.ref r0)] (fun _ k_ => st444 _ k_) ?_
  obtain ⟨T460, h460, X460, e460, W460, st460⟩ := putF X444 hx hZ hown (host := "") (Or.inl (own_w 31 hw rfl)) Via.refl e444 f448 f445 (Or.inl (own_w 32 hw rfl)) (own_w 16 hw rfl) (ty := (.array .double)) (by decide) rfl rfl (g := (mkF m 41 #[.val (.ref r0), .val (.ref r1)] [(.ref b444), (.ref r0)])) rfl rfl (hb hby d3_41)
  have f461 := f445.wr W460
  have f462 := f446.wr W460
  have f463 := f447.other W460 (Or.inr (slot_ne (Or.inl (own_w 30 hw rfl)) (Or.inl (own_w 32 hw rfl)) (by decide) (t := (.array .int)) (t' := (.array .double)) (by decide) (by decide)))
  have f464 : Fld Z h460 r0 "com/example/adfair/adfair/Ranking" "queuedKeys" "[D" (.ref b444) := f448.same W460
  have f465 := f449.other W460 (Or.inr (slot_ne (Or.inl (own_w 34 hw rfl)) (Or.inl (own_w 32 hw rfl)) (by decide) (t := (.array .long)) (t' := (.array .double)) (by decide) (by decide)))
  have f466 := f450.other W460 (Or.inr (slot_ne (Or.inr (own_w 36 hw rfl)) (Or.inl (own_w 32 hw rfl)) (by decide) (t := (.object "com/example/adfair/adfair/Ranking$Places")) (t' := (.array .double)) (by decide) (by decide)))
  have f467 := f451.other W460 (Or.inr (slot_ne (Or.inr (own_w 40 hw rfl)) (Or.inl (own_w 32 hw rfl)) (by decide) (t := .long) (t' := (.array .double)) (by decide) (by decide)))
  have f468 := f452.other W460 (Or.inr (slot_ne (Or.inl (own_w 56 hw rfl)) (Or.inl (own_w 32 hw rfl)) (by decide) (t := .int) (t' := (.array .double)) (by decide) (by decide)))
  have f469 := f453.other W460 (Or.inr (slot_ne (Or.inl (own_w 58 hw rfl)) (Or.inl (own_w 32 hw rfl)) (by decide) (t := .int) (t' := (.array .double)) (by decide) (by decide)))
  have f470 := f454.other W460 (Or.inl (Ne.symm ne_r0_r1))
  have f471 := f455.other W460 (Or.inl (Ne.symm ne_r0_r1))
  have f472 := f456.other W460 (Or.inl (Ne.symm ne_r0_r1))
  have f473 := f457.wr W460 (Or.inl (List.mem_of_getElem? (i := 0) rfl))
  have f474 := f458.other W460 (Ne.symm ne_r0_b414)
  have f475 := f459.other W460 (Ne.symm ne_r0_b444)
  have Z460 : n0 ≤ h460.size := Nat.le_trans Z444 (Keep.of_wr W460).1
  have N460 := Fr.snoc X460 N429 g_r0
  refine own_s 44 [] (fun _ k_ => st460 _ k_) ?_
  refine own_aloadN 45 X460.here hx (hb hby d3_44) rfl rfl rfl ?_
  refine own_s 47 [(.int 16), (.ref r0)] (fun _ k_ => XS.bipush X460.here hx rfl (hb hby d3_45) k_) ?_
  obtain ⟨T476, h476, k476, X476, e476, E476, A476, st476⟩ := newP X460 hx hZ (own_w 12 hw rfl) e460 (g := (mkF m 47 #[.val (.ref r0), .val (.ref r1)] [(.int 16), (.ref r0)])) rfl (hb hby d3_47) rfl (by decide) (cap := 16) (by decide) (by decide) (by decide) (by decide)
  obtain ⟨b476, g476⟩ : ∃ z, z = h460.size := ⟨_, rfl⟩
  rw [← g476] at A476 st476
  have g_b476 : n0 ≤ b476 := Nat.le_trans Z460 (Nat.le_of_eq g476.symm)
  have ne_r0_b476 : r0 ≠ b476 := Nat.ne_of_lt (Nat.lt_of_lt_of_le f461.lt (Nat.le_of_eq g476.symm))
  have ne_r1_b476 : r1 ≠ b476 := Nat.ne_of_lt (Nat.lt_of_lt_of_le f462.lt (Nat.le_of_eq g476.symm))
  have ne_b414_b476 : b414 ≠ b476 := Nat.ne_of_lt (Nat.lt_of_lt_of_le f474.lt (Nat.le_of_eq g476.symm))
  have ne_b444_b476 : b444 ≠ b476 := Nat.ne_of_lt (Nat.lt_of_lt_of_le f475.lt (Nat.le_of_eq g476.symm))
  have sz_b476 : h0.size ≤ b476 := Nat.le_trans f473.1 (Nat.le_of_eq g476.symm)
  have f477 := f461.ext E476
  have f478 := f462.ext E476
  have f479 := f463.ext E476
  have f480 := f464.ext E476
  have f481 := f465.ext E476
  have f482 := f466.ext E476
  have f483 := f467.ext E476
  have f484 := f468.ext E476
  have f485 := f469.ext E476
  have f486 := f470.ext E476
  have f487 := f471.ext E476
  have f488 := f472.ext E476
  have f489 := f473.ext E476
  have f490 := f474.ext E476
  have f491 := f475.ext E476
  have Z476 : n0 ≤ h476.size := Nat.le_trans Z460 E476.1
  have f492 : Arv Z h476 b476 k476 .long (16 : Int32) [(.long 0), (.long 0), (.long 0), (.long 0), (.long 0), (.long 0), (.long 0), (.long 0), (.long 0), (.long 0), (.long 0), (.long 0), (.long 0), (.long 0), (.long 0), (.long 0)] (.long 0) := (Arv.new A476 (by decide)).pad (pad_rep [] (.long 0) 16)
  refine own_s 49 [(.ref b476), (.ref r0)] (fun _ k_ => st476 _ k_) ?_
  obtain ⟨T493, h493, X493, e493, W493, st493⟩ := putF X476 hx hZ hown (host := "") (Or.inl (own_w 33 hw rfl)) Via.refl e476 f481 f477 (Or.inl (own_w 34 hw rfl)) (own_w 16 hw rfl) (ty := (.array .long)) (by decide) rfl rfl (g := (mkF m 49 #[.val (.ref r0), .val (.ref r1)] [(.ref b476), (.ref r0)])) rfl rfl (hb hby d3_49)
  have f494 := f477.wr W493
  have f495 := f478.wr W493
  have f496 := f479.other W493 (Or.inr (slot_ne (Or.inl (own_w 30 hw rfl)) (Or.inl (own_w 34 hw rfl)) (by decide) (t := (.array .int)) (t' := (.array .long)) (by decide) (by decide)))
  have f497 := f480.other W493 (Or.inr (slot_ne (Or.inl (own_w 32 hw rfl)) (Or.inl (own_w 34 hw rfl)) (by decide) (t := (.array .double)) (t' := (.array .long)) (by decide) (by decide)))
  have f498 : Fld Z h493 r0 "com/example/adfair/adfair/Ranking" "queuedOrders" "[J" (.ref b476) := f481.same W493
  have f499 := f482.other W493 (Or.inr (slot_ne (Or.inr (own_w 36 hw rfl)) (Or.inl (own_w 34 hw rfl)) (by decide) (t := (.object "com/example/adfair/adfair/Ranking$Places")) (t' := (.array .long)) (by decide) (by decide)))
  have f500 := f483.other W493 (Or.inr (slot_ne (Or.inr (own_w 40 hw rfl)) (Or.inl (own_w 34 hw rfl)) (by decide) (t := .long) (t' := (.array .long)) (by decide) (by decide)))
  have f501 := f484.other W493 (Or.inr (slot_ne (Or.inl (own_w 56 hw rfl)) (Or.inl (own_w 34 hw rfl)) (by decide) (t := .int) (t' := (.array .long)) (by decide) (by decide)))
  have f502 := f485.other W493 (Or.inr (slot_ne (Or.inl (own_w 58 hw rfl)) (Or.inl (own_w 34 hw rfl)) (by decide) (t := .int) (t' := (.array .long)) (by decide) (by decide)))
  have f503 := f486.other W493 (Or.inl (Ne.symm ne_r0_r1))
  have f504 := f487.other W493 (Or.inl (Ne.symm ne_r0_r1))
  have f505 := f488.other W493 (Or.inl (Ne.symm ne_r0_r1))
  have f506 := f489.wr W493 (Or.inl (List.mem_of_getElem? (i := 0) rfl))
  have f507 := f490.other W493 (Ne.symm ne_r0_b414)
  have f508 := f491.other W493 (Ne.symm ne_r0_b444)
  have f509 := f492.other W493 (Ne.symm ne_r0_b476)
  have Z493 : n0 ≤ h493.size := Nat.le_trans Z476 (Keep.of_wr W493).1
  have N493 := Fr.snoc X493 N460 g_r0
  refine own_s 52 [] (fun _ k_ => st493 _ k_) ?_
  refine own_aloadN 53 X493.here hx (hb hby d3_52) rfl rfl rfl ?_
  refine own_aloadN 54 X493.here hx (hb hby d3_53) rfl rfl rfl ?_
  obtain ⟨T510, h510, X510, e510, W510, st510⟩ := putF X493 hx hZ hown (host := "") (Or.inl (own_w 35 hw rfl)) Via.refl e493 f499 f494 (Or.inr ⟨(own_w 36 hw rfl), rfl, hnm⟩) (own_w 16 hw rfl) (ty := (.object "com/example/adfair/adfair/Ranking$Places")) (by decide) rfl rfl (g := (mkF m 54 #[.val (.ref r0), .val (.ref r1)] [(.ref r1), (.ref r0)])) rfl rfl (hb hby d3_54)
  have f511 := f494.wr W510
  have f512 := f495.wr W510
  have f513 := f496.other W510 (Or.inr (slot_ne (Or.inl (own_w 30 hw rfl)) (Or.inr (own_w 36 hw rfl)) (by decide) (t := (.array .int)) (t' := (.object "com/example/adfair/adfair/Ranking$Places")) (by decide) (by decide)))
  have f514 := f497.other W510 (Or.inr (slot_ne (Or.inl (own_w 32 hw rfl)) (Or.inr (own_w 36 hw rfl)) (by decide) (t := (.array .double)) (t' := (.object "com/example/adfair/adfair/Ranking$Places")) (by decide) (by decide)))
  have f515 := f498.other W510 (Or.inr (slot_ne (Or.inl (own_w 34 hw rfl)) (Or.inr (own_w 36 hw rfl)) (by decide) (t := (.array .long)) (t' := (.object "com/example/adfair/adfair/Ranking$Places")) (by decide) (by decide)))
  have f516 : Fld Z h510 r0 "com/example/adfair/adfair/Ranking" "places" "Lcom/example/adfair/adfair/Ranking$Places;" (.ref r1) := f499.same W510
  have f517 := f500.other W510 (Or.inr (slot_ne (Or.inr (own_w 40 hw rfl)) (Or.inr (own_w 36 hw rfl)) (by decide) (t := .long) (t' := (.object "com/example/adfair/adfair/Ranking$Places")) (by decide) (by decide)))
  have f518 := f501.other W510 (Or.inr (slot_ne (Or.inl (own_w 56 hw rfl)) (Or.inr (own_w 36 hw rfl)) (by decide) (t := .int) (t' := (.object "com/example/adfair/adfair/Ranking$Places")) (by decide) (by decide)))
  have f519 := f502.other W510 (Or.inr (slot_ne (Or.inl (own_w 58 hw rfl)) (Or.inr (own_w 36 hw rfl)) (by decide) (t := .int) (t' := (.object "com/example/adfair/adfair/Ranking$Places")) (by decide) (by decide)))
  have f520 := f503.other W510 (Or.inl (Ne.symm ne_r0_r1))
  have f521 := f504.other W510 (Or.inl (Ne.symm ne_r0_r1))
  have f522 := f505.other W510 (Or.inl (Ne.symm ne_r0_r1))
  have f523 := f506.wr W510 (Or.inl (List.mem_of_getElem? (i := 0) rfl))
  have f524 := f507.other W510 (Ne.symm ne_r0_b414)
  have f525 := f508.other W510 (Ne.symm ne_r0_b444)
  have f526 := f509.other W510 (Ne.symm ne_r0_b476)
  have Z510 : n0 ≤ h510.size := Nat.le_trans Z493 (Keep.of_wr W510).1
  have N510 := Fr.snoc X510 N493 g_r0
  refine own_s 57 [] (fun _ k_ => st510 _ k_) ?_
  refine own_aloadN 58 X510.here hx (hb hby d3_57) rfl rfl rfl ?_
  refine own_s 59 [(.ref r1), (.ref r1)] (fun _ k_ => XS.dup X510.here hx rfl (hb hby d3_58) rfl rfl k_) ?_
  obtain ⟨T527, X527, e527, st527⟩ := own_getR X510 hx hZ hown (own_w 37 hw rfl) e510 f520 (g := (mkF m 59 #[.val (.ref r0), .val (.ref r1)] [(.ref r1), (.ref r1)])) rfl rfl (hb hby d3_59)
  refine own_s 62 [(.long 1), (.ref r1)] (fun _ k_ => st527 _ k_) ?_
  refine own_s 63 [(.long 1), (.long 1), (.ref r1)] (fun _ k_ => XS.lconst X527.here hx rfl (hb hby d3_62) k_) ?_
  refine own_s 64 [(.long ((1 : Int64) + (1 : Int64))), (.ref r1)] (fun _ k_ => XS.ladd X527.here hx rfl (hb hby d3_63) rfl k_) ?_
  rw [show ((1 : Int64) + (1 : Int64)) = (2 : Int64) from by decide]
  obtain ⟨T528, h528, X528, e528, W528, st528⟩ := own_putR X527 hx hZ hown (own_w 37 hw rfl) e527 f520 f512 (own_w 38 hw rfl) (own_w 1 hw rfl) (ty := .long) (by decide) rfl rfl (g := (mkF m 64 #[.val (.ref r0), .val (.ref r1)] [(.long 2), (.ref r1)])) rfl rfl (hb hby d3_64)
  have f529 := f511.wr W528
  have f531 := f513.other W528 (Or.inl ne_r0_r1)
  have f532 := f514.other W528 (Or.inl ne_r0_r1)
  have f533 := f515.other W528 (Or.inl ne_r0_r1)
  have f534 := f516.other W528 (Or.inl ne_r0_r1)
  have f535 := f517.other W528 (Or.inl ne_r0_r1)
  have f536 := f518.other W528 (Or.inl ne_r0_r1)
  have f537 := f519.other W528 (Or.inl ne_r0_r1)
  have f538 : Fld Z h528 r1 "com/example/adfair/adfair/Ranking$Places" "rankings" "J" (.long 2) := f520.same W528
  have f539 := f521.other W528 (Or.inr (slot_ne (Or.inl (own_w 11 hw rfl)) (Or.inl (own_w 38 hw rfl)) (by decide) (t := (.array .int)) (t' := .long) (by decide) (by decide)))
  have f540 := f522.other W528 (Or.inr (slot_ne (Or.inl (own_w 14 hw rfl)) (Or.inl (own_w 38 hw rfl)) (by decide) (t := (.array .long)) (t' := .long) (by decide) (by decide)))
  have f541 := f523.wr W528 (Or.inl (List.mem_of_getElem? (i := 1) rfl))
  have f542 := f524.other W528 (Ne.symm ne_r1_b414)
  have f543 := f525.other W528 (Ne.symm ne_r1_b444)
  have f544 := f526.other W528 (Ne.symm ne_r1_b476)
  have Z528 : n0 ≤ h528.size := Nat.le_trans Z510 (Keep.of_wr W528).1
  have N528 := Fr.snoc X528 N510 g_r1
  refine own_s 67 [] (fun _ k_ => st528 _ k_) ?_
  refine own_aloadN 68 X528.here hx (hb hby d3_67) rfl rfl rfl ?_
  refine own_aloadN 69 X528.here hx (hb hby d3_68) rfl rfl rfl ?_
  obtain ⟨T545, X545, e545, st545⟩ := own_getR X528 hx hZ hown (own_w 37 hw rfl) e528 f538 (g := (mkF m 69 #[.val (.ref r0), .val (.ref r1)] [(.ref r1), (.ref r0)])) rfl rfl (hb hby d3_69)
  refine own_s 72 [(.long 2), (.ref r0)] (fun _ k_ => st545 _ k_) ?_
  obtain ⟨T546, h546, X546, e546, W546, st546⟩ := putF X545 hx hZ hown (host := "") (Or.inl (own_w 39 hw rfl)) Via.refl e545 f535 f529 (Or.inr ⟨(own_w 40 hw rfl), rfl, hnm⟩) (own_w 16 hw rfl) (ty := .long) (by decide) rfl rfl (g := (mkF m 72 #[.val (.ref r0), .val (.ref r1)] [(.long 2), (.ref r0)])) rfl rfl (hb hby d3_72)
  have f549 := f531.other W546 (Or.inr (slot_ne (Or.inl (own_w 30 hw rfl)) (Or.inr (own_w 40 hw rfl)) (by decide) (t := (.array .int)) (t' := .long) (by decide) (by decide)))
  have f550 := f532.other W546 (Or.inr (slot_ne (Or.inl (own_w 32 hw rfl)) (Or.inr (own_w 40 hw rfl)) (by decide) (t := (.array .double)) (t' := .long) (by decide) (by decide)))
  have f551 := f533.other W546 (Or.inr (slot_ne (Or.inl (own_w 34 hw rfl)) (Or.inr (own_w 40 hw rfl)) (by decide) (t := (.array .long)) (t' := .long) (by decide) (by decide)))
  have f552 := f534.other W546 (Or.inr (slot_ne (Or.inr (own_w 36 hw rfl)) (Or.inr (own_w 40 hw rfl)) (by decide) (t := (.object "com/example/adfair/adfair/Ranking$Places")) (t' := .long) (by decide) (by decide)))
  have f553 : Fld Z h546 r0 "com/example/adfair/adfair/Ranking" "number" "J" (.long 2) := f535.same W546
  have f554 := f536.other W546 (Or.inr (slot_ne (Or.inl (own_w 56 hw rfl)) (Or.inr (own_w 40 hw rfl)) (by decide) (t := .int) (t' := .long) (by decide) (by decide)))
  have f555 := f537.other W546 (Or.inr (slot_ne (Or.inl (own_w 58 hw rfl)) (Or.inr (own_w 40 hw rfl)) (by decide) (t := .int) (t' := .long) (by decide) (by decide)))
  have f556 := f538.other W546 (Or.inl (Ne.symm ne_r0_r1))
  have f557 := f539.other W546 (Or.inl (Ne.symm ne_r0_r1))
  have f558 := f540.other W546 (Or.inl (Ne.symm ne_r0_r1))
  have f559 := f541.wr W546 (Or.inl (List.mem_of_getElem? (i := 0) rfl))
  have f560 := f542.other W546 (Ne.symm ne_r0_b414)
  have f561 := f543.other W546 (Ne.symm ne_r0_b444)
  have f562 := f544.other W546 (Ne.symm ne_r0_b476)
  have Z546 : n0 ≤ h546.size := Nat.le_trans Z528 (Keep.of_wr W546).1
  have N546 := Fr.snoc X546 N528 g_r0
  refine own_s 75 [] (fun _ k_ => st546 _ k_) ?_
  obtain ⟨fs, hr, hrun, hended, hW, hsame⟩ := X546.leave (v := none) (fun _ => rfl)
  refine own_at ?_ (hG _ _ ⟨hrun, hended, _, _, rfl, ?_, ⟨_, rfl⟩, hW, hsame.mono (by decide) (by decide)⟩)
  · show Steps p.tables e below (T546.setTop (mkF m 75 #[.val (.ref r0), .val (.ref r1)] [])) _
    exact X546.returnOut hx Bd.returns (hb hby d3_75) hr
  · show QRI1 Z r0 r1 pa ha h0 n0 _ T546.heap _
    rw [e546]
    exact ⟨b414, b444, b476, k414, k444, k476, rfl, N546, f559, g_b414, g_b444, g_b476, sz_b414, sz_b444, sz_b476, ne_b414_b444, ne_b414_b476, ne_b444_b476, f549, f550, f551, f552, f553, f554, f555, f556, f557, f558, f560, f561, f562⟩
theorem d8_0 : decode prog_20_method_11_code 0 = .ok (.dload_n 0, 1) := by decide +kernel
theorem d8_1 : decode prog_20_method_11_code 1 = .ok (.dload 4, 2) := by decide +kernel
theorem d8_3 : decode prog_20_method_11_code 3 = .ok (.dcmp .g, 1) := by decide +kernel
theorem d8_4 : decode prog_20_method_11_code 4 = .ok (.ifCond .lt 17, 3) := by decide +kernel
theorem d8_7 : decode prog_20_method_11_code 7 = .ok (.dload_n 0, 1) := by decide +kernel
theorem d8_8 : decode prog_20_method_11_code 8 = .ok (.dload 4, 2) := by decide +kernel
theorem d8_10 : decode prog_20_method_11_code 10 = .ok (.dcmp .l, 1) := by decide +kernel
theorem d8_11 : decode prog_20_method_11_code 11 = .ok (.ifCond .ne 14, 3) := by decide +kernel
theorem d8_14 : decode prog_20_method_11_code 14 = .ok (.lload_n 2, 1) := by decide +kernel
theorem d8_15 : decode prog_20_method_11_code 15 = .ok (.lload 6, 2) := by decide +kernel
theorem d8_17 : decode prog_20_method_11_code 17 = .ok (.lcmp, 1) := by decide +kernel
theorem d8_18 : decode prog_20_method_11_code 18 = .ok (.ifCond .ge 7, 3) := by decide +kernel
theorem d8_21 : decode prog_20_method_11_code 21 = .ok (.iconst 1, 1) := by decide +kernel
theorem d8_22 : decode prog_20_method_11_code 22 = .ok (.goto 4, 3) := by decide +kernel
theorem d8_25 : decode prog_20_method_11_code 25 = .ok (.iconst 0, 1) := by decide +kernel
theorem d8_26 : decode prog_20_method_11_code 26 = .ok (.ireturn, 1) := by decide +kernel
theorem pn_8 : plainName "com/example/adfair/adfair/Ranking" = true := by first | (simp [plainName, overriddenIn]; done) | decide +kernel
theorem ef_rmLow (m : MethodId) (x0 : UInt64) (x1 : Int64) (x2 : UInt64) (x3 : Int64) : entryFrame m #[(.double x0), (.long x1), (.double x2), (.long x3)] 8 = mkF m 0 #[.val (.double x0), .second, .val (.long x1), .second, .val (.double x2), .second, .val (.long x3), .second] [] := by first | (simp [entryFrame, mkF, argsToLocals, Value.category]; done) | rfl
def QLow (Z : State) (q1 : Int64) (q3 : Int64) (k1 : Int64) (k2 : Int64) (h0 : Heap) (n0 : Nat) (v : Option Value) (h : Heap) (L : List Loc) : Prop := v = some (.int (own_low k1 q1 k2 q3)) ∧ Fr n0 L ∧ h = h0
set_option maxRecDepth 65536 in
set_option maxHeartbeats 40000000 in
theorem rmLow (l : Launch) (Z : State) (a0 : Array Value) (hw : ∀ d ∈ tables_1, d.before a0 Z = true) (ws : List Jvm.Cond) (q1 : Int64) (q3 : Int64) (k1 : Int64) (k2 : Int64) (h0 : Heap) (n0 : Nat) (Z0 : n0 ≤ h0.size) (hB1 : B53 k1) (hB2 : B53 k2) :
    MetFree l (⟨"com/example/adfair/adfair/Ranking", "lower", "(DJDJ)Z"⟩ : MethodName) (head1 (Jvm.Cond.code (⟨"com/example/adfair/adfair/Ranking", "lower", "(DJDJ)Z"⟩ : MethodName) prog_20_method_11_code 8 (some .boolean) :: ws) ({ frames := 0, cells := 0, slots := 0, locals := 0 } : Room)) (fun a U => a = #[(.double (FP.l2d k1)), (.long q1), (.double (FP.l2d k2)), (.long q3)] ∧ Z.Warmed39 U.vm ∧ U.heap = h0) (fun _ _ _ _ _ => True) (fun _ U o U' => ∃ v L, o = .returned v ∧ QLow Z q1 q3 k1 k2 h0 n0 v U'.heap L ∧ FrameEnd U o U' L ({ frames := 0, cells := 0, slots := 0, locals := 0 } : Room).cells ({ frames := 0, cells := 0, slots := 0, locals := 0 } : Room).slots) := by
  refine MetFree.of_bodySF (plainFor_of_name pn_8) hisR ?_
  intro p e s m args below meth c s₁ Bd hml0 hP hK
  obtain ⟨rfl, hZ, hh⟩ := hP
  have hx := Bd.exec
  have hby := Bd.bytes
  have hml : c.maxLocals = 8 := hml0
  have hown : s.vm.findClass "com/example/adfair/adfair/Ranking" = some m.cls := findClass_of_methodNamed Bd.named
  have hnm := (name_of_methodNamed Bd.named Bd.method).1
  have X0 : Stand p l e ({ frames := 0, cells := 0, slots := 0, locals := 0 } : Room) s m #[(.double (FP.l2d k1)), (.long q1), (.double (FP.l2d k2)), (.long q3)] below meth c s₁ [] 0 0 := Stand.of_body Bd
  have e0 : s₁.heap = h0 := by rw [← hh, Bd.state]; rfl
  have N0 := Fr.nil n0
  refine own_open fun G hG => ?_
  refine own_go (B := s₁.setTop (mkF m 0 #[.val (.double (FP.l2d k1)), .second, .val (.long q1), .second, .val (.double (FP.l2d k2)), .second, .val (.long q3), .second] [])) (fun t_ k_ => castTop (ef_rmLow m (FP.l2d k1) q1 (FP.l2d k2) q3) k_) ?_
  refine own_s 1 [(.double (FP.l2d k1))] (fun _ k_ => XS.dloadN X0.here hx rfl (hb hby d8_0) rfl k_) ?_
  refine own_s 3 [(.double (FP.l2d k2)), (.double (FP.l2d k1))] (fun _ k_ => XS.dload X0.here hx rfl (hb hby d8_1) rfl k_) ?_
  refine own_s 4 [(.int (lcmpW k1 k2))] (fun _ k_ => XS.dcmpS X0.here hx rfl (hb hby d8_3) rfl (dcmpV_w hB1 hB2 _) k_) ?_
  by_cases hc4 : k1 < k2
  · refine own_s 21 [] (fun _ k_ => XS.ifYes X0.here hx rfl (pc0 := 4) (pc' := 21) rfl (hb hby d8_4) rfl ((if0 _ _).trans (tlt ((lw_lt _ _).mpr hc4)).1) (by decide) (by decide) k_) ?_
    refine own_s 22 [(.int 1)] (fun _ k_ => XS.iconst X0.here hx rfl (hb hby d8_21) k_) ?_
    refine own_s 26 [(.int 1)] (fun _ k_ => XS.goto X0.here hx rfl (pc0 := 22) (pc' := 26) rfl (hb hby d8_22) (by decide) (by decide) k_) ?_
    obtain ⟨fs, hr, hrun, hended, hW, hsame⟩ := X0.leave (v := some (.int 1)) (fun h => by rw [Bd.returns] at h; cases h)
    refine own_at ?_ (hG _ _ ⟨hrun, hended, _, _, rfl, ?_, ⟨_, rfl⟩, hW, hsame.mono (by decide) (by decide)⟩)
    · show Steps p.tables e below (s₁.setTop (mkF m 26 #[.val (.double (FP.l2d k1)), .second, .val (.long q1), .second, .val (.double (FP.l2d k2)), .second, .val (.long q3), .second] [(.int 1)])) _
      exact retN X0 hx (t := .boolean) Bd.returns (by simp) (hb hby d8_26) hr
    · show QLow Z q1 q3 k1 k2 h0 n0 _ s₁.heap _
      rw [e0]
      exact ⟨by first | (rw [own_low1 hc4]; done) | (rw [own_low1 hc4]; rfl), N0, rfl⟩
  · refine own_s 7 [] (fun _ k_ => XS.ifNo X0.here hx rfl (hb hby d8_4) rfl ((if0 _ _).trans (flt (mt (lw_lt _ _).mp hc4)).1) k_) ?_
    refine own_s 8 [(.double (FP.l2d k1))] (fun _ k_ => XS.dloadN X0.here hx rfl (hb hby d8_7) rfl k_) ?_
    refine own_s 10 [(.double (FP.l2d k2)), (.double (FP.l2d k1))] (fun _ k_ => XS.dload X0.here hx rfl (hb hby d8_8) rfl k_) ?_
    refine own_s 11 [(.int (lcmpW k1 k2))] (fun _ k_ => XS.dcmpS X0.here hx rfl (hb hby d8_10) rfl (dcmpV_w hB1 hB2 _) k_) ?_
    by_cases hc11 : k1 = k2
    · refine own_s 14 [] (fun _ k_ => XS.ifNo X0.here hx rfl (hb hby d8_11) rfl ((if0 _ _).trans (teq ((lw_eq _ _).mpr hc11)).2) k_) ?_
      refine own_s 15 [(.long q1)] (fun _ k_ => XS.lloadN X0.here hx rfl (hb hby d8_14) rfl k_) ?_
      refine own_s 17 [(.long q3), (.long q1)] (fun _ k_ => XS.lload X0.here hx rfl (hb hby d8_15) rfl k_) ?_
      refine own_s 18 [(.int (lcmpW q1 q3))] (fun _ k_ => XS.lcmp X0.here hx rfl (hb hby d8_17) rfl k_) ?_
      by_cases hc18 : q1 < q3
      · refine own_s 21 [] (fun _ k_ => XS.ifNo X0.here hx rfl (hb hby d8_18) rfl ((if0 _ _).trans (tlt ((lw_lt _ _).mpr hc18)).2.1) k_) ?_
        refine own_s 22 [(.int 1)] (fun _ k_ => XS.iconst X0.here hx rfl (hb hby d8_21) k_) ?_
        refine own_s 26 [(.int 1)] (fun _ k_ => XS.goto X0.here hx rfl (pc0 := 22) (pc' := 26) rfl (hb hby d8_22) (by decide) (by decide) k_) ?_
        obtain ⟨fs, hr, hrun, hended, hW, hsame⟩ := X0.leave (v := some (.int 1)) (fun h => by rw [Bd.returns] at h; cases h)
        refine own_at ?_ (hG _ _ ⟨hrun, hended, _, _, rfl, ?_, ⟨_, rfl⟩, hW, hsame.mono (by decide) (by decide)⟩)
        · show Steps p.tables e below (s₁.setTop (mkF m 26 #[.val (.double (FP.l2d k1)), .second, .val (.long q1), .second, .val (.double (FP.l2d k2)), .second, .val (.long q3), .second] [(.int 1)])) _
          exact retN X0 hx (t := .boolean) Bd.returns (by simp) (hb hby d8_26) hr
        · show QLow Z q1 q3 k1 k2 h0 n0 _ s₁.heap _
          rw [e0]
          exact ⟨by first | (rw [own_low2 hc11 hc18]; done) | (rw [own_low2 hc11 hc18]; rfl), N0, rfl⟩
      · refine own_s 25 [] (fun _ k_ => XS.ifYes X0.here hx rfl (pc0 := 18) (pc' := 25) rfl (hb hby d8_18) rfl ((if0 _ _).trans (flt (mt (lw_lt _ _).mp hc18)).2.1) (by decide) (by decide) k_) ?_
        refine own_s 26 [(.int 0)] (fun _ k_ => XS.iconst X0.here hx rfl (hb hby d8_25) k_) ?_
        obtain ⟨fs, hr, hrun, hended, hW, hsame⟩ := X0.leave (v := some (.int 0)) (fun h => by rw [Bd.returns] at h; cases h)
        refine own_at ?_ (hG _ _ ⟨hrun, hended, _, _, rfl, ?_, ⟨_, rfl⟩, hW, hsame.mono (by decide) (by decide)⟩)
        · show Steps p.tables e below (s₁.setTop (mkF m 26 #[.val (.double (FP.l2d k1)), .second, .val (.long q1), .second, .val (.double (FP.l2d k2)), .second, .val (.long q3), .second] [(.int 0)])) _
          exact retN X0 hx (t := .boolean) Bd.returns (by simp) (hb hby d8_26) hr
        · show QLow Z q1 q3 k1 k2 h0 n0 _ s₁.heap _
          rw [e0]
          exact ⟨by first | (rw [own_low4 hc4 hc18]; done) | (rw [own_low4 hc4 hc18]; rfl), N0, rfl⟩
    · refine own_s 25 [] (fun _ k_ => XS.ifYes X0.here hx rfl (pc0 := 11) (pc' := 25) rfl (hb hby d8_11) rfl ((if0 _ _).trans (feq (mt (lw_eq _ _).mp hc11)).2) (by decide) (by decide) k_) ?_
      refine own_s 26 [(.int 0)] (fun _ k_ => XS.iconst X0.here hx rfl (hb hby d8_25) k_) ?_
      obtain ⟨fs, hr, hrun, hended, hW, hsame⟩ := X0.leave (v := some (.int 0)) (fun h => by rw [Bd.returns] at h; cases h)
      refine own_at ?_ (hG _ _ ⟨hrun, hended, _, _, rfl, ?_, ⟨_, rfl⟩, hW, hsame.mono (by decide) (by decide)⟩)
      · show Steps p.tables e below (s₁.setTop (mkF m 26 #[.val (.double (FP.l2d k1)), .second, .val (.long q1), .second, .val (.double (FP.l2d k2)), .second, .val (.long q3), .second] [(.int 0)])) _
        exact retN X0 hx (t := .boolean) Bd.returns (by simp) (hb hby d8_26) hr
      · show QLow Z q1 q3 k1 k2 h0 n0 _ s₁.heap _
        rw [e0]
        exact ⟨by first | (rw [own_low3 hc4 hc11]; done) | (rw [own_low3 hc4 hc11]; rfl), N0, rfl⟩
theorem d6_0 : decode prog_20_method_13_code 0 = .ok (.aload_n 0, 1) := by decide +kernel
theorem d6_1 : decode prog_20_method_13_code 1 = .ok (.getfield 61, 3) := by decide +kernel
theorem d6_4 : decode prog_20_method_13_code 4 = .ok (.aload_n 0, 1) := by decide +kernel
theorem d6_5 : decode prog_20_method_13_code 5 = .ok (.getfield 51, 3) := by decide +kernel
theorem d6_8 : decode prog_20_method_13_code 8 = .ok (.iadd, 1) := by decide +kernel
theorem d6_9 : decode prog_20_method_13_code 9 = .ok (.iconst 1, 1) := by decide +kernel
theorem d6_10 : decode prog_20_method_13_code 10 = .ok (.isub, 1) := by decide +kernel
theorem d6_11 : decode prog_20_method_13_code 11 = .ok (.aload_n 0, 1) := by decide +kernel
theorem d6_12 : decode prog_20_method_13_code 12 = .ok (.getfield 27, 3) := by decide +kernel
theorem d6_15 : decode prog_20_method_13_code 15 = .ok (.arraylength, 1) := by decide +kernel
theorem d6_16 : decode prog_20_method_13_code 16 = .ok (.iconst 1, 1) := by decide +kernel
theorem d6_17 : decode prog_20_method_13_code 17 = .ok (.isub, 1) := by decide +kernel
theorem d6_18 : decode prog_20_method_13_code 18 = .ok (.iand, 1) := by decide +kernel
theorem d6_19 : decode prog_20_method_13_code 19 = .ok (.ireturn, 1) := by decide +kernel
theorem pn_6 : plainName "com/example/adfair/adfair/Ranking" = true := by first | (simp [plainName, overriddenIn]; done) | decide +kernel
theorem ef_rmLQ_0_0 (m : MethodId) (x0 : Addr) : entryFrame m #[(.ref x0)] 1 = mkF m 0 #[.val (.ref x0)] [] := by first | (simp [entryFrame, mkF, argsToLocals, Value.category]; done) | rfl
def QLQ_0_0 (Z : State) (r0 : Addr) (qa : Addr) (cq : ClassId) (vs : List Value) (h0 : Heap) (n0 : Nat) (v : Option Value) (h : Heap) (L : List Loc) : Prop := v = some (.int 15) ∧ Fr n0 L ∧ h = h0
set_option maxRecDepth 65536 in
set_option maxHeartbeats 40000000 in
theorem rmLQ_0_0 (l : Launch) (Z : State) (a0 : Array Value) (hw : ∀ d ∈ tables_1, d.before a0 Z = true) (ws : List Jvm.Cond) (r0 : Addr) (qa : Addr) (cq : ClassId) (vs : List Value) (h0 : Heap) (n0 : Nat) (Z0 : n0 ≤ h0.size) (u0 : Fld Z h0 r0 "com/example/adfair/adfair/Ranking" "queueFirst" "I" (.int 0)) (u1 : Fld Z h0 r0 "com/example/adfair/adfair/Ranking" "queueSize" "I" (.int 0)) (u2 : Fld Z h0 r0 "com/example/adfair/adfair/Ranking" "queued" "[I" (.ref qa)) (u3 : Arv Z h0 qa cq .int (16 : Int32) vs (.int 0)) :
    MetFree l (⟨"com/example/adfair/adfair/Ranking", "lastQueued", "()I"⟩ : MethodName) (head1 (Jvm.Cond.code (⟨"com/example/adfair/adfair/Ranking", "lastQueued", "()I"⟩ : MethodName) prog_20_method_13_code 1 (some .int) :: ws) ({ frames := 0, cells := 0, slots := 0, locals := 0 } : Room)) (fun a U => a = #[(.ref r0)] ∧ Z.Warmed39 U.vm ∧ U.heap = h0) (fun _ _ _ _ _ => True) (fun _ U o U' => ∃ v L, o = .returned v ∧ QLQ_0_0 Z r0 qa cq vs h0 n0 v U'.heap L ∧ FrameEnd U o U' L ({ frames := 0, cells := 0, slots := 0, locals := 0 } : Room).cells ({ frames := 0, cells := 0, slots := 0, locals := 0 } : Room).slots) := by
  refine MetFree.of_bodySF (plainFor_of_name pn_6) hisR ?_
  intro p e s m args below meth c s₁ Bd hml0 hP hK
  obtain ⟨rfl, hZ, hh⟩ := hP
  have hx := Bd.exec
  have hby := Bd.bytes
  have hml : c.maxLocals = 1 := hml0
  have hown : s.vm.findClass "com/example/adfair/adfair/Ranking" = some m.cls := findClass_of_methodNamed Bd.named
  have hnm := (name_of_methodNamed Bd.named Bd.method).1
  have X0 : Stand p l e ({ frames := 0, cells := 0, slots := 0, locals := 0 } : Room) s m #[(.ref r0)] below meth c s₁ [] 0 0 := Stand.of_body Bd
  have e0 : s₁.heap = h0 := by rw [← hh, Bd.state]; rfl
  have N0 := Fr.nil n0
  refine own_open fun G hG => ?_
  refine own_go (B := s₁.setTop (mkF m 0 #[.val (.ref r0)] [])) (fun t_ k_ => castTop (ef_rmLQ_0_0 m r0) k_) ?_
  refine own_aloadN 1 X0.here hx (hb hby d6_0) rfl rfl rfl ?_
  obtain ⟨T568, X568, e568, st568⟩ := getF X0 hx hZ hown (host := "") (Or.inl (own_w 55 hw rfl)) Via.refl e0 u0 (g := (mkF m 1 #[.val (.ref r0)] [(.ref r0)])) rfl rfl (hb hby d6_1)
  refine own_s 4 [(.int 0)] (fun _ k_ => st568 _ k_) ?_
  refine own_aloadN 5 X568.here hx (hb hby d6_4) rfl rfl rfl ?_
  obtain ⟨T569, X569, e569, st569⟩ := getF X568 hx hZ hown (host := "") (Or.inl (own_w 57 hw rfl)) Via.refl e568 u1 (g := (mkF m 5 #[.val (.ref r0)] [(.ref r0), (.int 0)])) rfl rfl (hb hby d6_5)
  refine own_s 8 [(.int 0), (.int 0)] (fun _ k_ => st569 _ k_) ?_
  refine own_s 9 [(.int ((0 : Int32) + (0 : Int32)))] (fun _ k_ => XS.iadd X569.here hx rfl (hb hby d6_8) rfl k_) ?_
  rw [show ((0 : Int32) + (0 : Int32)) = (0 : Int32) from by decide]
  refine own_s 10 [(.int 1), (.int 0)] (fun _ k_ => XS.iconst X569.here hx rfl (hb hby d6_9) k_) ?_
  refine own_s 11 [(.int ((0 : Int32) - (1 : Int32)))] (fun _ k_ => XS.isub X569.here hx rfl (hb hby d6_10) rfl k_) ?_
  rw [show ((0 : Int32) - (1 : Int32)) = (-1 : Int32) from by decide]
  refine own_aloadN 12 X569.here hx (hb hby d6_11) rfl rfl rfl ?_
  obtain ⟨T570, X570, e570, st570⟩ := getF X569 hx hZ hown (host := "") (Or.inl (own_w 29 hw rfl)) Via.refl e569 u2 (g := (mkF m 12 #[.val (.ref r0)] [(.ref r0), (.int (-1))])) rfl rfl (hb hby d6_12)
  refine own_s 15 [(.ref qa), (.int (-1))] (fun _ k_ => st570 _ k_) ?_
  obtain ⟨cl571, Ar571, -, S571, M571, -, -⟩ := id u3
  refine own_go (B := T570.setTop (mkF m 16 #[.val (.ref r0)] [(.int 16), (.int (-1))])) (fun t_ k_ => ?_) ?_
  · refine X570.arraylength hx (by rw [e570]; exact Ar571.1) (State.isArrayOf_alike hZ.alike Ar571.2.1) (g := (mkF m 15 #[.val (.ref r0)] [(.ref qa), (.int (-1))])) rfl rfl (hb hby d6_15) _ ?_
    rw [len_of S571 M571]
    exact k_
  refine own_s 17 [(.int 1), (.int 16), (.int (-1))] (fun _ k_ => XS.iconst X570.here hx rfl (hb hby d6_16) k_) ?_
  refine own_s 18 [(.int ((16 : Int32) - (1 : Int32))), (.int (-1))] (fun _ k_ => XS.isub X570.here hx rfl (hb hby d6_17) rfl k_) ?_
  rw [show ((16 : Int32) - (1 : Int32)) = (15 : Int32) from by decide]
  refine own_s 19 [(.int ((-1 : Int32) &&& (15 : Int32)))] (fun _ k_ => XS.iand X570.here hx rfl (hb hby d6_18) rfl k_) ?_
  rw [show ((-1 : Int32) &&& (15 : Int32)) = (15 : Int32) from by decide]
  obtain ⟨fs, hr, hrun, hended, hW, hsame⟩ := X570.leave (v := some (.int 15)) (fun h => by rw [Bd.returns] at h; cases h)
  refine own_at ?_ (hG _ _ ⟨hrun, hended, _, _, rfl, ?_, ⟨_, rfl⟩, hW, hsame.mono (by decide) (by decide)⟩)
  · show Steps p.tables e below (T570.setTop (mkF m 19 #[.val (.ref r0)] [(.int 15)])) _
    exact retI X570 hx Bd.returns (hb hby d6_19) hr
  · show QLQ_0_0 Z r0 qa cq vs h0 n0 _ T570.heap _
    rw [e570]
    exact ⟨rfl, N0, rfl⟩
theorem ef_rmLQ_0_1 (m : MethodId) (x0 : Addr) : entryFrame m #[(.ref x0)] 1 = mkF m 0 #[.val (.ref x0)] [] := by first | (simp [entryFrame, mkF, argsToLocals, Value.category]; done) | rfl
def QLQ_0_1 (Z : State) (r0 : Addr) (qa : Addr) (cq : ClassId) (vs : List Value) (h0 : Heap) (n0 : Nat) (v : Option Value) (h : Heap) (L : List Loc) : Prop := v = some (.int 0) ∧ Fr n0 L ∧ h = h0
set_option maxRecDepth 65536 in
set_option maxHeartbeats 40000000 in
theorem rmLQ_0_1 (l : Launch) (Z : State) (a0 : Array Value) (hw : ∀ d ∈ tables_1, d.before a0 Z = true) (ws : List Jvm.Cond) (r0 : Addr) (qa : Addr) (cq : ClassId) (vs : List Value) (h0 : Heap) (n0 : Nat) (Z0 : n0 ≤ h0.size) (u0 : Fld Z h0 r0 "com/example/adfair/adfair/Ranking" "queueFirst" "I" (.int 0)) (u1 : Fld Z h0 r0 "com/example/adfair/adfair/Ranking" "queueSize" "I" (.int 1)) (u2 : Fld Z h0 r0 "com/example/adfair/adfair/Ranking" "queued" "[I" (.ref qa)) (u3 : Arv Z h0 qa cq .int (16 : Int32) vs (.int 0)) :
    MetFree l (⟨"com/example/adfair/adfair/Ranking", "lastQueued", "()I"⟩ : MethodName) (head1 (Jvm.Cond.code (⟨"com/example/adfair/adfair/Ranking", "lastQueued", "()I"⟩ : MethodName) prog_20_method_13_code 1 (some .int) :: ws) ({ frames := 0, cells := 0, slots := 0, locals := 0 } : Room)) (fun a U => a = #[(.ref r0)] ∧ Z.Warmed39 U.vm ∧ U.heap = h0) (fun _ _ _ _ _ => True) (fun _ U o U' => ∃ v L, o = .returned v ∧ QLQ_0_1 Z r0 qa cq vs h0 n0 v U'.heap L ∧ FrameEnd U o U' L ({ frames := 0, cells := 0, slots := 0, locals := 0 } : Room).cells ({ frames := 0, cells := 0, slots := 0, locals := 0 } : Room).slots) := by
  refine MetFree.of_bodySF (plainFor_of_name pn_6) hisR ?_
  intro p e s m args below meth c s₁ Bd hml0 hP hK
  obtain ⟨rfl, hZ, hh⟩ := hP
  have hx := Bd.exec
  have hby := Bd.bytes
  have hml : c.maxLocals = 1 := hml0
  have hown : s.vm.findClass "com/example/adfair/adfair/Ranking" = some m.cls := findClass_of_methodNamed Bd.named
  have hnm := (name_of_methodNamed Bd.named Bd.method).1
  have X0 : Stand p l e ({ frames := 0, cells := 0, slots := 0, locals := 0 } : Room) s m #[(.ref r0)] below meth c s₁ [] 0 0 := Stand.of_body Bd
  have e0 : s₁.heap = h0 := by rw [← hh, Bd.state]; rfl
  have N0 := Fr.nil n0
  refine own_open fun G hG => ?_
  refine own_go (B := s₁.setTop (mkF m 0 #[.val (.ref r0)] [])) (fun t_ k_ => castTop (ef_rmLQ_0_1 m r0) k_) ?_
  refine own_aloadN 1 X0.here hx (hb hby d6_0) rfl rfl rfl ?_
  obtain ⟨T573, X573, e573, st573⟩ := getF X0 hx hZ hown (host := "") (Or.inl (own_w 55 hw rfl)) Via.refl e0 u0 (g := (mkF m 1 #[.val (.ref r0)] [(.ref r0)])) rfl rfl (hb hby d6_1)
  refine own_s 4 [(.int 0)] (fun _ k_ => st573 _ k_) ?_
  refine own_aloadN 5 X573.here hx (hb hby d6_4) rfl rfl rfl ?_
  obtain ⟨T574, X574, e574, st574⟩ := getF X573 hx hZ hown (host := "") (Or.inl (own_w 57 hw rfl)) Via.refl e573 u1 (g := (mkF m 5 #[.val (.ref r0)] [(.ref r0), (.int 0)])) rfl rfl (hb hby d6_5)
  refine own_s 8 [(.int 1), (.int 0)] (fun _ k_ => st574 _ k_) ?_
  refine own_s 9 [(.int ((0 : Int32) + (1 : Int32)))] (fun _ k_ => XS.iadd X574.here hx rfl (hb hby d6_8) rfl k_) ?_
  rw [show ((0 : Int32) + (1 : Int32)) = (1 : Int32) from by decide]
  refine own_s 10 [(.int 1), (.int 1)] (fun _ k_ => XS.iconst X574.here hx rfl (hb hby d6_9) k_) ?_
  refine own_s 11 [(.int ((1 : Int32) - (1 : Int32)))] (fun _ k_ => XS.isub X574.here hx rfl (hb hby d6_10) rfl k_) ?_
  rw [show ((1 : Int32) - (1 : Int32)) = (0 : Int32) from by decide]
  refine own_aloadN 12 X574.here hx (hb hby d6_11) rfl rfl rfl ?_
  obtain ⟨T575, X575, e575, st575⟩ := getF X574 hx hZ hown (host := "") (Or.inl (own_w 29 hw rfl)) Via.refl e574 u2 (g := (mkF m 12 #[.val (.ref r0)] [(.ref r0), (.int 0)])) rfl rfl (hb hby d6_12)
  refine own_s 15 [(.ref qa), (.int 0)] (fun _ k_ => st575 _ k_) ?_
  obtain ⟨cl576, Ar576, -, S576, M576, -, -⟩ := id u3
  refine own_go (B := T575.setTop (mkF m 16 #[.val (.ref r0)] [(.int 16), (.int 0)])) (fun t_ k_ => ?_) ?_
  · refine X575.arraylength hx (by rw [e575]; exact Ar576.1) (State.isArrayOf_alike hZ.alike Ar576.2.1) (g := (mkF m 15 #[.val (.ref r0)] [(.ref qa), (.int 0)])) rfl rfl (hb hby d6_15) _ ?_
    rw [len_of S576 M576]
    exact k_
  refine own_s 17 [(.int 1), (.int 16), (.int 0)] (fun _ k_ => XS.iconst X575.here hx rfl (hb hby d6_16) k_) ?_
  refine own_s 18 [(.int ((16 : Int32) - (1 : Int32))), (.int 0)] (fun _ k_ => XS.isub X575.here hx rfl (hb hby d6_17) rfl k_) ?_
  rw [show ((16 : Int32) - (1 : Int32)) = (15 : Int32) from by decide]
  refine own_s 19 [(.int ((0 : Int32) &&& (15 : Int32)))] (fun _ k_ => XS.iand X575.here hx rfl (hb hby d6_18) rfl k_) ?_
  rw [show ((0 : Int32) &&& (15 : Int32)) = (0 : Int32) from by decide]
  obtain ⟨fs, hr, hrun, hended, hW, hsame⟩ := X575.leave (v := some (.int 0)) (fun h => by rw [Bd.returns] at h; cases h)
  refine own_at ?_ (hG _ _ ⟨hrun, hended, _, _, rfl, ?_, ⟨_, rfl⟩, hW, hsame.mono (by decide) (by decide)⟩)
  · show Steps p.tables e below (T575.setTop (mkF m 19 #[.val (.ref r0)] [(.int 0)])) _
    exact retI X575 hx Bd.returns (hb hby d6_19) hr
  · show QLQ_0_1 Z r0 qa cq vs h0 n0 _ T575.heap _
    rw [e575]
    exact ⟨rfl, N0, rfl⟩
theorem ef_rmLQ_15_2 (m : MethodId) (x0 : Addr) : entryFrame m #[(.ref x0)] 1 = mkF m 0 #[.val (.ref x0)] [] := by first | (simp [entryFrame, mkF, argsToLocals, Value.category]; done) | rfl
def QLQ_15_2 (Z : State) (r0 : Addr) (qa : Addr) (cq : ClassId) (vs : List Value) (h0 : Heap) (n0 : Nat) (v : Option Value) (h : Heap) (L : List Loc) : Prop := v = some (.int 0) ∧ Fr n0 L ∧ h = h0
set_option maxRecDepth 65536 in
set_option maxHeartbeats 40000000 in
theorem rmLQ_15_2 (l : Launch) (Z : State) (a0 : Array Value) (hw : ∀ d ∈ tables_1, d.before a0 Z = true) (ws : List Jvm.Cond) (r0 : Addr) (qa : Addr) (cq : ClassId) (vs : List Value) (h0 : Heap) (n0 : Nat) (Z0 : n0 ≤ h0.size) (u0 : Fld Z h0 r0 "com/example/adfair/adfair/Ranking" "queueFirst" "I" (.int 15)) (u1 : Fld Z h0 r0 "com/example/adfair/adfair/Ranking" "queueSize" "I" (.int 2)) (u2 : Fld Z h0 r0 "com/example/adfair/adfair/Ranking" "queued" "[I" (.ref qa)) (u3 : Arv Z h0 qa cq .int (16 : Int32) vs (.int 0)) :
    MetFree l (⟨"com/example/adfair/adfair/Ranking", "lastQueued", "()I"⟩ : MethodName) (head1 (Jvm.Cond.code (⟨"com/example/adfair/adfair/Ranking", "lastQueued", "()I"⟩ : MethodName) prog_20_method_13_code 1 (some .int) :: ws) ({ frames := 0, cells := 0, slots := 0, locals := 0 } : Room)) (fun a U => a = #[(.ref r0)] ∧ Z.Warmed39 U.vm ∧ U.heap = h0) (fun _ _ _ _ _ => True) (fun _ U o U' => ∃ v L, o = .returned v ∧ QLQ_15_2 Z r0 qa cq vs h0 n0 v U'.heap L ∧ FrameEnd U o U' L ({ frames := 0, cells := 0, slots := 0, locals := 0 } : Room).cells ({ frames := 0, cells := 0, slots := 0, locals := 0 } : Room).slots) := by
  refine MetFree.of_bodySF (plainFor_of_name pn_6) hisR ?_
  intro p e s m args below meth c s₁ Bd hml0 hP hK
  obtain ⟨rfl, hZ, hh⟩ := hP
  have hx := Bd.exec
  have hby := Bd.bytes
  have hml : c.maxLocals = 1 := hml0
  have hown : s.vm.findClass "com/example/adfair/adfair/Ranking" = some m.cls := findClass_of_methodNamed Bd.named
  have hnm := (name_of_methodNamed Bd.named Bd.method).1
  have X0 : Stand p l e ({ frames := 0, cells := 0, slots := 0, locals := 0 } : Room) s m #[(.ref r0)] below meth c s₁ [] 0 0 := Stand.of_body Bd
  have e0 : s₁.heap = h0 := by rw [← hh, Bd.state]; rfl
  have N0 := Fr.nil n0
  refine own_open fun G hG => ?_
  refine own_go (B := s₁.setTop (mkF m 0 #[.val (.ref r0)] [])) (fun t_ k_ => castTop (ef_rmLQ_15_2 m r0) k_) ?_
  refine own_aloadN 1 X0.here hx (hb hby d6_0) rfl rfl rfl ?_
  obtain ⟨T578, X578, e578, st578⟩ := getF X0 hx hZ hown (host := "") (Or.inl (own_w 55 hw rfl)) Via.refl e0 u0 (g := (mkF m 1 #[.val (.ref r0)] [(.ref r0)])) rfl rfl (hb hby d6_1)
  refine own_s 4 [(.int 15)] (fun _ k_ => st578 _ k_) ?_
  refine own_aloadN 5 X578.here hx (hb hby d6_4) rfl rfl rfl ?_
  obtain ⟨T579, X579, e579, st579⟩ := getF X578 hx hZ hown (host := "") (Or.inl (own_w 57 hw rfl)) Via.refl e578 u1 (g := (mkF m 5 #[.val (.ref r0)] [(.ref r0), (.int 15)])) rfl rfl (hb hby d6_5)
  refine own_s 8 [(.int 2), (.int 15)] (fun _ k_ => st579 _ k_) ?_
  refine own_s 9 [(.int ((15 : Int32) + (2 : Int32)))] (fun _ k_ => XS.iadd X579.here hx rfl (hb hby d6_8) rfl k_) ?_
  rw [show ((15 : Int32) + (2 : Int32)) = (17 : Int32) from by decide]
  refine own_s 10 [(.int 1), (.int 17)] (fun _ k_ => XS.iconst X579.here hx rfl (hb hby d6_9) k_) ?_
  refine own_s 11 [(.int ((17 : Int32) - (1 : Int32)))] (fun _ k_ => XS.isub X579.here hx rfl (hb hby d6_10) rfl k_) ?_
  rw [show ((17 : Int32) - (1 : Int32)) = (16 : Int32) from by decide]
  refine own_aloadN 12 X579.here hx (hb hby d6_11) rfl rfl rfl ?_
  obtain ⟨T580, X580, e580, st580⟩ := getF X579 hx hZ hown (host := "") (Or.inl (own_w 29 hw rfl)) Via.refl e579 u2 (g := (mkF m 12 #[.val (.ref r0)] [(.ref r0), (.int 16)])) rfl rfl (hb hby d6_12)
  refine own_s 15 [(.ref qa), (.int 16)] (fun _ k_ => st580 _ k_) ?_
  obtain ⟨cl581, Ar581, -, S581, M581, -, -⟩ := id u3
  refine own_go (B := T580.setTop (mkF m 16 #[.val (.ref r0)] [(.int 16), (.int 16)])) (fun t_ k_ => ?_) ?_
  · refine X580.arraylength hx (by rw [e580]; exact Ar581.1) (State.isArrayOf_alike hZ.alike Ar581.2.1) (g := (mkF m 15 #[.val (.ref r0)] [(.ref qa), (.int 16)])) rfl rfl (hb hby d6_15) _ ?_
    rw [len_of S581 M581]
    exact k_
  refine own_s 17 [(.int 1), (.int 16), (.int 16)] (fun _ k_ => XS.iconst X580.here hx rfl (hb hby d6_16) k_) ?_
  refine own_s 18 [(.int ((16 : Int32) - (1 : Int32))), (.int 16)] (fun _ k_ => XS.isub X580.here hx rfl (hb hby d6_17) rfl k_) ?_
  rw [show ((16 : Int32) - (1 : Int32)) = (15 : Int32) from by decide]
  refine own_s 19 [(.int ((16 : Int32) &&& (15 : Int32)))] (fun _ k_ => XS.iand X580.here hx rfl (hb hby d6_18) rfl k_) ?_
  rw [show ((16 : Int32) &&& (15 : Int32)) = (0 : Int32) from by decide]
  obtain ⟨fs, hr, hrun, hended, hW, hsame⟩ := X580.leave (v := some (.int 0)) (fun h => by rw [Bd.returns] at h; cases h)
  refine own_at ?_ (hG _ _ ⟨hrun, hended, _, _, rfl, ?_, ⟨_, rfl⟩, hW, hsame.mono (by decide) (by decide)⟩)
  · show Steps p.tables e below (T580.setTop (mkF m 19 #[.val (.ref r0)] [(.int 0)])) _
    exact retI X580 hx Bd.returns (hb hby d6_19) hr
  · show QLQ_15_2 Z r0 qa cq vs h0 n0 _ T580.heap _
    rw [e580]
    exact ⟨rfl, N0, rfl⟩
theorem ef_rmLQ_0_2 (m : MethodId) (x0 : Addr) : entryFrame m #[(.ref x0)] 1 = mkF m 0 #[.val (.ref x0)] [] := by first | (simp [entryFrame, mkF, argsToLocals, Value.category]; done) | rfl
def QLQ_0_2 (Z : State) (r0 : Addr) (qa : Addr) (cq : ClassId) (vs : List Value) (h0 : Heap) (n0 : Nat) (v : Option Value) (h : Heap) (L : List Loc) : Prop := v = some (.int 1) ∧ Fr n0 L ∧ h = h0
set_option maxRecDepth 65536 in
set_option maxHeartbeats 40000000 in
theorem rmLQ_0_2 (l : Launch) (Z : State) (a0 : Array Value) (hw : ∀ d ∈ tables_1, d.before a0 Z = true) (ws : List Jvm.Cond) (r0 : Addr) (qa : Addr) (cq : ClassId) (vs : List Value) (h0 : Heap) (n0 : Nat) (Z0 : n0 ≤ h0.size) (u0 : Fld Z h0 r0 "com/example/adfair/adfair/Ranking" "queueFirst" "I" (.int 0)) (u1 : Fld Z h0 r0 "com/example/adfair/adfair/Ranking" "queueSize" "I" (.int 2)) (u2 : Fld Z h0 r0 "com/example/adfair/adfair/Ranking" "queued" "[I" (.ref qa)) (u3 : Arv Z h0 qa cq .int (16 : Int32) vs (.int 0)) :
    MetFree l (⟨"com/example/adfair/adfair/Ranking", "lastQueued", "()I"⟩ : MethodName) (head1 (Jvm.Cond.code (⟨"com/example/adfair/adfair/Ranking", "lastQueued", "()I"⟩ : MethodName) prog_20_method_13_code 1 (some .int) :: ws) ({ frames := 0, cells := 0, slots := 0, locals := 0 } : Room)) (fun a U => a = #[(.ref r0)] ∧ Z.Warmed39 U.vm ∧ U.heap = h0) (fun _ _ _ _ _ => True) (fun _ U o U' => ∃ v L, o = .returned v ∧ QLQ_0_2 Z r0 qa cq vs h0 n0 v U'.heap L ∧ FrameEnd U o U' L ({ frames := 0, cells := 0, slots := 0, locals := 0 } : Room).cells ({ frames := 0, cells := 0, slots := 0, locals := 0 } : Room).slots) := by
  refine MetFree.of_bodySF (plainFor_of_name pn_6) hisR ?_
  intro p e s m args below meth c s₁ Bd hml0 hP hK
  obtain ⟨rfl, hZ, hh⟩ := hP
  have hx := Bd.exec
  have hby := Bd.bytes
  have hml : c.maxLocals = 1 := hml0
  have hown : s.vm.findClass "com/example/adfair/adfair/Ranking" = some m.cls := findClass_of_methodNamed Bd.named
  have hnm := (name_of_methodNamed Bd.named Bd.method).1
  have X0 : Stand p l e ({ frames := 0, cells := 0, slots := 0, locals := 0 } : Room) s m #[(.ref r0)] below meth c s₁ [] 0 0 := Stand.of_body Bd
  have e0 : s₁.heap = h0 := by rw [← hh, Bd.state]; rfl
  have N0 := Fr.nil n0
  refine own_open fun G hG => ?_
  refine own_go (B := s₁.setTop (mkF m 0 #[.val (.ref r0)] [])) (fun t_ k_ => castTop (ef_rmLQ_0_2 m r0) k_) ?_
  refine own_aloadN 1 X0.here hx (hb hby d6_0) rfl rfl rfl ?_
  obtain ⟨T583, X583, e583, st583⟩ := getF X0 hx hZ hown (host := "") (Or.inl (own_w 55 hw rfl)) Via.refl e0 u0 (g := (mkF m 1 #[.val (.ref r0)] [(.ref r0)])) rfl rfl (hb hby d6_1)
  refine own_s 4 [(.int 0)] (fun _ k_ => st583 _ k_) ?_
  refine own_aloadN 5 X583.here hx (hb hby d6_4) rfl rfl rfl ?_
  obtain ⟨T584, X584, e584, st584⟩ := getF X583 hx hZ hown (host := "") (Or.inl (own_w 57 hw rfl)) Via.refl e583 u1 (g := (mkF m 5 #[.val (.ref r0)] [(.ref r0), (.int 0)])) rfl rfl (hb hby d6_5)
  refine own_s 8 [(.int 2), (.int 0)] (fun _ k_ => st584 _ k_) ?_
  refine own_s 9 [(.int ((0 : Int32) + (2 : Int32)))] (fun _ k_ => XS.iadd X584.here hx rfl (hb hby d6_8) rfl k_) ?_
  rw [show ((0 : Int32) + (2 : Int32)) = (2 : Int32) from by decide]
  refine own_s 10 [(.int 1), (.int 2)] (fun _ k_ => XS.iconst X584.here hx rfl (hb hby d6_9) k_) ?_
  refine own_s 11 [(.int ((2 : Int32) - (1 : Int32)))] (fun _ k_ => XS.isub X584.here hx rfl (hb hby d6_10) rfl k_) ?_
  rw [show ((2 : Int32) - (1 : Int32)) = (1 : Int32) from by decide]
  refine own_aloadN 12 X584.here hx (hb hby d6_11) rfl rfl rfl ?_
  obtain ⟨T585, X585, e585, st585⟩ := getF X584 hx hZ hown (host := "") (Or.inl (own_w 29 hw rfl)) Via.refl e584 u2 (g := (mkF m 12 #[.val (.ref r0)] [(.ref r0), (.int 1)])) rfl rfl (hb hby d6_12)
  refine own_s 15 [(.ref qa), (.int 1)] (fun _ k_ => st585 _ k_) ?_
  obtain ⟨cl586, Ar586, -, S586, M586, -, -⟩ := id u3
  refine own_go (B := T585.setTop (mkF m 16 #[.val (.ref r0)] [(.int 16), (.int 1)])) (fun t_ k_ => ?_) ?_
  · refine X585.arraylength hx (by rw [e585]; exact Ar586.1) (State.isArrayOf_alike hZ.alike Ar586.2.1) (g := (mkF m 15 #[.val (.ref r0)] [(.ref qa), (.int 1)])) rfl rfl (hb hby d6_15) _ ?_
    rw [len_of S586 M586]
    exact k_
  refine own_s 17 [(.int 1), (.int 16), (.int 1)] (fun _ k_ => XS.iconst X585.here hx rfl (hb hby d6_16) k_) ?_
  refine own_s 18 [(.int ((16 : Int32) - (1 : Int32))), (.int 1)] (fun _ k_ => XS.isub X585.here hx rfl (hb hby d6_17) rfl k_) ?_
  rw [show ((16 : Int32) - (1 : Int32)) = (15 : Int32) from by decide]
  refine own_s 19 [(.int ((1 : Int32) &&& (15 : Int32)))] (fun _ k_ => XS.iand X585.here hx rfl (hb hby d6_18) rfl k_) ?_
  rw [show ((1 : Int32) &&& (15 : Int32)) = (1 : Int32) from by decide]
  obtain ⟨fs, hr, hrun, hended, hW, hsame⟩ := X585.leave (v := some (.int 1)) (fun h => by rw [Bd.returns] at h; cases h)
  refine own_at ?_ (hG _ _ ⟨hrun, hended, _, _, rfl, ?_, ⟨_, rfl⟩, hW, hsame.mono (by decide) (by decide)⟩)
  · show Steps p.tables e below (T585.setTop (mkF m 19 #[.val (.ref r0)] [(.int 1)])) _
    exact retI X585 hx Bd.returns (hb hby d6_19) hr
  · show QLQ_0_2 Z r0 qa cq vs h0 n0 _ T585.heap _
    rw [e585]
    exact ⟨rfl, N0, rfl⟩
theorem d5_0 : decode prog_21_method_2_code 0 = .ok (.iload_n 1, 1) := by decide +kernel
theorem d5_1 : decode prog_21_method_2_code 1 = .ok (.aload_n 0, 1) := by decide +kernel
theorem d5_2 : decode prog_21_method_2_code 2 = .ok (.getfield 15, 3) := by decide +kernel
theorem d5_5 : decode prog_21_method_2_code 5 = .ok (.arraylength, 1) := by decide +kernel
theorem d5_6 : decode prog_21_method_2_code 6 = .ok (.if_icmp .ge 18, 3) := by decide +kernel
theorem d5_9 : decode prog_21_method_2_code 9 = .ok (.aload_n 0, 1) := by decide +kernel
theorem d5_10 : decode prog_21_method_2_code 10 = .ok (.getfield 15, 3) := by decide +kernel
theorem d5_13 : decode prog_21_method_2_code 13 = .ok (.iload_n 1, 1) := by decide +kernel
theorem d5_14 : decode prog_21_method_2_code 14 = .ok (.laload, 1) := by decide +kernel
theorem d5_15 : decode prog_21_method_2_code 15 = .ok (.lconst 0, 1) := by decide +kernel
theorem d5_16 : decode prog_21_method_2_code 16 = .ok (.lcmp, 1) := by decide +kernel
theorem d5_17 : decode prog_21_method_2_code 17 = .ok (.ifCond .eq 7, 3) := by decide +kernel
theorem d5_20 : decode prog_21_method_2_code 20 = .ok (.iconst 1, 1) := by decide +kernel
theorem d5_21 : decode prog_21_method_2_code 21 = .ok (.goto 4, 3) := by decide +kernel
theorem d5_24 : decode prog_21_method_2_code 24 = .ok (.iconst 0, 1) := by decide +kernel
theorem d5_25 : decode prog_21_method_2_code 25 = .ok (.ireturn, 1) := by decide +kernel
theorem pn_5 : plainName "com/example/adfair/adfair/Ranking$Places" = true := by first | (simp [plainName, overriddenIn]; done) | decide +kernel
theorem ef_rmHo (m : MethodId) (x0 : Addr) (x1 : Int32) : entryFrame m #[(.ref x0), (.int x1)] 2 = mkF m 0 #[.val (.ref x0), .val (.int x1)] [] := by first | (simp [entryFrame, mkF, argsToLocals, Value.category]; done) | rfl
def QHo (Z : State) (r0 : Addr) (ii : Nat) (ha : Addr) (NN : Nat) (fH : Nat → Int64) (h0 : Heap) (n0 : Nat) (v : Option Value) (h : Heap) (L : List Loc) : Prop := v = some (.int 0) ∧ Fr n0 L ∧ h = h0
set_option maxRecDepth 65536 in
set_option maxHeartbeats 40000000 in
theorem rmHo (l : Launch) (Z : State) (a0 : Array Value) (hw : ∀ d ∈ tables_1, d.before a0 Z = true) (ws : List Jvm.Cond) (r0 : Addr) (ii : Nat) (ha : Addr) (NN : Nat) (fH : Nat → Int64) (h0 : Heap) (n0 : Nat) (Z0 : n0 ≤ h0.size) (u0 : Fld Z h0 r0 "com/example/adfair/adfair/Ranking$Places" "holder" "[J" (.ref ha)) (u1 : own_LN Z h0 ha NN fH) (hi : ii < 64) (hN : NN ≤ 126) (hf : fH ii = 0) :
    MetFree l (⟨"com/example/adfair/adfair/Ranking$Places", "holds", "(I)Z"⟩ : MethodName) (head1 (Jvm.Cond.code (⟨"com/example/adfair/adfair/Ranking$Places", "holds", "(I)Z"⟩ : MethodName) prog_21_method_2_code 2 (some .boolean) :: ws) ({ frames := 0, cells := 0, slots := 0, locals := 0 } : Room)) (fun a U => a = #[(.ref r0), (.int (Int32.ofNat ii))] ∧ Z.Warmed39 U.vm ∧ U.heap = h0) (fun _ _ _ _ _ => True) (fun _ U o U' => ∃ v L, o = .returned v ∧ QHo Z r0 ii ha NN fH h0 n0 v U'.heap L ∧ FrameEnd U o U' L ({ frames := 0, cells := 0, slots := 0, locals := 0 } : Room).cells ({ frames := 0, cells := 0, slots := 0, locals := 0 } : Room).slots) := by
  refine MetFree.of_bodySF (plainFor_of_name pn_5) hisR ?_
  intro p e s m args below meth c s₁ Bd hml0 hP hK
  obtain ⟨rfl, hZ, hh⟩ := hP
  have hx := Bd.exec
  have hby := Bd.bytes
  have hml : c.maxLocals = 2 := hml0
  have hown : s.vm.findClass "com/example/adfair/adfair/Ranking$Places" = some m.cls := findClass_of_methodNamed Bd.named
  have hnm := (name_of_methodNamed Bd.named Bd.method).1
  have X0 : Stand p l e ({ frames := 0, cells := 0, slots := 0, locals := 0 } : Room) s m #[(.ref r0), (.int (Int32.ofNat ii))] below meth c s₁ [] 0 0 := Stand.of_body Bd
  have e0 : s₁.heap = h0 := by rw [← hh, Bd.state]; rfl
  have N0 := Fr.nil n0
  refine own_open fun G hG => ?_
  refine own_go (B := s₁.setTop (mkF m 0 #[.val (.ref r0), .val (.int (Int32.ofNat ii))] [])) (fun t_ k_ => castTop (ef_rmHo m r0 (Int32.ofNat ii)) k_) ?_
  refine own_iloadN 1 X0.here hx (hb hby d5_0) rfl rfl ?_
  refine own_aloadN 2 X0.here hx (hb hby d5_1) rfl rfl rfl ?_
  obtain ⟨T588, X588, e588, st588⟩ := getF X0 hx hZ hown (host := "") (Or.inl (own_w 13 hw rfl)) Via.refl e0 u0 (g := (mkF m 2 #[.val (.ref r0), .val (.int (Int32.ofNat ii))] [(.ref r0), (.int (Int32.ofNat ii))])) rfl rfl (hb hby d5_2)
  refine own_s 5 [(.ref ha), (.int (Int32.ofNat ii))] (fun _ k_ => st588 _ k_) ?_
  obtain ⟨cl589, Ar589, S589, -⟩ := id u1
  refine own_go (B := T588.setTop (mkF m 6 #[.val (.ref r0), .val (.int (Int32.ofNat ii))] [(.int (Int32.ofNat NN)), (.int (Int32.ofNat ii))])) (fun t_ k_ => ?_) ?_
  · refine X588.arraylength hx (by rw [e588]; exact Ar589.1) (State.isArrayOf_alike hZ.alike Ar589.2.1) (g := (mkF m 5 #[.val (.ref r0), .val (.int (Int32.ofNat ii))] [(.ref ha), (.int (Int32.ofNat ii))])) rfl rfl (hb hby d5_5) _ ?_
    rw [own_len S589]
    exact k_
  by_cases hc6 : (Int32.ofNat ii) < (Int32.ofNat NN)
  · refine own_s 9 [] (fun _ k_ => XS.icmpNo X588.here hx rfl (hb hby d5_6) rfl (tlt hc6).2.1 k_) ?_
    refine own_aloadN 10 X588.here hx (hb hby d5_9) rfl rfl rfl ?_
    obtain ⟨T590, X590, e590, st590⟩ := getF X588 hx hZ hown (host := "") (Or.inl (own_w 13 hw rfl)) Via.refl e588 u0 (g := (mkF m 10 #[.val (.ref r0), .val (.int (Int32.ofNat ii))] [(.ref r0)])) rfl rfl (hb hby d5_10)
    refine own_s 13 [(.ref ha)] (fun _ k_ => st590 _ k_) ?_
    refine own_iloadN 14 X590.here hx (hb hby d5_13) rfl rfl ?_
    obtain ⟨cl591, Ar591, S591, Hh591⟩ := id u1
    have hat591 : cl591.slots[((Int32.ofNat ii)).toNatClampNeg]? = some (.long (fH ii)) := by rw [own_clamp (Nat.lt_trans ((own_lt (by omega) (by omega)).mp hc6) (by omega))]; exact Hh591 _ ((own_lt (by omega) (by omega)).mp hc6)
    refine own_s 15 [(.long (fH ii))] (fun _ k_ => X590.laload hx (j := (Int32.ofNat ii)) (v := (.long (fH ii))) (by rw [e590]; exact Ar591.1) (State.isArrayOf_alike hZ.alike Ar591.2.1) Ar591.2.2 (own_inb S591 (by omega) ((own_lt (by omega) (by omega)).mp hc6)) hat591 (g := (mkF m 14 #[.val (.ref r0), .val (.int (Int32.ofNat ii))] [(.int (Int32.ofNat ii)), (.ref ha)])) rfl rfl (hb hby d5_14) _ k_) ?_
    refine own_s 16 [(.long 0), (.long (fH ii))] (fun _ k_ => XS.lconst X590.here hx rfl (hb hby d5_15) k_) ?_
    refine own_s 17 [(.int (lcmpW (fH ii) (0 : Int64)))] (fun _ k_ => XS.lcmp X590.here hx rfl (hb hby d5_16) rfl k_) ?_
    refine own_s 24 [] (fun _ k_ => XS.ifYes X590.here hx rfl (pc0 := 17) (pc' := 24) rfl (hb hby d5_17) rfl ((if0 _ _).trans (teq ((lw_eq _ _).mpr hf)).1) (by decide) (by decide) k_) ?_
    refine own_s 25 [(.int 0)] (fun _ k_ => XS.iconst X590.here hx rfl (hb hby d5_24) k_) ?_
    obtain ⟨fs, hr, hrun, hended, hW, hsame⟩ := X590.leave (v := some (.int 0)) (fun h => by rw [Bd.returns] at h; cases h)
    refine own_at ?_ (hG _ _ ⟨hrun, hended, _, _, rfl, ?_, ⟨_, rfl⟩, hW, hsame.mono (by decide) (by decide)⟩)
    · show Steps p.tables e below (T590.setTop (mkF m 25 #[.val (.ref r0), .val (.int (Int32.ofNat ii))] [(.int 0)])) _
      exact retN X590 hx (t := .boolean) Bd.returns (by simp) (hb hby d5_25) hr
    · show QHo Z r0 ii ha NN fH h0 n0 _ T590.heap _
      rw [e590]
      exact ⟨rfl, N0, rfl⟩
  · refine own_s 24 [] (fun _ k_ => XS.icmpYes X588.here hx rfl (pc0 := 6) (pc' := 24) rfl (hb hby d5_6) rfl (flt hc6).2.1 (by decide) (by decide) k_) ?_
    refine own_s 25 [(.int 0)] (fun _ k_ => XS.iconst X588.here hx rfl (hb hby d5_24) k_) ?_
    obtain ⟨fs, hr, hrun, hended, hW, hsame⟩ := X588.leave (v := some (.int 0)) (fun h => by rw [Bd.returns] at h; cases h)
    refine own_at ?_ (hG _ _ ⟨hrun, hended, _, _, rfl, ?_, ⟨_, rfl⟩, hW, hsame.mono (by decide) (by decide)⟩)
    · show Steps p.tables e below (T588.setTop (mkF m 25 #[.val (.ref r0), .val (.int (Int32.ofNat ii))] [(.int 0)])) _
      exact retN X588 hx (t := .boolean) Bd.returns (by simp) (hb hby d5_25) hr
    · show QHo Z r0 ii ha NN fH h0 n0 _ T588.heap _
      rw [e588]
      exact ⟨rfl, N0, rfl⟩
theorem d9_0 : decode prog_21_method_3_code 0 = .ok (.iconst 2, 1) := by decide +kernel
theorem d9_1 : decode prog_21_method_3_code 1 = .ok (.aload_n 0, 1) := by decide +kernel
theorem d9_2 : decode prog_21_method_3_code 2 = .ok (.getfield 15, 3) := by decide +kernel
theorem d9_5 : decode prog_21_method_3_code 5 = .ok (.arraylength, 1) := by decide +kernel
theorem d9_6 : decode prog_21_method_3_code 6 = .ok (.imul, 1) := by decide +kernel
theorem d9_7 : decode prog_21_method_3_code 7 = .ok (.iload_n 1, 1) := by decide +kernel
theorem d9_8 : decode prog_21_method_3_code 8 = .ok (.iconst 1, 1) := by decide +kernel
theorem d9_9 : decode prog_21_method_3_code 9 = .ok (.iadd, 1) := by decide +kernel
theorem d9_10 : decode prog_21_method_3_code 10 = .ok (.invokestatic 19, 3) := by decide +kernel
theorem d9_13 : decode prog_21_method_3_code 13 = .ok (.istore_n 2, 1) := by decide +kernel
theorem d9_14 : decode prog_21_method_3_code 14 = .ok (.aload_n 0, 1) := by decide +kernel
theorem d9_15 : decode prog_21_method_3_code 15 = .ok (.aload_n 0, 1) := by decide +kernel
theorem d9_16 : decode prog_21_method_3_code 16 = .ok (.getfield 9, 3) := by decide +kernel
theorem d9_19 : decode prog_21_method_3_code 19 = .ok (.iload_n 2, 1) := by decide +kernel
theorem d9_20 : decode prog_21_method_3_code 20 = .ok (.invokestatic 25, 3) := by decide +kernel
theorem d9_23 : decode prog_21_method_3_code 23 = .ok (.putfield 9, 3) := by decide +kernel
theorem d9_26 : decode prog_21_method_3_code 26 = .ok (.aload_n 0, 1) := by decide +kernel
theorem d9_27 : decode prog_21_method_3_code 27 = .ok (.aload_n 0, 1) := by decide +kernel
theorem d9_28 : decode prog_21_method_3_code 28 = .ok (.getfield 15, 3) := by decide +kernel
theorem d9_31 : decode prog_21_method_3_code 31 = .ok (.iload_n 2, 1) := by decide +kernel
theorem d9_32 : decode prog_21_method_3_code 32 = .ok (.invokestatic 31, 3) := by decide +kernel
theorem d9_35 : decode prog_21_method_3_code 35 = .ok (.putfield 15, 3) := by decide +kernel
theorem d9_38 : decode prog_21_method_3_code 38 = .ok (.return_, 1) := by decide +kernel
theorem pn_9 : plainName "com/example/adfair/adfair/Ranking$Places" = true := by first | (simp [plainName, overriddenIn]; done) | decide +kernel
theorem ef_rmPF (m : MethodId) (x0 : Addr) (x1 : Int32) : entryFrame m #[(.ref x0), (.int x1)] 3 = mkF m 0 #[.val (.ref x0), .val (.int x1), .unset] [] := by first | (simp [entryFrame, mkF, argsToLocals, Value.category]; done) | rfl
def QPF (Z : State) (r0 : Addr) (ii : Nat) (pa : Addr) (ha : Addr) (NN : Nat) (fH : Nat → Int64) (gP : Nat → Int32) (h0 : Heap) (n0 : Nat) (v : Option Value) (h : Heap) (L : List Loc) : Prop := ∃ (MM : Nat) (pb : Addr) (hb : Addr), v = none ∧ Fr n0 L ∧ Keep h0 h [r0] ∧ n0 ≤ pb ∧ n0 ≤ hb ∧ h0.size ≤ pb ∧ h0.size ≤ hb ∧ pb ≠ hb ∧ (ii < MM ∧ NN < MM ∧ MM ≤ 126) ∧ Fld Z h r0 "com/example/adfair/adfair/Ranking$Places" "place" "[I" (.ref pb) ∧ Fld Z h r0 "com/example/adfair/adfair/Ranking$Places" "holder" "[J" (.ref hb) ∧ own_IN Z h pb MM gP ∧ own_LN Z h hb MM fH
set_option maxRecDepth 65536 in
set_option maxHeartbeats 40000000 in
theorem rmPF (l : Launch) (Z : State) (a0 : Array Value) (hw : ∀ d ∈ tables_1, d.before a0 Z = true) (ws : List Jvm.Cond) (r0 : Addr) (ii : Nat) (pa : Addr) (ha : Addr) (NN : Nat) (fH : Nat → Int64) (gP : Nat → Int32) (h0 : Heap) (n0 : Nat) (Z0 : n0 ≤ h0.size) (u0 : Exa Z h0 r0 "com/example/adfair/adfair/Ranking$Places") (u1 : Fld Z h0 r0 "com/example/adfair/adfair/Ranking$Places" "place" "[I" (.ref pa)) (u2 : Fld Z h0 r0 "com/example/adfair/adfair/Ranking$Places" "holder" "[J" (.ref ha)) (u3 : own_IN Z h0 pa NN gP) (u4 : own_LN Z h0 ha NN fH) (ne_r0_pa : r0 ≠ pa) (ne_r0_ha : r0 ≠ ha) (ne_pa_ha : pa ≠ ha) (g_r0 : n0 ≤ r0) (h16 : 16 ≤ NN) (hNi : NN ≤ ii) (hi : ii < 64) (hz1 : own_z fH NN) (hz2 : own_zI gP NN) :
    MetFree l (⟨"com/example/adfair/adfair/Ranking$Places", "placeFor", "(I)V"⟩ : MethodName) (head1 (Jvm.Cond.code (⟨"com/example/adfair/adfair/Ranking$Places", "placeFor", "(I)V"⟩ : MethodName) prog_21_method_3_code 3 none :: ws) ({ frames := 2, cells := 2, slots := 252, locals := 60 } : Room)) (fun a U => a = #[(.ref r0), (.int (Int32.ofNat ii))] ∧ Z.Warmed39 U.vm ∧ U.heap = h0) (fun _ _ _ _ _ => True) (fun _ U o U' => ∃ v L, o = .returned v ∧ QPF Z r0 ii pa ha NN fH gP h0 n0 v U'.heap L ∧ FrameEnd U o U' L ({ frames := 2, cells := 2, slots := 252, locals := 60 } : Room).cells ({ frames := 2, cells := 2, slots := 252, locals := 60 } : Room).slots) := by
  refine MetFree.of_bodySF (plainFor_of_name pn_9) hisR ?_
  intro p e s m args below meth c s₁ Bd hml0 hP hK
  obtain ⟨rfl, hZ, hh⟩ := hP
  have hx := Bd.exec
  have hby := Bd.bytes
  have hml : c.maxLocals = 3 := hml0
  have hown : s.vm.findClass "com/example/adfair/adfair/Ranking$Places" = some m.cls := findClass_of_methodNamed Bd.named
  have hnm := (name_of_methodNamed Bd.named Bd.method).1
  have X0 : Stand p l e ({ frames := 2, cells := 2, slots := 252, locals := 60 } : Room) s m #[(.ref r0), (.int (Int32.ofNat ii))] below meth c s₁ [] 0 0 := Stand.of_body Bd
  have e0 : s₁.heap = h0 := by rw [← hh, Bd.state]; rfl
  have N0 := Fr.nil n0
  refine own_open fun G hG => ?_
  refine own_go (B := s₁.setTop (mkF m 0 #[.val (.ref r0), .val (.int (Int32.ofNat ii)), .unset] [])) (fun t_ k_ => castTop (ef_rmPF m r0 (Int32.ofNat ii)) k_) ?_
  have K0 : Keep h0 h0 [r0] := Keep.refl h0 _
  refine own_s 1 [(.int 2)] (fun _ k_ => XS.iconst X0.here hx rfl (hb hby d9_0) k_) ?_
  refine own_aloadN 2 X0.here hx (hb hby d9_1) rfl rfl rfl ?_
  obtain ⟨T594, X594, e594, st594⟩ := getF X0 hx hZ hown (host := "") (Or.inl (own_w 13 hw rfl)) Via.refl e0 u2 (g := (mkF m 2 #[.val (.ref r0), .val (.int (Int32.ofNat ii)), .unset] [(.ref r0), (.int 2)])) rfl rfl (hb hby d9_2)
  refine own_s 5 [(.ref ha), (.int 2)] (fun _ k_ => st594 _ k_) ?_
  obtain ⟨cl595, Ar595, S595, -⟩ := id u4
  refine own_go (B := T594.setTop (mkF m 6 #[.val (.ref r0), .val (.int (Int32.ofNat ii)), .unset] [(.int (Int32.ofNat NN)), (.int 2)])) (fun t_ k_ => ?_) ?_
  · refine X594.arraylength hx (by rw [e594]; exact Ar595.1) (State.isArrayOf_alike hZ.alike Ar595.2.1) (g := (mkF m 5 #[.val (.ref r0), .val (.int (Int32.ofNat ii)), .unset] [(.ref ha), (.int 2)])) rfl rfl (hb hby d9_5) _ ?_
    rw [own_len S595]
    exact k_
  refine own_s 7 [(.int ((2 : Int32) * (Int32.ofNat NN)))] (fun _ k_ => XS.imul X594.here hx rfl (hb hby d9_6) rfl k_) ?_
  refine own_iloadN 8 X594.here hx (hb hby d9_7) rfl rfl ?_
  refine own_s 9 [(.int 1), (.int (Int32.ofNat ii)), (.int ((2 : Int32) * (Int32.ofNat NN)))] (fun _ k_ => XS.iconst X594.here hx rfl (hb hby d9_8) k_) ?_
  refine own_s 10 [(.int ((Int32.ofNat ii) + (1 : Int32))), (.int ((2 : Int32) * (Int32.ofNat NN)))] (fun _ k_ => XS.iadd X594.here hx rfl (hb hby d9_9) rfl k_) ?_
  obtain ⟨vv596, _, ⟨T596, L596, k596, n596⟩, -, X596, ⟨Lc596, hQ596, l596, y596, z596⟩, st596⟩ := Jvm.LawKit.callS X594 hx (y := (⟨"java/lang/Math", "max", "(II)I"⟩ : MethodName)) hown (mvT hZ (own_w 73 hw rfl)) (mvT hZ (own_w 74 hw rfl)) (mvT hZ (own_w 75 hw rfl)) (mvT hZ (own_w 76 hw rfl)) (by decide) (backOf (W := 0) (rm10 l Z a0 hw [] ((2 : Int32) * (Int32.ofNat NN)) ((Int32.ofNat ii) + (1 : Int32)) h0 n0 Z0) hZ (own_w 76 hw rfl) (own_w 75 hw rfl) (by decide) (by decide)) (g := (mkF m 10 #[.val (.ref r0), .val (.int (Int32.ofNat ii)), .unset] [(.int ((Int32.ofNat ii) + (1 : Int32))), (.int ((2 : Int32) * (Int32.ofNat NN)))])) rfl (by rw [hml]; rfl) (argsL := [(.int ((2 : Int32) * (Int32.ofNat NN))), (.int ((Int32.ofNat ii) + (1 : Int32)))]) (rest := []) (lenOf pd__28_II_29_I rfl) rfl (by show 2 * 0 + _ ≤ _; exact Nat.le_of_eq rfl) (hb hby d9_10) (fun _ _ => ⟨rfl, e594, (by decide : 0 + 0 ≤ _), (by decide : 0 + 0 ≤ _)⟩)
  dsimp only [Pt.U, Pt.locs, Pt.cells, Pt.slots] at X596 l596 y596 z596 st596 hQ596
  subst l596 y596 z596
  obtain ⟨rfl, N596q, e596q⟩ := hQ596
  have N596 := Fr.app N0 N596q
  refine own_s 13 [(.int (own_max ((2 : Int32) * (Int32.ofNat NN)) ((Int32.ofNat ii) + (1 : Int32))))] (fun _ k_ => st596 _ k_) ?_
  obtain ⟨MM, eM, hM⟩ := own_mx h16 hNi hi
  rw [eM]
  refine own_istoreN 14 #[.val (.ref r0), .val (.int (Int32.ofNat ii)), .val (.int (Int32.ofNat MM))] X596.here hx (hb hby d9_13) rfl rfl ?_
  refine own_aloadN 15 X596.here hx (hb hby d9_14) rfl rfl rfl ?_
  refine own_aloadN 16 X596.here hx (hb hby d9_15) rfl rfl rfl ?_
  obtain ⟨T597, X597, e597, st597⟩ := getF X596 hx hZ hown (host := "") (Or.inl (own_w 10 hw rfl)) Via.refl e596q u1 (g := (mkF m 16 #[.val (.ref r0), .val (.int (Int32.ofNat ii)), .val (.int (Int32.ofNat MM))] [(.ref r0), (.ref r0)])) rfl rfl (hb hby d9_16)
  refine own_s 19 [(.ref pa), (.ref r0)] (fun _ k_ => st597 _ k_) ?_
  refine own_iloadN 20 X597.here hx (hb hby d9_19) rfl rfl ?_
  obtain ⟨vv598, _, ⟨T598, L598, k598, n598⟩, -, X598, ⟨Lc598, hQ598, l598, y598, z598⟩, st598⟩ := Jvm.LawKit.callS X597 hx (y := (⟨"java/util/Arrays", "copyOf", "([II)[I"⟩ : MethodName)) hown (mvT hZ (own_w 77 hw rfl)) (mvT hZ (own_w 78 hw rfl)) (mvT hZ (own_w 79 hw rfl)) (mvT hZ (own_w 80 hw rfl)) (by decide) (backOf (W := 1) (rmCpi l Z a0 hw [] pa NN MM gP h0 n0 Z0 u3 (hM.2.1) (hM.2.2) hz2) hZ (own_w 80 hw rfl) (own_w 79 hw rfl) (by decide) (by decide)) (g := (mkF m 20 #[.val (.ref r0), .val (.int (Int32.ofNat ii)), .val (.int (Int32.ofNat MM))] [(.int (Int32.ofNat MM)), (.ref pa), (.ref r0)])) rfl (by rw [hml]; rfl) (argsL := [(.ref pa), (.int (Int32.ofNat MM))]) (rest := [(.ref r0)]) (lenOf pd__28__5b_II_29__5b_I rfl) rfl (by show 2 * 0 + _ ≤ _; exact Nat.le_of_eq rfl) (hb hby d9_20) (fun _ _ => ⟨rfl, e597, (by decide : 0 + 1 ≤ _), (by decide : 0 + 126 ≤ _)⟩)
  dsimp only [Pt.U, Pt.locs, Pt.cells, Pt.slots] at X598 l598 y598 z598 st598 hQ598
  subst l598 y598 z598
  obtain ⟨b_598, rfl, N598q, K598, g_b_598, s_b_598, v598_0⟩ := hQ598
  have N598 := Fr.app N596 N598q
  have ne_r0_b_598 : r0 ≠ b_598 := Nat.ne_of_lt (Nat.lt_of_lt_of_le u0.lt s_b_598)
  have ne_pa_b_598 : pa ≠ b_598 := Nat.ne_of_lt (Nat.lt_of_lt_of_le u3.lt s_b_598)
  have ne_ha_b_598 : ha ≠ b_598 := Nat.ne_of_lt (Nat.lt_of_lt_of_le u4.lt s_b_598)
  have sz_b_598 : h0.size ≤ b_598 := Nat.le_trans K0.1 s_b_598
  have f599 := u0.keep K598
  have f600 := u1.keep K598 nin0
  have f601 := u2.keep K598 nin0
  have f602 := u3.keep K598 nin0
  have f603 := u4.keep K598 nin0
  have f604 : Keep h0 T598.heap [r0] := K0.trans K598 all0
  have Z598 : n0 ≤ T598.heap.size := Nat.le_trans Z0 K598.1
  refine own_s 23 [(.ref b_598), (.ref r0)] (fun _ k_ => st598 _ k_) ?_
  obtain ⟨T605, h605, X605, e605, W605, st605⟩ := putF X598 hx hZ hown (host := "") (Or.inl (own_w 10 hw rfl)) Via.refl rfl f600 f599 (Or.inl (own_w 11 hw rfl)) (own_w 1 hw rfl) (ty := (.array .int)) (by decide) rfl rfl (g := (mkF m 23 #[.val (.ref r0), .val (.int (Int32.ofNat ii)), .val (.int (Int32.ofNat MM))] [(.ref b_598), (.ref r0)])) rfl rfl (hb hby d9_23)
  have f606 := f599.wr W605
  have f607 : Fld Z h605 r0 "com/example/adfair/adfair/Ranking$Places" "place" "[I" (.ref b_598) := f600.same W605
  have f608 := f601.other W605 (Or.inr (slot_ne (Or.inl (own_w 14 hw rfl)) (Or.inl (own_w 11 hw rfl)) (by decide) (t := (.array .long)) (t' := (.array .int)) (by decide) (by decide)))
  have f609 := f602.other W605 (Ne.symm ne_r0_pa)
  have f610 := f603.other W605 (Ne.symm ne_r0_ha)
  have f611 := f604.wr W605 (Or.inl (List.mem_of_getElem? (i := 0) rfl))
  have f612 := v598_0.other W605 (Ne.symm ne_r0_b_598)
  have Z605 : n0 ≤ h605.size := Nat.le_trans Z598 (Keep.of_wr W605).1
  have N605 := Fr.snoc X605 N598 g_r0
  refine own_s 26 [] (fun _ k_ => st605 _ k_) ?_
  refine own_aloadN 27 X605.here hx (hb hby d9_26) rfl rfl rfl ?_
  refine own_aloadN 28 X605.here hx (hb hby d9_27) rfl rfl rfl ?_
  obtain ⟨T613, X613, e613, st613⟩ := getF X605 hx hZ hown (host := "") (Or.inl (own_w 13 hw rfl)) Via.refl e605 f608 (g := (mkF m 28 #[.val (.ref r0), .val (.int (Int32.ofNat ii)), .val (.int (Int32.ofNat MM))] [(.ref r0), (.ref r0)])) rfl rfl (hb hby d9_28)
  refine own_s 31 [(.ref ha), (.ref r0)] (fun _ k_ => st613 _ k_) ?_
  refine own_iloadN 32 X613.here hx (hb hby d9_31) rfl rfl ?_
  obtain ⟨vv614, _, ⟨T614, L614, k614, n614⟩, -, X614, ⟨Lc614, hQ614, l614, y614, z614⟩, st614⟩ := Jvm.LawKit.callS X613 hx (y := (⟨"java/util/Arrays", "copyOf", "([JI)[J"⟩ : MethodName)) hown (mvT hZ (own_w 88 hw rfl)) (mvT hZ (own_w 89 hw rfl)) (mvT hZ (own_w 79 hw rfl)) (mvT hZ (own_w 90 hw rfl)) (by decide) (backOf (W := 1) (rmCpl l Z a0 hw [] ha NN MM fH h605 n0 Z605 f610 (hM.2.1) (hM.2.2) hz1) hZ (own_w 90 hw rfl) (own_w 79 hw rfl) (by decide) (by decide)) (g := (mkF m 32 #[.val (.ref r0), .val (.int (Int32.ofNat ii)), .val (.int (Int32.ofNat MM))] [(.int (Int32.ofNat MM)), (.ref ha), (.ref r0)])) rfl (by rw [hml]; rfl) (argsL := [(.ref ha), (.int (Int32.ofNat MM))]) (rest := [(.ref r0)]) (lenOf pd__28__5b_JI_29__5b_J rfl) rfl (by show 2 * 0 + _ ≤ _; exact Nat.le_of_eq rfl) (hb hby d9_32) (fun _ _ => ⟨rfl, e613, (by decide : 1 + 1 ≤ _), (by decide : 126 + 126 ≤ _)⟩)
  dsimp only [Pt.U, Pt.locs, Pt.cells, Pt.slots] at X614 l614 y614 z614 st614 hQ614
  subst l614 y614 z614
  obtain ⟨b_614, rfl, N614q, K614, g_b_614, s_b_614, v614_0⟩ := hQ614
  have N614 := Fr.app N605 N614q
  have ne_r0_b_614 : r0 ≠ b_614 := Nat.ne_of_lt (Nat.lt_of_lt_of_le f606.lt s_b_614)
  have ne_pa_b_614 : pa ≠ b_614 := Nat.ne_of_lt (Nat.lt_of_lt_of_le f609.lt s_b_614)
  have ne_ha_b_614 : ha ≠ b_614 := Nat.ne_of_lt (Nat.lt_of_lt_of_le f610.lt s_b_614)
  have ne_b_598_b_614 : b_598 ≠ b_614 := Nat.ne_of_lt (Nat.lt_of_lt_of_le f612.lt s_b_614)
  have sz_b_614 : h0.size ≤ b_614 := Nat.le_trans f611.1 s_b_614
  have f615 := f606.keep K614
  have f616 := f607.keep K614 nin0
  have f617 := f608.keep K614 nin0
  have f620 : Keep h0 T614.heap [r0] := f611.trans K614 all0
  have f621 := f612.keep K614 nin0
  have Z614 : n0 ≤ T614.heap.size := Nat.le_trans Z605 K614.1
  refine own_s 35 [(.ref b_614), (.ref r0)] (fun _ k_ => st614 _ k_) ?_
  obtain ⟨T622, h622, X622, e622, W622, st622⟩ := putF X614 hx hZ hown (host := "") (Or.inl (own_w 13 hw rfl)) Via.refl rfl f617 f615 (Or.inl (own_w 14 hw rfl)) (own_w 1 hw rfl) (ty := (.array .long)) (by decide) rfl rfl (g := (mkF m 35 #[.val (.ref r0), .val (.int (Int32.ofNat ii)), .val (.int (Int32.ofNat MM))] [(.ref b_614), (.ref r0)])) rfl rfl (hb hby d9_35)
  have f624 := f616.other W622 (Or.inr (slot_ne (Or.inl (own_w 11 hw rfl)) (Or.inl (own_w 14 hw rfl)) (by decide) (t := (.array .int)) (t' := (.array .long)) (by decide) (by decide)))
  have f625 : Fld Z h622 r0 "com/example/adfair/adfair/Ranking$Places" "holder" "[J" (.ref b_614) := f617.same W622
  have f628 := f620.wr W622 (Or.inl (List.mem_of_getElem? (i := 0) rfl))
  have f629 := f621.other W622 (Ne.symm ne_r0_b_598)
  have f630 := v614_0.other W622 (Ne.symm ne_r0_b_614)
  have Z622 : n0 ≤ h622.size := Nat.le_trans Z614 (Keep.of_wr W622).1
  have N622 := Fr.snoc X622 N614 g_r0
  refine own_s 38 [] (fun _ k_ => st622 _ k_) ?_
  obtain ⟨fs, hr, hrun, hended, hW, hsame⟩ := X622.leave (v := none) (fun _ => rfl)
  refine own_at ?_ (hG _ _ ⟨hrun, hended, _, _, rfl, ?_, ⟨_, rfl⟩, hW, hsame.mono (by decide) (by decide)⟩)
  · show Steps p.tables e below (T622.setTop (mkF m 38 #[.val (.ref r0), .val (.int (Int32.ofNat ii)), .val (.int (Int32.ofNat MM))] [])) _
    exact X622.returnOut hx Bd.returns (hb hby d9_38) hr
  · show QPF Z r0 ii pa ha NN fH gP h0 n0 _ T622.heap _
    rw [e622]
    exact ⟨MM, b_598, b_614, rfl, N622, f628, g_b_598, g_b_614, sz_b_598, sz_b_614, ne_b_598_b_614, hM, f624, f625, f629, f630⟩
theorem d7_0 : decode prog_20_method_14_code 0 = .ok (.aload_n 0, 1) := by decide +kernel
theorem d7_1 : decode prog_20_method_14_code 1 = .ok (.getfield 51, 3) := by decide +kernel
theorem d7_4 : decode prog_20_method_14_code 4 = .ok (.aload_n 0, 1) := by decide +kernel
theorem d7_5 : decode prog_20_method_14_code 5 = .ok (.getfield 27, 3) := by decide +kernel
theorem d7_8 : decode prog_20_method_14_code 8 = .ok (.arraylength, 1) := by decide +kernel
theorem d7_9 : decode prog_20_method_14_code 9 = .ok (.if_icmp .ne 7, 3) := by decide +kernel
theorem d7_12 : decode prog_20_method_14_code 12 = .ok (.aload_n 0, 1) := by decide +kernel
theorem d7_13 : decode prog_20_method_14_code 13 = .ok (.invokevirtual 123, 3) := by decide +kernel
theorem d7_16 : decode prog_20_method_14_code 16 = .ok (.iload 6, 2) := by decide +kernel
theorem d7_18 : decode prog_20_method_14_code 18 = .ok (.ifCond .eq 30, 3) := by decide +kernel
theorem d7_21 : decode prog_20_method_14_code 21 = .ok (.aload_n 0, 1) := by decide +kernel
theorem d7_22 : decode prog_20_method_14_code 22 = .ok (.aload_n 0, 1) := by decide +kernel
theorem d7_23 : decode prog_20_method_14_code 23 = .ok (.getfield 61, 3) := by decide +kernel
theorem d7_26 : decode prog_20_method_14_code 26 = .ok (.iconst 1, 1) := by decide +kernel
theorem d7_27 : decode prog_20_method_14_code 27 = .ok (.isub, 1) := by decide +kernel
theorem d7_28 : decode prog_20_method_14_code 28 = .ok (.aload_n 0, 1) := by decide +kernel
theorem d7_29 : decode prog_20_method_14_code 29 = .ok (.getfield 27, 3) := by decide +kernel
theorem d7_32 : decode prog_20_method_14_code 32 = .ok (.arraylength, 1) := by decide +kernel
theorem d7_33 : decode prog_20_method_14_code 33 = .ok (.iconst 1, 1) := by decide +kernel
theorem d7_34 : decode prog_20_method_14_code 34 = .ok (.isub, 1) := by decide +kernel
theorem d7_35 : decode prog_20_method_14_code 35 = .ok (.iand, 1) := by decide +kernel
theorem d7_36 : decode prog_20_method_14_code 36 = .ok (.putfield 61, 3) := by decide +kernel
theorem d7_39 : decode prog_20_method_14_code 39 = .ok (.aload_n 0, 1) := by decide +kernel
theorem d7_40 : decode prog_20_method_14_code 40 = .ok (.getfield 61, 3) := by decide +kernel
theorem d7_43 : decode prog_20_method_14_code 43 = .ok (.istore 7, 2) := by decide +kernel
theorem d7_45 : decode prog_20_method_14_code 45 = .ok (.goto 22, 3) := by decide +kernel
theorem d7_48 : decode prog_20_method_14_code 48 = .ok (.aload_n 0, 1) := by decide +kernel
theorem d7_49 : decode prog_20_method_14_code 49 = .ok (.getfield 61, 3) := by decide +kernel
theorem d7_52 : decode prog_20_method_14_code 52 = .ok (.aload_n 0, 1) := by decide +kernel
theorem d7_53 : decode prog_20_method_14_code 53 = .ok (.getfield 51, 3) := by decide +kernel
theorem d7_56 : decode prog_20_method_14_code 56 = .ok (.iadd, 1) := by decide +kernel
theorem d7_57 : decode prog_20_method_14_code 57 = .ok (.aload_n 0, 1) := by decide +kernel
theorem d7_58 : decode prog_20_method_14_code 58 = .ok (.getfield 27, 3) := by decide +kernel
theorem d7_61 : decode prog_20_method_14_code 61 = .ok (.arraylength, 1) := by decide +kernel
theorem d7_62 : decode prog_20_method_14_code 62 = .ok (.iconst 1, 1) := by decide +kernel
theorem d7_63 : decode prog_20_method_14_code 63 = .ok (.isub, 1) := by decide +kernel
theorem d7_64 : decode prog_20_method_14_code 64 = .ok (.iand, 1) := by decide +kernel
theorem d7_65 : decode prog_20_method_14_code 65 = .ok (.istore 7, 2) := by decide +kernel
theorem d7_67 : decode prog_20_method_14_code 67 = .ok (.aload_n 0, 1) := by decide +kernel
theorem d7_68 : decode prog_20_method_14_code 68 = .ok (.getfield 27, 3) := by decide +kernel
theorem d7_71 : decode prog_20_method_14_code 71 = .ok (.iload 7, 2) := by decide +kernel
theorem d7_73 : decode prog_20_method_14_code 73 = .ok (.iload_n 1, 1) := by decide +kernel
theorem d7_74 : decode prog_20_method_14_code 74 = .ok (.iastore, 1) := by decide +kernel
theorem d7_75 : decode prog_20_method_14_code 75 = .ok (.aload_n 0, 1) := by decide +kernel
theorem d7_76 : decode prog_20_method_14_code 76 = .ok (.getfield 30, 3) := by decide +kernel
theorem d7_79 : decode prog_20_method_14_code 79 = .ok (.iload 7, 2) := by decide +kernel
theorem d7_81 : decode prog_20_method_14_code 81 = .ok (.dload_n 2, 1) := by decide +kernel
theorem d7_82 : decode prog_20_method_14_code 82 = .ok (.dastore, 1) := by decide +kernel
theorem d7_83 : decode prog_20_method_14_code 83 = .ok (.aload_n 0, 1) := by decide +kernel
theorem d7_84 : decode prog_20_method_14_code 84 = .ok (.getfield 33, 3) := by decide +kernel
theorem d7_87 : decode prog_20_method_14_code 87 = .ok (.iload 7, 2) := by decide +kernel
theorem d7_89 : decode prog_20_method_14_code 89 = .ok (.lload 4, 2) := by decide +kernel
theorem d7_91 : decode prog_20_method_14_code 91 = .ok (.lastore, 1) := by decide +kernel
theorem d7_92 : decode prog_20_method_14_code 92 = .ok (.aload_n 0, 1) := by decide +kernel
theorem d7_93 : decode prog_20_method_14_code 93 = .ok (.dup, 1) := by decide +kernel
theorem d7_94 : decode prog_20_method_14_code 94 = .ok (.getfield 51, 3) := by decide +kernel
theorem d7_97 : decode prog_20_method_14_code 97 = .ok (.iconst 1, 1) := by decide +kernel
theorem d7_98 : decode prog_20_method_14_code 98 = .ok (.iadd, 1) := by decide +kernel
theorem d7_99 : decode prog_20_method_14_code 99 = .ok (.putfield 51, 3) := by decide +kernel
theorem d7_102 : decode prog_20_method_14_code 102 = .ok (.aload_n 0, 1) := by decide +kernel
theorem d7_103 : decode prog_20_method_14_code 103 = .ok (.getfield 36, 3) := by decide +kernel
theorem d7_106 : decode prog_20_method_14_code 106 = .ok (.getfield 106, 3) := by decide +kernel
theorem d7_109 : decode prog_20_method_14_code 109 = .ok (.iload_n 1, 1) := by decide +kernel
theorem d7_110 : decode prog_20_method_14_code 110 = .ok (.bipush (-2), 2) := by decide +kernel
theorem d7_112 : decode prog_20_method_14_code 112 = .ok (.iastore, 1) := by decide +kernel
theorem d7_113 : decode prog_20_method_14_code 113 = .ok (.return_, 1) := by decide +kernel
theorem pn_7 : plainName "com/example/adfair/adfair/Ranking" = true := by first | (simp [plainName, overriddenIn]; done) | decide +kernel
theorem ef_rmEn0 (m : MethodId) (x0 : Addr) (x1 : Int32) (x2 : UInt64) (x3 : Int64) (x4 : Int32) : entryFrame m #[(.ref x0), (.int x1), (.double x2), (.long x3), (.int x4)] 8 = mkF m 0 #[.val (.ref x0), .val (.int x1), .val (.double x2), .second, .val (.long x3), .second, .val (.int x4), .unset] [] := by first | (simp [entryFrame, mkF, argsToLocals, Value.category]; done) | rfl
def QEn0 (Z : State) (r0 : Addr) (q3 : Int64) (ii : Nat) (kk : Int64) (pp : Addr) (pa : Addr) (qa : Addr) (ka : Addr) (oa : Addr) (cq : ClassId) (ck : ClassId) (co : ClassId) (NN : Nat) (gP : Nat → Int32) (num : Int64) (h0 : Heap) (n0 : Nat) (v : Option Value) (h : Heap) (L : List Loc) : Prop := v = none ∧ Fr n0 L ∧ Keep h0 h [r0, qa, ka, oa, pa] ∧ Fld Z h r0 "com/example/adfair/adfair/Ranking" "places" "Lcom/example/adfair/adfair/Ranking$Places;" (.ref pp) ∧ Fld Z h r0 "com/example/adfair/adfair/Ranking" "queued" "[I" (.ref qa) ∧ Fld Z h r0 "com/example/adfair/adfair/Ranking" "queueFirst" "I" (.int 0) ∧ Fld Z h r0 "com/example/adfair/adfair/Ranking" "queueSize" "I" (.int 1) ∧ own_IN Z h pa NN (own_updI gP ii (-2 : Int32)) ∧ Arv Z h qa cq .int (16 : Int32) [(.int (Int32.ofNat ii)), (.int 0), (.int 0), (.int 0), (.int 0), (.int 0), (.int 0), (.int 0), (.int 0), (.int 0), (.int 0), (.int 0), (.int 0), (.int 0), (.int 0), (.int 0)] (.int 0) ∧ Arv Z h ka ck .double (16 : Int32) [(.double (FP.l2d kk)), (.double (FP.l2d 0)), (.double (FP.l2d 0)), (.double (FP.l2d 0)), (.double (FP.l2d 0)), (.double (FP.l2d 0)), (.double (FP.l2d 0)), (.double (FP.l2d 0)), (.double (FP.l2d 0)), (.double (FP.l2d 0)), (.double (FP.l2d 0)), (.double (FP.l2d 0)), (.double (FP.l2d 0)), (.double (FP.l2d 0)), (.double (FP.l2d 0)), (.double (FP.l2d 0))] (.double (FP.l2d 0)) ∧ Arv Z h oa co .long (16 : Int32) [(.long q3), (.long 0), (.long 0), (.long 0), (.long 0), (.long 0), (.long 0), (.long 0), (.long 0), (.long 0), (.long 0), (.long 0), (.long 0), (.long 0), (.long 0), (.long 0)] (.long 0) ∧ Fld Z h r0 "com/example/adfair/adfair/Ranking" "number" "J" (.long num) ∧ Fld Z h r0 "com/example/adfair/adfair/Ranking" "queuedKeys" "[D" (.ref ka) ∧ Fld Z h r0 "com/example/adfair/adfair/Ranking" "queuedOrders" "[J" (.ref oa)
set_option maxRecDepth 65536 in
set_option maxHeartbeats 40000000 in
theorem rmEn0 (l : Launch) (Z : State) (a0 : Array Value) (hw : ∀ d ∈ tables_1, d.before a0 Z = true) (ws : List Jvm.Cond) (r0 : Addr) (q3 : Int64) (ii : Nat) (kk : Int64) (pp : Addr) (pa : Addr) (qa : Addr) (ka : Addr) (oa : Addr) (cq : ClassId) (ck : ClassId) (co : ClassId) (NN : Nat) (gP : Nat → Int32) (num : Int64) (h0 : Heap) (n0 : Nat) (Z0 : n0 ≤ h0.size) (u0 : Exa Z h0 r0 "com/example/adfair/adfair/Ranking") (u1 : Fld Z h0 r0 "com/example/adfair/adfair/Ranking" "places" "Lcom/example/adfair/adfair/Ranking$Places;" (.ref pp)) (u2 : Fld Z h0 r0 "com/example/adfair/adfair/Ranking" "queued" "[I" (.ref qa)) (u3 : Fld Z h0 r0 "com/example/adfair/adfair/Ranking" "queuedKeys" "[D" (.ref ka)) (u4 : Fld Z h0 r0 "com/example/adfair/adfair/Ranking" "queuedOrders" "[J" (.ref oa)) (u5 : Fld Z h0 r0 "com/example/adfair/adfair/Ranking" "number" "J" (.long num)) (u6 : Fld Z h0 r0 "com/example/adfair/adfair/Ranking" "queueFirst" "I" (.int 0)) (u7 : Fld Z h0 r0 "com/example/adfair/adfair/Ranking" "queueSize" "I" (.int 0)) (u8 : Fld Z h0 pp "com/example/adfair/adfair/Ranking$Places" "place" "[I" (.ref pa)) (u9 : own_IN Z h0 pa NN gP) (u10 : Arv Z h0 qa cq .int (16 : Int32) [(.int 0), (.int 0), (.int 0), (.int 0), (.int 0), (.int 0), (.int 0), (.int 0), (.int 0), (.int 0), (.int 0), (.int 0), (.int 0), (.int 0), (.int 0), (.int 0)] (.int 0)) (u11 : Arv Z h0 ka ck .double (16 : Int32) [(.double (FP.l2d 0)), (.double (FP.l2d 0)), (.double (FP.l2d 0)), (.double (FP.l2d 0)), (.double (FP.l2d 0)), (.double (FP.l2d 0)), (.double (FP.l2d 0)), (.double (FP.l2d 0)), (.double (FP.l2d 0)), (.double (FP.l2d 0)), (.double (FP.l2d 0)), (.double (FP.l2d 0)), (.double (FP.l2d 0)), (.double (FP.l2d 0)), (.double (FP.l2d 0)), (.double (FP.l2d 0))] (.double (FP.l2d 0))) (u12 : Arv Z h0 oa co .long (16 : Int32) [(.long 0), (.long 0), (.long 0), (.long 0), (.long 0), (.long 0), (.long 0), (.long 0), (.long 0), (.long 0), (.long 0), (.long 0), (.long 0), (.long 0), (.long 0), (.long 0)] (.long 0)) (ne_r0_pp : r0 ≠ pp) (ne_r0_pa : r0 ≠ pa) (ne_r0_qa : r0 ≠ qa) (ne_r0_ka : r0 ≠ ka) (ne_r0_oa : r0 ≠ oa) (ne_pp_pa : pp ≠ pa) (ne_pp_qa : pp ≠ qa) (ne_pp_ka : pp ≠ ka) (ne_pp_oa : pp ≠ oa) (ne_pa_qa : pa ≠ qa) (ne_pa_ka : pa ≠ ka) (ne_pa_oa : pa ≠ oa) (ne_qa_ka : qa ≠ ka) (ne_qa_oa : qa ≠ oa) (ne_ka_oa : ka ≠ oa) (g_r0 : n0 ≤ r0) (g_qa : n0 ≤ qa) (g_ka : n0 ≤ ka) (g_oa : n0 ≤ oa) (g_pa : n0 ≤ pa) (hi : ii < NN) (hN : NN ≤ 126) :
    MetFree l (⟨"com/example/adfair/adfair/Ranking", "enqueue", "(IDJZ)V"⟩ : MethodName) (head1 (Jvm.Cond.code (⟨"com/example/adfair/adfair/Ranking", "enqueue", "(IDJZ)V"⟩ : MethodName) prog_20_method_14_code 8 none :: ws) ({ frames := 0, cells := 0, slots := 0, locals := 0 } : Room)) (fun a U => a = #[(.ref r0), (.int (Int32.ofNat ii)), (.double (FP.l2d kk)), (.long q3), (.int 0)] ∧ Z.Warmed39 U.vm ∧ U.heap = h0) (fun _ _ _ _ _ => True) (fun _ U o U' => ∃ v L, o = .returned v ∧ QEn0 Z r0 q3 ii kk pp pa qa ka oa cq ck co NN gP num h0 n0 v U'.heap L ∧ FrameEnd U o U' L ({ frames := 0, cells := 0, slots := 0, locals := 0 } : Room).cells ({ frames := 0, cells := 0, slots := 0, locals := 0 } : Room).slots) := by
  refine MetFree.of_bodySF (plainFor_of_name pn_7) hisR ?_
  intro p e s m args below meth c s₁ Bd hml0 hP hK
  obtain ⟨rfl, hZ, hh⟩ := hP
  have hx := Bd.exec
  have hby := Bd.bytes
  have hml : c.maxLocals = 8 := hml0
  have hown : s.vm.findClass "com/example/adfair/adfair/Ranking" = some m.cls := findClass_of_methodNamed Bd.named
  have hnm := (name_of_methodNamed Bd.named Bd.method).1
  have X0 : Stand p l e ({ frames := 0, cells := 0, slots := 0, locals := 0 } : Room) s m #[(.ref r0), (.int (Int32.ofNat ii)), (.double (FP.l2d kk)), (.long q3), (.int 0)] below meth c s₁ [] 0 0 := Stand.of_body Bd
  have e0 : s₁.heap = h0 := by rw [← hh, Bd.state]; rfl
  have N0 := Fr.nil n0
  refine own_open fun G hG => ?_
  refine own_go (B := s₁.setTop (mkF m 0 #[.val (.ref r0), .val (.int (Int32.ofNat ii)), .val (.double (FP.l2d kk)), .second, .val (.long q3), .second, .val (.int 0), .unset] [])) (fun t_ k_ => castTop (ef_rmEn0 m r0 (Int32.ofNat ii) (FP.l2d kk) q3 (0 : Int32)) k_) ?_
  have K0 : Keep h0 h0 [r0, qa, ka, oa, pa] := Keep.refl h0 _
  refine own_aloadN 1 X0.here hx (hb hby d7_0) rfl rfl rfl ?_
  obtain ⟨T632, X632, e632, st632⟩ := getF X0 hx hZ hown (host := "") (Or.inl (own_w 57 hw rfl)) Via.refl e0 u7 (g := (mkF m 1 #[.val (.ref r0), .val (.int (Int32.ofNat ii)), .val (.double (FP.l2d kk)), .second, .val (.long q3), .second, .val (.int 0), .unset] [(.ref r0)])) rfl rfl (hb hby d7_1)
  refine own_s 4 [(.int 0)] (fun _ k_ => st632 _ k_) ?_
  refine own_aloadN 5 X632.here hx (hb hby d7_4) rfl rfl rfl ?_
  obtain ⟨T633, X633, e633, st633⟩ := getF X632 hx hZ hown (host := "") (Or.inl (own_w 29 hw rfl)) Via.refl e632 u2 (g := (mkF m 5 #[.val (.ref r0), .val (.int (Int32.ofNat ii)), .val (.double (FP.l2d kk)), .second, .val (.long q3), .second, .val (.int 0), .unset] [(.ref r0), (.int 0)])) rfl rfl (hb hby d7_5)
  refine own_s 8 [(.ref qa), (.int 0)] (fun _ k_ => st633 _ k_) ?_
  obtain ⟨cl634, Ar634, -, S634, M634, -, -⟩ := id u10
  refine own_go (B := T633.setTop (mkF m 9 #[.val (.ref r0), .val (.int (Int32.ofNat ii)), .val (.double (FP.l2d kk)), .second, .val (.long q3), .second, .val (.int 0), .unset] [(.int 16), (.int 0)])) (fun t_ k_ => ?_) ?_
  · refine X633.arraylength hx (by rw [e633]; exact Ar634.1) (State.isArrayOf_alike hZ.alike Ar634.2.1) (g := (mkF m 8 #[.val (.ref r0), .val (.int (Int32.ofNat ii)), .val (.double (FP.l2d kk)), .second, .val (.long q3), .second, .val (.int 0), .unset] [(.ref qa), (.int 0)])) rfl rfl (hb hby d7_8) _ ?_
    rw [len_of S634 M634]
    exact k_
  refine own_s 16 [] (fun _ k_ => XS.icmpYes X633.here hx rfl (pc0 := 9) (pc' := 16) rfl (hb hby d7_9) rfl (feq (by decide : ¬ ((0 : Int32) = (16 : Int32)))).2 (by decide) (by decide) k_) ?_
  refine own_iload 18 X633.here hx (hb hby d7_16) rfl rfl ?_
  refine own_s 48 [] (fun _ k_ => XS.ifYes X633.here hx rfl (pc0 := 18) (pc' := 48) rfl (hb hby d7_18) rfl ((if0 _ _).trans (teq (by decide : (0 : Int32) = (0 : Int32))).1) (by decide) (by decide) k_) ?_
  refine own_aloadN 49 X633.here hx (hb hby d7_48) rfl rfl rfl ?_
  obtain ⟨T635, X635, e635, st635⟩ := getF X633 hx hZ hown (host := "") (Or.inl (own_w 55 hw rfl)) Via.refl e633 u6 (g := (mkF m 49 #[.val (.ref r0), .val (.int (Int32.ofNat ii)), .val (.double (FP.l2d kk)), .second, .val (.long q3), .second, .val (.int 0), .unset] [(.ref r0)])) rfl rfl (hb hby d7_49)
  refine own_s 52 [(.int 0)] (fun _ k_ => st635 _ k_) ?_
  refine own_aloadN 53 X635.here hx (hb hby d7_52) rfl rfl rfl ?_
  obtain ⟨T636, X636, e636, st636⟩ := getF X635 hx hZ hown (host := "") (Or.inl (own_w 57 hw rfl)) Via.refl e635 u7 (g := (mkF m 53 #[.val (.ref r0), .val (.int (Int32.ofNat ii)), .val (.double (FP.l2d kk)), .second, .val (.long q3), .second, .val (.int 0), .unset] [(.ref r0), (.int 0)])) rfl rfl (hb hby d7_53)
  refine own_s 56 [(.int 0), (.int 0)] (fun _ k_ => st636 _ k_) ?_
  refine own_s 57 [(.int ((0 : Int32) + (0 : Int32)))] (fun _ k_ => XS.iadd X636.here hx rfl (hb hby d7_56) rfl k_) ?_
  rw [show ((0 : Int32) + (0 : Int32)) = (0 : Int32) from by decide]
  refine own_aloadN 58 X636.here hx (hb hby d7_57) rfl rfl rfl ?_
  obtain ⟨T637, X637, e637, st637⟩ := getF X636 hx hZ hown (host := "") (Or.inl (own_w 29 hw rfl)) Via.refl e636 u2 (g := (mkF m 58 #[.val (.ref r0), .val (.int (Int32.ofNat ii)), .val (.double (FP.l2d kk)), .second, .val (.long q3), .second, .val (.int 0), .unset] [(.ref r0), (.int 0)])) rfl rfl (hb hby d7_58)
  refine own_s 61 [(.ref qa), (.int 0)] (fun _ k_ => st637 _ k_) ?_
  obtain ⟨cl638, Ar638, -, S638, M638, -, -⟩ := id u10
  refine own_go (B := T637.setTop (mkF m 62 #[.val (.ref r0), .val (.int (Int32.ofNat ii)), .val (.double (FP.l2d kk)), .second, .val (.long q3), .second, .val (.int 0), .unset] [(.int 16), (.int 0)])) (fun t_ k_ => ?_) ?_
  · refine X637.arraylength hx (by rw [e637]; exact Ar638.1) (State.isArrayOf_alike hZ.alike Ar638.2.1) (g := (mkF m 61 #[.val (.ref r0), .val (.int (Int32.ofNat ii)), .val (.double (FP.l2d kk)), .second, .val (.long q3), .second, .val (.int 0), .unset] [(.ref qa), (.int 0)])) rfl rfl (hb hby d7_61) _ ?_
    rw [len_of S638 M638]
    exact k_
  refine own_s 63 [(.int 1), (.int 16), (.int 0)] (fun _ k_ => XS.iconst X637.here hx rfl (hb hby d7_62) k_) ?_
  refine own_s 64 [(.int ((16 : Int32) - (1 : Int32))), (.int 0)] (fun _ k_ => XS.isub X637.here hx rfl (hb hby d7_63) rfl k_) ?_
  rw [show ((16 : Int32) - (1 : Int32)) = (15 : Int32) from by decide]
  refine own_s 65 [(.int ((0 : Int32) &&& (15 : Int32)))] (fun _ k_ => XS.iand X637.here hx rfl (hb hby d7_64) rfl k_) ?_
  rw [show ((0 : Int32) &&& (15 : Int32)) = (0 : Int32) from by decide]
  refine own_istore 67 #[.val (.ref r0), .val (.int (Int32.ofNat ii)), .val (.double (FP.l2d kk)), .second, .val (.long q3), .second, .val (.int 0), .val (.int 0)] X637.here hx (hb hby d7_65) rfl rfl ?_
  refine own_aloadN 68 X637.here hx (hb hby d7_67) rfl rfl rfl ?_
  obtain ⟨T639, X639, e639, st639⟩ := getF X637 hx hZ hown (host := "") (Or.inl (own_w 29 hw rfl)) Via.refl e637 u2 (g := (mkF m 68 #[.val (.ref r0), .val (.int (Int32.ofNat ii)), .val (.double (FP.l2d kk)), .second, .val (.long q3), .second, .val (.int 0), .val (.int 0)] [(.ref r0)])) rfl rfl (hb hby d7_68)
  refine own_s 71 [(.ref qa)] (fun _ k_ => st639 _ k_) ?_
  refine own_iload 73 X639.here hx (hb hby d7_71) rfl rfl ?_
  refine own_iloadN 74 X639.here hx (hb hby d7_73) rfl rfl ?_
  obtain ⟨cl640, Ar640, q640, S640, M640, Hh640, G640⟩ := id u10
  obtain ⟨T640, h640, X640, e640, W640, st640⟩ := stI X639 hx hZ e639 Ar640 (j := (0 : Int32)) (inb_of S640 ⟨by decide, by decide⟩) (g := (mkF m 74 #[.val (.ref r0), .val (.int (Int32.ofNat ii)), .val (.double (FP.l2d kk)), .second, .val (.long q3), .second, .val (.int 0), .val (.int 0)] [(.int (Int32.ofNat ii)), (.int 0), (.ref qa)])) rfl rfl (hb hby d7_74)
  have f641 := u0.wr W640
  have f642 := u1.other W640 (Or.inl ne_r0_qa)
  have f643 := u2.other W640 (Or.inl ne_r0_qa)
  have f644 := u3.other W640 (Or.inl ne_r0_qa)
  have f645 := u4.other W640 (Or.inl ne_r0_qa)
  have f646 := u5.other W640 (Or.inl ne_r0_qa)
  have f647 := u6.other W640 (Or.inl ne_r0_qa)
  have f648 := u7.other W640 (Or.inl ne_r0_qa)
  have f649 := u8.other W640 (Or.inl ne_pp_qa)
  have f650 := u9.other W640 ne_pa_qa
  have f651 : Arv Z h640 qa cq .int (16 : Int32) [(.int (Int32.ofNat ii)), (.int 0), (.int 0), (.int 0), (.int 0), (.int 0), (.int 0), (.int 0), (.int 0), (.int 0), (.int 0), (.int 0), (.int 0), (.int 0), (.int 0), (.int 0)] (.int 0) := Arv.set Ar640 q640 S640 M640 Hh640 G640 rfl W640 0 rfl (Nat.le_of_ble_eq_true rfl)
  have f652 := u11.other W640 (Ne.symm ne_qa_ka)
  have f653 := u12.other W640 (Ne.symm ne_qa_oa)
  have f654 := K0.wr W640 (Or.inl (List.mem_of_getElem? (i := 1) rfl))
  have Z640 : n0 ≤ h640.size := Nat.le_trans Z0 (Keep.of_wr W640).1
  have N640 := Fr.snoc X640 N0 g_qa
  refine own_s 75 [] (fun _ k_ => st640 _ k_) ?_
  refine own_aloadN 76 X640.here hx (hb hby d7_75) rfl rfl rfl ?_
  obtain ⟨T655, X655, e655, st655⟩ := getF X640 hx hZ hown (host := "") (Or.inl (own_w 31 hw rfl)) Via.refl e640 f644 (g := (mkF m 76 #[.val (.ref r0), .val (.int (Int32.ofNat ii)), .val (.double (FP.l2d kk)), .second, .val (.long q3), .second, .val (.int 0), .val (.int 0)] [(.ref r0)])) rfl rfl (hb hby d7_76)
  refine own_s 79 [(.ref ka)] (fun _ k_ => st655 _ k_) ?_
  refine own_iload 81 X655.here hx (hb hby d7_79) rfl rfl ?_
  refine own_s 82 [(.double (FP.l2d kk)), (.int 0), (.ref ka)] (fun _ k_ => XS.dloadN X655.here hx rfl (hb hby d7_81) rfl k_) ?_
  obtain ⟨cl656, Ar656, q656, S656, M656, Hh656, G656⟩ := id f652
  obtain ⟨T656, h656, X656, e656, W656, st656⟩ := stD X655 hx hZ e655 Ar656 (j := (0 : Int32)) (inb_of S656 ⟨by decide, by decide⟩) (g := (mkF m 82 #[.val (.ref r0), .val (.int (Int32.ofNat ii)), .val (.double (FP.l2d kk)), .second, .val (.long q3), .second, .val (.int 0), .val (.int 0)] [(.double (FP.l2d kk)), (.int 0), (.ref ka)])) rfl rfl (hb hby d7_82)
  have f657 := f641.wr W656
  have f658 := f642.other W656 (Or.inl ne_r0_ka)
  have f659 := f643.other W656 (Or.inl ne_r0_ka)
  have f660 := f644.other W656 (Or.inl ne_r0_ka)
  have f661 := f645.other W656 (Or.inl ne_r0_ka)
  have f662 := f646.other W656 (Or.inl ne_r0_ka)
  have f663 := f647.other W656 (Or.inl ne_r0_ka)
  have f664 := f648.other W656 (Or.inl ne_r0_ka)
  have f665 := f649.other W656 (Or.inl ne_pp_ka)
  have f666 := f650.other W656 ne_pa_ka
  have f667 := f651.other W656 ne_qa_ka
  have f668 : Arv Z h656 ka ck .double (16 : Int32) [(.double (FP.l2d kk)), (.double (FP.l2d 0)), (.double (FP.l2d 0)), (.double (FP.l2d 0)), (.double (FP.l2d 0)), (.double (FP.l2d 0)), (.double (FP.l2d 0)), (.double (FP.l2d 0)), (.double (FP.l2d 0)), (.double (FP.l2d 0)), (.double (FP.l2d 0)), (.double (FP.l2d 0)), (.double (FP.l2d 0)), (.double (FP.l2d 0)), (.double (FP.l2d 0)), (.double (FP.l2d 0))] (.double (FP.l2d 0)) := Arv.set Ar656 q656 S656 M656 Hh656 G656 rfl W656 0 rfl (Nat.le_of_ble_eq_true rfl)
  have f669 := f653.other W656 (Ne.symm ne_ka_oa)
  have f670 := f654.wr W656 (Or.inl (List.mem_of_getElem? (i := 2) rfl))
  have Z656 : n0 ≤ h656.size := Nat.le_trans Z640 (Keep.of_wr W656).1
  have N656 := Fr.snoc X656 N640 g_ka
  refine own_s 83 [] (fun _ k_ => st656 _ k_) ?_
  refine own_aloadN 84 X656.here hx (hb hby d7_83) rfl rfl rfl ?_
  obtain ⟨T671, X671, e671, st671⟩ := getF X656 hx hZ hown (host := "") (Or.inl (own_w 33 hw rfl)) Via.refl e656 f661 (g := (mkF m 84 #[.val (.ref r0), .val (.int (Int32.ofNat ii)), .val (.double (FP.l2d kk)), .second, .val (.long q3), .second, .val (.int 0), .val (.int 0)] [(.ref r0)])) rfl rfl (hb hby d7_84)
  refine own_s 87 [(.ref oa)] (fun _ k_ => st671 _ k_) ?_
  refine own_iload 89 X671.here hx (hb hby d7_87) rfl rfl ?_
  refine own_s 91 [(.long q3), (.int 0), (.ref oa)] (fun _ k_ => XS.lload X671.here hx rfl (hb hby d7_89) rfl k_) ?_
  obtain ⟨cl672, Ar672, q672, S672, M672, Hh672, G672⟩ := id f669
  obtain ⟨T672, h672, X672, e672, W672, st672⟩ := stJ X671 hx hZ e671 Ar672 (j := (0 : Int32)) (inb_of S672 ⟨by decide, by decide⟩) (g := (mkF m 91 #[.val (.ref r0), .val (.int (Int32.ofNat ii)), .val (.double (FP.l2d kk)), .second, .val (.long q3), .second, .val (.int 0), .val (.int 0)] [(.long q3), (.int 0), (.ref oa)])) rfl rfl (hb hby d7_91)
  have f673 := f657.wr W672
  have f674 := f658.other W672 (Or.inl ne_r0_oa)
  have f675 := f659.other W672 (Or.inl ne_r0_oa)
  have f676 := f660.other W672 (Or.inl ne_r0_oa)
  have f677 := f661.other W672 (Or.inl ne_r0_oa)
  have f678 := f662.other W672 (Or.inl ne_r0_oa)
  have f679 := f663.other W672 (Or.inl ne_r0_oa)
  have f680 := f664.other W672 (Or.inl ne_r0_oa)
  have f681 := f665.other W672 (Or.inl ne_pp_oa)
  have f682 := f666.other W672 ne_pa_oa
  have f683 := f667.other W672 ne_qa_oa
  have f684 := f668.other W672 ne_ka_oa
  have f685 : Arv Z h672 oa co .long (16 : Int32) [(.long q3), (.long 0), (.long 0), (.long 0), (.long 0), (.long 0), (.long 0), (.long 0), (.long 0), (.long 0), (.long 0), (.long 0), (.long 0), (.long 0), (.long 0), (.long 0)] (.long 0) := Arv.set Ar672 q672 S672 M672 Hh672 G672 rfl W672 0 rfl (Nat.le_of_ble_eq_true rfl)
  have f686 := f670.wr W672 (Or.inl (List.mem_of_getElem? (i := 3) rfl))
  have Z672 : n0 ≤ h672.size := Nat.le_trans Z656 (Keep.of_wr W672).1
  have N672 := Fr.snoc X672 N656 g_oa
  refine own_s 92 [] (fun _ k_ => st672 _ k_) ?_
  refine own_aloadN 93 X672.here hx (hb hby d7_92) rfl rfl rfl ?_
  refine own_s 94 [(.ref r0), (.ref r0)] (fun _ k_ => XS.dup X672.here hx rfl (hb hby d7_93) rfl rfl k_) ?_
  obtain ⟨T687, X687, e687, st687⟩ := getF X672 hx hZ hown (host := "") (Or.inl (own_w 57 hw rfl)) Via.refl e672 f680 (g := (mkF m 94 #[.val (.ref r0), .val (.int (Int32.ofNat ii)), .val (.double (FP.l2d kk)), .second, .val (.long q3), .second, .val (.int 0), .val (.int 0)] [(.ref r0), (.ref r0)])) rfl rfl (hb hby d7_94)
  refine own_s 97 [(.int 0), (.ref r0)] (fun _ k_ => st687 _ k_) ?_
  refine own_s 98 [(.int 1), (.int 0), (.ref r0)] (fun _ k_ => XS.iconst X687.here hx rfl (hb hby d7_97) k_) ?_
  refine own_s 99 [(.int ((0 : Int32) + (1 : Int32))), (.ref r0)] (fun _ k_ => XS.iadd X687.here hx rfl (hb hby d7_98) rfl k_) ?_
  rw [show ((0 : Int32) + (1 : Int32)) = (1 : Int32) from by decide]
  obtain ⟨T688, h688, X688, e688, W688, st688⟩ := putF X687 hx hZ hown (host := "") (Or.inl (own_w 57 hw rfl)) Via.refl e687 f680 f673 (Or.inl (own_w 58 hw rfl)) (own_w 16 hw rfl) (ty := .int) (by decide) rfl rfl (g := (mkF m 99 #[.val (.ref r0), .val (.int (Int32.ofNat ii)), .val (.double (FP.l2d kk)), .second, .val (.long q3), .second, .val (.int 0), .val (.int 0)] [(.int 1), (.ref r0)])) rfl rfl (hb hby d7_99)
  have f690 := f674.other W688 (Or.inr (slot_ne (Or.inr (own_w 36 hw rfl)) (Or.inl (own_w 58 hw rfl)) (by decide) (t := (.object "com/example/adfair/adfair/Ranking$Places")) (t' := .int) (by decide) (by decide)))
  have f691 := f675.other W688 (Or.inr (slot_ne (Or.inl (own_w 30 hw rfl)) (Or.inl (own_w 58 hw rfl)) (by decide) (t := (.array .int)) (t' := .int) (by decide) (by decide)))
  have f692 := f676.other W688 (Or.inr (slot_ne (Or.inl (own_w 32 hw rfl)) (Or.inl (own_w 58 hw rfl)) (by decide) (t := (.array .double)) (t' := .int) (by decide) (by decide)))
  have f693 := f677.other W688 (Or.inr (slot_ne (Or.inl (own_w 34 hw rfl)) (Or.inl (own_w 58 hw rfl)) (by decide) (t := (.array .long)) (t' := .int) (by decide) (by decide)))
  have f694 := f678.other W688 (Or.inr (slot_ne (Or.inr (own_w 40 hw rfl)) (Or.inl (own_w 58 hw rfl)) (by decide) (t := .long) (t' := .int) (by decide) (by decide)))
  have f695 := f679.other W688 (Or.inr (slot_ne (Or.inl (own_w 56 hw rfl)) (Or.inl (own_w 58 hw rfl)) (by decide) (t := .int) (t' := .int) (by decide) (by decide)))
  have f696 : Fld Z h688 r0 "com/example/adfair/adfair/Ranking" "queueSize" "I" (.int 1) := f680.same W688
  have f697 := f681.other W688 (Or.inl (Ne.symm ne_r0_pp))
  have f698 := f682.other W688 (Ne.symm ne_r0_pa)
  have f699 := f683.other W688 (Ne.symm ne_r0_qa)
  have f700 := f684.other W688 (Ne.symm ne_r0_ka)
  have f701 := f685.other W688 (Ne.symm ne_r0_oa)
  have f702 := f686.wr W688 (Or.inl (List.mem_of_getElem? (i := 0) rfl))
  have Z688 : n0 ≤ h688.size := Nat.le_trans Z672 (Keep.of_wr W688).1
  have N688 := Fr.snoc X688 N672 g_r0
  refine own_s 102 [] (fun _ k_ => st688 _ k_) ?_
  refine own_aloadN 103 X688.here hx (hb hby d7_102) rfl rfl rfl ?_
  obtain ⟨T703, X703, e703, st703⟩ := getF X688 hx hZ hown (host := "") (Or.inl (own_w 35 hw rfl)) Via.refl e688 f690 (g := (mkF m 103 #[.val (.ref r0), .val (.int (Int32.ofNat ii)), .val (.double (FP.l2d kk)), .second, .val (.long q3), .second, .val (.int 0), .val (.int 0)] [(.ref r0)])) rfl rfl (hb hby d7_103)
  refine own_s 106 [(.ref pp)] (fun _ k_ => st703 _ k_) ?_
  obtain ⟨T704, X704, e704, st704⟩ := own_getR X703 hx hZ hown (own_w 63 hw rfl) e703 f697 (g := (mkF m 106 #[.val (.ref r0), .val (.int (Int32.ofNat ii)), .val (.double (FP.l2d kk)), .second, .val (.long q3), .second, .val (.int 0), .val (.int 0)] [(.ref pp)])) rfl rfl (hb hby d7_106)
  refine own_s 109 [(.ref pa)] (fun _ k_ => st704 _ k_) ?_
  refine own_iloadN 110 X704.here hx (hb hby d7_109) rfl rfl ?_
  refine own_s 112 [(.int (-2)), (.int (Int32.ofNat ii)), (.ref pa)] (fun _ k_ => XS.bipush X704.here hx rfl (hb hby d7_110) k_) ?_
  obtain ⟨cl705, Ar705, S705, Hh705⟩ := id f698
  obtain ⟨T705, h705, X705, e705, W705, st705⟩ := stI X704 hx hZ e704 Ar705 (j := (Int32.ofNat ii)) (own_inb S705 (by omega) hi) (g := (mkF m 112 #[.val (.ref r0), .val (.int (Int32.ofNat ii)), .val (.double (FP.l2d kk)), .second, .val (.long q3), .second, .val (.int 0), .val (.int 0)] [(.int (-2)), (.int (Int32.ofNat ii)), (.ref pa)])) rfl rfl (hb hby d7_112)
  rw [own_clamp (Nat.lt_trans hi (by omega))] at W705
  have f707 := f690.other W705 (Or.inl ne_r0_pa)
  have f708 := f691.other W705 (Or.inl ne_r0_pa)
  have f709 := f692.other W705 (Or.inl ne_r0_pa)
  have f710 := f693.other W705 (Or.inl ne_r0_pa)
  have f711 := f694.other W705 (Or.inl ne_r0_pa)
  have f712 := f695.other W705 (Or.inl ne_r0_pa)
  have f713 := f696.other W705 (Or.inl ne_r0_pa)
  have f715 : own_IN Z h705 pa NN (own_updI gP ii (-2 : Int32)) := f698.set W705 hi
  have f716 := f699.other W705 (Ne.symm ne_pa_qa)
  have f717 := f700.other W705 (Ne.symm ne_pa_ka)
  have f718 := f701.other W705 (Ne.symm ne_pa_oa)
  have f719 := f702.wr W705 (Or.inl (List.mem_of_getElem? (i := 4) rfl))
  have Z705 : n0 ≤ h705.size := Nat.le_trans Z688 (Keep.of_wr W705).1
  have N705 := Fr.snoc X705 N688 g_pa
  refine own_s 113 [] (fun _ k_ => st705 _ k_) ?_
  obtain ⟨fs, hr, hrun, hended, hW, hsame⟩ := X705.leave (v := none) (fun _ => rfl)
  refine own_at ?_ (hG _ _ ⟨hrun, hended, _, _, rfl, ?_, ⟨_, rfl⟩, hW, hsame.mono (by decide) (by decide)⟩)
  · show Steps p.tables e below (T705.setTop (mkF m 113 #[.val (.ref r0), .val (.int (Int32.ofNat ii)), .val (.double (FP.l2d kk)), .second, .val (.long q3), .second, .val (.int 0), .val (.int 0)] [])) _
    exact X705.returnOut hx Bd.returns (hb hby d7_113) hr
  · show QEn0 Z r0 q3 ii kk pp pa qa ka oa cq ck co NN gP num h0 n0 _ T705.heap _
    rw [e705]
    exact ⟨rfl, N705, f719, f707, f708, f712, f713, f715, f716, f717, f718, f711, f709, f710⟩
theorem ef_rmEnE (m : MethodId) (x0 : Addr) (x1 : Int32) (x2 : UInt64) (x3 : Int64) (x4 : Int32) : entryFrame m #[(.ref x0), (.int x1), (.double x2), (.long x3), (.int x4)] 8 = mkF m 0 #[.val (.ref x0), .val (.int x1), .val (.double x2), .second, .val (.long x3), .second, .val (.int x4), .unset] [] := by first | (simp [entryFrame, mkF, argsToLocals, Value.category]; done) | rfl
def QEnE (Z : State) (r0 : Addr) (q3 : Int64) (ii : Nat) (kk : Int64) (pp : Addr) (pa : Addr) (qa : Addr) (ka : Addr) (oa : Addr) (cq : ClassId) (ck : ClassId) (co : ClassId) (NN : Nat) (gP : Nat → Int32) (num : Int64) (i1 : Nat) (k1 : Int64) (h0 : Heap) (n0 : Nat) (v : Option Value) (h : Heap) (L : List Loc) : Prop := v = none ∧ Fr n0 L ∧ Keep h0 h [r0, qa, ka, oa, pa] ∧ Fld Z h r0 "com/example/adfair/adfair/Ranking" "places" "Lcom/example/adfair/adfair/Ranking$Places;" (.ref pp) ∧ Fld Z h r0 "com/example/adfair/adfair/Ranking" "queued" "[I" (.ref qa) ∧ Fld Z h r0 "com/example/adfair/adfair/Ranking" "queueFirst" "I" (.int 0) ∧ Fld Z h r0 "com/example/adfair/adfair/Ranking" "queueSize" "I" (.int 2) ∧ own_IN Z h pa NN (own_updI gP ii (-2 : Int32)) ∧ Arv Z h qa cq .int (16 : Int32) [(.int (Int32.ofNat i1)), (.int (Int32.ofNat ii)), (.int 0), (.int 0), (.int 0), (.int 0), (.int 0), (.int 0), (.int 0), (.int 0), (.int 0), (.int 0), (.int 0), (.int 0), (.int 0), (.int 0)] (.int 0) ∧ Arv Z h ka ck .double (16 : Int32) [(.double (FP.l2d k1)), (.double (FP.l2d kk)), (.double (FP.l2d 0)), (.double (FP.l2d 0)), (.double (FP.l2d 0)), (.double (FP.l2d 0)), (.double (FP.l2d 0)), (.double (FP.l2d 0)), (.double (FP.l2d 0)), (.double (FP.l2d 0)), (.double (FP.l2d 0)), (.double (FP.l2d 0)), (.double (FP.l2d 0)), (.double (FP.l2d 0)), (.double (FP.l2d 0)), (.double (FP.l2d 0))] (.double (FP.l2d 0)) ∧ Arv Z h oa co .long (16 : Int32) [(.long 1), (.long q3), (.long 0), (.long 0), (.long 0), (.long 0), (.long 0), (.long 0), (.long 0), (.long 0), (.long 0), (.long 0), (.long 0), (.long 0), (.long 0), (.long 0)] (.long 0) ∧ Fld Z h r0 "com/example/adfair/adfair/Ranking" "number" "J" (.long num) ∧ Fld Z h r0 "com/example/adfair/adfair/Ranking" "queuedKeys" "[D" (.ref ka) ∧ Fld Z h r0 "com/example/adfair/adfair/Ranking" "queuedOrders" "[J" (.ref oa)
set_option maxRecDepth 65536 in
set_option maxHeartbeats 40000000 in
theorem rmEnE (l : Launch) (Z : State) (a0 : Array Value) (hw : ∀ d ∈ tables_1, d.before a0 Z = true) (ws : List Jvm.Cond) (r0 : Addr) (q3 : Int64) (ii : Nat) (kk : Int64) (pp : Addr) (pa : Addr) (qa : Addr) (ka : Addr) (oa : Addr) (cq : ClassId) (ck : ClassId) (co : ClassId) (NN : Nat) (gP : Nat → Int32) (num : Int64) (i1 : Nat) (k1 : Int64) (h0 : Heap) (n0 : Nat) (Z0 : n0 ≤ h0.size) (u0 : Exa Z h0 r0 "com/example/adfair/adfair/Ranking") (u1 : Fld Z h0 r0 "com/example/adfair/adfair/Ranking" "places" "Lcom/example/adfair/adfair/Ranking$Places;" (.ref pp)) (u2 : Fld Z h0 r0 "com/example/adfair/adfair/Ranking" "queued" "[I" (.ref qa)) (u3 : Fld Z h0 r0 "com/example/adfair/adfair/Ranking" "queuedKeys" "[D" (.ref ka)) (u4 : Fld Z h0 r0 "com/example/adfair/adfair/Ranking" "queuedOrders" "[J" (.ref oa)) (u5 : Fld Z h0 r0 "com/example/adfair/adfair/Ranking" "number" "J" (.long num)) (u6 : Fld Z h0 r0 "com/example/adfair/adfair/Ranking" "queueFirst" "I" (.int 0)) (u7 : Fld Z h0 r0 "com/example/adfair/adfair/Ranking" "queueSize" "I" (.int 1)) (u8 : Fld Z h0 pp "com/example/adfair/adfair/Ranking$Places" "place" "[I" (.ref pa)) (u9 : own_IN Z h0 pa NN gP) (u10 : Arv Z h0 qa cq .int (16 : Int32) [(.int (Int32.ofNat i1)), (.int 0), (.int 0), (.int 0), (.int 0), (.int 0), (.int 0), (.int 0), (.int 0), (.int 0), (.int 0), (.int 0), (.int 0), (.int 0), (.int 0), (.int 0)] (.int 0)) (u11 : Arv Z h0 ka ck .double (16 : Int32) [(.double (FP.l2d k1)), (.double (FP.l2d 0)), (.double (FP.l2d 0)), (.double (FP.l2d 0)), (.double (FP.l2d 0)), (.double (FP.l2d 0)), (.double (FP.l2d 0)), (.double (FP.l2d 0)), (.double (FP.l2d 0)), (.double (FP.l2d 0)), (.double (FP.l2d 0)), (.double (FP.l2d 0)), (.double (FP.l2d 0)), (.double (FP.l2d 0)), (.double (FP.l2d 0)), (.double (FP.l2d 0))] (.double (FP.l2d 0))) (u12 : Arv Z h0 oa co .long (16 : Int32) [(.long 1), (.long 0), (.long 0), (.long 0), (.long 0), (.long 0), (.long 0), (.long 0), (.long 0), (.long 0), (.long 0), (.long 0), (.long 0), (.long 0), (.long 0), (.long 0)] (.long 0)) (ne_r0_pp : r0 ≠ pp) (ne_r0_pa : r0 ≠ pa) (ne_r0_qa : r0 ≠ qa) (ne_r0_ka : r0 ≠ ka) (ne_r0_oa : r0 ≠ oa) (ne_pp_pa : pp ≠ pa) (ne_pp_qa : pp ≠ qa) (ne_pp_ka : pp ≠ ka) (ne_pp_oa : pp ≠ oa) (ne_pa_qa : pa ≠ qa) (ne_pa_ka : pa ≠ ka) (ne_pa_oa : pa ≠ oa) (ne_qa_ka : qa ≠ ka) (ne_qa_oa : qa ≠ oa) (ne_ka_oa : ka ≠ oa) (g_r0 : n0 ≤ r0) (g_qa : n0 ≤ qa) (g_ka : n0 ≤ ka) (g_oa : n0 ≤ oa) (g_pa : n0 ≤ pa) (hi : ii < NN) (hN : NN ≤ 126) :
    MetFree l (⟨"com/example/adfair/adfair/Ranking", "enqueue", "(IDJZ)V"⟩ : MethodName) (head1 (Jvm.Cond.code (⟨"com/example/adfair/adfair/Ranking", "enqueue", "(IDJZ)V"⟩ : MethodName) prog_20_method_14_code 8 none :: ws) ({ frames := 0, cells := 0, slots := 0, locals := 0 } : Room)) (fun a U => a = #[(.ref r0), (.int (Int32.ofNat ii)), (.double (FP.l2d kk)), (.long q3), (.int 0)] ∧ Z.Warmed39 U.vm ∧ U.heap = h0) (fun _ _ _ _ _ => True) (fun _ U o U' => ∃ v L, o = .returned v ∧ QEnE Z r0 q3 ii kk pp pa qa ka oa cq ck co NN gP num i1 k1 h0 n0 v U'.heap L ∧ FrameEnd U o U' L ({ frames := 0, cells := 0, slots := 0, locals := 0 } : Room).cells ({ frames := 0, cells := 0, slots := 0, locals := 0 } : Room).slots) := by
  refine MetFree.of_bodySF (plainFor_of_name pn_7) hisR ?_
  intro p e s m args below meth c s₁ Bd hml0 hP hK
  obtain ⟨rfl, hZ, hh⟩ := hP
  have hx := Bd.exec
  have hby := Bd.bytes
  have hml : c.maxLocals = 8 := hml0
  have hown : s.vm.findClass "com/example/adfair/adfair/Ranking" = some m.cls := findClass_of_methodNamed Bd.named
  have hnm := (name_of_methodNamed Bd.named Bd.method).1
  have X0 : Stand p l e ({ frames := 0, cells := 0, slots := 0, locals := 0 } : Room) s m #[(.ref r0), (.int (Int32.ofNat ii)), (.double (FP.l2d kk)), (.long q3), (.int 0)] below meth c s₁ [] 0 0 := Stand.of_body Bd
  have e0 : s₁.heap = h0 := by rw [← hh, Bd.state]; rfl
  have N0 := Fr.nil n0
  refine own_open fun G hG => ?_
  refine own_go (B := s₁.setTop (mkF m 0 #[.val (.ref r0), .val (.int (Int32.ofNat ii)), .val (.double (FP.l2d kk)), .second, .val (.long q3), .second, .val (.int 0), .unset] [])) (fun t_ k_ => castTop (ef_rmEnE m r0 (Int32.ofNat ii) (FP.l2d kk) q3 (0 : Int32)) k_) ?_
  have K0 : Keep h0 h0 [r0, qa, ka, oa, pa] := Keep.refl h0 _
  refine own_aloadN 1 X0.here hx (hb hby d7_0) rfl rfl rfl ?_
  obtain ⟨T721, X721, e721, st721⟩ := getF X0 hx hZ hown (host := "") (Or.inl (own_w 57 hw rfl)) Via.refl e0 u7 (g := (mkF m 1 #[.val (.ref r0), .val (.int (Int32.ofNat ii)), .val (.double (FP.l2d kk)), .second, .val (.long q3), .second, .val (.int 0), .unset] [(.ref r0)])) rfl rfl (hb hby d7_1)
  refine own_s 4 [(.int 1)] (fun _ k_ => st721 _ k_) ?_
  refine own_aloadN 5 X721.here hx (hb hby d7_4) rfl rfl rfl ?_
  obtain ⟨T722, X722, e722, st722⟩ := getF X721 hx hZ hown (host := "") (Or.inl (own_w 29 hw rfl)) Via.refl e721 u2 (g := (mkF m 5 #[.val (.ref r0), .val (.int (Int32.ofNat ii)), .val (.double (FP.l2d kk)), .second, .val (.long q3), .second, .val (.int 0), .unset] [(.ref r0), (.int 1)])) rfl rfl (hb hby d7_5)
  refine own_s 8 [(.ref qa), (.int 1)] (fun _ k_ => st722 _ k_) ?_
  obtain ⟨cl723, Ar723, -, S723, M723, -, -⟩ := id u10
  refine own_go (B := T722.setTop (mkF m 9 #[.val (.ref r0), .val (.int (Int32.ofNat ii)), .val (.double (FP.l2d kk)), .second, .val (.long q3), .second, .val (.int 0), .unset] [(.int 16), (.int 1)])) (fun t_ k_ => ?_) ?_
  · refine X722.arraylength hx (by rw [e722]; exact Ar723.1) (State.isArrayOf_alike hZ.alike Ar723.2.1) (g := (mkF m 8 #[.val (.ref r0), .val (.int (Int32.ofNat ii)), .val (.double (FP.l2d kk)), .second, .val (.long q3), .second, .val (.int 0), .unset] [(.ref qa), (.int 1)])) rfl rfl (hb hby d7_8) _ ?_
    rw [len_of S723 M723]
    exact k_
  refine own_s 16 [] (fun _ k_ => XS.icmpYes X722.here hx rfl (pc0 := 9) (pc' := 16) rfl (hb hby d7_9) rfl (feq (by decide : ¬ ((1 : Int32) = (16 : Int32)))).2 (by decide) (by decide) k_) ?_
  refine own_iload 18 X722.here hx (hb hby d7_16) rfl rfl ?_
  refine own_s 48 [] (fun _ k_ => XS.ifYes X722.here hx rfl (pc0 := 18) (pc' := 48) rfl (hb hby d7_18) rfl ((if0 _ _).trans (teq (by decide : (0 : Int32) = (0 : Int32))).1) (by decide) (by decide) k_) ?_
  refine own_aloadN 49 X722.here hx (hb hby d7_48) rfl rfl rfl ?_
  obtain ⟨T724, X724, e724, st724⟩ := getF X722 hx hZ hown (host := "") (Or.inl (own_w 55 hw rfl)) Via.refl e722 u6 (g := (mkF m 49 #[.val (.ref r0), .val (.int (Int32.ofNat ii)), .val (.double (FP.l2d kk)), .second, .val (.long q3), .second, .val (.int 0), .unset] [(.ref r0)])) rfl rfl (hb hby d7_49)
  refine own_s 52 [(.int 0)] (fun _ k_ => st724 _ k_) ?_
  refine own_aloadN 53 X724.here hx (hb hby d7_52) rfl rfl rfl ?_
  obtain ⟨T725, X725, e725, st725⟩ := getF X724 hx hZ hown (host := "") (Or.inl (own_w 57 hw rfl)) Via.refl e724 u7 (g := (mkF m 53 #[.val (.ref r0), .val (.int (Int32.ofNat ii)), .val (.double (FP.l2d kk)), .second, .val (.long q3), .second, .val (.int 0), .unset] [(.ref r0), (.int 0)])) rfl rfl (hb hby d7_53)
  refine own_s 56 [(.int 1), (.int 0)] (fun _ k_ => st725 _ k_) ?_
  refine own_s 57 [(.int ((0 : Int32) + (1 : Int32)))] (fun _ k_ => XS.iadd X725.here hx rfl (hb hby d7_56) rfl k_) ?_
  rw [show ((0 : Int32) + (1 : Int32)) = (1 : Int32) from by decide]
  refine own_aloadN 58 X725.here hx (hb hby d7_57) rfl rfl rfl ?_
  obtain ⟨T726, X726, e726, st726⟩ := getF X725 hx hZ hown (host := "") (Or.inl (own_w 29 hw rfl)) Via.refl e725 u2 (g := (mkF m 58 #[.val (.ref r0), .val (.int (Int32.ofNat ii)), .val (.double (FP.l2d kk)), .second, .val (.long q3), .second, .val (.int 0), .unset] [(.ref r0), (.int 1)])) rfl rfl (hb hby d7_58)
  refine own_s 61 [(.ref qa), (.int 1)] (fun _ k_ => st726 _ k_) ?_
  obtain ⟨cl727, Ar727, -, S727, M727, -, -⟩ := id u10
  refine own_go (B := T726.setTop (mkF m 62 #[.val (.ref r0), .val (.int (Int32.ofNat ii)), .val (.double (FP.l2d kk)), .second, .val (.long q3), .second, .val (.int 0), .unset] [(.int 16), (.int 1)])) (fun t_ k_ => ?_) ?_
  · refine X726.arraylength hx (by rw [e726]; exact Ar727.1) (State.isArrayOf_alike hZ.alike Ar727.2.1) (g := (mkF m 61 #[.val (.ref r0), .val (.int (Int32.ofNat ii)), .val (.double (FP.l2d kk)), .second, .val (.long q3), .second, .val (.int 0), .unset] [(.ref qa), (.int 1)])) rfl rfl (hb hby d7_61) _ ?_
    rw [len_of S727 M727]
    exact k_
  refine own_s 63 [(.int 1), (.int 16), (.int 1)] (fun _ k_ => XS.iconst X726.here hx rfl (hb hby d7_62) k_) ?_
  refine own_s 64 [(.int ((16 : Int32) - (1 : Int32))), (.int 1)] (fun _ k_ => XS.isub X726.here hx rfl (hb hby d7_63) rfl k_) ?_
  rw [show ((16 : Int32) - (1 : Int32)) = (15 : Int32) from by decide]
  refine own_s 65 [(.int ((1 : Int32) &&& (15 : Int32)))] (fun _ k_ => XS.iand X726.here hx rfl (hb hby d7_64) rfl k_) ?_
  rw [show ((1 : Int32) &&& (15 : Int32)) = (1 : Int32) from by decide]
  refine own_istore 67 #[.val (.ref r0), .val (.int (Int32.ofNat ii)), .val (.double (FP.l2d kk)), .second, .val (.long q3), .second, .val (.int 0), .val (.int 1)] X726.here hx (hb hby d7_65) rfl rfl ?_
  refine own_aloadN 68 X726.here hx (hb hby d7_67) rfl rfl rfl ?_
  obtain ⟨T728, X728, e728, st728⟩ := getF X726 hx hZ hown (host := "") (Or.inl (own_w 29 hw rfl)) Via.refl e726 u2 (g := (mkF m 68 #[.val (.ref r0), .val (.int (Int32.ofNat ii)), .val (.double (FP.l2d kk)), .second, .val (.long q3), .second, .val (.int 0), .val (.int 1)] [(.ref r0)])) rfl rfl (hb hby d7_68)
  refine own_s 71 [(.ref qa)] (fun _ k_ => st728 _ k_) ?_
  refine own_iload 73 X728.here hx (hb hby d7_71) rfl rfl ?_
  refine own_iloadN 74 X728.here hx (hb hby d7_73) rfl rfl ?_
  obtain ⟨cl729, Ar729, q729, S729, M729, Hh729, G729⟩ := id u10
  obtain ⟨T729, h729, X729, e729, W729, st729⟩ := stI X728 hx hZ e728 Ar729 (j := (1 : Int32)) (inb_of S729 ⟨by decide, by decide⟩) (g := (mkF m 74 #[.val (.ref r0), .val (.int (Int32.ofNat ii)), .val (.double (FP.l2d kk)), .second, .val (.long q3), .second, .val (.int 0), .val (.int 1)] [(.int (Int32.ofNat ii)), (.int 1), (.ref qa)])) rfl rfl (hb hby d7_74)
  have f730 := u0.wr W729
  have f731 := u1.other W729 (Or.inl ne_r0_qa)
  have f732 := u2.other W729 (Or.inl ne_r0_qa)
  have f733 := u3.other W729 (Or.inl ne_r0_qa)
  have f734 := u4.other W729 (Or.inl ne_r0_qa)
  have f735 := u5.other W729 (Or.inl ne_r0_qa)
  have f736 := u6.other W729 (Or.inl ne_r0_qa)
  have f737 := u7.other W729 (Or.inl ne_r0_qa)
  have f738 := u8.other W729 (Or.inl ne_pp_qa)
  have f739 := u9.other W729 ne_pa_qa
  have f740 : Arv Z h729 qa cq .int (16 : Int32) [(.int (Int32.ofNat i1)), (.int (Int32.ofNat ii)), (.int 0), (.int 0), (.int 0), (.int 0), (.int 0), (.int 0), (.int 0), (.int 0), (.int 0), (.int 0), (.int 0), (.int 0), (.int 0), (.int 0)] (.int 0) := Arv.set Ar729 q729 S729 M729 Hh729 G729 rfl W729 1 rfl (Nat.le_of_ble_eq_true rfl)
  have f741 := u11.other W729 (Ne.symm ne_qa_ka)
  have f742 := u12.other W729 (Ne.symm ne_qa_oa)
  have f743 := K0.wr W729 (Or.inl (List.mem_of_getElem? (i := 1) rfl))
  have Z729 : n0 ≤ h729.size := Nat.le_trans Z0 (Keep.of_wr W729).1
  have N729 := Fr.snoc X729 N0 g_qa
  refine own_s 75 [] (fun _ k_ => st729 _ k_) ?_
  refine own_aloadN 76 X729.here hx (hb hby d7_75) rfl rfl rfl ?_
  obtain ⟨T744, X744, e744, st744⟩ := getF X729 hx hZ hown (host := "") (Or.inl (own_w 31 hw rfl)) Via.refl e729 f733 (g := (mkF m 76 #[.val (.ref r0), .val (.int (Int32.ofNat ii)), .val (.double (FP.l2d kk)), .second, .val (.long q3), .second, .val (.int 0), .val (.int 1)] [(.ref r0)])) rfl rfl (hb hby d7_76)
  refine own_s 79 [(.ref ka)] (fun _ k_ => st744 _ k_) ?_
  refine own_iload 81 X744.here hx (hb hby d7_79) rfl rfl ?_
  refine own_s 82 [(.double (FP.l2d kk)), (.int 1), (.ref ka)] (fun _ k_ => XS.dloadN X744.here hx rfl (hb hby d7_81) rfl k_) ?_
  obtain ⟨cl745, Ar745, q745, S745, M745, Hh745, G745⟩ := id f741
  obtain ⟨T745, h745, X745, e745, W745, st745⟩ := stD X744 hx hZ e744 Ar745 (j := (1 : Int32)) (inb_of S745 ⟨by decide, by decide⟩) (g := (mkF m 82 #[.val (.ref r0), .val (.int (Int32.ofNat ii)), .val (.double (FP.l2d kk)), .second, .val (.long q3), .second, .val (.int 0), .val (.int 1)] [(.double (FP.l2d kk)), (.int 1), (.ref ka)])) rfl rfl (hb hby d7_82)
  have f746 := f730.wr W745
  have f747 := f731.other W745 (Or.inl ne_r0_ka)
  have f748 := f732.other W745 (Or.inl ne_r0_ka)
  have f749 := f733.other W745 (Or.inl ne_r0_ka)
  have f750 := f734.other W745 (Or.inl ne_r0_ka)
  have f751 := f735.other W745 (Or.inl ne_r0_ka)
  have f752 := f736.other W745 (Or.inl ne_r0_ka)
  have f753 := f737.other W745 (Or.inl ne_r0_ka)
  have f754 := f738.other W745 (Or.inl ne_pp_ka)
  have f755 := f739.other W745 ne_pa_ka
  have f756 := f740.other W745 ne_qa_ka
  have f757 : Arv Z h745 ka ck .double (16 : Int32) [(.double (FP.l2d k1)), (.double (FP.l2d kk)), (.double (FP.l2d 0)), (.double (FP.l2d 0)), (.double (FP.l2d 0)), (.double (FP.l2d 0)), (.double (FP.l2d 0)), (.double (FP.l2d 0)), (.double (FP.l2d 0)), (.double (FP.l2d 0)), (.double (FP.l2d 0)), (.double (FP.l2d 0)), (.double (FP.l2d 0)), (.double (FP.l2d 0)), (.double (FP.l2d 0)), (.double (FP.l2d 0))] (.double (FP.l2d 0)) := Arv.set Ar745 q745 S745 M745 Hh745 G745 rfl W745 1 rfl (Nat.le_of_ble_eq_true rfl)
  have f758 := f742.other W745 (Ne.symm ne_ka_oa)
  have f759 := f743.wr W745 (Or.inl (List.mem_of_getElem? (i := 2) rfl))
  have Z745 : n0 ≤ h745.size := Nat.le_trans Z729 (Keep.of_wr W745).1
  have N745 := Fr.snoc X745 N729 g_ka
  refine own_s 83 [] (fun _ k_ => st745 _ k_) ?_
  refine own_aloadN 84 X745.here hx (hb hby d7_83) rfl rfl rfl ?_
  obtain ⟨T760, X760, e760, st760⟩ := getF X745 hx hZ hown (host := "") (Or.inl (own_w 33 hw rfl)) Via.refl e745 f750 (g := (mkF m 84 #[.val (.ref r0), .val (.int (Int32.ofNat ii)), .val (.double (FP.l2d kk)), .second, .val (.long q3), .second, .val (.int 0), .val (.int 1)] [(.ref r0)])) rfl rfl (hb hby d7_84)
  refine own_s 87 [(.ref oa)] (fun _ k_ => st760 _ k_) ?_
  refine own_iload 89 X760.here hx (hb hby d7_87) rfl rfl ?_
  refine own_s 91 [(.long q3), (.int 1), (.ref oa)] (fun _ k_ => XS.lload X760.here hx rfl (hb hby d7_89) rfl k_) ?_
  obtain ⟨cl761, Ar761, q761, S761, M761, Hh761, G761⟩ := id f758
  obtain ⟨T761, h761, X761, e761, W761, st761⟩ := stJ X760 hx hZ e760 Ar761 (j := (1 : Int32)) (inb_of S761 ⟨by decide, by decide⟩) (g := (mkF m 91 #[.val (.ref r0), .val (.int (Int32.ofNat ii)), .val (.double (FP.l2d kk)), .second, .val (.long q3), .second, .val (.int 0), .val (.int 1)] [(.long q3), (.int 1), (.ref oa)])) rfl rfl (hb hby d7_91)
  have f762 := f746.wr W761
  have f763 := f747.other W761 (Or.inl ne_r0_oa)
  have f764 := f748.other W761 (Or.inl ne_r0_oa)
  have f765 := f749.other W761 (Or.inl ne_r0_oa)
  have f766 := f750.other W761 (Or.inl ne_r0_oa)
  have f767 := f751.other W761 (Or.inl ne_r0_oa)
  have f768 := f752.other W761 (Or.inl ne_r0_oa)
  have f769 := f753.other W761 (Or.inl ne_r0_oa)
  have f770 := f754.other W761 (Or.inl ne_pp_oa)
  have f771 := f755.other W761 ne_pa_oa
  have f772 := f756.other W761 ne_qa_oa
  have f773 := f757.other W761 ne_ka_oa
  have f774 : Arv Z h761 oa co .long (16 : Int32) [(.long 1), (.long q3), (.long 0), (.long 0), (.long 0), (.long 0), (.long 0), (.long 0), (.long 0), (.long 0), (.long 0), (.long 0), (.long 0), (.long 0), (.long 0), (.long 0)] (.long 0) := Arv.set Ar761 q761 S761 M761 Hh761 G761 rfl W761 1 rfl (Nat.le_of_ble_eq_true rfl)
  have f775 := f759.wr W761 (Or.inl (List.mem_of_getElem? (i := 3) rfl))
  have Z761 : n0 ≤ h761.size := Nat.le_trans Z745 (Keep.of_wr W761).1
  have N761 := Fr.snoc X761 N745 g_oa
  refine own_s 92 [] (fun _ k_ => st761 _ k_) ?_
  refine own_aloadN 93 X761.here hx (hb hby d7_92) rfl rfl rfl ?_
  refine own_s 94 [(.ref r0), (.ref r0)] (fun _ k_ => XS.dup X761.here hx rfl (hb hby d7_93) rfl rfl k_) ?_
  obtain ⟨T776, X776, e776, st776⟩ := getF X761 hx hZ hown (host := "") (Or.inl (own_w 57 hw rfl)) Via.refl e761 f769 (g := (mkF m 94 #[.val (.ref r0), .val (.int (Int32.ofNat ii)), .val (.double (FP.l2d kk)), .second, .val (.long q3), .second, .val (.int 0), .val (.int 1)] [(.ref r0), (.ref r0)])) rfl rfl (hb hby d7_94)
  refine own_s 97 [(.int 1), (.ref r0)] (fun _ k_ => st776 _ k_) ?_
  refine own_s 98 [(.int 1), (.int 1), (.ref r0)] (fun _ k_ => XS.iconst X776.here hx rfl (hb hby d7_97) k_) ?_
  refine own_s 99 [(.int ((1 : Int32) + (1 : Int32))), (.ref r0)] (fun _ k_ => XS.iadd X776.here hx rfl (hb hby d7_98) rfl k_) ?_
  rw [show ((1 : Int32) + (1 : Int32)) = (2 : Int32) from by decide]
  obtain ⟨T777, h777, X777, e777, W777, st777⟩ := putF X776 hx hZ hown (host := "") (Or.inl (own_w 57 hw rfl)) Via.refl e776 f769 f762 (Or.inl (own_w 58 hw rfl)) (own_w 16 hw rfl) (ty := .int) (by decide) rfl rfl (g := (mkF m 99 #[.val (.ref r0), .val (.int (Int32.ofNat ii)), .val (.double (FP.l2d kk)), .second, .val (.long q3), .second, .val (.int 0), .val (.int 1)] [(.int 2), (.ref r0)])) rfl rfl (hb hby d7_99)
  have f779 := f763.other W777 (Or.inr (slot_ne (Or.inr (own_w 36 hw rfl)) (Or.inl (own_w 58 hw rfl)) (by decide) (t := (.object "com/example/adfair/adfair/Ranking$Places")) (t' := .int) (by decide) (by decide)))
  have f780 := f764.other W777 (Or.inr (slot_ne (Or.inl (own_w 30 hw rfl)) (Or.inl (own_w 58 hw rfl)) (by decide) (t := (.array .int)) (t' := .int) (by decide) (by decide)))
  have f781 := f765.other W777 (Or.inr (slot_ne (Or.inl (own_w 32 hw rfl)) (Or.inl (own_w 58 hw rfl)) (by decide) (t := (.array .double)) (t' := .int) (by decide) (by decide)))
  have f782 := f766.other W777 (Or.inr (slot_ne (Or.inl (own_w 34 hw rfl)) (Or.inl (own_w 58 hw rfl)) (by decide) (t := (.array .long)) (t' := .int) (by decide) (by decide)))
  have f783 := f767.other W777 (Or.inr (slot_ne (Or.inr (own_w 40 hw rfl)) (Or.inl (own_w 58 hw rfl)) (by decide) (t := .long) (t' := .int) (by decide) (by decide)))
  have f784 := f768.other W777 (Or.inr (slot_ne (Or.inl (own_w 56 hw rfl)) (Or.inl (own_w 58 hw rfl)) (by decide) (t := .int) (t' := .int) (by decide) (by decide)))
  have f785 : Fld Z h777 r0 "com/example/adfair/adfair/Ranking" "queueSize" "I" (.int 2) := f769.same W777
  have f786 := f770.other W777 (Or.inl (Ne.symm ne_r0_pp))
  have f787 := f771.other W777 (Ne.symm ne_r0_pa)
  have f788 := f772.other W777 (Ne.symm ne_r0_qa)
  have f789 := f773.other W777 (Ne.symm ne_r0_ka)
  have f790 := f774.other W777 (Ne.symm ne_r0_oa)
  have f791 := f775.wr W777 (Or.inl (List.mem_of_getElem? (i := 0) rfl))
  have Z777 : n0 ≤ h777.size := Nat.le_trans Z761 (Keep.of_wr W777).1
  have N777 := Fr.snoc X777 N761 g_r0
  refine own_s 102 [] (fun _ k_ => st777 _ k_) ?_
  refine own_aloadN 103 X777.here hx (hb hby d7_102) rfl rfl rfl ?_
  obtain ⟨T792, X792, e792, st792⟩ := getF X777 hx hZ hown (host := "") (Or.inl (own_w 35 hw rfl)) Via.refl e777 f779 (g := (mkF m 103 #[.val (.ref r0), .val (.int (Int32.ofNat ii)), .val (.double (FP.l2d kk)), .second, .val (.long q3), .second, .val (.int 0), .val (.int 1)] [(.ref r0)])) rfl rfl (hb hby d7_103)
  refine own_s 106 [(.ref pp)] (fun _ k_ => st792 _ k_) ?_
  obtain ⟨T793, X793, e793, st793⟩ := own_getR X792 hx hZ hown (own_w 63 hw rfl) e792 f786 (g := (mkF m 106 #[.val (.ref r0), .val (.int (Int32.ofNat ii)), .val (.double (FP.l2d kk)), .second, .val (.long q3), .second, .val (.int 0), .val (.int 1)] [(.ref pp)])) rfl rfl (hb hby d7_106)
  refine own_s 109 [(.ref pa)] (fun _ k_ => st793 _ k_) ?_
  refine own_iloadN 110 X793.here hx (hb hby d7_109) rfl rfl ?_
  refine own_s 112 [(.int (-2)), (.int (Int32.ofNat ii)), (.ref pa)] (fun _ k_ => XS.bipush X793.here hx rfl (hb hby d7_110) k_) ?_
  obtain ⟨cl794, Ar794, S794, Hh794⟩ := id f787
  obtain ⟨T794, h794, X794, e794, W794, st794⟩ := stI X793 hx hZ e793 Ar794 (j := (Int32.ofNat ii)) (own_inb S794 (by omega) hi) (g := (mkF m 112 #[.val (.ref r0), .val (.int (Int32.ofNat ii)), .val (.double (FP.l2d kk)), .second, .val (.long q3), .second, .val (.int 0), .val (.int 1)] [(.int (-2)), (.int (Int32.ofNat ii)), (.ref pa)])) rfl rfl (hb hby d7_112)
  rw [own_clamp (Nat.lt_trans hi (by omega))] at W794
  have f796 := f779.other W794 (Or.inl ne_r0_pa)
  have f797 := f780.other W794 (Or.inl ne_r0_pa)
  have f798 := f781.other W794 (Or.inl ne_r0_pa)
  have f799 := f782.other W794 (Or.inl ne_r0_pa)
  have f800 := f783.other W794 (Or.inl ne_r0_pa)
  have f801 := f784.other W794 (Or.inl ne_r0_pa)
  have f802 := f785.other W794 (Or.inl ne_r0_pa)
  have f804 : own_IN Z h794 pa NN (own_updI gP ii (-2 : Int32)) := f787.set W794 hi
  have f805 := f788.other W794 (Ne.symm ne_pa_qa)
  have f806 := f789.other W794 (Ne.symm ne_pa_ka)
  have f807 := f790.other W794 (Ne.symm ne_pa_oa)
  have f808 := f791.wr W794 (Or.inl (List.mem_of_getElem? (i := 4) rfl))
  have Z794 : n0 ≤ h794.size := Nat.le_trans Z777 (Keep.of_wr W794).1
  have N794 := Fr.snoc X794 N777 g_pa
  refine own_s 113 [] (fun _ k_ => st794 _ k_) ?_
  obtain ⟨fs, hr, hrun, hended, hW, hsame⟩ := X794.leave (v := none) (fun _ => rfl)
  refine own_at ?_ (hG _ _ ⟨hrun, hended, _, _, rfl, ?_, ⟨_, rfl⟩, hW, hsame.mono (by decide) (by decide)⟩)
  · show Steps p.tables e below (T794.setTop (mkF m 113 #[.val (.ref r0), .val (.int (Int32.ofNat ii)), .val (.double (FP.l2d kk)), .second, .val (.long q3), .second, .val (.int 0), .val (.int 1)] [])) _
    exact X794.returnOut hx Bd.returns (hb hby d7_113) hr
  · show QEnE Z r0 q3 ii kk pp pa qa ka oa cq ck co NN gP num i1 k1 h0 n0 _ T794.heap _
    rw [e794]
    exact ⟨rfl, N794, f808, f796, f797, f801, f802, f804, f805, f806, f807, f800, f798, f799⟩
theorem ef_rmEnF (m : MethodId) (x0 : Addr) (x1 : Int32) (x2 : UInt64) (x3 : Int64) (x4 : Int32) : entryFrame m #[(.ref x0), (.int x1), (.double x2), (.long x3), (.int x4)] 8 = mkF m 0 #[.val (.ref x0), .val (.int x1), .val (.double x2), .second, .val (.long x3), .second, .val (.int x4), .unset] [] := by first | (simp [entryFrame, mkF, argsToLocals, Value.category]; done) | rfl
def QEnF (Z : State) (r0 : Addr) (q3 : Int64) (ii : Nat) (kk : Int64) (pp : Addr) (pa : Addr) (qa : Addr) (ka : Addr) (oa : Addr) (cq : ClassId) (ck : ClassId) (co : ClassId) (NN : Nat) (gP : Nat → Int32) (num : Int64) (i1 : Nat) (k1 : Int64) (h0 : Heap) (n0 : Nat) (v : Option Value) (h : Heap) (L : List Loc) : Prop := v = none ∧ Fr n0 L ∧ Keep h0 h [r0, qa, ka, oa, pa] ∧ Fld Z h r0 "com/example/adfair/adfair/Ranking" "places" "Lcom/example/adfair/adfair/Ranking$Places;" (.ref pp) ∧ Fld Z h r0 "com/example/adfair/adfair/Ranking" "queued" "[I" (.ref qa) ∧ Fld Z h r0 "com/example/adfair/adfair/Ranking" "queueFirst" "I" (.int 15) ∧ Fld Z h r0 "com/example/adfair/adfair/Ranking" "queueSize" "I" (.int 2) ∧ own_IN Z h pa NN (own_updI gP ii (-2 : Int32)) ∧ Arv Z h qa cq .int (16 : Int32) [(.int (Int32.ofNat i1)), (.int 0), (.int 0), (.int 0), (.int 0), (.int 0), (.int 0), (.int 0), (.int 0), (.int 0), (.int 0), (.int 0), (.int 0), (.int 0), (.int 0), (.int (Int32.ofNat ii))] (.int 0) ∧ Arv Z h ka ck .double (16 : Int32) [(.double (FP.l2d k1)), (.double (FP.l2d 0)), (.double (FP.l2d 0)), (.double (FP.l2d 0)), (.double (FP.l2d 0)), (.double (FP.l2d 0)), (.double (FP.l2d 0)), (.double (FP.l2d 0)), (.double (FP.l2d 0)), (.double (FP.l2d 0)), (.double (FP.l2d 0)), (.double (FP.l2d 0)), (.double (FP.l2d 0)), (.double (FP.l2d 0)), (.double (FP.l2d 0)), (.double (FP.l2d kk))] (.double (FP.l2d 0)) ∧ Arv Z h oa co .long (16 : Int32) [(.long 1), (.long 0), (.long 0), (.long 0), (.long 0), (.long 0), (.long 0), (.long 0), (.long 0), (.long 0), (.long 0), (.long 0), (.long 0), (.long 0), (.long 0), (.long q3)] (.long 0) ∧ Fld Z h r0 "com/example/adfair/adfair/Ranking" "number" "J" (.long num) ∧ Fld Z h r0 "com/example/adfair/adfair/Ranking" "queuedKeys" "[D" (.ref ka) ∧ Fld Z h r0 "com/example/adfair/adfair/Ranking" "queuedOrders" "[J" (.ref oa)
set_option maxRecDepth 65536 in
set_option maxHeartbeats 40000000 in
theorem rmEnF (l : Launch) (Z : State) (a0 : Array Value) (hw : ∀ d ∈ tables_1, d.before a0 Z = true) (ws : List Jvm.Cond) (r0 : Addr) (q3 : Int64) (ii : Nat) (kk : Int64) (pp : Addr) (pa : Addr) (qa : Addr) (ka : Addr) (oa : Addr) (cq : ClassId) (ck : ClassId) (co : ClassId) (NN : Nat) (gP : Nat → Int32) (num : Int64) (i1 : Nat) (k1 : Int64) (h0 : Heap) (n0 : Nat) (Z0 : n0 ≤ h0.size) (u0 : Exa Z h0 r0 "com/example/adfair/adfair/Ranking") (u1 : Fld Z h0 r0 "com/example/adfair/adfair/Ranking" "places" "Lcom/example/adfair/adfair/Ranking$Places;" (.ref pp)) (u2 : Fld Z h0 r0 "com/example/adfair/adfair/Ranking" "queued" "[I" (.ref qa)) (u3 : Fld Z h0 r0 "com/example/adfair/adfair/Ranking" "queuedKeys" "[D" (.ref ka)) (u4 : Fld Z h0 r0 "com/example/adfair/adfair/Ranking" "queuedOrders" "[J" (.ref oa)) (u5 : Fld Z h0 r0 "com/example/adfair/adfair/Ranking" "number" "J" (.long num)) (u6 : Fld Z h0 r0 "com/example/adfair/adfair/Ranking" "queueFirst" "I" (.int 0)) (u7 : Fld Z h0 r0 "com/example/adfair/adfair/Ranking" "queueSize" "I" (.int 1)) (u8 : Fld Z h0 pp "com/example/adfair/adfair/Ranking$Places" "place" "[I" (.ref pa)) (u9 : own_IN Z h0 pa NN gP) (u10 : Arv Z h0 qa cq .int (16 : Int32) [(.int (Int32.ofNat i1)), (.int 0), (.int 0), (.int 0), (.int 0), (.int 0), (.int 0), (.int 0), (.int 0), (.int 0), (.int 0), (.int 0), (.int 0), (.int 0), (.int 0), (.int 0)] (.int 0)) (u11 : Arv Z h0 ka ck .double (16 : Int32) [(.double (FP.l2d k1)), (.double (FP.l2d 0)), (.double (FP.l2d 0)), (.double (FP.l2d 0)), (.double (FP.l2d 0)), (.double (FP.l2d 0)), (.double (FP.l2d 0)), (.double (FP.l2d 0)), (.double (FP.l2d 0)), (.double (FP.l2d 0)), (.double (FP.l2d 0)), (.double (FP.l2d 0)), (.double (FP.l2d 0)), (.double (FP.l2d 0)), (.double (FP.l2d 0)), (.double (FP.l2d 0))] (.double (FP.l2d 0))) (u12 : Arv Z h0 oa co .long (16 : Int32) [(.long 1), (.long 0), (.long 0), (.long 0), (.long 0), (.long 0), (.long 0), (.long 0), (.long 0), (.long 0), (.long 0), (.long 0), (.long 0), (.long 0), (.long 0), (.long 0)] (.long 0)) (ne_r0_pp : r0 ≠ pp) (ne_r0_pa : r0 ≠ pa) (ne_r0_qa : r0 ≠ qa) (ne_r0_ka : r0 ≠ ka) (ne_r0_oa : r0 ≠ oa) (ne_pp_pa : pp ≠ pa) (ne_pp_qa : pp ≠ qa) (ne_pp_ka : pp ≠ ka) (ne_pp_oa : pp ≠ oa) (ne_pa_qa : pa ≠ qa) (ne_pa_ka : pa ≠ ka) (ne_pa_oa : pa ≠ oa) (ne_qa_ka : qa ≠ ka) (ne_qa_oa : qa ≠ oa) (ne_ka_oa : ka ≠ oa) (g_r0 : n0 ≤ r0) (g_qa : n0 ≤ qa) (g_ka : n0 ≤ ka) (g_oa : n0 ≤ oa) (g_pa : n0 ≤ pa) (hi : ii < NN) (hN : NN ≤ 126) :
    MetFree l (⟨"com/example/adfair/adfair/Ranking", "enqueue", "(IDJZ)V"⟩ : MethodName) (head1 (Jvm.Cond.code (⟨"com/example/adfair/adfair/Ranking", "enqueue", "(IDJZ)V"⟩ : MethodName) prog_20_method_14_code 8 none :: ws) ({ frames := 0, cells := 0, slots := 0, locals := 0 } : Room)) (fun a U => a = #[(.ref r0), (.int (Int32.ofNat ii)), (.double (FP.l2d kk)), (.long q3), (.int 1)] ∧ Z.Warmed39 U.vm ∧ U.heap = h0) (fun _ _ _ _ _ => True) (fun _ U o U' => ∃ v L, o = .returned v ∧ QEnF Z r0 q3 ii kk pp pa qa ka oa cq ck co NN gP num i1 k1 h0 n0 v U'.heap L ∧ FrameEnd U o U' L ({ frames := 0, cells := 0, slots := 0, locals := 0 } : Room).cells ({ frames := 0, cells := 0, slots := 0, locals := 0 } : Room).slots) := by
  refine MetFree.of_bodySF (plainFor_of_name pn_7) hisR ?_
  intro p e s m args below meth c s₁ Bd hml0 hP hK
  obtain ⟨rfl, hZ, hh⟩ := hP
  have hx := Bd.exec
  have hby := Bd.bytes
  have hml : c.maxLocals = 8 := hml0
  have hown : s.vm.findClass "com/example/adfair/adfair/Ranking" = some m.cls := findClass_of_methodNamed Bd.named
  have hnm := (name_of_methodNamed Bd.named Bd.method).1
  have X0 : Stand p l e ({ frames := 0, cells := 0, slots := 0, locals := 0 } : Room) s m #[(.ref r0), (.int (Int32.ofNat ii)), (.double (FP.l2d kk)), (.long q3), (.int 1)] below meth c s₁ [] 0 0 := Stand.of_body Bd
  have e0 : s₁.heap = h0 := by rw [← hh, Bd.state]; rfl
  have N0 := Fr.nil n0
  refine own_open fun G hG => ?_
  refine own_go (B := s₁.setTop (mkF m 0 #[.val (.ref r0), .val (.int (Int32.ofNat ii)), .val (.double (FP.l2d kk)), .second, .val (.long q3), .second, .val (.int 1), .unset] [])) (fun t_ k_ => castTop (ef_rmEnF m r0 (Int32.ofNat ii) (FP.l2d kk) q3 (1 : Int32)) k_) ?_
  have K0 : Keep h0 h0 [r0, qa, ka, oa, pa] := Keep.refl h0 _
  refine own_aloadN 1 X0.here hx (hb hby d7_0) rfl rfl rfl ?_
  obtain ⟨T810, X810, e810, st810⟩ := getF X0 hx hZ hown (host := "") (Or.inl (own_w 57 hw rfl)) Via.refl e0 u7 (g := (mkF m 1 #[.val (.ref r0), .val (.int (Int32.ofNat ii)), .val (.double (FP.l2d kk)), .second, .val (.long q3), .second, .val (.int 1), .unset] [(.ref r0)])) rfl rfl (hb hby d7_1)
  refine own_s 4 [(.int 1)] (fun _ k_ => st810 _ k_) ?_
  refine own_aloadN 5 X810.here hx (hb hby d7_4) rfl rfl rfl ?_
  obtain ⟨T811, X811, e811, st811⟩ := getF X810 hx hZ hown (host := "") (Or.inl (own_w 29 hw rfl)) Via.refl e810 u2 (g := (mkF m 5 #[.val (.ref r0), .val (.int (Int32.ofNat ii)), .val (.double (FP.l2d kk)), .second, .val (.long q3), .second, .val (.int 1), .unset] [(.ref r0), (.int 1)])) rfl rfl (hb hby d7_5)
  refine own_s 8 [(.ref qa), (.int 1)] (fun _ k_ => st811 _ k_) ?_
  obtain ⟨cl812, Ar812, -, S812, M812, -, -⟩ := id u10
  refine own_go (B := T811.setTop (mkF m 9 #[.val (.ref r0), .val (.int (Int32.ofNat ii)), .val (.double (FP.l2d kk)), .second, .val (.long q3), .second, .val (.int 1), .unset] [(.int 16), (.int 1)])) (fun t_ k_ => ?_) ?_
  · refine X811.arraylength hx (by rw [e811]; exact Ar812.1) (State.isArrayOf_alike hZ.alike Ar812.2.1) (g := (mkF m 8 #[.val (.ref r0), .val (.int (Int32.ofNat ii)), .val (.double (FP.l2d kk)), .second, .val (.long q3), .second, .val (.int 1), .unset] [(.ref qa), (.int 1)])) rfl rfl (hb hby d7_8) _ ?_
    rw [len_of S812 M812]
    exact k_
  refine own_s 16 [] (fun _ k_ => XS.icmpYes X811.here hx rfl (pc0 := 9) (pc' := 16) rfl (hb hby d7_9) rfl (feq (by decide : ¬ ((1 : Int32) = (16 : Int32)))).2 (by decide) (by decide) k_) ?_
  refine own_iload 18 X811.here hx (hb hby d7_16) rfl rfl ?_
  refine own_s 21 [] (fun _ k_ => XS.ifNo X811.here hx rfl (hb hby d7_18) rfl ((if0 _ _).trans (feq (by decide : ¬ ((1 : Int32) = (0 : Int32)))).1) k_) ?_
  refine own_aloadN 22 X811.here hx (hb hby d7_21) rfl rfl rfl ?_
  refine own_aloadN 23 X811.here hx (hb hby d7_22) rfl rfl rfl ?_
  obtain ⟨T813, X813, e813, st813⟩ := getF X811 hx hZ hown (host := "") (Or.inl (own_w 55 hw rfl)) Via.refl e811 u6 (g := (mkF m 23 #[.val (.ref r0), .val (.int (Int32.ofNat ii)), .val (.double (FP.l2d kk)), .second, .val (.long q3), .second, .val (.int 1), .unset] [(.ref r0), (.ref r0)])) rfl rfl (hb hby d7_23)
  refine own_s 26 [(.int 0), (.ref r0)] (fun _ k_ => st813 _ k_) ?_
  refine own_s 27 [(.int 1), (.int 0), (.ref r0)] (fun _ k_ => XS.iconst X813.here hx rfl (hb hby d7_26) k_) ?_
  refine own_s 28 [(.int ((0 : Int32) - (1 : Int32))), (.ref r0)] (fun _ k_ => XS.isub X813.here hx rfl (hb hby d7_27) rfl k_) ?_
  rw [show ((0 : Int32) - (1 : Int32)) = (-1 : Int32) from by decide]
  refine own_aloadN 29 X813.here hx (hb hby d7_28) rfl rfl rfl ?_
  obtain ⟨T814, X814, e814, st814⟩ := getF X813 hx hZ hown (host := "") (Or.inl (own_w 29 hw rfl)) Via.refl e813 u2 (g := (mkF m 29 #[.val (.ref r0), .val (.int (Int32.ofNat ii)), .val (.double (FP.l2d kk)), .second, .val (.long q3), .second, .val (.int 1), .unset] [(.ref r0), (.int (-1)), (.ref r0)])) rfl rfl (hb hby d7_29)
  refine own_s 32 [(.ref qa), (.int (-1)), (.ref r0)] (fun _ k_ => st814 _ k_) ?_
  obtain ⟨cl815, Ar815, -, S815, M815, -, -⟩ := id u10
  refine own_go (B := T814.setTop (mkF m 33 #[.val (.ref r0), .val (.int (Int32.ofNat ii)), .val (.double (FP.l2d kk)), .second, .val (.long q3), .second, .val (.int 1), .unset] [(.int 16), (.int (-1)), (.ref r0)])) (fun t_ k_ => ?_) ?_
  · refine X814.arraylength hx (by rw [e814]; exact Ar815.1) (State.isArrayOf_alike hZ.alike Ar815.2.1) (g := (mkF m 32 #[.val (.ref r0), .val (.int (Int32.ofNat ii)), .val (.double (FP.l2d kk)), .second, .val (.long q3), .second, .val (.int 1), .unset] [(.ref qa), (.int (-1)), (.ref r0)])) rfl rfl (hb hby d7_32) _ ?_
    rw [len_of S815 M815]
    exact k_
  refine own_s 34 [(.int 1), (.int 16), (.int (-1)), (.ref r0)] (fun _ k_ => XS.iconst X814.here hx rfl (hb hby d7_33) k_) ?_
  refine own_s 35 [(.int ((16 : Int32) - (1 : Int32))), (.int (-1)), (.ref r0)] (fun _ k_ => XS.isub X814.here hx rfl (hb hby d7_34) rfl k_) ?_
  rw [show ((16 : Int32) - (1 : Int32)) = (15 : Int32) from by decide]
  refine own_s 36 [(.int ((-1 : Int32) &&& (15 : Int32))), (.ref r0)] (fun _ k_ => XS.iand X814.here hx rfl (hb hby d7_35) rfl k_) ?_
  rw [show ((-1 : Int32) &&& (15 : Int32)) = (15 : Int32) from by decide]
  obtain ⟨T816, h816, X816, e816, W816, st816⟩ := putF X814 hx hZ hown (host := "") (Or.inl (own_w 55 hw rfl)) Via.refl e814 u6 u0 (Or.inl (own_w 56 hw rfl)) (own_w 16 hw rfl) (ty := .int) (by decide) rfl rfl (g := (mkF m 36 #[.val (.ref r0), .val (.int (Int32.ofNat ii)), .val (.double (FP.l2d kk)), .second, .val (.long q3), .second, .val (.int 1), .unset] [(.int 15), (.ref r0)])) rfl rfl (hb hby d7_36)
  have f817 := u0.wr W816
  have f818 := u1.other W816 (Or.inr (slot_ne (Or.inr (own_w 36 hw rfl)) (Or.inl (own_w 56 hw rfl)) (by decide) (t := (.object "com/example/adfair/adfair/Ranking$Places")) (t' := .int) (by decide) (by decide)))
  have f819 := u2.other W816 (Or.inr (slot_ne (Or.inl (own_w 30 hw rfl)) (Or.inl (own_w 56 hw rfl)) (by decide) (t := (.array .int)) (t' := .int) (by decide) (by decide)))
  have f820 := u3.other W816 (Or.inr (slot_ne (Or.inl (own_w 32 hw rfl)) (Or.inl (own_w 56 hw rfl)) (by decide) (t := (.array .double)) (t' := .int) (by decide) (by decide)))
  have f821 := u4.other W816 (Or.inr (slot_ne (Or.inl (own_w 34 hw rfl)) (Or.inl (own_w 56 hw rfl)) (by decide) (t := (.array .long)) (t' := .int) (by decide) (by decide)))
  have f822 := u5.other W816 (Or.inr (slot_ne (Or.inr (own_w 40 hw rfl)) (Or.inl (own_w 56 hw rfl)) (by decide) (t := .long) (t' := .int) (by decide) (by decide)))
  have f823 : Fld Z h816 r0 "com/example/adfair/adfair/Ranking" "queueFirst" "I" (.int 15) := u6.same W816
  have f824 := u7.other W816 (Or.inr (slot_ne (Or.inl (own_w 58 hw rfl)) (Or.inl (own_w 56 hw rfl)) (by decide) (t := .int) (t' := .int) (by decide) (by decide)))
  have f825 := u8.other W816 (Or.inl (Ne.symm ne_r0_pp))
  have f826 := u9.other W816 (Ne.symm ne_r0_pa)
  have f827 := u10.other W816 (Ne.symm ne_r0_qa)
  have f828 := u11.other W816 (Ne.symm ne_r0_ka)
  have f829 := u12.other W816 (Ne.symm ne_r0_oa)
  have f830 := K0.wr W816 (Or.inl (List.mem_of_getElem? (i := 0) rfl))
  have Z816 : n0 ≤ h816.size := Nat.le_trans Z0 (Keep.of_wr W816).1
  have N816 := Fr.snoc X816 N0 g_r0
  refine own_s 39 [] (fun _ k_ => st816 _ k_) ?_
  refine own_aloadN 40 X816.here hx (hb hby d7_39) rfl rfl rfl ?_
  obtain ⟨T831, X831, e831, st831⟩ := getF X816 hx hZ hown (host := "") (Or.inl (own_w 55 hw rfl)) Via.refl e816 f823 (g := (mkF m 40 #[.val (.ref r0), .val (.int (Int32.ofNat ii)), .val (.double (FP.l2d kk)), .second, .val (.long q3), .second, .val (.int 1), .unset] [(.ref r0)])) rfl rfl (hb hby d7_40)
  refine own_s 43 [(.int 15)] (fun _ k_ => st831 _ k_) ?_
  refine own_istore 45 #[.val (.ref r0), .val (.int (Int32.ofNat ii)), .val (.double (FP.l2d kk)), .second, .val (.long q3), .second, .val (.int 1), .val (.int 15)] X831.here hx (hb hby d7_43) rfl rfl ?_
  refine own_s 67 [] (fun _ k_ => XS.goto X831.here hx rfl (pc0 := 45) (pc' := 67) rfl (hb hby d7_45) (by decide) (by decide) k_) ?_
  refine own_aloadN 68 X831.here hx (hb hby d7_67) rfl rfl rfl ?_
  obtain ⟨T832, X832, e832, st832⟩ := getF X831 hx hZ hown (host := "") (Or.inl (own_w 29 hw rfl)) Via.refl e831 f819 (g := (mkF m 68 #[.val (.ref r0), .val (.int (Int32.ofNat ii)), .val (.double (FP.l2d kk)), .second, .val (.long q3), .second, .val (.int 1), .val (.int 15)] [(.ref r0)])) rfl rfl (hb hby d7_68)
  refine own_s 71 [(.ref qa)] (fun _ k_ => st832 _ k_) ?_
  refine own_iload 73 X832.here hx (hb hby d7_71) rfl rfl ?_
  refine own_iloadN 74 X832.here hx (hb hby d7_73) rfl rfl ?_
  obtain ⟨cl833, Ar833, q833, S833, M833, Hh833, G833⟩ := id f827
  obtain ⟨T833, h833, X833, e833, W833, st833⟩ := stI X832 hx hZ e832 Ar833 (j := (15 : Int32)) (inb_of S833 ⟨by decide, by decide⟩) (g := (mkF m 74 #[.val (.ref r0), .val (.int (Int32.ofNat ii)), .val (.double (FP.l2d kk)), .second, .val (.long q3), .second, .val (.int 1), .val (.int 15)] [(.int (Int32.ofNat ii)), (.int 15), (.ref qa)])) rfl rfl (hb hby d7_74)
  have f834 := f817.wr W833
  have f835 := f818.other W833 (Or.inl ne_r0_qa)
  have f836 := f819.other W833 (Or.inl ne_r0_qa)
  have f837 := f820.other W833 (Or.inl ne_r0_qa)
  have f838 := f821.other W833 (Or.inl ne_r0_qa)
  have f839 := f822.other W833 (Or.inl ne_r0_qa)
  have f840 := f823.other W833 (Or.inl ne_r0_qa)
  have f841 := f824.other W833 (Or.inl ne_r0_qa)
  have f842 := f825.other W833 (Or.inl ne_pp_qa)
  have f843 := f826.other W833 ne_pa_qa
  have f844 : Arv Z h833 qa cq .int (16 : Int32) [(.int (Int32.ofNat i1)), (.int 0), (.int 0), (.int 0), (.int 0), (.int 0), (.int 0), (.int 0), (.int 0), (.int 0), (.int 0), (.int 0), (.int 0), (.int 0), (.int 0), (.int (Int32.ofNat ii))] (.int 0) := Arv.set Ar833 q833 S833 M833 Hh833 G833 rfl W833 15 rfl (Nat.le_of_ble_eq_true rfl)
  have f845 := f828.other W833 (Ne.symm ne_qa_ka)
  have f846 := f829.other W833 (Ne.symm ne_qa_oa)
  have f847 := f830.wr W833 (Or.inl (List.mem_of_getElem? (i := 1) rfl))
  have Z833 : n0 ≤ h833.size := Nat.le_trans Z816 (Keep.of_wr W833).1
  have N833 := Fr.snoc X833 N816 g_qa
  refine own_s 75 [] (fun _ k_ => st833 _ k_) ?_
  refine own_aloadN 76 X833.here hx (hb hby d7_75) rfl rfl rfl ?_
  obtain ⟨T848, X848, e848, st848⟩ := getF X833 hx hZ hown (host := "") (Or.inl (own_w 31 hw rfl)) Via.refl e833 f837 (g := (mkF m 76 #[.val (.ref r0), .val (.int (Int32.ofNat ii)), .val (.double (FP.l2d kk)), .second, .val (.long q3), .second, .val (.int 1), .val (.int 15)] [(.ref r0)])) rfl rfl (hb hby d7_76)
  refine own_s 79 [(.ref ka)] (fun _ k_ => st848 _ k_) ?_
  refine own_iload 81 X848.here hx (hb hby d7_79) rfl rfl ?_
  refine own_s 82 [(.double (FP.l2d kk)), (.int 15), (.ref ka)] (fun _ k_ => XS.dloadN X848.here hx rfl (hb hby d7_81) rfl k_) ?_
  obtain ⟨cl849, Ar849, q849, S849, M849, Hh849, G849⟩ := id f845
  obtain ⟨T849, h849, X849, e849, W849, st849⟩ := stD X848 hx hZ e848 Ar849 (j := (15 : Int32)) (inb_of S849 ⟨by decide, by decide⟩) (g := (mkF m 82 #[.val (.ref r0), .val (.int (Int32.ofNat ii)), .val (.double (FP.l2d kk)), .second, .val (.long q3), .second, .val (.int 1), .val (.int 15)] [(.double (FP.l2d kk)), (.int 15), (.ref ka)])) rfl rfl (hb hby d7_82)
  have f850 := f834.wr W849
  have f851 := f835.other W849 (Or.inl ne_r0_ka)
  have f852 := f836.other W849 (Or.inl ne_r0_ka)
  have f853 := f837.other W849 (Or.inl ne_r0_ka)
  have f854 := f838.other W849 (Or.inl ne_r0_ka)
  have f855 := f839.other W849 (Or.inl ne_r0_ka)
  have f856 := f840.other W849 (Or.inl ne_r0_ka)
  have f857 := f841.other W849 (Or.inl ne_r0_ka)
  have f858 := f842.other W849 (Or.inl ne_pp_ka)
  have f859 := f843.other W849 ne_pa_ka
  have f860 := f844.other W849 ne_qa_ka
  have f861 : Arv Z h849 ka ck .double (16 : Int32) [(.double (FP.l2d k1)), (.double (FP.l2d 0)), (.double (FP.l2d 0)), (.double (FP.l2d 0)), (.double (FP.l2d 0)), (.double (FP.l2d 0)), (.double (FP.l2d 0)), (.double (FP.l2d 0)), (.double (FP.l2d 0)), (.double (FP.l2d 0)), (.double (FP.l2d 0)), (.double (FP.l2d 0)), (.double (FP.l2d 0)), (.double (FP.l2d 0)), (.double (FP.l2d 0)), (.double (FP.l2d kk))] (.double (FP.l2d 0)) := Arv.set Ar849 q849 S849 M849 Hh849 G849 rfl W849 15 rfl (Nat.le_of_ble_eq_true rfl)
  have f862 := f846.other W849 (Ne.symm ne_ka_oa)
  have f863 := f847.wr W849 (Or.inl (List.mem_of_getElem? (i := 2) rfl))
  have Z849 : n0 ≤ h849.size := Nat.le_trans Z833 (Keep.of_wr W849).1
  have N849 := Fr.snoc X849 N833 g_ka
  refine own_s 83 [] (fun _ k_ => st849 _ k_) ?_
  refine own_aloadN 84 X849.here hx (hb hby d7_83) rfl rfl rfl ?_
  obtain ⟨T864, X864, e864, st864⟩ := getF X849 hx hZ hown (host := "") (Or.inl (own_w 33 hw rfl)) Via.refl e849 f854 (g := (mkF m 84 #[.val (.ref r0), .val (.int (Int32.ofNat ii)), .val (.double (FP.l2d kk)), .second, .val (.long q3), .second, .val (.int 1), .val (.int 15)] [(.ref r0)])) rfl rfl (hb hby d7_84)
  refine own_s 87 [(.ref oa)] (fun _ k_ => st864 _ k_) ?_
  refine own_iload 89 X864.here hx (hb hby d7_87) rfl rfl ?_
  refine own_s 91 [(.long q3), (.int 15), (.ref oa)] (fun _ k_ => XS.lload X864.here hx rfl (hb hby d7_89) rfl k_) ?_
  obtain ⟨cl865, Ar865, q865, S865, M865, Hh865, G865⟩ := id f862
  obtain ⟨T865, h865, X865, e865, W865, st865⟩ := stJ X864 hx hZ e864 Ar865 (j := (15 : Int32)) (inb_of S865 ⟨by decide, by decide⟩) (g := (mkF m 91 #[.val (.ref r0), .val (.int (Int32.ofNat ii)), .val (.double (FP.l2d kk)), .second, .val (.long q3), .second, .val (.int 1), .val (.int 15)] [(.long q3), (.int 15), (.ref oa)])) rfl rfl (hb hby d7_91)
  have f866 := f850.wr W865
  have f867 := f851.other W865 (Or.inl ne_r0_oa)
  have f868 := f852.other W865 (Or.inl ne_r0_oa)
  have f869 := f853.other W865 (Or.inl ne_r0_oa)
  have f870 := f854.other W865 (Or.inl ne_r0_oa)
  have f871 := f855.other W865 (Or.inl ne_r0_oa)
  have f872 := f856.other W865 (Or.inl ne_r0_oa)
  have f873 := f857.other W865 (Or.inl ne_r0_oa)
  have f874 := f858.other W865 (Or.inl ne_pp_oa)
  have f875 := f859.other W865 ne_pa_oa
  have f876 := f860.other W865 ne_qa_oa
  have f877 := f861.other W865 ne_ka_oa
  have f878 : Arv Z h865 oa co .long (16 : Int32) [(.long 1), (.long 0), (.long 0), (.long 0), (.long 0), (.long 0), (.long 0), (.long 0), (.long 0), (.long 0), (.long 0), (.long 0), (.long 0), (.long 0), (.long 0), (.long q3)] (.long 0) := Arv.set Ar865 q865 S865 M865 Hh865 G865 rfl W865 15 rfl (Nat.le_of_ble_eq_true rfl)
  have f879 := f863.wr W865 (Or.inl (List.mem_of_getElem? (i := 3) rfl))
  have Z865 : n0 ≤ h865.size := Nat.le_trans Z849 (Keep.of_wr W865).1
  have N865 := Fr.snoc X865 N849 g_oa
  refine own_s 92 [] (fun _ k_ => st865 _ k_) ?_
  refine own_aloadN 93 X865.here hx (hb hby d7_92) rfl rfl rfl ?_
  refine own_s 94 [(.ref r0), (.ref r0)] (fun _ k_ => XS.dup X865.here hx rfl (hb hby d7_93) rfl rfl k_) ?_
  obtain ⟨T880, X880, e880, st880⟩ := getF X865 hx hZ hown (host := "") (Or.inl (own_w 57 hw rfl)) Via.refl e865 f873 (g := (mkF m 94 #[.val (.ref r0), .val (.int (Int32.ofNat ii)), .val (.double (FP.l2d kk)), .second, .val (.long q3), .second, .val (.int 1), .val (.int 15)] [(.ref r0), (.ref r0)])) rfl rfl (hb hby d7_94)
  refine own_s 97 [(.int 1), (.ref r0)] (fun _ k_ => st880 _ k_) ?_
  refine own_s 98 [(.int 1), (.int 1), (.ref r0)] (fun _ k_ => XS.iconst X880.here hx rfl (hb hby d7_97) k_) ?_
  refine own_s 99 [(.int ((1 : Int32) + (1 : Int32))), (.ref r0)] (fun _ k_ => XS.iadd X880.here hx rfl (hb hby d7_98) rfl k_) ?_
  rw [show ((1 : Int32) + (1 : Int32)) = (2 : Int32) from by decide]
  obtain ⟨T881, h881, X881, e881, W881, st881⟩ := putF X880 hx hZ hown (host := "") (Or.inl (own_w 57 hw rfl)) Via.refl e880 f873 f866 (Or.inl (own_w 58 hw rfl)) (own_w 16 hw rfl) (ty := .int) (by decide) rfl rfl (g := (mkF m 99 #[.val (.ref r0), .val (.int (Int32.ofNat ii)), .val (.double (FP.l2d kk)), .second, .val (.long q3), .second, .val (.int 1), .val (.int 15)] [(.int 2), (.ref r0)])) rfl rfl (hb hby d7_99)
  have f883 := f867.other W881 (Or.inr (slot_ne (Or.inr (own_w 36 hw rfl)) (Or.inl (own_w 58 hw rfl)) (by decide) (t := (.object "com/example/adfair/adfair/Ranking$Places")) (t' := .int) (by decide) (by decide)))
  have f884 := f868.other W881 (Or.inr (slot_ne (Or.inl (own_w 30 hw rfl)) (Or.inl (own_w 58 hw rfl)) (by decide) (t := (.array .int)) (t' := .int) (by decide) (by decide)))
  have f885 := f869.other W881 (Or.inr (slot_ne (Or.inl (own_w 32 hw rfl)) (Or.inl (own_w 58 hw rfl)) (by decide) (t := (.array .double)) (t' := .int) (by decide) (by decide)))
  have f886 := f870.other W881 (Or.inr (slot_ne (Or.inl (own_w 34 hw rfl)) (Or.inl (own_w 58 hw rfl)) (by decide) (t := (.array .long)) (t' := .int) (by decide) (by decide)))
  have f887 := f871.other W881 (Or.inr (slot_ne (Or.inr (own_w 40 hw rfl)) (Or.inl (own_w 58 hw rfl)) (by decide) (t := .long) (t' := .int) (by decide) (by decide)))
  have f888 := f872.other W881 (Or.inr (slot_ne (Or.inl (own_w 56 hw rfl)) (Or.inl (own_w 58 hw rfl)) (by decide) (t := .int) (t' := .int) (by decide) (by decide)))
  have f889 : Fld Z h881 r0 "com/example/adfair/adfair/Ranking" "queueSize" "I" (.int 2) := f873.same W881
  have f890 := f874.other W881 (Or.inl (Ne.symm ne_r0_pp))
  have f891 := f875.other W881 (Ne.symm ne_r0_pa)
  have f892 := f876.other W881 (Ne.symm ne_r0_qa)
  have f893 := f877.other W881 (Ne.symm ne_r0_ka)
  have f894 := f878.other W881 (Ne.symm ne_r0_oa)
  have f895 := f879.wr W881 (Or.inl (List.mem_of_getElem? (i := 0) rfl))
  have Z881 : n0 ≤ h881.size := Nat.le_trans Z865 (Keep.of_wr W881).1
  have N881 := Fr.snoc X881 N865 g_r0
  refine own_s 102 [] (fun _ k_ => st881 _ k_) ?_
  refine own_aloadN 103 X881.here hx (hb hby d7_102) rfl rfl rfl ?_
  obtain ⟨T896, X896, e896, st896⟩ := getF X881 hx hZ hown (host := "") (Or.inl (own_w 35 hw rfl)) Via.refl e881 f883 (g := (mkF m 103 #[.val (.ref r0), .val (.int (Int32.ofNat ii)), .val (.double (FP.l2d kk)), .second, .val (.long q3), .second, .val (.int 1), .val (.int 15)] [(.ref r0)])) rfl rfl (hb hby d7_103)
  refine own_s 106 [(.ref pp)] (fun _ k_ => st896 _ k_) ?_
  obtain ⟨T897, X897, e897, st897⟩ := own_getR X896 hx hZ hown (own_w 63 hw rfl) e896 f890 (g := (mkF m 106 #[.val (.ref r0), .val (.int (Int32.ofNat ii)), .val (.double (FP.l2d kk)), .second, .val (.long q3), .second, .val (.int 1), .val (.int 15)] [(.ref pp)])) rfl rfl (hb hby d7_106)
  refine own_s 109 [(.ref pa)] (fun _ k_ => st897 _ k_) ?_
  refine own_iloadN 110 X897.here hx (hb hby d7_109) rfl rfl ?_
  refine own_s 112 [(.int (-2)), (.int (Int32.ofNat ii)), (.ref pa)] (fun _ k_ => XS.bipush X897.here hx rfl (hb hby d7_110) k_) ?_
  obtain ⟨cl898, Ar898, S898, Hh898⟩ := id f891
  obtain ⟨T898, h898, X898, e898, W898, st898⟩ := stI X897 hx hZ e897 Ar898 (j := (Int32.ofNat ii)) (own_inb S898 (by omega) hi) (g := (mkF m 112 #[.val (.ref r0), .val (.int (Int32.ofNat ii)), .val (.double (FP.l2d kk)), .second, .val (.long q3), .second, .val (.int 1), .val (.int 15)] [(.int (-2)), (.int (Int32.ofNat ii)), (.ref pa)])) rfl rfl (hb hby d7_112)
  rw [own_clamp (Nat.lt_trans hi (by omega))] at W898
  have f900 := f883.other W898 (Or.inl ne_r0_pa)
  have f901 := f884.other W898 (Or.inl ne_r0_pa)
  have f902 := f885.other W898 (Or.inl ne_r0_pa)
  have f903 := f886.other W898 (Or.inl ne_r0_pa)
  have f904 := f887.other W898 (Or.inl ne_r0_pa)
  have f905 := f888.other W898 (Or.inl ne_r0_pa)
  have f906 := f889.other W898 (Or.inl ne_r0_pa)
  have f908 : own_IN Z h898 pa NN (own_updI gP ii (-2 : Int32)) := f891.set W898 hi
  have f909 := f892.other W898 (Ne.symm ne_pa_qa)
  have f910 := f893.other W898 (Ne.symm ne_pa_ka)
  have f911 := f894.other W898 (Ne.symm ne_pa_oa)
  have f912 := f895.wr W898 (Or.inl (List.mem_of_getElem? (i := 4) rfl))
  have Z898 : n0 ≤ h898.size := Nat.le_trans Z881 (Keep.of_wr W898).1
  have N898 := Fr.snoc X898 N881 g_pa
  refine own_s 113 [] (fun _ k_ => st898 _ k_) ?_
  obtain ⟨fs, hr, hrun, hended, hW, hsame⟩ := X898.leave (v := none) (fun _ => rfl)
  refine own_at ?_ (hG _ _ ⟨hrun, hended, _, _, rfl, ?_, ⟨_, rfl⟩, hW, hsame.mono (by decide) (by decide)⟩)
  · show Steps p.tables e below (T898.setTop (mkF m 113 #[.val (.ref r0), .val (.int (Int32.ofNat ii)), .val (.double (FP.l2d kk)), .second, .val (.long q3), .second, .val (.int 1), .val (.int 15)] [])) _
    exact X898.returnOut hx Bd.returns (hb hby d7_113) hr
  · show QEnF Z r0 q3 ii kk pp pa qa ka oa cq ck co NN gP num i1 k1 h0 n0 _ T898.heap _
    rw [e898]
    exact ⟨rfl, N898, f912, f900, f901, f905, f906, f908, f909, f910, f911, f904, f902, f903⟩
theorem d4_0 : decode prog_20_method_9_code 0 = .ok (.aload_n 0, 1) := by decide +kernel
theorem d4_1 : decode prog_20_method_9_code 1 = .ok (.getfield 36, 3) := by decide +kernel
theorem d4_4 : decode prog_20_method_9_code 4 = .ok (.iload_n 1, 1) := by decide +kernel
theorem d4_5 : decode prog_20_method_9_code 5 = .ok (.invokevirtual 70, 3) := by decide +kernel
theorem d4_8 : decode prog_20_method_9_code 8 = .ok (.ifCond .eq 17, 3) := by decide +kernel
theorem d4_11 : decode prog_20_method_9_code 11 = .ok (.new 74, 3) := by decide +kernel
theorem d4_14 : decode prog_20_method_9_code 14 = .ok (.dup, 1) := by decide +kernel
theorem d4_15 : decode prog_20_method_9_code 15 = .ok (.iload_n 1, 1) := by decide +kernel
theorem d4_21 : decode prog_20_method_9_code 21 = .ok (.invokespecial 80, 3) := by decide +kernel
theorem d4_24 : decode prog_20_method_9_code 24 = .ok (.athrow, 1) := by decide +kernel
theorem d4_25 : decode prog_20_method_9_code 25 = .ok (.iload_n 1, 1) := by decide +kernel
theorem d4_26 : decode prog_20_method_9_code 26 = .ok (.aload_n 0, 1) := by decide +kernel
theorem d4_27 : decode prog_20_method_9_code 27 = .ok (.getfield 36, 3) := by decide +kernel
theorem d4_30 : decode prog_20_method_9_code 30 = .ok (.getfield 54, 3) := by decide +kernel
theorem d4_33 : decode prog_20_method_9_code 33 = .ok (.arraylength, 1) := by decide +kernel
theorem d4_34 : decode prog_20_method_9_code 34 = .ok (.if_icmp .lt 11, 3) := by decide +kernel
theorem d4_37 : decode prog_20_method_9_code 37 = .ok (.aload_n 0, 1) := by decide +kernel
theorem d4_38 : decode prog_20_method_9_code 38 = .ok (.getfield 36, 3) := by decide +kernel
theorem d4_41 : decode prog_20_method_9_code 41 = .ok (.iload_n 1, 1) := by decide +kernel
theorem d4_42 : decode prog_20_method_9_code 42 = .ok (.invokevirtual 83, 3) := by decide +kernel
theorem d4_45 : decode prog_20_method_9_code 45 = .ok (.aload_n 0, 1) := by decide +kernel
theorem d4_46 : decode prog_20_method_9_code 46 = .ok (.getfield 36, 3) := by decide +kernel
theorem d4_49 : decode prog_20_method_9_code 49 = .ok (.getfield 54, 3) := by decide +kernel
theorem d4_52 : decode prog_20_method_9_code 52 = .ok (.iload_n 1, 1) := by decide +kernel
theorem d4_53 : decode prog_20_method_9_code 53 = .ok (.aload_n 0, 1) := by decide +kernel
theorem d4_54 : decode prog_20_method_9_code 54 = .ok (.getfield 44, 3) := by decide +kernel
theorem d4_57 : decode prog_20_method_9_code 57 = .ok (.lastore, 1) := by decide +kernel
theorem d4_58 : decode prog_20_method_9_code 58 = .ok (.aload_n 0, 1) := by decide +kernel
theorem d4_59 : decode prog_20_method_9_code 59 = .ok (.invokevirtual 86, 3) := by decide +kernel
theorem d4_62 : decode prog_20_method_9_code 62 = .ok (.istore 6, 2) := by decide +kernel
theorem d4_64 : decode prog_20_method_9_code 64 = .ok (.aload_n 0, 1) := by decide +kernel
theorem d4_65 : decode prog_20_method_9_code 65 = .ok (.getfield 51, 3) := by decide +kernel
theorem d4_68 : decode prog_20_method_9_code 68 = .ok (.ifCond .eq 26, 3) := by decide +kernel
theorem d4_71 : decode prog_20_method_9_code 71 = .ok (.aload_n 0, 1) := by decide +kernel
theorem d4_72 : decode prog_20_method_9_code 72 = .ok (.getfield 30, 3) := by decide +kernel
theorem d4_75 : decode prog_20_method_9_code 75 = .ok (.iload 6, 2) := by decide +kernel
theorem d4_77 : decode prog_20_method_9_code 77 = .ok (.daload, 1) := by decide +kernel
theorem d4_78 : decode prog_20_method_9_code 78 = .ok (.aload_n 0, 1) := by decide +kernel
theorem d4_79 : decode prog_20_method_9_code 79 = .ok (.getfield 33, 3) := by decide +kernel
theorem d4_82 : decode prog_20_method_9_code 82 = .ok (.iload 6, 2) := by decide +kernel
theorem d4_84 : decode prog_20_method_9_code 84 = .ok (.laload, 1) := by decide +kernel
theorem d4_85 : decode prog_20_method_9_code 85 = .ok (.dload_n 2, 1) := by decide +kernel
theorem d4_86 : decode prog_20_method_9_code 86 = .ok (.lload 4, 2) := by decide +kernel
theorem d4_88 : decode prog_20_method_9_code 88 = .ok (.invokestatic 90, 3) := by decide +kernel
theorem d4_91 : decode prog_20_method_9_code 91 = .ok (.ifCond .eq 15, 3) := by decide +kernel
theorem d4_94 : decode prog_20_method_9_code 94 = .ok (.aload_n 0, 1) := by decide +kernel
theorem d4_95 : decode prog_20_method_9_code 95 = .ok (.iload_n 1, 1) := by decide +kernel
theorem d4_96 : decode prog_20_method_9_code 96 = .ok (.dload_n 2, 1) := by decide +kernel
theorem d4_97 : decode prog_20_method_9_code 97 = .ok (.lload 4, 2) := by decide +kernel
theorem d4_99 : decode prog_20_method_9_code 99 = .ok (.iconst 0, 1) := by decide +kernel
theorem d4_100 : decode prog_20_method_9_code 100 = .ok (.invokevirtual 94, 3) := by decide +kernel
theorem d4_103 : decode prog_20_method_9_code 103 = .ok (.goto 50, 3) := by decide +kernel
theorem d4_106 : decode prog_20_method_9_code 106 = .ok (.dload_n 2, 1) := by decide +kernel
theorem d4_107 : decode prog_20_method_9_code 107 = .ok (.lload 4, 2) := by decide +kernel
theorem d4_109 : decode prog_20_method_9_code 109 = .ok (.aload_n 0, 1) := by decide +kernel
theorem d4_110 : decode prog_20_method_9_code 110 = .ok (.getfield 30, 3) := by decide +kernel
theorem d4_113 : decode prog_20_method_9_code 113 = .ok (.aload_n 0, 1) := by decide +kernel
theorem d4_114 : decode prog_20_method_9_code 114 = .ok (.getfield 61, 3) := by decide +kernel
theorem d4_117 : decode prog_20_method_9_code 117 = .ok (.daload, 1) := by decide +kernel
theorem d4_118 : decode prog_20_method_9_code 118 = .ok (.aload_n 0, 1) := by decide +kernel
theorem d4_119 : decode prog_20_method_9_code 119 = .ok (.getfield 33, 3) := by decide +kernel
theorem d4_122 : decode prog_20_method_9_code 122 = .ok (.aload_n 0, 1) := by decide +kernel
theorem d4_123 : decode prog_20_method_9_code 123 = .ok (.getfield 61, 3) := by decide +kernel
theorem d4_126 : decode prog_20_method_9_code 126 = .ok (.laload, 1) := by decide +kernel
theorem d4_127 : decode prog_20_method_9_code 127 = .ok (.invokestatic 90, 3) := by decide +kernel
theorem d4_130 : decode prog_20_method_9_code 130 = .ok (.ifCond .eq 15, 3) := by decide +kernel
theorem d4_133 : decode prog_20_method_9_code 133 = .ok (.aload_n 0, 1) := by decide +kernel
theorem d4_134 : decode prog_20_method_9_code 134 = .ok (.iload_n 1, 1) := by decide +kernel
theorem d4_135 : decode prog_20_method_9_code 135 = .ok (.dload_n 2, 1) := by decide +kernel
theorem d4_136 : decode prog_20_method_9_code 136 = .ok (.lload 4, 2) := by decide +kernel
theorem d4_138 : decode prog_20_method_9_code 138 = .ok (.iconst 1, 1) := by decide +kernel
theorem d4_139 : decode prog_20_method_9_code 139 = .ok (.invokevirtual 94, 3) := by decide +kernel
theorem d4_142 : decode prog_20_method_9_code 142 = .ok (.goto 11, 3) := by decide +kernel
theorem d4_145 : decode prog_20_method_9_code 145 = .ok (.aload_n 0, 1) := by decide +kernel
theorem d4_146 : decode prog_20_method_9_code 146 = .ok (.iload_n 1, 1) := by decide +kernel
theorem d4_147 : decode prog_20_method_9_code 147 = .ok (.dload_n 2, 1) := by decide +kernel
theorem d4_148 : decode prog_20_method_9_code 148 = .ok (.lload 4, 2) := by decide +kernel
theorem d4_150 : decode prog_20_method_9_code 150 = .ok (.invokevirtual 98, 3) := by decide +kernel
theorem d4_153 : decode prog_20_method_9_code 153 = .ok (.return_, 1) := by decide +kernel
theorem pn_4 : plainName "com/example/adfair/adfair/Ranking" = true := by first | (simp [plainName, overriddenIn]; done) | decide +kernel
theorem ef_rmAd0 (m : MethodId) (x0 : Addr) (x1 : Int32) (x2 : UInt64) (x3 : Int64) : entryFrame m #[(.ref x0), (.int x1), (.double x2), (.long x3)] 7 = mkF m 0 #[.val (.ref x0), .val (.int x1), .val (.double x2), .second, .val (.long x3), .second, .unset] [] := by first | (simp [entryFrame, mkF, argsToLocals, Value.category]; done) | rfl
def QAd0 (Z : State) (r0 : Addr) (ii : Nat) (kk : Int64) (num : Int64) (pp : Addr) (pa : Addr) (ha : Addr) (qa : Addr) (ka : Addr) (oa : Addr) (cq : ClassId) (ck : ClassId) (co : ClassId) (NN : Nat) (fH : Nat → Int64) (gP : Nat → Int32) (o3 : Int64) (h0 : Heap) (n0 : Nat) (v : Option Value) (h : Heap) (L : List Loc) : Prop := ∃ (N2 : Nat) (p2 : Addr) (h2 : Addr), v = none ∧ Fr n0 L ∧ Keep h0 h [r0, pp, pa, ha, qa, ka, oa] ∧ n0 ≤ p2 ∧ n0 ≤ h2 ∧ (∀ x : Nat, x < h0.size → x ≠ pa → x ≠ p2) ∧ (∀ x : Nat, x < h0.size → x ≠ ha → x ≠ h2) ∧ p2 ≠ h2 ∧ (ii < N2 ∧ NN ≤ N2 ∧ N2 ≤ 126) ∧ (own_z (own_upd fH ii num) N2) ∧ (own_zI (own_updI gP ii (-2 : Int32)) N2) ∧ Fld Z h r0 "com/example/adfair/adfair/Ranking" "places" "Lcom/example/adfair/adfair/Ranking$Places;" (.ref pp) ∧ Fld Z h r0 "com/example/adfair/adfair/Ranking" "queued" "[I" (.ref qa) ∧ Fld Z h r0 "com/example/adfair/adfair/Ranking" "number" "J" (.long num) ∧ Fld Z h pp "com/example/adfair/adfair/Ranking$Places" "holder" "[J" (.ref h2) ∧ Fld Z h pp "com/example/adfair/adfair/Ranking$Places" "place" "[I" (.ref p2) ∧ own_LN Z h h2 N2 (own_upd fH ii num) ∧ own_IN Z h p2 N2 (own_updI gP ii (-2 : Int32)) ∧ Fld Z h r0 "com/example/adfair/adfair/Ranking" "queueSize" "I" (.int 1) ∧ Fld Z h r0 "com/example/adfair/adfair/Ranking" "queueFirst" "I" (.int 0) ∧ Arv Z h qa cq .int (16 : Int32) [(.int (Int32.ofNat ii)), (.int 0), (.int 0), (.int 0), (.int 0), (.int 0), (.int 0), (.int 0), (.int 0), (.int 0), (.int 0), (.int 0), (.int 0), (.int 0), (.int 0), (.int 0)] (.int 0) ∧ Arv Z h ka ck .double (16 : Int32) [(.double (FP.l2d kk)), (.double (FP.l2d 0)), (.double (FP.l2d 0)), (.double (FP.l2d 0)), (.double (FP.l2d 0)), (.double (FP.l2d 0)), (.double (FP.l2d 0)), (.double (FP.l2d 0)), (.double (FP.l2d 0)), (.double (FP.l2d 0)), (.double (FP.l2d 0)), (.double (FP.l2d 0)), (.double (FP.l2d 0)), (.double (FP.l2d 0)), (.double (FP.l2d 0)), (.double (FP.l2d 0))] (.double (FP.l2d 0)) ∧ Arv Z h oa co .long (16 : Int32) [(.long o3), (.long 0), (.long 0), (.long 0), (.long 0), (.long 0), (.long 0), (.long 0), (.long 0), (.long 0), (.long 0), (.long 0), (.long 0), (.long 0), (.long 0), (.long 0)] (.long 0) ∧ Fld Z h r0 "com/example/adfair/adfair/Ranking" "queuedKeys" "[D" (.ref ka) ∧ Fld Z h r0 "com/example/adfair/adfair/Ranking" "queuedOrders" "[J" (.ref oa)
set_option maxRecDepth 65536 in
set_option maxHeartbeats 40000000 in
theorem rmAd0 (l : Launch) (Z : State) (a0 : Array Value) (hw : ∀ d ∈ tables_1, d.before a0 Z = true) (ws : List Jvm.Cond) (r0 : Addr) (ii : Nat) (kk : Int64) (num : Int64) (pp : Addr) (pa : Addr) (ha : Addr) (qa : Addr) (ka : Addr) (oa : Addr) (cq : ClassId) (ck : ClassId) (co : ClassId) (NN : Nat) (fH : Nat → Int64) (gP : Nat → Int32) (o3 : Int64) (h0 : Heap) (n0 : Nat) (Z0 : n0 ≤ h0.size) (u0 : Exa Z h0 r0 "com/example/adfair/adfair/Ranking") (u1 : Fld Z h0 r0 "com/example/adfair/adfair/Ranking" "places" "Lcom/example/adfair/adfair/Ranking$Places;" (.ref pp)) (u2 : Fld Z h0 r0 "com/example/adfair/adfair/Ranking" "queued" "[I" (.ref qa)) (u3 : Fld Z h0 r0 "com/example/adfair/adfair/Ranking" "queuedKeys" "[D" (.ref ka)) (u4 : Fld Z h0 r0 "com/example/adfair/adfair/Ranking" "queuedOrders" "[J" (.ref oa)) (u5 : Exa Z h0 pp "com/example/adfair/adfair/Ranking$Places") (u6 : Fld Z h0 r0 "com/example/adfair/adfair/Ranking" "number" "J" (.long num)) (u7 : Fld Z h0 r0 "com/example/adfair/adfair/Ranking" "queueFirst" "I" (.int 0)) (u8 : Fld Z h0 r0 "com/example/adfair/adfair/Ranking" "queueSize" "I" (.int 0)) (u9 : Fld Z h0 pp "com/example/adfair/adfair/Ranking$Places" "holder" "[J" (.ref ha)) (u10 : Fld Z h0 pp "com/example/adfair/adfair/Ranking$Places" "place" "[I" (.ref pa)) (u11 : own_LN Z h0 ha NN fH) (u12 : own_IN Z h0 pa NN gP) (u13 : Arv Z h0 qa cq .int (16 : Int32) [(.int 0), (.int 0), (.int 0), (.int 0), (.int 0), (.int 0), (.int 0), (.int 0), (.int 0), (.int 0), (.int 0), (.int 0), (.int 0), (.int 0), (.int 0), (.int 0)] (.int 0)) (u14 : Arv Z h0 ka ck .double (16 : Int32) [(.double (FP.l2d 0)), (.double (FP.l2d 0)), (.double (FP.l2d 0)), (.double (FP.l2d 0)), (.double (FP.l2d 0)), (.double (FP.l2d 0)), (.double (FP.l2d 0)), (.double (FP.l2d 0)), (.double (FP.l2d 0)), (.double (FP.l2d 0)), (.double (FP.l2d 0)), (.double (FP.l2d 0)), (.double (FP.l2d 0)), (.double (FP.l2d 0)), (.double (FP.l2d 0)), (.double (FP.l2d 0))] (.double (FP.l2d 0))) (u15 : Arv Z h0 oa co .long (16 : Int32) [(.long 0), (.long 0), (.long 0), (.long 0), (.long 0), (.long 0), (.long 0), (.long 0), (.long 0), (.long 0), (.long 0), (.long 0), (.long 0), (.long 0), (.long 0), (.long 0)] (.long 0)) (ne_r0_pp : r0 ≠ pp) (ne_r0_pa : r0 ≠ pa) (ne_r0_ha : r0 ≠ ha) (ne_r0_qa : r0 ≠ qa) (ne_r0_ka : r0 ≠ ka) (ne_r0_oa : r0 ≠ oa) (ne_pp_pa : pp ≠ pa) (ne_pp_ha : pp ≠ ha) (ne_pp_qa : pp ≠ qa) (ne_pp_ka : pp ≠ ka) (ne_pp_oa : pp ≠ oa) (ne_pa_ha : pa ≠ ha) (ne_pa_qa : pa ≠ qa) (ne_pa_ka : pa ≠ ka) (ne_pa_oa : pa ≠ oa) (ne_ha_qa : ha ≠ qa) (ne_ha_ka : ha ≠ ka) (ne_ha_oa : ha ≠ oa) (ne_qa_ka : qa ≠ ka) (ne_qa_oa : qa ≠ oa) (ne_ka_oa : ka ≠ oa) (g_r0 : n0 ≤ r0) (g_pp : n0 ≤ pp) (g_pa : n0 ≤ pa) (g_ha : n0 ≤ ha) (g_qa : n0 ≤ qa) (g_ka : n0 ≤ ka) (g_oa : n0 ≤ oa) (h16 : 16 ≤ NN) (hN : NN ≤ 126) (hi : ii < 64) (hf : fH ii = 0) (hz1 : own_z fH NN) (hz2 : own_zI gP NN) :
    MetFree l (⟨"com/example/adfair/adfair/Ranking", "add", "(IDJ)V"⟩ : MethodName) (head1 (Jvm.Cond.code (⟨"com/example/adfair/adfair/Ranking", "add", "(IDJ)V"⟩ : MethodName) prog_20_method_9_code 7 none :: ws) ({ frames := 3, cells := 2, slots := 252, locals := 90 } : Room)) (fun a U => a = #[(.ref r0), (.int (Int32.ofNat ii)), (.double (FP.l2d kk)), (.long o3)] ∧ Z.Warmed39 U.vm ∧ U.heap = h0) (fun _ _ _ _ _ => True) (fun _ U o U' => ∃ v L, o = .returned v ∧ QAd0 Z r0 ii kk num pp pa ha qa ka oa cq ck co NN fH gP o3 h0 n0 v U'.heap L ∧ FrameEnd U o U' L ({ frames := 3, cells := 2, slots := 252, locals := 90 } : Room).cells ({ frames := 3, cells := 2, slots := 252, locals := 90 } : Room).slots) := by
  refine MetFree.of_bodySF (plainFor_of_name pn_4) hisR ?_
  intro p e s m args below meth c s₁ Bd hml0 hP hK
  obtain ⟨rfl, hZ, hh⟩ := hP
  have hx := Bd.exec
  have hby := Bd.bytes
  have hml : c.maxLocals = 7 := hml0
  have hown : s.vm.findClass "com/example/adfair/adfair/Ranking" = some m.cls := findClass_of_methodNamed Bd.named
  have hnm := (name_of_methodNamed Bd.named Bd.method).1
  have X0 : Stand p l e ({ frames := 3, cells := 2, slots := 252, locals := 90 } : Room) s m #[(.ref r0), (.int (Int32.ofNat ii)), (.double (FP.l2d kk)), (.long o3)] below meth c s₁ [] 0 0 := Stand.of_body Bd
  have e0 : s₁.heap = h0 := by rw [← hh, Bd.state]; rfl
  have N0 := Fr.nil n0
  refine own_open fun G hG => ?_
  refine own_go (B := s₁.setTop (mkF m 0 #[.val (.ref r0), .val (.int (Int32.ofNat ii)), .val (.double (FP.l2d kk)), .second, .val (.long o3), .second, .unset] [])) (fun t_ k_ => castTop (ef_rmAd0 m r0 (Int32.ofNat ii) (FP.l2d kk) o3) k_) ?_
  have K0 : Keep h0 h0 [r0, pp, pa, ha, qa, ka, oa] := Keep.refl h0 _
  refine own_aloadN 1 X0.here hx (hb hby d4_0) rfl rfl rfl ?_
  obtain ⟨T914, X914, e914, st914⟩ := getF X0 hx hZ hown (host := "") (Or.inl (own_w 35 hw rfl)) Via.refl e0 u1 (g := (mkF m 1 #[.val (.ref r0), .val (.int (Int32.ofNat ii)), .val (.double (FP.l2d kk)), .second, .val (.long o3), .second, .unset] [(.ref r0)])) rfl rfl (hb hby d4_1)
  refine own_s 4 [(.ref pp)] (fun _ k_ => st914 _ k_) ?_
  refine own_iloadN 5 X914.here hx (hb hby d4_4) rfl rfl ?_
  obtain ⟨vv915, _, ⟨T915, L915, k915, n915⟩, -, X915, ⟨Lc915, hQ915, l915, y915, z915⟩, st915⟩ := own_privR X914 hx hZ (y := (⟨"com/example/adfair/adfair/Ranking$Places", "holds", "(I)Z"⟩ : MethodName)) hown (own_w 46 hw rfl) (own_w 47 hw rfl) (own_w 48 hw rfl) (own_w 1 hw rfl) (own_w 49 hw rfl) (by decide) (backOf (W := 0) (rmHo l Z a0 hw [] pp ii ha NN fH h0 n0 Z0 u9 u11 hi (by omega) hf) hZ (own_w 49 hw rfl) (own_w 2 hw rfl) (by decide) (by decide)) (g := (mkF m 5 #[.val (.ref r0), .val (.int (Int32.ofNat ii)), .val (.double (FP.l2d kk)), .second, .val (.long o3), .second, .unset] [(.int (Int32.ofNat ii)), (.ref pp)])) rfl (by rw [hml]; rfl) e914 u5 (argsL := [(.int (Int32.ofNat ii))]) (rest := []) (lenOf pd__28_I_29_Z rfl) rfl (by show 2 * 0 + _ ≤ _; exact Nat.le_of_eq rfl) (hb hby d4_5) (fun _ _ => ⟨rfl, e914, (by decide : 0 + 0 ≤ _), (by decide : 0 + 0 ≤ _)⟩)
  dsimp only [Pt.U, Pt.locs, Pt.cells, Pt.slots] at X915 l915 y915 z915 st915 hQ915
  subst l915 y915 z915
  obtain ⟨rfl, N915q, e915q⟩ := hQ915
  have N915 := Fr.app N0 N915q
  refine own_s 8 [(.int 0)] (fun _ k_ => st915.trans k_) ?_
  refine own_s 25 [] (fun _ k_ => XS.ifYes X915.here hx rfl (pc0 := 8) (pc' := 25) rfl (hb hby d4_8) rfl ((if0 _ _).trans (teq (by decide : (0 : Int32) = (0 : Int32))).1) (by decide) (by decide) k_) ?_
  refine own_iloadN 26 X915.here hx (hb hby d4_25) rfl rfl ?_
  refine own_aloadN 27 X915.here hx (hb hby d4_26) rfl rfl rfl ?_
  obtain ⟨T916, X916, e916, st916⟩ := getF X915 hx hZ hown (host := "") (Or.inl (own_w 35 hw rfl)) Via.refl e915q u1 (g := (mkF m 27 #[.val (.ref r0), .val (.int (Int32.ofNat ii)), .val (.double (FP.l2d kk)), .second, .val (.long o3), .second, .unset] [(.ref r0), (.int (Int32.ofNat ii))])) rfl rfl (hb hby d4_27)
  refine own_s 30 [(.ref pp), (.int (Int32.ofNat ii))] (fun _ k_ => st916 _ k_) ?_
  obtain ⟨T917, X917, e917, st917⟩ := own_getR X916 hx hZ hown (own_w 50 hw rfl) e916 u9 (g := (mkF m 30 #[.val (.ref r0), .val (.int (Int32.ofNat ii)), .val (.double (FP.l2d kk)), .second, .val (.long o3), .second, .unset] [(.ref pp), (.int (Int32.ofNat ii))])) rfl rfl (hb hby d4_30)
  refine own_s 33 [(.ref ha), (.int (Int32.ofNat ii))] (fun _ k_ => st917 _ k_) ?_
  obtain ⟨cl918, Ar918, S918, -⟩ := id u11
  refine own_go (B := T917.setTop (mkF m 34 #[.val (.ref r0), .val (.int (Int32.ofNat ii)), .val (.double (FP.l2d kk)), .second, .val (.long o3), .second, .unset] [(.int (Int32.ofNat NN)), (.int (Int32.ofNat ii))])) (fun t_ k_ => ?_) ?_
  · refine X917.arraylength hx (by rw [e917]; exact Ar918.1) (State.isArrayOf_alike hZ.alike Ar918.2.1) (g := (mkF m 33 #[.val (.ref r0), .val (.int (Int32.ofNat ii)), .val (.double (FP.l2d kk)), .second, .val (.long o3), .second, .unset] [(.ref ha), (.int (Int32.ofNat ii))])) rfl rfl (hb hby d4_33) _ ?_
    rw [own_len S918]
    exact k_
  by_cases hc34 : (Int32.ofNat ii) < (Int32.ofNat NN)
  · refine own_s 45 [] (fun _ k_ => XS.icmpYes X917.here hx rfl (pc0 := 34) (pc' := 45) rfl (hb hby d4_34) rfl (tlt hc34).1 (by decide) (by decide) k_) ?_
    have hlt_NN : ii < NN := ((own_lt (by omega) (by omega)).mp hc34)
    refine own_aloadN 46 X917.here hx (hb hby d4_45) rfl rfl rfl ?_
    obtain ⟨T919, X919, e919, st919⟩ := getF X917 hx hZ hown (host := "") (Or.inl (own_w 35 hw rfl)) Via.refl e917 u1 (g := (mkF m 46 #[.val (.ref r0), .val (.int (Int32.ofNat ii)), .val (.double (FP.l2d kk)), .second, .val (.long o3), .second, .unset] [(.ref r0)])) rfl rfl (hb hby d4_46)
    refine own_s 49 [(.ref pp)] (fun _ k_ => st919 _ k_) ?_
    obtain ⟨T920, X920, e920, st920⟩ := own_getR X919 hx hZ hown (own_w 50 hw rfl) e919 u9 (g := (mkF m 49 #[.val (.ref r0), .val (.int (Int32.ofNat ii)), .val (.double (FP.l2d kk)), .second, .val (.long o3), .second, .unset] [(.ref pp)])) rfl rfl (hb hby d4_49)
    refine own_s 52 [(.ref ha)] (fun _ k_ => st920 _ k_) ?_
    refine own_iloadN 53 X920.here hx (hb hby d4_52) rfl rfl ?_
    refine own_aloadN 54 X920.here hx (hb hby d4_53) rfl rfl rfl ?_
    obtain ⟨T921, X921, e921, st921⟩ := getF X920 hx hZ hown (host := "") (Or.inl (own_w 39 hw rfl)) Via.refl e920 u6 (g := (mkF m 54 #[.val (.ref r0), .val (.int (Int32.ofNat ii)), .val (.double (FP.l2d kk)), .second, .val (.long o3), .second, .unset] [(.ref r0), (.int (Int32.ofNat ii)), (.ref ha)])) rfl rfl (hb hby d4_54)
    refine own_s 57 [(.long num), (.int (Int32.ofNat ii)), (.ref ha)] (fun _ k_ => st921 _ k_) ?_
    obtain ⟨cl922, Ar922, S922, Hh922⟩ := id u11
    obtain ⟨T922, h922, X922, e922, W922, st922⟩ := stJ X921 hx hZ e921 Ar922 (j := (Int32.ofNat ii)) (own_inb S922 (by omega) hlt_NN) (g := (mkF m 57 #[.val (.ref r0), .val (.int (Int32.ofNat ii)), .val (.double (FP.l2d kk)), .second, .val (.long o3), .second, .unset] [(.long num), (.int (Int32.ofNat ii)), (.ref ha)])) rfl rfl (hb hby d4_57)
    rw [own_clamp (Nat.lt_trans hlt_NN (by omega))] at W922
    have f923 := u0.wr W922
    have f924 := u1.other W922 (Or.inl ne_r0_ha)
    have f925 := u2.other W922 (Or.inl ne_r0_ha)
    have f926 := u3.other W922 (Or.inl ne_r0_ha)
    have f927 := u4.other W922 (Or.inl ne_r0_ha)
    have f929 := u6.other W922 (Or.inl ne_r0_ha)
    have f930 := u7.other W922 (Or.inl ne_r0_ha)
    have f931 := u8.other W922 (Or.inl ne_r0_ha)
    have f932 := u9.other W922 (Or.inl ne_pp_ha)
    have f933 := u10.other W922 (Or.inl ne_pp_ha)
    have f934 : own_LN Z h922 ha NN (own_upd fH ii num) := u11.set W922 hlt_NN
    have f935 := u12.other W922 ne_pa_ha
    have f936 := u13.other W922 (Ne.symm ne_ha_qa)
    have f937 := u14.other W922 (Ne.symm ne_ha_ka)
    have f938 := u15.other W922 (Ne.symm ne_ha_oa)
    have f939 := K0.wr W922 (Or.inl (List.mem_of_getElem? (i := 3) rfl))
    have Z922 : n0 ≤ h922.size := Nat.le_trans Z0 (Keep.of_wr W922).1
    have N922 := Fr.snoc X922 N915 g_ha
    refine own_s 58 [] (fun _ k_ => st922 _ k_) ?_
    refine own_aloadN 59 X922.here hx (hb hby d4_58) rfl rfl rfl ?_
    obtain ⟨vv940, _, ⟨T940, L940, k940, n940⟩, -, X940, ⟨Lc940, hQ940, l940, y940, z940⟩, st940⟩ := own_privL X922 hx hZ (y := (⟨"com/example/adfair/adfair/Ranking", "lastQueued", "()I"⟩ : MethodName)) hown (own_w 51 hw rfl) (own_w 52 hw rfl) (own_w 53 hw rfl) (own_w 16 hw rfl) (own_w 54 hw rfl) (by decide) (backOf (W := 0) (rmLQ_0_0 l Z a0 hw [] r0 qa cq ([(.int 0), (.int 0), (.int 0), (.int 0), (.int 0), (.int 0), (.int 0), (.int 0), (.int 0), (.int 0), (.int 0), (.int 0), (.int 0), (.int 0), (.int 0), (.int 0)]) h922 n0 Z922 f930 f931 f925 f936) hZ (own_w 54 hw rfl) (own_w 17 hw rfl) (by decide) (by decide)) (g := (mkF m 59 #[.val (.ref r0), .val (.int (Int32.ofNat ii)), .val (.double (FP.l2d kk)), .second, .val (.long o3), .second, .unset] [(.ref r0)])) rfl (by rw [hml]; rfl) e922 f923 (argsL := []) (rest := []) (lenOf pd__28__29_I rfl) rfl (by show 2 * 0 + _ ≤ _; exact Nat.le_of_eq rfl) (hb hby d4_59) (fun _ _ => ⟨rfl, e922, (by decide : 0 + 0 ≤ _), (by decide : 0 + 0 ≤ _)⟩)
    dsimp only [Pt.U, Pt.locs, Pt.cells, Pt.slots] at X940 l940 y940 z940 st940 hQ940
    subst l940 y940 z940
    obtain ⟨rfl, N940q, e940q⟩ := hQ940
    have N940 := Fr.app N922 N940q
    refine own_s 62 [(.int 15)] (fun _ k_ => st940.trans k_) ?_
    refine own_istore 64 #[.val (.ref r0), .val (.int (Int32.ofNat ii)), .val (.double (FP.l2d kk)), .second, .val (.long o3), .second, .val (.int 15)] X940.here hx (hb hby d4_62) rfl rfl ?_
    refine own_aloadN 65 X940.here hx (hb hby d4_64) rfl rfl rfl ?_
    obtain ⟨T941, X941, e941, st941⟩ := getF X940 hx hZ hown (host := "") (Or.inl (own_w 57 hw rfl)) Via.refl e940q f931 (g := (mkF m 65 #[.val (.ref r0), .val (.int (Int32.ofNat ii)), .val (.double (FP.l2d kk)), .second, .val (.long o3), .second, .val (.int 15)] [(.ref r0)])) rfl rfl (hb hby d4_65)
    refine own_s 68 [(.int 0)] (fun _ k_ => st941 _ k_) ?_
    refine own_s 94 [] (fun _ k_ => XS.ifYes X941.here hx rfl (pc0 := 68) (pc' := 94) rfl (hb hby d4_68) rfl ((if0 _ _).trans (teq (by decide : (0 : Int32) = (0 : Int32))).1) (by decide) (by decide) k_) ?_
    refine own_aloadN 95 X941.here hx (hb hby d4_94) rfl rfl rfl ?_
    refine own_iloadN 96 X941.here hx (hb hby d4_95) rfl rfl ?_
    refine own_s 97 [(.double (FP.l2d kk)), (.int (Int32.ofNat ii)), (.ref r0)] (fun _ k_ => XS.dloadN X941.here hx rfl (hb hby d4_96) rfl k_) ?_
    refine own_s 99 [(.long o3), (.double (FP.l2d kk)), (.int (Int32.ofNat ii)), (.ref r0)] (fun _ k_ => XS.lload X941.here hx rfl (hb hby d4_97) rfl k_) ?_
    refine own_s 100 [(.int 0), (.long o3), (.double (FP.l2d kk)), (.int (Int32.ofNat ii)), (.ref r0)] (fun _ k_ => XS.iconst X941.here hx rfl (hb hby d4_99) k_) ?_
    obtain ⟨vv942, _, ⟨T942, L942, k942, n942⟩, -, X942, ⟨Lc942, hQ942, l942, y942, z942⟩, st942⟩ := own_privL X941 hx hZ (y := (⟨"com/example/adfair/adfair/Ranking", "enqueue", "(IDJZ)V"⟩ : MethodName)) hown (own_w 59 hw rfl) (own_w 60 hw rfl) (own_w 61 hw rfl) (own_w 16 hw rfl) (own_w 62 hw rfl) (by decide) (backOf (W := 0) (rmEn0 l Z a0 hw [] r0 o3 ii kk pp pa qa ka oa cq ck co NN gP num h922 n0 Z922 f923 f924 f925 f926 f927 f929 f930 f931 f933 f935 f936 f937 f938 ne_r0_pp ne_r0_pa ne_r0_qa ne_r0_ka ne_r0_oa ne_pp_pa ne_pp_qa ne_pp_ka ne_pp_oa ne_pa_qa ne_pa_ka ne_pa_oa ne_qa_ka ne_qa_oa ne_ka_oa g_r0 g_qa g_ka g_oa g_pa hlt_NN (by omega)) hZ (own_w 62 hw rfl) (own_w 17 hw rfl) (by decide) (by decide)) (g := (mkF m 100 #[.val (.ref r0), .val (.int (Int32.ofNat ii)), .val (.double (FP.l2d kk)), .second, .val (.long o3), .second, .val (.int 15)] [(.int 0), (.long o3), (.double (FP.l2d kk)), (.int (Int32.ofNat ii)), (.ref r0)])) rfl (by rw [hml]; rfl) e941 f923 (argsL := [(.int (Int32.ofNat ii)), (.double (FP.l2d kk)), (.long o3), (.int 0)]) (rest := []) (lenOf pd__28_IDJZ_29_V rfl) rfl (by show 2 * 0 + _ ≤ _; exact Nat.le_of_eq rfl) (hb hby d4_100) (fun _ _ => ⟨rfl, e941, (by decide : 0 + 0 ≤ _), (by decide : 0 + 0 ≤ _)⟩)
    dsimp only [Pt.U, Pt.locs, Pt.cells, Pt.slots] at X942 l942 y942 z942 st942 hQ942
    subst l942 y942 z942
    obtain ⟨rfl, N942q, K942, v942_0, v942_1, v942_2, v942_3, v942_4, v942_5, v942_6, v942_7, v942_8, v942_9, v942_10⟩ := hQ942
    have N942 := Fr.app N940 N942q
    have f945 := f932.keep K942 (ninS (Ne.symm ne_r0_pp) (ninS ne_pp_qa (ninS ne_pp_ka (ninS ne_pp_oa (ninS ne_pp_pa nin0)))))
    have f946 := f933.keep K942 (ninS (Ne.symm ne_r0_pp) (ninS ne_pp_qa (ninS ne_pp_ka (ninS ne_pp_oa (ninS ne_pp_pa nin0)))))
    have f947 := f934.keep K942 (ninS (Ne.symm ne_r0_ha) (ninS ne_ha_qa (ninS ne_ha_ka (ninS ne_ha_oa (ninS (Ne.symm ne_pa_ha) nin0)))))
    have f948 : Keep h0 T942.heap [r0, pp, pa, ha, qa, ka, oa] := f939.trans K942 (allS (Or.inl (List.mem_of_getElem? (i := 0) rfl)) (allS (Or.inl (List.mem_of_getElem? (i := 4) rfl)) (allS (Or.inl (List.mem_of_getElem? (i := 5) rfl)) (allS (Or.inl (List.mem_of_getElem? (i := 6) rfl)) (allS (Or.inl (List.mem_of_getElem? (i := 2) rfl)) all0)))))
    have Z942 : n0 ≤ T942.heap.size := Nat.le_trans Z922 K942.1
    refine own_s 103 [] (fun _ k_ => st942.trans k_) ?_
    refine own_s 153 [] (fun _ k_ => XS.goto X942.here hx rfl (pc0 := 103) (pc' := 153) rfl (hb hby d4_103) (by decide) (by decide) k_) ?_
    obtain ⟨fs, hr, hrun, hended, hW, hsame⟩ := X942.leave (v := none) (fun _ => rfl)
    refine own_at ?_ (hG _ _ ⟨hrun, hended, _, _, rfl, ?_, ⟨_, rfl⟩, hW, hsame.mono (by decide) (by decide)⟩)
    · show Steps p.tables e below (T942.setTop (mkF m 153 #[.val (.ref r0), .val (.int (Int32.ofNat ii)), .val (.double (FP.l2d kk)), .second, .val (.long o3), .second, .val (.int 15)] [])) _
      exact X942.returnOut hx Bd.returns (hb hby d4_153) hr
    · show QAd0 Z r0 ii kk num pp pa ha qa ka oa cq ck co NN fH gP o3 h0 n0 _ T942.heap _
      exact ⟨NN, pa, ha, rfl, N942, f948, g_pa, g_ha, (fun _ _ q => q), (fun _ _ q => q), ne_pa_ha, ⟨hlt_NN, by omega, by omega⟩, (own_z.upd hz1 hlt_NN), (own_zI.upd hz2 hlt_NN), v942_0, v942_1, v942_8, f945, f946, f947, v942_4, v942_3, v942_2, v942_5, v942_6, v942_7, v942_9, v942_10⟩
  · refine own_s 37 [] (fun _ k_ => XS.icmpNo X917.here hx rfl (hb hby d4_34) rfl (flt hc34).1 k_) ?_
    refine own_aloadN 38 X917.here hx (hb hby d4_37) rfl rfl rfl ?_
    obtain ⟨T950, X950, e950, st950⟩ := getF X917 hx hZ hown (host := "") (Or.inl (own_w 35 hw rfl)) Via.refl e917 u1 (g := (mkF m 38 #[.val (.ref r0), .val (.int (Int32.ofNat ii)), .val (.double (FP.l2d kk)), .second, .val (.long o3), .second, .unset] [(.ref r0)])) rfl rfl (hb hby d4_38)
    refine own_s 41 [(.ref pp)] (fun _ k_ => st950 _ k_) ?_
    have hNi : NN ≤ ii := Nat.le_of_not_lt fun q => hc34 ((own_lt (by omega) (by omega)).mpr q)
    refine own_iloadN 42 X950.here hx (hb hby d4_41) rfl rfl ?_
    obtain ⟨vv951, _, ⟨T951, L951, k951, n951⟩, -, X951, ⟨Lc951, hQ951, l951, y951, z951⟩, st951⟩ := own_privR X950 hx hZ (y := (⟨"com/example/adfair/adfair/Ranking$Places", "placeFor", "(I)V"⟩ : MethodName)) hown (own_w 69 hw rfl) (own_w 70 hw rfl) (own_w 71 hw rfl) (own_w 1 hw rfl) (own_w 72 hw rfl) (by decide) (backOf (W := 0) (rmPF l Z a0 hw [] pp ii pa ha NN fH gP h0 n0 Z0 u5 u10 u9 u12 u11 ne_pp_pa ne_pp_ha ne_pa_ha g_pp h16 hNi hi hz1 hz2) hZ (own_w 72 hw rfl) (own_w 2 hw rfl) (by decide) (by decide)) (g := (mkF m 42 #[.val (.ref r0), .val (.int (Int32.ofNat ii)), .val (.double (FP.l2d kk)), .second, .val (.long o3), .second, .unset] [(.int (Int32.ofNat ii)), (.ref pp)])) rfl (by rw [hml]; rfl) e950 u5 (argsL := [(.int (Int32.ofNat ii))]) (rest := []) (lenOf pd__28_I_29_V rfl) rfl (by show 2 * 0 + _ ≤ _; exact Nat.le_of_eq rfl) (hb hby d4_42) (fun _ _ => ⟨rfl, e950, (by decide : 0 + 2 ≤ _), (by decide : 0 + 252 ≤ _)⟩)
    dsimp only [Pt.U, Pt.locs, Pt.cells, Pt.slots] at X951 l951 y951 z951 st951 hQ951
    subst l951 y951 z951
    obtain ⟨MM_951, pb_951, hb_951, rfl, N951q, K951, g_pb_951, g_hb_951, s_pb_951, s_hb_951, ne_pb_951_hb_951, hM_951, v951_0, v951_1, v951_2, v951_3⟩ := hQ951
    have N951 := Fr.app N915 N951q
    have ne_r0_pb_951 : r0 ≠ pb_951 := Nat.ne_of_lt (Nat.lt_of_lt_of_le u0.lt s_pb_951)
    have ne_pp_pb_951 : pp ≠ pb_951 := Nat.ne_of_lt (Nat.lt_of_lt_of_le u5.lt s_pb_951)
    have ne_ha_pb_951 : ha ≠ pb_951 := Nat.ne_of_lt (Nat.lt_of_lt_of_le u11.lt s_pb_951)
    have ne_pa_pb_951 : pa ≠ pb_951 := Nat.ne_of_lt (Nat.lt_of_lt_of_le u12.lt s_pb_951)
    have ne_qa_pb_951 : qa ≠ pb_951 := Nat.ne_of_lt (Nat.lt_of_lt_of_le u13.lt s_pb_951)
    have ne_ka_pb_951 : ka ≠ pb_951 := Nat.ne_of_lt (Nat.lt_of_lt_of_le u14.lt s_pb_951)
    have ne_oa_pb_951 : oa ≠ pb_951 := Nat.ne_of_lt (Nat.lt_of_lt_of_le u15.lt s_pb_951)
    have sz_pb_951 : h0.size ≤ pb_951 := Nat.le_trans K0.1 s_pb_951
    have ne_r0_hb_951 : r0 ≠ hb_951 := Nat.ne_of_lt (Nat.lt_of_lt_of_le u0.lt s_hb_951)
    have ne_pp_hb_951 : pp ≠ hb_951 := Nat.ne_of_lt (Nat.lt_of_lt_of_le u5.lt s_hb_951)
    have ne_ha_hb_951 : ha ≠ hb_951 := Nat.ne_of_lt (Nat.lt_of_lt_of_le u11.lt s_hb_951)
    have ne_pa_hb_951 : pa ≠ hb_951 := Nat.ne_of_lt (Nat.lt_of_lt_of_le u12.lt s_hb_951)
    have ne_qa_hb_951 : qa ≠ hb_951 := Nat.ne_of_lt (Nat.lt_of_lt_of_le u13.lt s_hb_951)
    have ne_ka_hb_951 : ka ≠ hb_951 := Nat.ne_of_lt (Nat.lt_of_lt_of_le u14.lt s_hb_951)
    have ne_oa_hb_951 : oa ≠ hb_951 := Nat.ne_of_lt (Nat.lt_of_lt_of_le u15.lt s_hb_951)
    have sz_hb_951 : h0.size ≤ hb_951 := Nat.le_trans K0.1 s_hb_951
    have f952 := u0.keep K951
    have f953 := u1.keep K951 (ninS ne_r0_pp nin0)
    have f954 := u2.keep K951 (ninS ne_r0_pp nin0)
    have f955 := u3.keep K951 (ninS ne_r0_pp nin0)
    have f956 := u4.keep K951 (ninS ne_r0_pp nin0)
    have f958 := u6.keep K951 (ninS ne_r0_pp nin0)
    have f959 := u7.keep K951 (ninS ne_r0_pp nin0)
    have f960 := u8.keep K951 (ninS ne_r0_pp nin0)
    have f963 := u13.keep K951 (ninS (Ne.symm ne_pp_qa) nin0)
    have f964 := u14.keep K951 (ninS (Ne.symm ne_pp_ka) nin0)
    have f965 := u15.keep K951 (ninS (Ne.symm ne_pp_oa) nin0)
    have f966 : Keep h0 T951.heap [r0, pp, pa, ha, qa, ka, oa] := K0.trans K951 (allS (Or.inl (List.mem_of_getElem? (i := 1) rfl)) all0)
    have Z951 : n0 ≤ T951.heap.size := Nat.le_trans Z0 K951.1
    refine own_s 45 [] (fun _ k_ => st951.trans k_) ?_
    have hlt_MM_951 : ii < MM_951 := hM_951.1
    refine own_aloadN 46 X951.here hx (hb hby d4_45) rfl rfl rfl ?_
    obtain ⟨T967, X967, e967, st967⟩ := getF X951 hx hZ hown (host := "") (Or.inl (own_w 35 hw rfl)) Via.refl rfl f953 (g := (mkF m 46 #[.val (.ref r0), .val (.int (Int32.ofNat ii)), .val (.double (FP.l2d kk)), .second, .val (.long o3), .second, .unset] [(.ref r0)])) rfl rfl (hb hby d4_46)
    refine own_s 49 [(.ref pp)] (fun _ k_ => st967 _ k_) ?_
    obtain ⟨T968, X968, e968, st968⟩ := own_getR X967 hx hZ hown (own_w 50 hw rfl) e967 v951_1 (g := (mkF m 49 #[.val (.ref r0), .val (.int (Int32.ofNat ii)), .val (.double (FP.l2d kk)), .second, .val (.long o3), .second, .unset] [(.ref pp)])) rfl rfl (hb hby d4_49)
    refine own_s 52 [(.ref hb_951)] (fun _ k_ => st968 _ k_) ?_
    refine own_iloadN 53 X968.here hx (hb hby d4_52) rfl rfl ?_
    refine own_aloadN 54 X968.here hx (hb hby d4_53) rfl rfl rfl ?_
    obtain ⟨T969, X969, e969, st969⟩ := getF X968 hx hZ hown (host := "") (Or.inl (own_w 39 hw rfl)) Via.refl e968 f958 (g := (mkF m 54 #[.val (.ref r0), .val (.int (Int32.ofNat ii)), .val (.double (FP.l2d kk)), .second, .val (.long o3), .second, .unset] [(.ref r0), (.int (Int32.ofNat ii)), (.ref hb_951)])) rfl rfl (hb hby d4_54)
    refine own_s 57 [(.long num), (.int (Int32.ofNat ii)), (.ref hb_951)] (fun _ k_ => st969 _ k_) ?_
    obtain ⟨cl970, Ar970, S970, Hh970⟩ := id v951_3
    obtain ⟨T970, h970, X970, e970, W970, st970⟩ := stJ X969 hx hZ e969 Ar970 (j := (Int32.ofNat ii)) (own_inb S970 (by omega) hlt_MM_951) (g := (mkF m 57 #[.val (.ref r0), .val (.int (Int32.ofNat ii)), .val (.double (FP.l2d kk)), .second, .val (.long o3), .second, .unset] [(.long num), (.int (Int32.ofNat ii)), (.ref hb_951)])) rfl rfl (hb hby d4_57)
    rw [own_clamp (Nat.lt_trans hlt_MM_951 (by omega))] at W970
    have f971 := f952.wr W970
    have f972 := f953.other W970 (Or.inl ne_r0_hb_951)
    have f973 := f954.other W970 (Or.inl ne_r0_hb_951)
    have f974 := f955.other W970 (Or.inl ne_r0_hb_951)
    have f975 := f956.other W970 (Or.inl ne_r0_hb_951)
    have f977 := f958.other W970 (Or.inl ne_r0_hb_951)
    have f978 := f959.other W970 (Or.inl ne_r0_hb_951)
    have f979 := f960.other W970 (Or.inl ne_r0_hb_951)
    have f982 := f963.other W970 ne_qa_hb_951
    have f983 := f964.other W970 ne_ka_hb_951
    have f984 := f965.other W970 ne_oa_hb_951
    have f985 := f966.wr W970 (Or.inr sz_hb_951)
    have f986 := v951_0.other W970 (Or.inl ne_pp_hb_951)
    have f987 := v951_1.other W970 (Or.inl ne_pp_hb_951)
    have f988 := v951_2.other W970 ne_pb_951_hb_951
    have f989 : own_LN Z h970 hb_951 MM_951 (own_upd fH ii num) := v951_3.set W970 hlt_MM_951
    have Z970 : n0 ≤ h970.size := Nat.le_trans Z951 (Keep.of_wr W970).1
    have N970 := Fr.snoc X970 N951 g_hb_951
    refine own_s 58 [] (fun _ k_ => st970 _ k_) ?_
    refine own_aloadN 59 X970.here hx (hb hby d4_58) rfl rfl rfl ?_
    obtain ⟨vv990, _, ⟨T990, L990, k990, n990⟩, -, X990, ⟨Lc990, hQ990, l990, y990, z990⟩, st990⟩ := own_privL X970 hx hZ (y := (⟨"com/example/adfair/adfair/Ranking", "lastQueued", "()I"⟩ : MethodName)) hown (own_w 51 hw rfl) (own_w 52 hw rfl) (own_w 53 hw rfl) (own_w 16 hw rfl) (own_w 54 hw rfl) (by decide) (backOf (W := 0) (rmLQ_0_0 l Z a0 hw [] r0 qa cq ([(.int 0), (.int 0), (.int 0), (.int 0), (.int 0), (.int 0), (.int 0), (.int 0), (.int 0), (.int 0), (.int 0), (.int 0), (.int 0), (.int 0), (.int 0), (.int 0)]) h970 n0 Z970 f978 f979 f973 f982) hZ (own_w 54 hw rfl) (own_w 17 hw rfl) (by decide) (by decide)) (g := (mkF m 59 #[.val (.ref r0), .val (.int (Int32.ofNat ii)), .val (.double (FP.l2d kk)), .second, .val (.long o3), .second, .unset] [(.ref r0)])) rfl (by rw [hml]; rfl) e970 f971 (argsL := []) (rest := []) (lenOf pd__28__29_I rfl) rfl (by show 2 * 0 + _ ≤ _; exact Nat.le_of_eq rfl) (hb hby d4_59) (fun _ _ => ⟨rfl, e970, (by decide : 2 + 0 ≤ _), (by decide : 252 + 0 ≤ _)⟩)
    dsimp only [Pt.U, Pt.locs, Pt.cells, Pt.slots] at X990 l990 y990 z990 st990 hQ990
    subst l990 y990 z990
    obtain ⟨rfl, N990q, e990q⟩ := hQ990
    have N990 := Fr.app N970 N990q
    refine own_s 62 [(.int 15)] (fun _ k_ => st990.trans k_) ?_
    refine own_istore 64 #[.val (.ref r0), .val (.int (Int32.ofNat ii)), .val (.double (FP.l2d kk)), .second, .val (.long o3), .second, .val (.int 15)] X990.here hx (hb hby d4_62) rfl rfl ?_
    refine own_aloadN 65 X990.here hx (hb hby d4_64) rfl rfl rfl ?_
    obtain ⟨T991, X991, e991, st991⟩ := getF X990 hx hZ hown (host := "") (Or.inl (own_w 57 hw rfl)) Via.refl e990q f979 (g := (mkF m 65 #[.val (.ref r0), .val (.int (Int32.ofNat ii)), .val (.double (FP.l2d kk)), .second, .val (.long o3), .second, .val (.int 15)] [(.ref r0)])) rfl rfl (hb hby d4_65)
    refine own_s 68 [(.int 0)] (fun _ k_ => st991 _ k_) ?_
    refine own_s 94 [] (fun _ k_ => XS.ifYes X991.here hx rfl (pc0 := 68) (pc' := 94) rfl (hb hby d4_68) rfl ((if0 _ _).trans (teq (by decide : (0 : Int32) = (0 : Int32))).1) (by decide) (by decide) k_) ?_
    refine own_aloadN 95 X991.here hx (hb hby d4_94) rfl rfl rfl ?_
    refine own_iloadN 96 X991.here hx (hb hby d4_95) rfl rfl ?_
    refine own_s 97 [(.double (FP.l2d kk)), (.int (Int32.ofNat ii)), (.ref r0)] (fun _ k_ => XS.dloadN X991.here hx rfl (hb hby d4_96) rfl k_) ?_
    refine own_s 99 [(.long o3), (.double (FP.l2d kk)), (.int (Int32.ofNat ii)), (.ref r0)] (fun _ k_ => XS.lload X991.here hx rfl (hb hby d4_97) rfl k_) ?_
    refine own_s 100 [(.int 0), (.long o3), (.double (FP.l2d kk)), (.int (Int32.ofNat ii)), (.ref r0)] (fun _ k_ => XS.iconst X991.here hx rfl (hb hby d4_99) k_) ?_
    obtain ⟨vv992, _, ⟨T992, L992, k992, n992⟩, -, X992, ⟨Lc992, hQ992, l992, y992, z992⟩, st992⟩ := own_privL X991 hx hZ (y := (⟨"com/example/adfair/adfair/Ranking", "enqueue", "(IDJZ)V"⟩ : MethodName)) hown (own_w 59 hw rfl) (own_w 60 hw rfl) (own_w 61 hw rfl) (own_w 16 hw rfl) (own_w 62 hw rfl) (by decide) (backOf (W := 0) (rmEn0 l Z a0 hw [] r0 o3 ii kk pp pb_951 qa ka oa cq ck co MM_951 gP num h970 n0 Z970 f971 f972 f973 f974 f975 f977 f978 f979 f986 f988 f982 f983 f984 ne_r0_pp ne_r0_pb_951 ne_r0_qa ne_r0_ka ne_r0_oa ne_pp_pb_951 ne_pp_qa ne_pp_ka ne_pp_oa (Ne.symm ne_qa_pb_951) (Ne.symm ne_ka_pb_951) (Ne.symm ne_oa_pb_951) ne_qa_ka ne_qa_oa ne_ka_oa g_r0 g_qa g_ka g_oa g_pb_951 hlt_MM_951 (by omega)) hZ (own_w 62 hw rfl) (own_w 17 hw rfl) (by decide) (by decide)) (g := (mkF m 100 #[.val (.ref r0), .val (.int (Int32.ofNat ii)), .val (.double (FP.l2d kk)), .second, .val (.long o3), .second, .val (.int 15)] [(.int 0), (.long o3), (.double (FP.l2d kk)), (.int (Int32.ofNat ii)), (.ref r0)])) rfl (by rw [hml]; rfl) e991 f971 (argsL := [(.int (Int32.ofNat ii)), (.double (FP.l2d kk)), (.long o3), (.int 0)]) (rest := []) (lenOf pd__28_IDJZ_29_V rfl) rfl (by show 2 * 0 + _ ≤ _; exact Nat.le_of_eq rfl) (hb hby d4_100) (fun _ _ => ⟨rfl, e991, (by decide : 2 + 0 ≤ _), (by decide : 252 + 0 ≤ _)⟩)
    dsimp only [Pt.U, Pt.locs, Pt.cells, Pt.slots] at X992 l992 y992 z992 st992 hQ992
    subst l992 y992 z992
    obtain ⟨rfl, N992q, K992, v992_0, v992_1, v992_2, v992_3, v992_4, v992_5, v992_6, v992_7, v992_8, v992_9, v992_10⟩ := hQ992
    have N992 := Fr.app N990 N992q
    have f997 : Keep h0 T992.heap [r0, pp, pa, ha, qa, ka, oa] := f985.trans K992 (allS (Or.inl (List.mem_of_getElem? (i := 0) rfl)) (allS (Or.inl (List.mem_of_getElem? (i := 4) rfl)) (allS (Or.inl (List.mem_of_getElem? (i := 5) rfl)) (allS (Or.inl (List.mem_of_getElem? (i := 6) rfl)) (allS (Or.inr sz_pb_951) all0)))))
    have f998 := f986.keep K992 (ninS (Ne.symm ne_r0_pp) (ninS ne_pp_qa (ninS ne_pp_ka (ninS ne_pp_oa (ninS ne_pp_pb_951 nin0)))))
    have f999 := f987.keep K992 (ninS (Ne.symm ne_r0_pp) (ninS ne_pp_qa (ninS ne_pp_ka (ninS ne_pp_oa (ninS ne_pp_pb_951 nin0)))))
    have f1000 := f989.keep K992 (ninS (Ne.symm ne_r0_hb_951) (ninS (Ne.symm ne_qa_hb_951) (ninS (Ne.symm ne_ka_hb_951) (ninS (Ne.symm ne_oa_hb_951) (ninS (Ne.symm ne_pb_951_hb_951) nin0)))))
    have Z992 : n0 ≤ T992.heap.size := Nat.le_trans Z970 K992.1
    refine own_s 103 [] (fun _ k_ => st992.trans k_) ?_
    refine own_s 153 [] (fun _ k_ => XS.goto X992.here hx rfl (pc0 := 103) (pc' := 153) rfl (hb hby d4_103) (by decide) (by decide) k_) ?_
    obtain ⟨fs, hr, hrun, hended, hW, hsame⟩ := X992.leave (v := none) (fun _ => rfl)
    refine own_at ?_ (hG _ _ ⟨hrun, hended, _, _, rfl, ?_, ⟨_, rfl⟩, hW, hsame.mono (by decide) (by decide)⟩)
    · show Steps p.tables e below (T992.setTop (mkF m 153 #[.val (.ref r0), .val (.int (Int32.ofNat ii)), .val (.double (FP.l2d kk)), .second, .val (.long o3), .second, .val (.int 15)] [])) _
      exact X992.returnOut hx Bd.returns (hb hby d4_153) hr
    · show QAd0 Z r0 ii kk num pp pa ha qa ka oa cq ck co NN fH gP o3 h0 n0 _ T992.heap _
      exact ⟨MM_951, pb_951, hb_951, rfl, N992, f997, g_pb_951, g_hb_951, (fun x hx _ => Nat.ne_of_lt (Nat.lt_of_lt_of_le hx sz_pb_951)), (fun x hx _ => Nat.ne_of_lt (Nat.lt_of_lt_of_le hx sz_hb_951)), ne_pb_951_hb_951, ⟨hlt_MM_951, by omega, by omega⟩, (own_z.upd (own_z.mono hz1 (by omega)) hlt_MM_951), (own_zI.upd (own_zI.mono hz2 (by omega)) hlt_MM_951), v992_0, v992_1, v992_8, f999, f998, f1000, v992_4, v992_3, v992_2, v992_5, v992_6, v992_7, v992_9, v992_10⟩
theorem ef_rmAd1 (m : MethodId) (x0 : Addr) (x1 : Int32) (x2 : UInt64) (x3 : Int64) : entryFrame m #[(.ref x0), (.int x1), (.double x2), (.long x3)] 7 = mkF m 0 #[.val (.ref x0), .val (.int x1), .val (.double x2), .second, .val (.long x3), .second, .unset] [] := by first | (simp [entryFrame, mkF, argsToLocals, Value.category]; done) | rfl
def QAd1 (Z : State) (r0 : Addr) (ii : Nat) (kk : Int64) (num : Int64) (pp : Addr) (pa : Addr) (ha : Addr) (qa : Addr) (ka : Addr) (oa : Addr) (cq : ClassId) (ck : ClassId) (co : ClassId) (NN : Nat) (fH : Nat → Int64) (gP : Nat → Int32) (i1 : Nat) (k1 : Int64) (h0 : Heap) (n0 : Nat) (v : Option Value) (h : Heap) (L : List Loc) : Prop := ∃ (N2 : Nat) (p2 : Addr) (h2 : Addr) (F2 : Int32) (vq : List Value), v = none ∧ Fr n0 L ∧ Keep h0 h [r0, pp, pa, ha, qa, ka, oa] ∧ n0 ≤ p2 ∧ n0 ≤ h2 ∧ (∀ x : Nat, x < h0.size → x ≠ pa → x ≠ p2) ∧ (∀ x : Nat, x < h0.size → x ≠ ha → x ≠ h2) ∧ p2 ≠ h2 ∧ (ii < N2 ∧ NN ≤ N2 ∧ N2 ≤ 126) ∧ (own_z (own_upd fH ii num) N2) ∧ (own_zI (own_updI gP ii (-2 : Int32)) N2) ∧ ((F2 = 0 ∧ vq = [(.int (Int32.ofNat i1)), (.int (Int32.ofNat ii)), (.int 0), (.int 0), (.int 0), (.int 0), (.int 0), (.int 0), (.int 0), (.int 0), (.int 0), (.int 0), (.int 0), (.int 0), (.int 0), (.int 0)]) ∨ (F2 = 15 ∧ vq = [(.int (Int32.ofNat i1)), (.int 0), (.int 0), (.int 0), (.int 0), (.int 0), (.int 0), (.int 0), (.int 0), (.int 0), (.int 0), (.int 0), (.int 0), (.int 0), (.int 0), (.int (Int32.ofNat ii))])) ∧ Fld Z h r0 "com/example/adfair/adfair/Ranking" "places" "Lcom/example/adfair/adfair/Ranking$Places;" (.ref pp) ∧ Fld Z h r0 "com/example/adfair/adfair/Ranking" "queued" "[I" (.ref qa) ∧ Fld Z h r0 "com/example/adfair/adfair/Ranking" "number" "J" (.long num) ∧ Fld Z h pp "com/example/adfair/adfair/Ranking$Places" "holder" "[J" (.ref h2) ∧ Fld Z h pp "com/example/adfair/adfair/Ranking$Places" "place" "[I" (.ref p2) ∧ own_LN Z h h2 N2 (own_upd fH ii num) ∧ own_IN Z h p2 N2 (own_updI gP ii (-2 : Int32)) ∧ Fld Z h r0 "com/example/adfair/adfair/Ranking" "queueSize" "I" (.int 2) ∧ Fld Z h r0 "com/example/adfair/adfair/Ranking" "queueFirst" "I" (.int F2) ∧ Arv Z h qa cq .int (16 : Int32) vq (.int 0)
set_option maxRecDepth 65536 in
set_option maxHeartbeats 40000000 in
theorem rmAd1 (l : Launch) (Z : State) (a0 : Array Value) (hw : ∀ d ∈ tables_1, d.before a0 Z = true) (ws : List Jvm.Cond) (r0 : Addr) (ii : Nat) (kk : Int64) (num : Int64) (pp : Addr) (pa : Addr) (ha : Addr) (qa : Addr) (ka : Addr) (oa : Addr) (cq : ClassId) (ck : ClassId) (co : ClassId) (NN : Nat) (fH : Nat → Int64) (gP : Nat → Int32) (i1 : Nat) (k1 : Int64) (h0 : Heap) (n0 : Nat) (Z0 : n0 ≤ h0.size) (u0 : Exa Z h0 r0 "com/example/adfair/adfair/Ranking") (u1 : Fld Z h0 r0 "com/example/adfair/adfair/Ranking" "places" "Lcom/example/adfair/adfair/Ranking$Places;" (.ref pp)) (u2 : Fld Z h0 r0 "com/example/adfair/adfair/Ranking" "queued" "[I" (.ref qa)) (u3 : Fld Z h0 r0 "com/example/adfair/adfair/Ranking" "queuedKeys" "[D" (.ref ka)) (u4 : Fld Z h0 r0 "com/example/adfair/adfair/Ranking" "queuedOrders" "[J" (.ref oa)) (u5 : Exa Z h0 pp "com/example/adfair/adfair/Ranking$Places") (u6 : Fld Z h0 r0 "com/example/adfair/adfair/Ranking" "number" "J" (.long num)) (u7 : Fld Z h0 r0 "com/example/adfair/adfair/Ranking" "queueFirst" "I" (.int 0)) (u8 : Fld Z h0 r0 "com/example/adfair/adfair/Ranking" "queueSize" "I" (.int 1)) (u9 : Fld Z h0 pp "com/example/adfair/adfair/Ranking$Places" "holder" "[J" (.ref ha)) (u10 : Fld Z h0 pp "com/example/adfair/adfair/Ranking$Places" "place" "[I" (.ref pa)) (u11 : own_LN Z h0 ha NN fH) (u12 : own_IN Z h0 pa NN gP) (u13 : Arv Z h0 qa cq .int (16 : Int32) [(.int (Int32.ofNat i1)), (.int 0), (.int 0), (.int 0), (.int 0), (.int 0), (.int 0), (.int 0), (.int 0), (.int 0), (.int 0), (.int 0), (.int 0), (.int 0), (.int 0), (.int 0)] (.int 0)) (u14 : Arv Z h0 ka ck .double (16 : Int32) [(.double (FP.l2d k1)), (.double (FP.l2d 0)), (.double (FP.l2d 0)), (.double (FP.l2d 0)), (.double (FP.l2d 0)), (.double (FP.l2d 0)), (.double (FP.l2d 0)), (.double (FP.l2d 0)), (.double (FP.l2d 0)), (.double (FP.l2d 0)), (.double (FP.l2d 0)), (.double (FP.l2d 0)), (.double (FP.l2d 0)), (.double (FP.l2d 0)), (.double (FP.l2d 0)), (.double (FP.l2d 0))] (.double (FP.l2d 0))) (u15 : Arv Z h0 oa co .long (16 : Int32) [(.long 1), (.long 0), (.long 0), (.long 0), (.long 0), (.long 0), (.long 0), (.long 0), (.long 0), (.long 0), (.long 0), (.long 0), (.long 0), (.long 0), (.long 0), (.long 0)] (.long 0)) (ne_r0_pp : r0 ≠ pp) (ne_r0_pa : r0 ≠ pa) (ne_r0_ha : r0 ≠ ha) (ne_r0_qa : r0 ≠ qa) (ne_r0_ka : r0 ≠ ka) (ne_r0_oa : r0 ≠ oa) (ne_pp_pa : pp ≠ pa) (ne_pp_ha : pp ≠ ha) (ne_pp_qa : pp ≠ qa) (ne_pp_ka : pp ≠ ka) (ne_pp_oa : pp ≠ oa) (ne_pa_ha : pa ≠ ha) (ne_pa_qa : pa ≠ qa) (ne_pa_ka : pa ≠ ka) (ne_pa_oa : pa ≠ oa) (ne_ha_qa : ha ≠ qa) (ne_ha_ka : ha ≠ ka) (ne_ha_oa : ha ≠ oa) (ne_qa_ka : qa ≠ ka) (ne_qa_oa : qa ≠ oa) (ne_ka_oa : ka ≠ oa) (g_r0 : n0 ≤ r0) (g_pp : n0 ≤ pp) (g_pa : n0 ≤ pa) (g_ha : n0 ≤ ha) (g_qa : n0 ≤ qa) (g_ka : n0 ≤ ka) (g_oa : n0 ≤ oa) (h16 : 16 ≤ NN) (hN : NN ≤ 126) (hi : ii < 64) (hf : fH ii = 0) (hz1 : own_z fH NN) (hz2 : own_zI gP NN) (hk1 : B53 k1) (hkk : B53 kk) :
    MetFree l (⟨"com/example/adfair/adfair/Ranking", "add", "(IDJ)V"⟩ : MethodName) (head1 (Jvm.Cond.code (⟨"com/example/adfair/adfair/Ranking", "add", "(IDJ)V"⟩ : MethodName) prog_20_method_9_code 7 none :: ws) ({ frames := 3, cells := 2, slots := 252, locals := 90 } : Room)) (fun a U => a = #[(.ref r0), (.int (Int32.ofNat ii)), (.double (FP.l2d kk)), (.long 2)] ∧ Z.Warmed39 U.vm ∧ U.heap = h0) (fun _ _ _ _ _ => True) (fun _ U o U' => ∃ v L, o = .returned v ∧ QAd1 Z r0 ii kk num pp pa ha qa ka oa cq ck co NN fH gP i1 k1 h0 n0 v U'.heap L ∧ FrameEnd U o U' L ({ frames := 3, cells := 2, slots := 252, locals := 90 } : Room).cells ({ frames := 3, cells := 2, slots := 252, locals := 90 } : Room).slots) := by
  refine MetFree.of_bodySF (plainFor_of_name pn_4) hisR ?_
  intro p e s m args below meth c s₁ Bd hml0 hP hK
  obtain ⟨rfl, hZ, hh⟩ := hP
  have hx := Bd.exec
  have hby := Bd.bytes
  have hml : c.maxLocals = 7 := hml0
  have hown : s.vm.findClass "com/example/adfair/adfair/Ranking" = some m.cls := findClass_of_methodNamed Bd.named
  have hnm := (name_of_methodNamed Bd.named Bd.method).1
  have X0 : Stand p l e ({ frames := 3, cells := 2, slots := 252, locals := 90 } : Room) s m #[(.ref r0), (.int (Int32.ofNat ii)), (.double (FP.l2d kk)), (.long 2)] below meth c s₁ [] 0 0 := Stand.of_body Bd
  have e0 : s₁.heap = h0 := by rw [← hh, Bd.state]; rfl
  have N0 := Fr.nil n0
  refine own_open fun G hG => ?_
  refine own_go (B := s₁.setTop (mkF m 0 #[.val (.ref r0), .val (.int (Int32.ofNat ii)), .val (.double (FP.l2d kk)), .second, .val (.long 2), .second, .unset] [])) (fun t_ k_ => castTop (ef_rmAd1 m r0 (Int32.ofNat ii) (FP.l2d kk) (2 : Int64)) k_) ?_
  have K0 : Keep h0 h0 [r0, pp, pa, ha, qa, ka, oa] := Keep.refl h0 _
  refine own_aloadN 1 X0.here hx (hb hby d4_0) rfl rfl rfl ?_
  obtain ⟨T1002, X1002, e1002, st1002⟩ := getF X0 hx hZ hown (host := "") (Or.inl (own_w 35 hw rfl)) Via.refl e0 u1 (g := (mkF m 1 #[.val (.ref r0), .val (.int (Int32.ofNat ii)), .val (.double (FP.l2d kk)), .second, .val (.long 2), .second, .unset] [(.ref r0)])) rfl rfl (hb hby d4_1)
  refine own_s 4 [(.ref pp)] (fun _ k_ => st1002 _ k_) ?_
  refine own_iloadN 5 X1002.here hx (hb hby d4_4) rfl rfl ?_
  obtain ⟨vv1003, _, ⟨T1003, L1003, k1003, n1003⟩, -, X1003, ⟨Lc1003, hQ1003, l1003, y1003, z1003⟩, st1003⟩ := own_privR X1002 hx hZ (y := (⟨"com/example/adfair/adfair/Ranking$Places", "holds", "(I)Z"⟩ : MethodName)) hown (own_w 46 hw rfl) (own_w 47 hw rfl) (own_w 48 hw rfl) (own_w 1 hw rfl) (own_w 49 hw rfl) (by decide) (backOf (W := 0) (rmHo l Z a0 hw [] pp ii ha NN fH h0 n0 Z0 u9 u11 hi (by omega) hf) hZ (own_w 49 hw rfl) (own_w 2 hw rfl) (by decide) (by decide)) (g := (mkF m 5 #[.val (.ref r0), .val (.int (Int32.ofNat ii)), .val (.double (FP.l2d kk)), .second, .val (.long 2), .second, .unset] [(.int (Int32.ofNat ii)), (.ref pp)])) rfl (by rw [hml]; rfl) e1002 u5 (argsL := [(.int (Int32.ofNat ii))]) (rest := []) (lenOf pd__28_I_29_Z rfl) rfl (by show 2 * 0 + _ ≤ _; exact Nat.le_of_eq rfl) (hb hby d4_5) (fun _ _ => ⟨rfl, e1002, (by decide : 0 + 0 ≤ _), (by decide : 0 + 0 ≤ _)⟩)
  dsimp only [Pt.U, Pt.locs, Pt.cells, Pt.slots] at X1003 l1003 y1003 z1003 st1003 hQ1003
  subst l1003 y1003 z1003
  obtain ⟨rfl, N1003q, e1003q⟩ := hQ1003
  have N1003 := Fr.app N0 N1003q
  refine own_s 8 [(.int 0)] (fun _ k_ => st1003.trans k_) ?_
  refine own_s 25 [] (fun _ k_ => XS.ifYes X1003.here hx rfl (pc0 := 8) (pc' := 25) rfl (hb hby d4_8) rfl ((if0 _ _).trans (teq (by decide : (0 : Int32) = (0 : Int32))).1) (by decide) (by decide) k_) ?_
  refine own_iloadN 26 X1003.here hx (hb hby d4_25) rfl rfl ?_
  refine own_aloadN 27 X1003.here hx (hb hby d4_26) rfl rfl rfl ?_
  obtain ⟨T1004, X1004, e1004, st1004⟩ := getF X1003 hx hZ hown (host := "") (Or.inl (own_w 35 hw rfl)) Via.refl e1003q u1 (g := (mkF m 27 #[.val (.ref r0), .val (.int (Int32.ofNat ii)), .val (.double (FP.l2d kk)), .second, .val (.long 2), .second, .unset] [(.ref r0), (.int (Int32.ofNat ii))])) rfl rfl (hb hby d4_27)
  refine own_s 30 [(.ref pp), (.int (Int32.ofNat ii))] (fun _ k_ => st1004 _ k_) ?_
  obtain ⟨T1005, X1005, e1005, st1005⟩ := own_getR X1004 hx hZ hown (own_w 50 hw rfl) e1004 u9 (g := (mkF m 30 #[.val (.ref r0), .val (.int (Int32.ofNat ii)), .val (.double (FP.l2d kk)), .second, .val (.long 2), .second, .unset] [(.ref pp), (.int (Int32.ofNat ii))])) rfl rfl (hb hby d4_30)
  refine own_s 33 [(.ref ha), (.int (Int32.ofNat ii))] (fun _ k_ => st1005 _ k_) ?_
  obtain ⟨cl1006, Ar1006, S1006, -⟩ := id u11
  refine own_go (B := T1005.setTop (mkF m 34 #[.val (.ref r0), .val (.int (Int32.ofNat ii)), .val (.double (FP.l2d kk)), .second, .val (.long 2), .second, .unset] [(.int (Int32.ofNat NN)), (.int (Int32.ofNat ii))])) (fun t_ k_ => ?_) ?_
  · refine X1005.arraylength hx (by rw [e1005]; exact Ar1006.1) (State.isArrayOf_alike hZ.alike Ar1006.2.1) (g := (mkF m 33 #[.val (.ref r0), .val (.int (Int32.ofNat ii)), .val (.double (FP.l2d kk)), .second, .val (.long 2), .second, .unset] [(.ref ha), (.int (Int32.ofNat ii))])) rfl rfl (hb hby d4_33) _ ?_
    rw [own_len S1006]
    exact k_
  by_cases hc34 : (Int32.ofNat ii) < (Int32.ofNat NN)
  · refine own_s 45 [] (fun _ k_ => XS.icmpYes X1005.here hx rfl (pc0 := 34) (pc' := 45) rfl (hb hby d4_34) rfl (tlt hc34).1 (by decide) (by decide) k_) ?_
    have hlt_NN : ii < NN := ((own_lt (by omega) (by omega)).mp hc34)
    refine own_aloadN 46 X1005.here hx (hb hby d4_45) rfl rfl rfl ?_
    obtain ⟨T1007, X1007, e1007, st1007⟩ := getF X1005 hx hZ hown (host := "") (Or.inl (own_w 35 hw rfl)) Via.refl e1005 u1 (g := (mkF m 46 #[.val (.ref r0), .val (.int (Int32.ofNat ii)), .val (.double (FP.l2d kk)), .second, .val (.long 2), .second, .unset] [(.ref r0)])) rfl rfl (hb hby d4_46)
    refine own_s 49 [(.ref pp)] (fun _ k_ => st1007 _ k_) ?_
    obtain ⟨T1008, X1008, e1008, st1008⟩ := own_getR X1007 hx hZ hown (own_w 50 hw rfl) e1007 u9 (g := (mkF m 49 #[.val (.ref r0), .val (.int (Int32.ofNat ii)), .val (.double (FP.l2d kk)), .second, .val (.long 2), .second, .unset] [(.ref pp)])) rfl rfl (hb hby d4_49)
    refine own_s 52 [(.ref ha)] (fun _ k_ => st1008 _ k_) ?_
    refine own_iloadN 53 X1008.here hx (hb hby d4_52) rfl rfl ?_
    refine own_aloadN 54 X1008.here hx (hb hby d4_53) rfl rfl rfl ?_
    obtain ⟨T1009, X1009, e1009, st1009⟩ := getF X1008 hx hZ hown (host := "") (Or.inl (own_w 39 hw rfl)) Via.refl e1008 u6 (g := (mkF m 54 #[.val (.ref r0), .val (.int (Int32.ofNat ii)), .val (.double (FP.l2d kk)), .second, .val (.long 2), .second, .unset] [(.ref r0), (.int (Int32.ofNat ii)), (.ref ha)])) rfl rfl (hb hby d4_54)
    refine own_s 57 [(.long num), (.int (Int32.ofNat ii)), (.ref ha)] (fun _ k_ => st1009 _ k_) ?_
    obtain ⟨cl1010, Ar1010, S1010, Hh1010⟩ := id u11
    obtain ⟨T1010, h1010, X1010, e1010, W1010, st1010⟩ := stJ X1009 hx hZ e1009 Ar1010 (j := (Int32.ofNat ii)) (own_inb S1010 (by omega) hlt_NN) (g := (mkF m 57 #[.val (.ref r0), .val (.int (Int32.ofNat ii)), .val (.double (FP.l2d kk)), .second, .val (.long 2), .second, .unset] [(.long num), (.int (Int32.ofNat ii)), (.ref ha)])) rfl rfl (hb hby d4_57)
    rw [own_clamp (Nat.lt_trans hlt_NN (by omega))] at W1010
    have f1011 := u0.wr W1010
    have f1012 := u1.other W1010 (Or.inl ne_r0_ha)
    have f1013 := u2.other W1010 (Or.inl ne_r0_ha)
    have f1014 := u3.other W1010 (Or.inl ne_r0_ha)
    have f1015 := u4.other W1010 (Or.inl ne_r0_ha)
    have f1017 := u6.other W1010 (Or.inl ne_r0_ha)
    have f1018 := u7.other W1010 (Or.inl ne_r0_ha)
    have f1019 := u8.other W1010 (Or.inl ne_r0_ha)
    have f1020 := u9.other W1010 (Or.inl ne_pp_ha)
    have f1021 := u10.other W1010 (Or.inl ne_pp_ha)
    have f1022 : own_LN Z h1010 ha NN (own_upd fH ii num) := u11.set W1010 hlt_NN
    have f1023 := u12.other W1010 ne_pa_ha
    have f1024 := u13.other W1010 (Ne.symm ne_ha_qa)
    have f1025 := u14.other W1010 (Ne.symm ne_ha_ka)
    have f1026 := u15.other W1010 (Ne.symm ne_ha_oa)
    have f1027 := K0.wr W1010 (Or.inl (List.mem_of_getElem? (i := 3) rfl))
    have Z1010 : n0 ≤ h1010.size := Nat.le_trans Z0 (Keep.of_wr W1010).1
    have N1010 := Fr.snoc X1010 N1003 g_ha
    refine own_s 58 [] (fun _ k_ => st1010 _ k_) ?_
    refine own_aloadN 59 X1010.here hx (hb hby d4_58) rfl rfl rfl ?_
    obtain ⟨vv1028, _, ⟨T1028, L1028, k1028, n1028⟩, -, X1028, ⟨Lc1028, hQ1028, l1028, y1028, z1028⟩, st1028⟩ := own_privL X1010 hx hZ (y := (⟨"com/example/adfair/adfair/Ranking", "lastQueued", "()I"⟩ : MethodName)) hown (own_w 51 hw rfl) (own_w 52 hw rfl) (own_w 53 hw rfl) (own_w 16 hw rfl) (own_w 54 hw rfl) (by decide) (backOf (W := 0) (rmLQ_0_1 l Z a0 hw [] r0 qa cq ([(.int (Int32.ofNat i1)), (.int 0), (.int 0), (.int 0), (.int 0), (.int 0), (.int 0), (.int 0), (.int 0), (.int 0), (.int 0), (.int 0), (.int 0), (.int 0), (.int 0), (.int 0)]) h1010 n0 Z1010 f1018 f1019 f1013 f1024) hZ (own_w 54 hw rfl) (own_w 17 hw rfl) (by decide) (by decide)) (g := (mkF m 59 #[.val (.ref r0), .val (.int (Int32.ofNat ii)), .val (.double (FP.l2d kk)), .second, .val (.long 2), .second, .unset] [(.ref r0)])) rfl (by rw [hml]; rfl) e1010 f1011 (argsL := []) (rest := []) (lenOf pd__28__29_I rfl) rfl (by show 2 * 0 + _ ≤ _; exact Nat.le_of_eq rfl) (hb hby d4_59) (fun _ _ => ⟨rfl, e1010, (by decide : 0 + 0 ≤ _), (by decide : 0 + 0 ≤ _)⟩)
    dsimp only [Pt.U, Pt.locs, Pt.cells, Pt.slots] at X1028 l1028 y1028 z1028 st1028 hQ1028
    subst l1028 y1028 z1028
    obtain ⟨rfl, N1028q, e1028q⟩ := hQ1028
    have N1028 := Fr.app N1010 N1028q
    refine own_s 62 [(.int 0)] (fun _ k_ => st1028.trans k_) ?_
    refine own_istore 64 #[.val (.ref r0), .val (.int (Int32.ofNat ii)), .val (.double (FP.l2d kk)), .second, .val (.long 2), .second, .val (.int 0)] X1028.here hx (hb hby d4_62) rfl rfl ?_
    refine own_aloadN 65 X1028.here hx (hb hby d4_64) rfl rfl rfl ?_
    obtain ⟨T1029, X1029, e1029, st1029⟩ := getF X1028 hx hZ hown (host := "") (Or.inl (own_w 57 hw rfl)) Via.refl e1028q f1019 (g := (mkF m 65 #[.val (.ref r0), .val (.int (Int32.ofNat ii)), .val (.double (FP.l2d kk)), .second, .val (.long 2), .second, .val (.int 0)] [(.ref r0)])) rfl rfl (hb hby d4_65)
    refine own_s 68 [(.int 1)] (fun _ k_ => st1029 _ k_) ?_
    refine own_s 71 [] (fun _ k_ => XS.ifNo X1029.here hx rfl (hb hby d4_68) rfl ((if0 _ _).trans (feq (by decide : ¬ ((1 : Int32) = (0 : Int32)))).1) k_) ?_
    refine own_aloadN 72 X1029.here hx (hb hby d4_71) rfl rfl rfl ?_
    obtain ⟨T1030, X1030, e1030, st1030⟩ := getF X1029 hx hZ hown (host := "") (Or.inl (own_w 31 hw rfl)) Via.refl e1029 f1014 (g := (mkF m 72 #[.val (.ref r0), .val (.int (Int32.ofNat ii)), .val (.double (FP.l2d kk)), .second, .val (.long 2), .second, .val (.int 0)] [(.ref r0)])) rfl rfl (hb hby d4_72)
    refine own_s 75 [(.ref ka)] (fun _ k_ => st1030 _ k_) ?_
    refine own_iload 77 X1030.here hx (hb hby d4_75) rfl rfl ?_
    obtain ⟨cl1031, Ar1031, -, S1031, M1031, Hh1031, -⟩ := id f1025
    have hin1031 : ¬ ((0 : Int32) < 0 ∨ cl1031.slots.size ≤ ((0 : Int32)).toNatClampNeg) := inb_of S1031 ⟨by decide, by decide⟩
    have hat1031 : cl1031.slots[((0 : Int32)).toNatClampNeg]? = some (.double (FP.l2d k1)) := Hh1031.at hin1031 rfl
    refine own_s 78 [(.double (FP.l2d k1))] (fun _ k_ => X1030.daload hx (j := (0 : Int32)) (v := (.double (FP.l2d k1))) (by rw [e1030]; exact Ar1031.1) (State.isArrayOf_alike hZ.alike Ar1031.2.1) Ar1031.2.2 hin1031 hat1031 (g := (mkF m 77 #[.val (.ref r0), .val (.int (Int32.ofNat ii)), .val (.double (FP.l2d kk)), .second, .val (.long 2), .second, .val (.int 0)] [(.int 0), (.ref ka)])) rfl rfl (hb hby d4_77) _ k_) ?_
    refine own_aloadN 79 X1030.here hx (hb hby d4_78) rfl rfl rfl ?_
    obtain ⟨T1032, X1032, e1032, st1032⟩ := getF X1030 hx hZ hown (host := "") (Or.inl (own_w 33 hw rfl)) Via.refl e1030 f1015 (g := (mkF m 79 #[.val (.ref r0), .val (.int (Int32.ofNat ii)), .val (.double (FP.l2d kk)), .second, .val (.long 2), .second, .val (.int 0)] [(.ref r0), (.double (FP.l2d k1))])) rfl rfl (hb hby d4_79)
    refine own_s 82 [(.ref oa), (.double (FP.l2d k1))] (fun _ k_ => st1032 _ k_) ?_
    refine own_iload 84 X1032.here hx (hb hby d4_82) rfl rfl ?_
    obtain ⟨cl1033, Ar1033, -, S1033, M1033, Hh1033, -⟩ := id f1026
    have hin1033 : ¬ ((0 : Int32) < 0 ∨ cl1033.slots.size ≤ ((0 : Int32)).toNatClampNeg) := inb_of S1033 ⟨by decide, by decide⟩
    have hat1033 : cl1033.slots[((0 : Int32)).toNatClampNeg]? = some (.long 1) := Hh1033.at hin1033 rfl
    refine own_s 85 [(.long 1), (.double (FP.l2d k1))] (fun _ k_ => X1032.laload hx (j := (0 : Int32)) (v := (.long 1)) (by rw [e1032]; exact Ar1033.1) (State.isArrayOf_alike hZ.alike Ar1033.2.1) Ar1033.2.2 hin1033 hat1033 (g := (mkF m 84 #[.val (.ref r0), .val (.int (Int32.ofNat ii)), .val (.double (FP.l2d kk)), .second, .val (.long 2), .second, .val (.int 0)] [(.int 0), (.ref oa), (.double (FP.l2d k1))])) rfl rfl (hb hby d4_84) _ k_) ?_
    refine own_s 86 [(.double (FP.l2d kk)), (.long 1), (.double (FP.l2d k1))] (fun _ k_ => XS.dloadN X1032.here hx rfl (hb hby d4_85) rfl k_) ?_
    refine own_s 88 [(.long 2), (.double (FP.l2d kk)), (.long 1), (.double (FP.l2d k1))] (fun _ k_ => XS.lload X1032.here hx rfl (hb hby d4_86) rfl k_) ?_
    obtain ⟨vv1034, _, ⟨T1034, L1034, k1034, n1034⟩, -, X1034, ⟨Lc1034, hQ1034, l1034, y1034, z1034⟩, st1034⟩ := Jvm.LawKit.callS X1032 hx (y := (⟨"com/example/adfair/adfair/Ranking", "lower", "(DJDJ)Z"⟩ : MethodName)) hown (mvT hZ (own_w 65 hw rfl)) (mvT hZ (own_w 66 hw rfl)) (mvT hZ (own_w 17 hw rfl)) (mvT hZ (own_w 67 hw rfl)) (by decide) (backOf (W := 0) (rmLow l Z a0 hw [] (1 : Int64) (2 : Int64) k1 kk h1010 n0 Z1010 hk1 hkk) hZ (own_w 67 hw rfl) (own_w 17 hw rfl) (by decide) (by decide)) (g := (mkF m 88 #[.val (.ref r0), .val (.int (Int32.ofNat ii)), .val (.double (FP.l2d kk)), .second, .val (.long 2), .second, .val (.int 0)] [(.long 2), (.double (FP.l2d kk)), (.long 1), (.double (FP.l2d k1))])) rfl (by rw [hml]; rfl) (argsL := [(.double (FP.l2d k1)), (.long 1), (.double (FP.l2d kk)), (.long 2)]) (rest := []) (lenOf pd__28_DJDJ_29_Z rfl) rfl (by show 2 * 0 + _ ≤ _; exact Nat.le_of_eq rfl) (hb hby d4_88) (fun _ _ => ⟨rfl, e1032, (by decide : 0 + 0 ≤ _), (by decide : 0 + 0 ≤ _)⟩)
    dsimp only [Pt.U, Pt.locs, Pt.cells, Pt.slots] at X1034 l1034 y1034 z1034 st1034 hQ1034
    subst l1034 y1034 z1034
    obtain ⟨rfl, N1034q, e1034q⟩ := hQ1034
    have N1034 := Fr.app N1028 N1034q
    refine own_s 91 [(.int (own_low k1 (1 : Int64) kk (2 : Int64)))] (fun _ k_ => st1034 _ k_) ?_
    by_cases hc91 : (own_low k1 (1 : Int64) kk (2 : Int64)) = (0 : Int32)
    · refine own_s 106 [] (fun _ k_ => XS.ifYes X1034.here hx rfl (pc0 := 91) (pc' := 106) rfl (hb hby d4_91) rfl ((if0 _ _).trans (teq hc91).1) (by decide) (by decide) k_) ?_
      refine own_s 107 [(.double (FP.l2d kk))] (fun _ k_ => XS.dloadN X1034.here hx rfl (hb hby d4_106) rfl k_) ?_
      refine own_s 109 [(.long 2), (.double (FP.l2d kk))] (fun _ k_ => XS.lload X1034.here hx rfl (hb hby d4_107) rfl k_) ?_
      refine own_aloadN 110 X1034.here hx (hb hby d4_109) rfl rfl rfl ?_
      obtain ⟨T1035, X1035, e1035, st1035⟩ := getF X1034 hx hZ hown (host := "") (Or.inl (own_w 31 hw rfl)) Via.refl e1034q f1014 (g := (mkF m 110 #[.val (.ref r0), .val (.int (Int32.ofNat ii)), .val (.double (FP.l2d kk)), .second, .val (.long 2), .second, .val (.int 0)] [(.ref r0), (.long 2), (.double (FP.l2d kk))])) rfl rfl (hb hby d4_110)
      refine own_s 113 [(.ref ka), (.long 2), (.double (FP.l2d kk))] (fun _ k_ => st1035 _ k_) ?_
      refine own_aloadN 114 X1035.here hx (hb hby d4_113) rfl rfl rfl ?_
      obtain ⟨T1036, X1036, e1036, st1036⟩ := getF X1035 hx hZ hown (host := "") (Or.inl (own_w 55 hw rfl)) Via.refl e1035 f1018 (g := (mkF m 114 #[.val (.ref r0), .val (.int (Int32.ofNat ii)), .val (.double (FP.l2d kk)), .second, .val (.long 2), .second, .val (.int 0)] [(.ref r0), (.ref ka), (.long 2), (.double (FP.l2d kk))])) rfl rfl (hb hby d4_114)
      refine own_s 117 [(.int 0), (.ref ka), (.long 2), (.double (FP.l2d kk))] (fun _ k_ => st1036 _ k_) ?_
      obtain ⟨cl1037, Ar1037, -, S1037, M1037, Hh1037, -⟩ := id f1025
      have hin1037 : ¬ ((0 : Int32) < 0 ∨ cl1037.slots.size ≤ ((0 : Int32)).toNatClampNeg) := inb_of S1037 ⟨by decide, by decide⟩
      have hat1037 : cl1037.slots[((0 : Int32)).toNatClampNeg]? = some (.double (FP.l2d k1)) := Hh1037.at hin1037 rfl
      refine own_s 118 [(.double (FP.l2d k1)), (.long 2), (.double (FP.l2d kk))] (fun _ k_ => X1036.daload hx (j := (0 : Int32)) (v := (.double (FP.l2d k1))) (by rw [e1036]; exact Ar1037.1) (State.isArrayOf_alike hZ.alike Ar1037.2.1) Ar1037.2.2 hin1037 hat1037 (g := (mkF m 117 #[.val (.ref r0), .val (.int (Int32.ofNat ii)), .val (.double (FP.l2d kk)), .second, .val (.long 2), .second, .val (.int 0)] [(.int 0), (.ref ka), (.long 2), (.double (FP.l2d kk))])) rfl rfl (hb hby d4_117) _ k_) ?_
      refine own_aloadN 119 X1036.here hx (hb hby d4_118) rfl rfl rfl ?_
      obtain ⟨T1038, X1038, e1038, st1038⟩ := getF X1036 hx hZ hown (host := "") (Or.inl (own_w 33 hw rfl)) Via.refl e1036 f1015 (g := (mkF m 119 #[.val (.ref r0), .val (.int (Int32.ofNat ii)), .val (.double (FP.l2d kk)), .second, .val (.long 2), .second, .val (.int 0)] [(.ref r0), (.double (FP.l2d k1)), (.long 2), (.double (FP.l2d kk))])) rfl rfl (hb hby d4_119)
      refine own_s 122 [(.ref oa), (.double (FP.l2d k1)), (.long 2), (.double (FP.l2d kk))] (fun _ k_ => st1038 _ k_) ?_
      refine own_aloadN 123 X1038.here hx (hb hby d4_122) rfl rfl rfl ?_
      obtain ⟨T1039, X1039, e1039, st1039⟩ := getF X1038 hx hZ hown (host := "") (Or.inl (own_w 55 hw rfl)) Via.refl e1038 f1018 (g := (mkF m 123 #[.val (.ref r0), .val (.int (Int32.ofNat ii)), .val (.double (FP.l2d kk)), .second, .val (.long 2), .second, .val (.int 0)] [(.ref r0), (.ref oa), (.double (FP.l2d k1)), (.long 2), (.double (FP.l2d kk))])) rfl rfl (hb hby d4_123)
      refine own_s 126 [(.int 0), (.ref oa), (.double (FP.l2d k1)), (.long 2), (.double (FP.l2d kk))] (fun _ k_ => st1039 _ k_) ?_
      obtain ⟨cl1040, Ar1040, -, S1040, M1040, Hh1040, -⟩ := id f1026
      have hin1040 : ¬ ((0 : Int32) < 0 ∨ cl1040.slots.size ≤ ((0 : Int32)).toNatClampNeg) := inb_of S1040 ⟨by decide, by decide⟩
      have hat1040 : cl1040.slots[((0 : Int32)).toNatClampNeg]? = some (.long 1) := Hh1040.at hin1040 rfl
      refine own_s 127 [(.long 1), (.double (FP.l2d k1)), (.long 2), (.double (FP.l2d kk))] (fun _ k_ => X1039.laload hx (j := (0 : Int32)) (v := (.long 1)) (by rw [e1039]; exact Ar1040.1) (State.isArrayOf_alike hZ.alike Ar1040.2.1) Ar1040.2.2 hin1040 hat1040 (g := (mkF m 126 #[.val (.ref r0), .val (.int (Int32.ofNat ii)), .val (.double (FP.l2d kk)), .second, .val (.long 2), .second, .val (.int 0)] [(.int 0), (.ref oa), (.double (FP.l2d k1)), (.long 2), (.double (FP.l2d kk))])) rfl rfl (hb hby d4_126) _ k_) ?_
      obtain ⟨vv1041, _, ⟨T1041, L1041, k1041, n1041⟩, -, X1041, ⟨Lc1041, hQ1041, l1041, y1041, z1041⟩, st1041⟩ := Jvm.LawKit.callS X1039 hx (y := (⟨"com/example/adfair/adfair/Ranking", "lower", "(DJDJ)Z"⟩ : MethodName)) hown (mvT hZ (own_w 65 hw rfl)) (mvT hZ (own_w 66 hw rfl)) (mvT hZ (own_w 17 hw rfl)) (mvT hZ (own_w 67 hw rfl)) (by decide) (backOf (W := 0) (rmLow l Z a0 hw [] (2 : Int64) (1 : Int64) kk k1 h1010 n0 Z1010 hkk hk1) hZ (own_w 67 hw rfl) (own_w 17 hw rfl) (by decide) (by decide)) (g := (mkF m 127 #[.val (.ref r0), .val (.int (Int32.ofNat ii)), .val (.double (FP.l2d kk)), .second, .val (.long 2), .second, .val (.int 0)] [(.long 1), (.double (FP.l2d k1)), (.long 2), (.double (FP.l2d kk))])) rfl (by rw [hml]; rfl) (argsL := [(.double (FP.l2d kk)), (.long 2), (.double (FP.l2d k1)), (.long 1)]) (rest := []) (lenOf pd__28_DJDJ_29_Z rfl) rfl (by show 2 * 0 + _ ≤ _; exact Nat.le_of_eq rfl) (hb hby d4_127) (fun _ _ => ⟨rfl, e1039, (by decide : 0 + 0 ≤ _), (by decide : 0 + 0 ≤ _)⟩)
      dsimp only [Pt.U, Pt.locs, Pt.cells, Pt.slots] at X1041 l1041 y1041 z1041 st1041 hQ1041
      subst l1041 y1041 z1041
      obtain ⟨rfl, N1041q, e1041q⟩ := hQ1041
      have N1041 := Fr.app N1034 N1041q
      refine own_s 130 [(.int (own_low kk (2 : Int64) k1 (1 : Int64)))] (fun _ k_ => st1041 _ k_) ?_
      refine own_s 133 [] (fun _ k_ => XS.ifNo X1041.here hx rfl (hb hby d4_130) rfl ((if0 _ _).trans (feq (by rw [own_low12 hc91]; decide)).1) k_) ?_
      refine own_aloadN 134 X1041.here hx (hb hby d4_133) rfl rfl rfl ?_
      refine own_iloadN 135 X1041.here hx (hb hby d4_134) rfl rfl ?_
      refine own_s 136 [(.double (FP.l2d kk)), (.int (Int32.ofNat ii)), (.ref r0)] (fun _ k_ => XS.dloadN X1041.here hx rfl (hb hby d4_135) rfl k_) ?_
      refine own_s 138 [(.long 2), (.double (FP.l2d kk)), (.int (Int32.ofNat ii)), (.ref r0)] (fun _ k_ => XS.lload X1041.here hx rfl (hb hby d4_136) rfl k_) ?_
      refine own_s 139 [(.int 1), (.long 2), (.double (FP.l2d kk)), (.int (Int32.ofNat ii)), (.ref r0)] (fun _ k_ => XS.iconst X1041.here hx rfl (hb hby d4_138) k_) ?_
      obtain ⟨vv1042, _, ⟨T1042, L1042, k1042, n1042⟩, -, X1042, ⟨Lc1042, hQ1042, l1042, y1042, z1042⟩, st1042⟩ := own_privL X1041 hx hZ (y := (⟨"com/example/adfair/adfair/Ranking", "enqueue", "(IDJZ)V"⟩ : MethodName)) hown (own_w 59 hw rfl) (own_w 60 hw rfl) (own_w 61 hw rfl) (own_w 16 hw rfl) (own_w 62 hw rfl) (by decide) (backOf (W := 0) (rmEnF l Z a0 hw [] r0 (2 : Int64) ii kk pp pa qa ka oa cq ck co NN gP num i1 k1 h1010 n0 Z1010 f1011 f1012 f1013 f1014 f1015 f1017 f1018 f1019 f1021 f1023 f1024 f1025 f1026 ne_r0_pp ne_r0_pa ne_r0_qa ne_r0_ka ne_r0_oa ne_pp_pa ne_pp_qa ne_pp_ka ne_pp_oa ne_pa_qa ne_pa_ka ne_pa_oa ne_qa_ka ne_qa_oa ne_ka_oa g_r0 g_qa g_ka g_oa g_pa hlt_NN (by omega)) hZ (own_w 62 hw rfl) (own_w 17 hw rfl) (by decide) (by decide)) (g := (mkF m 139 #[.val (.ref r0), .val (.int (Int32.ofNat ii)), .val (.double (FP.l2d kk)), .second, .val (.long 2), .second, .val (.int 0)] [(.int 1), (.long 2), (.double (FP.l2d kk)), (.int (Int32.ofNat ii)), (.ref r0)])) rfl (by rw [hml]; rfl) e1041q f1011 (argsL := [(.int (Int32.ofNat ii)), (.double (FP.l2d kk)), (.long 2), (.int 1)]) (rest := []) (lenOf pd__28_IDJZ_29_V rfl) rfl (by show 2 * 0 + _ ≤ _; exact Nat.le_of_eq rfl) (hb hby d4_139) (fun _ _ => ⟨rfl, e1041q, (by decide : 0 + 0 ≤ _), (by decide : 0 + 0 ≤ _)⟩)
      dsimp only [Pt.U, Pt.locs, Pt.cells, Pt.slots] at X1042 l1042 y1042 z1042 st1042 hQ1042
      subst l1042 y1042 z1042
      obtain ⟨rfl, N1042q, K1042, v1042_0, v1042_1, v1042_2, v1042_3, v1042_4, v1042_5, v1042_6, v1042_7, v1042_8, v1042_9, v1042_10⟩ := hQ1042
      have N1042 := Fr.app N1041 N1042q
      have f1045 := f1020.keep K1042 (ninS (Ne.symm ne_r0_pp) (ninS ne_pp_qa (ninS ne_pp_ka (ninS ne_pp_oa (ninS ne_pp_pa nin0)))))
      have f1046 := f1021.keep K1042 (ninS (Ne.symm ne_r0_pp) (ninS ne_pp_qa (ninS ne_pp_ka (ninS ne_pp_oa (ninS ne_pp_pa nin0)))))
      have f1047 := f1022.keep K1042 (ninS (Ne.symm ne_r0_ha) (ninS ne_ha_qa (ninS ne_ha_ka (ninS ne_ha_oa (ninS (Ne.symm ne_pa_ha) nin0)))))
      have f1048 : Keep h0 T1042.heap [r0, pp, pa, ha, qa, ka, oa] := f1027.trans K1042 (allS (Or.inl (List.mem_of_getElem? (i := 0) rfl)) (allS (Or.inl (List.mem_of_getElem? (i := 4) rfl)) (allS (Or.inl (List.mem_of_getElem? (i := 5) rfl)) (allS (Or.inl (List.mem_of_getElem? (i := 6) rfl)) (allS (Or.inl (List.mem_of_getElem? (i := 2) rfl)) all0)))))
      have Z1042 : n0 ≤ T1042.heap.size := Nat.le_trans Z1010 K1042.1
      refine own_s 142 [] (fun _ k_ => st1042.trans k_) ?_
      refine own_s 153 [] (fun _ k_ => XS.goto X1042.here hx rfl (pc0 := 142) (pc' := 153) rfl (hb hby d4_142) (by decide) (by decide) k_) ?_
      obtain ⟨fs, hr, hrun, hended, hW, hsame⟩ := X1042.leave (v := none) (fun _ => rfl)
      refine own_at ?_ (hG _ _ ⟨hrun, hended, _, _, rfl, ?_, ⟨_, rfl⟩, hW, hsame.mono (by decide) (by decide)⟩)
      · show Steps p.tables e below (T1042.setTop (mkF m 153 #[.val (.ref r0), .val (.int (Int32.ofNat ii)), .val (.double (FP.l2d kk)), .second, .val (.long 2), .second, .val (.int 0)] [])) _
        exact X1042.returnOut hx Bd.returns (hb hby d4_153) hr
      · show QAd1 Z r0 ii kk num pp pa ha qa ka oa cq ck co NN fH gP i1 k1 h0 n0 _ T1042.heap _
        exact ⟨NN, pa, ha, (15 : Int32), _, rfl, N1042, f1048, g_pa, g_ha, (fun _ _ q => q), (fun _ _ q => q), ne_pa_ha, ⟨hlt_NN, by omega, by omega⟩, (own_z.upd hz1 hlt_NN), (own_zI.upd hz2 hlt_NN), (Or.inr ⟨rfl, rfl⟩), v1042_0, v1042_1, v1042_8, f1045, f1046, f1047, v1042_4, v1042_3, v1042_2, v1042_5⟩
    · refine own_s 94 [] (fun _ k_ => XS.ifNo X1034.here hx rfl (hb hby d4_91) rfl ((if0 _ _).trans (feq hc91).1) k_) ?_
      refine own_aloadN 95 X1034.here hx (hb hby d4_94) rfl rfl rfl ?_
      refine own_iloadN 96 X1034.here hx (hb hby d4_95) rfl rfl ?_
      refine own_s 97 [(.double (FP.l2d kk)), (.int (Int32.ofNat ii)), (.ref r0)] (fun _ k_ => XS.dloadN X1034.here hx rfl (hb hby d4_96) rfl k_) ?_
      refine own_s 99 [(.long 2), (.double (FP.l2d kk)), (.int (Int32.ofNat ii)), (.ref r0)] (fun _ k_ => XS.lload X1034.here hx rfl (hb hby d4_97) rfl k_) ?_
      refine own_s 100 [(.int 0), (.long 2), (.double (FP.l2d kk)), (.int (Int32.ofNat ii)), (.ref r0)] (fun _ k_ => XS.iconst X1034.here hx rfl (hb hby d4_99) k_) ?_
      obtain ⟨vv1050, _, ⟨T1050, L1050, k1050, n1050⟩, -, X1050, ⟨Lc1050, hQ1050, l1050, y1050, z1050⟩, st1050⟩ := own_privL X1034 hx hZ (y := (⟨"com/example/adfair/adfair/Ranking", "enqueue", "(IDJZ)V"⟩ : MethodName)) hown (own_w 59 hw rfl) (own_w 60 hw rfl) (own_w 61 hw rfl) (own_w 16 hw rfl) (own_w 62 hw rfl) (by decide) (backOf (W := 0) (rmEnE l Z a0 hw [] r0 (2 : Int64) ii kk pp pa qa ka oa cq ck co NN gP num i1 k1 h1010 n0 Z1010 f1011 f1012 f1013 f1014 f1015 f1017 f1018 f1019 f1021 f1023 f1024 f1025 f1026 ne_r0_pp ne_r0_pa ne_r0_qa ne_r0_ka ne_r0_oa ne_pp_pa ne_pp_qa ne_pp_ka ne_pp_oa ne_pa_qa ne_pa_ka ne_pa_oa ne_qa_ka ne_qa_oa ne_ka_oa g_r0 g_qa g_ka g_oa g_pa hlt_NN (by omega)) hZ (own_w 62 hw rfl) (own_w 17 hw rfl) (by decide) (by decide)) (g := (mkF m 100 #[.val (.ref r0), .val (.int (Int32.ofNat ii)), .val (.double (FP.l2d kk)), .second, .val (.long 2), .second, .val (.int 0)] [(.int 0), (.long 2), (.double (FP.l2d kk)), (.int (Int32.ofNat ii)), (.ref r0)])) rfl (by rw [hml]; rfl) e1034q f1011 (argsL := [(.int (Int32.ofNat ii)), (.double (FP.l2d kk)), (.long 2), (.int 0)]) (rest := []) (lenOf pd__28_IDJZ_29_V rfl) rfl (by show 2 * 0 + _ ≤ _; exact Nat.le_of_eq rfl) (hb hby d4_100) (fun _ _ => ⟨rfl, e1034q, (by decide : 0 + 0 ≤ _), (by decide : 0 + 0 ≤ _)⟩)
      dsimp only [Pt.U, Pt.locs, Pt.cells, Pt.slots] at X1050 l1050 y1050 z1050 st1050 hQ1050
      subst l1050 y1050 z1050
      obtain ⟨rfl, N1050q, K1050, v1050_0, v1050_1, v1050_2, v1050_3, v1050_4, v1050_5, v1050_6, v1050_7, v1050_8, v1050_9, v1050_10⟩ := hQ1050
      have N1050 := Fr.app N1034 N1050q
      have f1053 := f1020.keep K1050 (ninS (Ne.symm ne_r0_pp) (ninS ne_pp_qa (ninS ne_pp_ka (ninS ne_pp_oa (ninS ne_pp_pa nin0)))))
      have f1054 := f1021.keep K1050 (ninS (Ne.symm ne_r0_pp) (ninS ne_pp_qa (ninS ne_pp_ka (ninS ne_pp_oa (ninS ne_pp_pa nin0)))))
      have f1055 := f1022.keep K1050 (ninS (Ne.symm ne_r0_ha) (ninS ne_ha_qa (ninS ne_ha_ka (ninS ne_ha_oa (ninS (Ne.symm ne_pa_ha) nin0)))))
      have f1056 : Keep h0 T1050.heap [r0, pp, pa, ha, qa, ka, oa] := f1027.trans K1050 (allS (Or.inl (List.mem_of_getElem? (i := 0) rfl)) (allS (Or.inl (List.mem_of_getElem? (i := 4) rfl)) (allS (Or.inl (List.mem_of_getElem? (i := 5) rfl)) (allS (Or.inl (List.mem_of_getElem? (i := 6) rfl)) (allS (Or.inl (List.mem_of_getElem? (i := 2) rfl)) all0)))))
      have Z1050 : n0 ≤ T1050.heap.size := Nat.le_trans Z1010 K1050.1
      refine own_s 103 [] (fun _ k_ => st1050.trans k_) ?_
      refine own_s 153 [] (fun _ k_ => XS.goto X1050.here hx rfl (pc0 := 103) (pc' := 153) rfl (hb hby d4_103) (by decide) (by decide) k_) ?_
      obtain ⟨fs, hr, hrun, hended, hW, hsame⟩ := X1050.leave (v := none) (fun _ => rfl)
      refine own_at ?_ (hG _ _ ⟨hrun, hended, _, _, rfl, ?_, ⟨_, rfl⟩, hW, hsame.mono (by decide) (by decide)⟩)
      · show Steps p.tables e below (T1050.setTop (mkF m 153 #[.val (.ref r0), .val (.int (Int32.ofNat ii)), .val (.double (FP.l2d kk)), .second, .val (.long 2), .second, .val (.int 0)] [])) _
        exact X1050.returnOut hx Bd.returns (hb hby d4_153) hr
      · show QAd1 Z r0 ii kk num pp pa ha qa ka oa cq ck co NN fH gP i1 k1 h0 n0 _ T1050.heap _
        exact ⟨NN, pa, ha, (0 : Int32), _, rfl, N1050, f1056, g_pa, g_ha, (fun _ _ q => q), (fun _ _ q => q), ne_pa_ha, ⟨hlt_NN, by omega, by omega⟩, (own_z.upd hz1 hlt_NN), (own_zI.upd hz2 hlt_NN), (Or.inl ⟨rfl, rfl⟩), v1050_0, v1050_1, v1050_8, f1053, f1054, f1055, v1050_4, v1050_3, v1050_2, v1050_5⟩
  · refine own_s 37 [] (fun _ k_ => XS.icmpNo X1005.here hx rfl (hb hby d4_34) rfl (flt hc34).1 k_) ?_
    refine own_aloadN 38 X1005.here hx (hb hby d4_37) rfl rfl rfl ?_
    obtain ⟨T1058, X1058, e1058, st1058⟩ := getF X1005 hx hZ hown (host := "") (Or.inl (own_w 35 hw rfl)) Via.refl e1005 u1 (g := (mkF m 38 #[.val (.ref r0), .val (.int (Int32.ofNat ii)), .val (.double (FP.l2d kk)), .second, .val (.long 2), .second, .unset] [(.ref r0)])) rfl rfl (hb hby d4_38)
    refine own_s 41 [(.ref pp)] (fun _ k_ => st1058 _ k_) ?_
    have hNi : NN ≤ ii := Nat.le_of_not_lt fun q => hc34 ((own_lt (by omega) (by omega)).mpr q)
    refine own_iloadN 42 X1058.here hx (hb hby d4_41) rfl rfl ?_
    obtain ⟨vv1059, _, ⟨T1059, L1059, k1059, n1059⟩, -, X1059, ⟨Lc1059, hQ1059, l1059, y1059, z1059⟩, st1059⟩ := own_privR X1058 hx hZ (y := (⟨"com/example/adfair/adfair/Ranking$Places", "placeFor", "(I)V"⟩ : MethodName)) hown (own_w 69 hw rfl) (own_w 70 hw rfl) (own_w 71 hw rfl) (own_w 1 hw rfl) (own_w 72 hw rfl) (by decide) (backOf (W := 0) (rmPF l Z a0 hw [] pp ii pa ha NN fH gP h0 n0 Z0 u5 u10 u9 u12 u11 ne_pp_pa ne_pp_ha ne_pa_ha g_pp h16 hNi hi hz1 hz2) hZ (own_w 72 hw rfl) (own_w 2 hw rfl) (by decide) (by decide)) (g := (mkF m 42 #[.val (.ref r0), .val (.int (Int32.ofNat ii)), .val (.double (FP.l2d kk)), .second, .val (.long 2), .second, .unset] [(.int (Int32.ofNat ii)), (.ref pp)])) rfl (by rw [hml]; rfl) e1058 u5 (argsL := [(.int (Int32.ofNat ii))]) (rest := []) (lenOf pd__28_I_29_V rfl) rfl (by show 2 * 0 + _ ≤ _; exact Nat.le_of_eq rfl) (hb hby d4_42) (fun _ _ => ⟨rfl, e1058, (by decide : 0 + 2 ≤ _), (by decide : 0 + 252 ≤ _)⟩)
    dsimp only [Pt.U, Pt.locs, Pt.cells, Pt.slots] at X1059 l1059 y1059 z1059 st1059 hQ1059
    subst l1059 y1059 z1059
    obtain ⟨MM_1059, pb_1059, hb_1059, rfl, N1059q, K1059, g_pb_1059, g_hb_1059, s_pb_1059, s_hb_1059, ne_pb_1059_hb_1059, hM_1059, v1059_0, v1059_1, v1059_2, v1059_3⟩ := hQ1059
    have N1059 := Fr.app N1003 N1059q
    have ne_r0_pb_1059 : r0 ≠ pb_1059 := Nat.ne_of_lt (Nat.lt_of_lt_of_le u0.lt s_pb_1059)
    have ne_pp_pb_1059 : pp ≠ pb_1059 := Nat.ne_of_lt (Nat.lt_of_lt_of_le u5.lt s_pb_1059)
    have ne_ha_pb_1059 : ha ≠ pb_1059 := Nat.ne_of_lt (Nat.lt_of_lt_of_le u11.lt s_pb_1059)
    have ne_pa_pb_1059 : pa ≠ pb_1059 := Nat.ne_of_lt (Nat.lt_of_lt_of_le u12.lt s_pb_1059)
    have ne_qa_pb_1059 : qa ≠ pb_1059 := Nat.ne_of_lt (Nat.lt_of_lt_of_le u13.lt s_pb_1059)
    have ne_ka_pb_1059 : ka ≠ pb_1059 := Nat.ne_of_lt (Nat.lt_of_lt_of_le u14.lt s_pb_1059)
    have ne_oa_pb_1059 : oa ≠ pb_1059 := Nat.ne_of_lt (Nat.lt_of_lt_of_le u15.lt s_pb_1059)
    have sz_pb_1059 : h0.size ≤ pb_1059 := Nat.le_trans K0.1 s_pb_1059
    have ne_r0_hb_1059 : r0 ≠ hb_1059 := Nat.ne_of_lt (Nat.lt_of_lt_of_le u0.lt s_hb_1059)
    have ne_pp_hb_1059 : pp ≠ hb_1059 := Nat.ne_of_lt (Nat.lt_of_lt_of_le u5.lt s_hb_1059)
    have ne_ha_hb_1059 : ha ≠ hb_1059 := Nat.ne_of_lt (Nat.lt_of_lt_of_le u11.lt s_hb_1059)
    have ne_pa_hb_1059 : pa ≠ hb_1059 := Nat.ne_of_lt (Nat.lt_of_lt_of_le u12.lt s_hb_1059)
    have ne_qa_hb_1059 : qa ≠ hb_1059 := Nat.ne_of_lt (Nat.lt_of_lt_of_le u13.lt s_hb_1059)
    have ne_ka_hb_1059 : ka ≠ hb_1059 := Nat.ne_of_lt (Nat.lt_of_lt_of_le u14.lt s_hb_1059)
    have ne_oa_hb_1059 : oa ≠ hb_1059 := Nat.ne_of_lt (Nat.lt_of_lt_of_le u15.lt s_hb_1059)
    have sz_hb_1059 : h0.size ≤ hb_1059 := Nat.le_trans K0.1 s_hb_1059
    have f1060 := u0.keep K1059
    have f1061 := u1.keep K1059 (ninS ne_r0_pp nin0)
    have f1062 := u2.keep K1059 (ninS ne_r0_pp nin0)
    have f1063 := u3.keep K1059 (ninS ne_r0_pp nin0)
    have f1064 := u4.keep K1059 (ninS ne_r0_pp nin0)
    have f1066 := u6.keep K1059 (ninS ne_r0_pp nin0)
    have f1067 := u7.keep K1059 (ninS ne_r0_pp nin0)
    have f1068 := u8.keep K1059 (ninS ne_r0_pp nin0)
    have f1071 := u13.keep K1059 (ninS (Ne.symm ne_pp_qa) nin0)
    have f1072 := u14.keep K1059 (ninS (Ne.symm ne_pp_ka) nin0)
    have f1073 := u15.keep K1059 (ninS (Ne.symm ne_pp_oa) nin0)
    have f1074 : Keep h0 T1059.heap [r0, pp, pa, ha, qa, ka, oa] := K0.trans K1059 (allS (Or.inl (List.mem_of_getElem? (i := 1) rfl)) all0)
    have Z1059 : n0 ≤ T1059.heap.size := Nat.le_trans Z0 K1059.1
    refine own_s 45 [] (fun _ k_ => st1059.trans k_) ?_
    have hlt_MM_1059 : ii < MM_1059 := hM_1059.1
    refine own_aloadN 46 X1059.here hx (hb hby d4_45) rfl rfl rfl ?_
    obtain ⟨T1075, X1075, e1075, st1075⟩ := getF X1059 hx hZ hown (host := "") (Or.inl (own_w 35 hw rfl)) Via.refl rfl f1061 (g := (mkF m 46 #[.val (.ref r0), .val (.int (Int32.ofNat ii)), .val (.double (FP.l2d kk)), .second, .val (.long 2), .second, .unset] [(.ref r0)])) rfl rfl (hb hby d4_46)
    refine own_s 49 [(.ref pp)] (fun _ k_ => st1075 _ k_) ?_
    obtain ⟨T1076, X1076, e1076, st1076⟩ := own_getR X1075 hx hZ hown (own_w 50 hw rfl) e1075 v1059_1 (g := (mkF m 49 #[.val (.ref r0), .val (.int (Int32.ofNat ii)), .val (.double (FP.l2d kk)), .second, .val (.long 2), .second, .unset] [(.ref pp)])) rfl rfl (hb hby d4_49)
    refine own_s 52 [(.ref hb_1059)] (fun _ k_ => st1076 _ k_) ?_
    refine own_iloadN 53 X1076.here hx (hb hby d4_52) rfl rfl ?_
    refine own_aloadN 54 X1076.here hx (hb hby d4_53) rfl rfl rfl ?_
    obtain ⟨T1077, X1077, e1077, st1077⟩ := getF X1076 hx hZ hown (host := "") (Or.inl (own_w 39 hw rfl)) Via.refl e1076 f1066 (g := (mkF m 54 #[.val (.ref r0), .val (.int (Int32.ofNat ii)), .val (.double (FP.l2d kk)), .second, .val (.long 2), .second, .unset] [(.ref r0), (.int (Int32.ofNat ii)), (.ref hb_1059)])) rfl rfl (hb hby d4_54)
    refine own_s 57 [(.long num), (.int (Int32.ofNat ii)), (.ref hb_1059)] (fun _ k_ => st1077 _ k_) ?_
    obtain ⟨cl1078, Ar1078, S1078, Hh1078⟩ := id v1059_3
    obtain ⟨T1078, h1078, X1078, e1078, W1078, st1078⟩ := stJ X1077 hx hZ e1077 Ar1078 (j := (Int32.ofNat ii)) (own_inb S1078 (by omega) hlt_MM_1059) (g := (mkF m 57 #[.val (.ref r0), .val (.int (Int32.ofNat ii)), .val (.double (FP.l2d kk)), .second, .val (.long 2), .second, .unset] [(.long num), (.int (Int32.ofNat ii)), (.ref hb_1059)])) rfl rfl (hb hby d4_57)
    rw [own_clamp (Nat.lt_trans hlt_MM_1059 (by omega))] at W1078
    have f1079 := f1060.wr W1078
    have f1080 := f1061.other W1078 (Or.inl ne_r0_hb_1059)
    have f1081 := f1062.other W1078 (Or.inl ne_r0_hb_1059)
    have f1082 := f1063.other W1078 (Or.inl ne_r0_hb_1059)
    have f1083 := f1064.other W1078 (Or.inl ne_r0_hb_1059)
    have f1085 := f1066.other W1078 (Or.inl ne_r0_hb_1059)
    have f1086 := f1067.other W1078 (Or.inl ne_r0_hb_1059)
    have f1087 := f1068.other W1078 (Or.inl ne_r0_hb_1059)
    have f1090 := f1071.other W1078 ne_qa_hb_1059
    have f1091 := f1072.other W1078 ne_ka_hb_1059
    have f1092 := f1073.other W1078 ne_oa_hb_1059
    have f1093 := f1074.wr W1078 (Or.inr sz_hb_1059)
    have f1094 := v1059_0.other W1078 (Or.inl ne_pp_hb_1059)
    have f1095 := v1059_1.other W1078 (Or.inl ne_pp_hb_1059)
    have f1096 := v1059_2.other W1078 ne_pb_1059_hb_1059
    have f1097 : own_LN Z h1078 hb_1059 MM_1059 (own_upd fH ii num) := v1059_3.set W1078 hlt_MM_1059
    have Z1078 : n0 ≤ h1078.size := Nat.le_trans Z1059 (Keep.of_wr W1078).1
    have N1078 := Fr.snoc X1078 N1059 g_hb_1059
    refine own_s 58 [] (fun _ k_ => st1078 _ k_) ?_
    refine own_aloadN 59 X1078.here hx (hb hby d4_58) rfl rfl rfl ?_
    obtain ⟨vv1098, _, ⟨T1098, L1098, k1098, n1098⟩, -, X1098, ⟨Lc1098, hQ1098, l1098, y1098, z1098⟩, st1098⟩ := own_privL X1078 hx hZ (y := (⟨"com/example/adfair/adfair/Ranking", "lastQueued", "()I"⟩ : MethodName)) hown (own_w 51 hw rfl) (own_w 52 hw rfl) (own_w 53 hw rfl) (own_w 16 hw rfl) (own_w 54 hw rfl) (by decide) (backOf (W := 0) (rmLQ_0_1 l Z a0 hw [] r0 qa cq ([(.int (Int32.ofNat i1)), (.int 0), (.int 0), (.int 0), (.int 0), (.int 0), (.int 0), (.int 0), (.int 0), (.int 0), (.int 0), (.int 0), (.int 0), (.int 0), (.int 0), (.int 0)]) h1078 n0 Z1078 f1086 f1087 f1081 f1090) hZ (own_w 54 hw rfl) (own_w 17 hw rfl) (by decide) (by decide)) (g := (mkF m 59 #[.val (.ref r0), .val (.int (Int32.ofNat ii)), .val (.double (FP.l2d kk)), .second, .val (.long 2), .second, .unset] [(.ref r0)])) rfl (by rw [hml]; rfl) e1078 f1079 (argsL := []) (rest := []) (lenOf pd__28__29_I rfl) rfl (by show 2 * 0 + _ ≤ _; exact Nat.le_of_eq rfl) (hb hby d4_59) (fun _ _ => ⟨rfl, e1078, (by decide : 2 + 0 ≤ _), (by decide : 252 + 0 ≤ _)⟩)
    dsimp only [Pt.U, Pt.locs, Pt.cells, Pt.slots] at X1098 l1098 y1098 z1098 st1098 hQ1098
    subst l1098 y1098 z1098
    obtain ⟨rfl, N1098q, e1098q⟩ := hQ1098
    have N1098 := Fr.app N1078 N1098q
    refine own_s 62 [(.int 0)] (fun _ k_ => st1098.trans k_) ?_
    refine own_istore 64 #[.val (.ref r0), .val (.int (Int32.ofNat ii)), .val (.double (FP.l2d kk)), .second, .val (.long 2), .second, .val (.int 0)] X1098.here hx (hb hby d4_62) rfl rfl ?_
    refine own_aloadN 65 X1098.here hx (hb hby d4_64) rfl rfl rfl ?_
    obtain ⟨T1099, X1099, e1099, st1099⟩ := getF X1098 hx hZ hown (host := "") (Or.inl (own_w 57 hw rfl)) Via.refl e1098q f1087 (g := (mkF m 65 #[.val (.ref r0), .val (.int (Int32.ofNat ii)), .val (.double (FP.l2d kk)), .second, .val (.long 2), .second, .val (.int 0)] [(.ref r0)])) rfl rfl (hb hby d4_65)
    refine own_s 68 [(.int 1)] (fun _ k_ => st1099 _ k_) ?_
    refine own_s 71 [] (fun _ k_ => XS.ifNo X1099.here hx rfl (hb hby d4_68) rfl ((if0 _ _).trans (feq (by decide : ¬ ((1 : Int32) = (0 : Int32)))).1) k_) ?_
    refine own_aloadN 72 X1099.here hx (hb hby d4_71) rfl rfl rfl ?_
    obtain ⟨T1100, X1100, e1100, st1100⟩ := getF X1099 hx hZ hown (host := "") (Or.inl (own_w 31 hw rfl)) Via.refl e1099 f1082 (g := (mkF m 72 #[.val (.ref r0), .val (.int (Int32.ofNat ii)), .val (.double (FP.l2d kk)), .second, .val (.long 2), .second, .val (.int 0)] [(.ref r0)])) rfl rfl (hb hby d4_72)
    refine own_s 75 [(.ref ka)] (fun _ k_ => st1100 _ k_) ?_
    refine own_iload 77 X1100.here hx (hb hby d4_75) rfl rfl ?_
    obtain ⟨cl1101, Ar1101, -, S1101, M1101, Hh1101, -⟩ := id f1091
    have hin1101 : ¬ ((0 : Int32) < 0 ∨ cl1101.slots.size ≤ ((0 : Int32)).toNatClampNeg) := inb_of S1101 ⟨by decide, by decide⟩
    have hat1101 : cl1101.slots[((0 : Int32)).toNatClampNeg]? = some (.double (FP.l2d k1)) := Hh1101.at hin1101 rfl
    refine own_s 78 [(.double (FP.l2d k1))] (fun _ k_ => X1100.daload hx (j := (0 : Int32)) (v := (.double (FP.l2d k1))) (by rw [e1100]; exact Ar1101.1) (State.isArrayOf_alike hZ.alike Ar1101.2.1) Ar1101.2.2 hin1101 hat1101 (g := (mkF m 77 #[.val (.ref r0), .val (.int (Int32.ofNat ii)), .val (.double (FP.l2d kk)), .second, .val (.long 2), .second, .val (.int 0)] [(.int 0), (.ref ka)])) rfl rfl (hb hby d4_77) _ k_) ?_
    refine own_aloadN 79 X1100.here hx (hb hby d4_78) rfl rfl rfl ?_
    obtain ⟨T1102, X1102, e1102, st1102⟩ := getF X1100 hx hZ hown (host := "") (Or.inl (own_w 33 hw rfl)) Via.refl e1100 f1083 (g := (mkF m 79 #[.val (.ref r0), .val (.int (Int32.ofNat ii)), .val (.double (FP.l2d kk)), .second, .val (.long 2), .second, .val (.int 0)] [(.ref r0), (.double (FP.l2d k1))])) rfl rfl (hb hby d4_79)
    refine own_s 82 [(.ref oa), (.double (FP.l2d k1))] (fun _ k_ => st1102 _ k_) ?_
    refine own_iload 84 X1102.here hx (hb hby d4_82) rfl rfl ?_
    obtain ⟨cl1103, Ar1103, -, S1103, M1103, Hh1103, -⟩ := id f1092
    have hin1103 : ¬ ((0 : Int32) < 0 ∨ cl1103.slots.size ≤ ((0 : Int32)).toNatClampNeg) := inb_of S1103 ⟨by decide, by decide⟩
    have hat1103 : cl1103.slots[((0 : Int32)).toNatClampNeg]? = some (.long 1) := Hh1103.at hin1103 rfl
    refine own_s 85 [(.long 1), (.double (FP.l2d k1))] (fun _ k_ => X1102.laload hx (j := (0 : Int32)) (v := (.long 1)) (by rw [e1102]; exact Ar1103.1) (State.isArrayOf_alike hZ.alike Ar1103.2.1) Ar1103.2.2 hin1103 hat1103 (g := (mkF m 84 #[.val (.ref r0), .val (.int (Int32.ofNat ii)), .val (.double (FP.l2d kk)), .second, .val (.long 2), .second, .val (.int 0)] [(.int 0), (.ref oa), (.double (FP.l2d k1))])) rfl rfl (hb hby d4_84) _ k_) ?_
    refine own_s 86 [(.double (FP.l2d kk)), (.long 1), (.double (FP.l2d k1))] (fun _ k_ => XS.dloadN X1102.here hx rfl (hb hby d4_85) rfl k_) ?_
    refine own_s 88 [(.long 2), (.double (FP.l2d kk)), (.long 1), (.double (FP.l2d k1))] (fun _ k_ => XS.lload X1102.here hx rfl (hb hby d4_86) rfl k_) ?_
    obtain ⟨vv1104, _, ⟨T1104, L1104, k1104, n1104⟩, -, X1104, ⟨Lc1104, hQ1104, l1104, y1104, z1104⟩, st1104⟩ := Jvm.LawKit.callS X1102 hx (y := (⟨"com/example/adfair/adfair/Ranking", "lower", "(DJDJ)Z"⟩ : MethodName)) hown (mvT hZ (own_w 65 hw rfl)) (mvT hZ (own_w 66 hw rfl)) (mvT hZ (own_w 17 hw rfl)) (mvT hZ (own_w 67 hw rfl)) (by decide) (backOf (W := 0) (rmLow l Z a0 hw [] (1 : Int64) (2 : Int64) k1 kk h1078 n0 Z1078 hk1 hkk) hZ (own_w 67 hw rfl) (own_w 17 hw rfl) (by decide) (by decide)) (g := (mkF m 88 #[.val (.ref r0), .val (.int (Int32.ofNat ii)), .val (.double (FP.l2d kk)), .second, .val (.long 2), .second, .val (.int 0)] [(.long 2), (.double (FP.l2d kk)), (.long 1), (.double (FP.l2d k1))])) rfl (by rw [hml]; rfl) (argsL := [(.double (FP.l2d k1)), (.long 1), (.double (FP.l2d kk)), (.long 2)]) (rest := []) (lenOf pd__28_DJDJ_29_Z rfl) rfl (by show 2 * 0 + _ ≤ _; exact Nat.le_of_eq rfl) (hb hby d4_88) (fun _ _ => ⟨rfl, e1102, (by decide : 2 + 0 ≤ _), (by decide : 252 + 0 ≤ _)⟩)
    dsimp only [Pt.U, Pt.locs, Pt.cells, Pt.slots] at X1104 l1104 y1104 z1104 st1104 hQ1104
    subst l1104 y1104 z1104
    obtain ⟨rfl, N1104q, e1104q⟩ := hQ1104
    have N1104 := Fr.app N1098 N1104q
    refine own_s 91 [(.int (own_low k1 (1 : Int64) kk (2 : Int64)))] (fun _ k_ => st1104 _ k_) ?_
    by_cases hc91 : (own_low k1 (1 : Int64) kk (2 : Int64)) = (0 : Int32)
    · refine own_s 106 [] (fun _ k_ => XS.ifYes X1104.here hx rfl (pc0 := 91) (pc' := 106) rfl (hb hby d4_91) rfl ((if0 _ _).trans (teq hc91).1) (by decide) (by decide) k_) ?_
      refine own_s 107 [(.double (FP.l2d kk))] (fun _ k_ => XS.dloadN X1104.here hx rfl (hb hby d4_106) rfl k_) ?_
      refine own_s 109 [(.long 2), (.double (FP.l2d kk))] (fun _ k_ => XS.lload X1104.here hx rfl (hb hby d4_107) rfl k_) ?_
      refine own_aloadN 110 X1104.here hx (hb hby d4_109) rfl rfl rfl ?_
      obtain ⟨T1105, X1105, e1105, st1105⟩ := getF X1104 hx hZ hown (host := "") (Or.inl (own_w 31 hw rfl)) Via.refl e1104q f1082 (g := (mkF m 110 #[.val (.ref r0), .val (.int (Int32.ofNat ii)), .val (.double (FP.l2d kk)), .second, .val (.long 2), .second, .val (.int 0)] [(.ref r0), (.long 2), (.double (FP.l2d kk))])) rfl rfl (hb hby d4_110)
      refine own_s 113 [(.ref ka), (.long 2), (.double (FP.l2d kk))] (fun _ k_ => st1105 _ k_) ?_
      refine own_aloadN 114 X1105.here hx (hb hby d4_113) rfl rfl rfl ?_
      obtain ⟨T1106, X1106, e1106, st1106⟩ := getF X1105 hx hZ hown (host := "") (Or.inl (own_w 55 hw rfl)) Via.refl e1105 f1086 (g := (mkF m 114 #[.val (.ref r0), .val (.int (Int32.ofNat ii)), .val (.double (FP.l2d kk)), .second, .val (.long 2), .second, .val (.int 0)] [(.ref r0), (.ref ka), (.long 2), (.double (FP.l2d kk))])) rfl rfl (hb hby d4_114)
      refine own_s 117 [(.int 0), (.ref ka), (.long 2), (.double (FP.l2d kk))] (fun _ k_ => st1106 _ k_) ?_
      obtain ⟨cl1107, Ar1107, -, S1107, M1107, Hh1107, -⟩ := id f1091
      have hin1107 : ¬ ((0 : Int32) < 0 ∨ cl1107.slots.size ≤ ((0 : Int32)).toNatClampNeg) := inb_of S1107 ⟨by decide, by decide⟩
      have hat1107 : cl1107.slots[((0 : Int32)).toNatClampNeg]? = some (.double (FP.l2d k1)) := Hh1107.at hin1107 rfl
      refine own_s 118 [(.double (FP.l2d k1)), (.long 2), (.double (FP.l2d kk))] (fun _ k_ => X1106.daload hx (j := (0 : Int32)) (v := (.double (FP.l2d k1))) (by rw [e1106]; exact Ar1107.1) (State.isArrayOf_alike hZ.alike Ar1107.2.1) Ar1107.2.2 hin1107 hat1107 (g := (mkF m 117 #[.val (.ref r0), .val (.int (Int32.ofNat ii)), .val (.double (FP.l2d kk)), .second, .val (.long 2), .second, .val (.int 0)] [(.int 0), (.ref ka), (.long 2), (.double (FP.l2d kk))])) rfl rfl (hb hby d4_117) _ k_) ?_
      refine own_aloadN 119 X1106.here hx (hb hby d4_118) rfl rfl rfl ?_
      obtain ⟨T1108, X1108, e1108, st1108⟩ := getF X1106 hx hZ hown (host := "") (Or.inl (own_w 33 hw rfl)) Via.refl e1106 f1083 (g := (mkF m 119 #[.val (.ref r0), .val (.int (Int32.ofNat ii)), .val (.double (FP.l2d kk)), .second, .val (.long 2), .second, .val (.int 0)] [(.ref r0), (.double (FP.l2d k1)), (.long 2), (.double (FP.l2d kk))])) rfl rfl (hb hby d4_119)
      refine own_s 122 [(.ref oa), (.double (FP.l2d k1)), (.long 2), (.double (FP.l2d kk))] (fun _ k_ => st1108 _ k_) ?_
      refine own_aloadN 123 X1108.here hx (hb hby d4_122) rfl rfl rfl ?_
      obtain ⟨T1109, X1109, e1109, st1109⟩ := getF X1108 hx hZ hown (host := "") (Or.inl (own_w 55 hw rfl)) Via.refl e1108 f1086 (g := (mkF m 123 #[.val (.ref r0), .val (.int (Int32.ofNat ii)), .val (.double (FP.l2d kk)), .second, .val (.long 2), .second, .val (.int 0)] [(.ref r0), (.ref oa), (.double (FP.l2d k1)), (.long 2), (.double (FP.l2d kk))])) rfl rfl (hb hby d4_123)
      refine own_s 126 [(.int 0), (.ref oa), (.double (FP.l2d k1)), (.long 2), (.double (FP.l2d kk))] (fun _ k_ => st1109 _ k_) ?_
      obtain ⟨cl1110, Ar1110, -, S1110, M1110, Hh1110, -⟩ := id f1092
      have hin1110 : ¬ ((0 : Int32) < 0 ∨ cl1110.slots.size ≤ ((0 : Int32)).toNatClampNeg) := inb_of S1110 ⟨by decide, by decide⟩
      have hat1110 : cl1110.slots[((0 : Int32)).toNatClampNeg]? = some (.long 1) := Hh1110.at hin1110 rfl
      refine own_s 127 [(.long 1), (.double (FP.l2d k1)), (.long 2), (.double (FP.l2d kk))] (fun _ k_ => X1109.laload hx (j := (0 : Int32)) (v := (.long 1)) (by rw [e1109]; exact Ar1110.1) (State.isArrayOf_alike hZ.alike Ar1110.2.1) Ar1110.2.2 hin1110 hat1110 (g := (mkF m 126 #[.val (.ref r0), .val (.int (Int32.ofNat ii)), .val (.double (FP.l2d kk)), .second, .val (.long 2), .second, .val (.int 0)] [(.int 0), (.ref oa), (.double (FP.l2d k1)), (.long 2), (.double (FP.l2d kk))])) rfl rfl (hb hby d4_126) _ k_) ?_
      obtain ⟨vv1111, _, ⟨T1111, L1111, k1111, n1111⟩, -, X1111, ⟨Lc1111, hQ1111, l1111, y1111, z1111⟩, st1111⟩ := Jvm.LawKit.callS X1109 hx (y := (⟨"com/example/adfair/adfair/Ranking", "lower", "(DJDJ)Z"⟩ : MethodName)) hown (mvT hZ (own_w 65 hw rfl)) (mvT hZ (own_w 66 hw rfl)) (mvT hZ (own_w 17 hw rfl)) (mvT hZ (own_w 67 hw rfl)) (by decide) (backOf (W := 0) (rmLow l Z a0 hw [] (2 : Int64) (1 : Int64) kk k1 h1078 n0 Z1078 hkk hk1) hZ (own_w 67 hw rfl) (own_w 17 hw rfl) (by decide) (by decide)) (g := (mkF m 127 #[.val (.ref r0), .val (.int (Int32.ofNat ii)), .val (.double (FP.l2d kk)), .second, .val (.long 2), .second, .val (.int 0)] [(.long 1), (.double (FP.l2d k1)), (.long 2), (.double (FP.l2d kk))])) rfl (by rw [hml]; rfl) (argsL := [(.double (FP.l2d kk)), (.long 2), (.double (FP.l2d k1)), (.long 1)]) (rest := []) (lenOf pd__28_DJDJ_29_Z rfl) rfl (by show 2 * 0 + _ ≤ _; exact Nat.le_of_eq rfl) (hb hby d4_127) (fun _ _ => ⟨rfl, e1109, (by decide : 2 + 0 ≤ _), (by decide : 252 + 0 ≤ _)⟩)
      dsimp only [Pt.U, Pt.locs, Pt.cells, Pt.slots] at X1111 l1111 y1111 z1111 st1111 hQ1111
      subst l1111 y1111 z1111
      obtain ⟨rfl, N1111q, e1111q⟩ := hQ1111
      have N1111 := Fr.app N1104 N1111q
      refine own_s 130 [(.int (own_low kk (2 : Int64) k1 (1 : Int64)))] (fun _ k_ => st1111 _ k_) ?_
      refine own_s 133 [] (fun _ k_ => XS.ifNo X1111.here hx rfl (hb hby d4_130) rfl ((if0 _ _).trans (feq (by rw [own_low12 hc91]; decide)).1) k_) ?_
      refine own_aloadN 134 X1111.here hx (hb hby d4_133) rfl rfl rfl ?_
      refine own_iloadN 135 X1111.here hx (hb hby d4_134) rfl rfl ?_
      refine own_s 136 [(.double (FP.l2d kk)), (.int (Int32.ofNat ii)), (.ref r0)] (fun _ k_ => XS.dloadN X1111.here hx rfl (hb hby d4_135) rfl k_) ?_
      refine own_s 138 [(.long 2), (.double (FP.l2d kk)), (.int (Int32.ofNat ii)), (.ref r0)] (fun _ k_ => XS.lload X1111.here hx rfl (hb hby d4_136) rfl k_) ?_
      refine own_s 139 [(.int 1), (.long 2), (.double (FP.l2d kk)), (.int (Int32.ofNat ii)), (.ref r0)] (fun _ k_ => XS.iconst X1111.here hx rfl (hb hby d4_138) k_) ?_
      obtain ⟨vv1112, _, ⟨T1112, L1112, k1112, n1112⟩, -, X1112, ⟨Lc1112, hQ1112, l1112, y1112, z1112⟩, st1112⟩ := own_privL X1111 hx hZ (y := (⟨"com/example/adfair/adfair/Ranking", "enqueue", "(IDJZ)V"⟩ : MethodName)) hown (own_w 59 hw rfl) (own_w 60 hw rfl) (own_w 61 hw rfl) (own_w 16 hw rfl) (own_w 62 hw rfl) (by decide) (backOf (W := 0) (rmEnF l Z a0 hw [] r0 (2 : Int64) ii kk pp pb_1059 qa ka oa cq ck co MM_1059 gP num i1 k1 h1078 n0 Z1078 f1079 f1080 f1081 f1082 f1083 f1085 f1086 f1087 f1094 f1096 f1090 f1091 f1092 ne_r0_pp ne_r0_pb_1059 ne_r0_qa ne_r0_ka ne_r0_oa ne_pp_pb_1059 ne_pp_qa ne_pp_ka ne_pp_oa (Ne.symm ne_qa_pb_1059) (Ne.symm ne_ka_pb_1059) (Ne.symm ne_oa_pb_1059) ne_qa_ka ne_qa_oa ne_ka_oa g_r0 g_qa g_ka g_oa g_pb_1059 hlt_MM_1059 (by omega)) hZ (own_w 62 hw rfl) (own_w 17 hw rfl) (by decide) (by decide)) (g := (mkF m 139 #[.val (.ref r0), .val (.int (Int32.ofNat ii)), .val (.double (FP.l2d kk)), .second, .val (.long 2), .second, .val (.int 0)] [(.int 1), (.long 2), (.double (FP.l2d kk)), (.int (Int32.ofNat ii)), (.ref r0)])) rfl (by rw [hml]; rfl) e1111q f1079 (argsL := [(.int (Int32.ofNat ii)), (.double (FP.l2d kk)), (.long 2), (.int 1)]) (rest := []) (lenOf pd__28_IDJZ_29_V rfl) rfl (by show 2 * 0 + _ ≤ _; exact Nat.le_of_eq rfl) (hb hby d4_139) (fun _ _ => ⟨rfl, e1111q, (by decide : 2 + 0 ≤ _), (by decide : 252 + 0 ≤ _)⟩)
      dsimp only [Pt.U, Pt.locs, Pt.cells, Pt.slots] at X1112 l1112 y1112 z1112 st1112 hQ1112
      subst l1112 y1112 z1112
      obtain ⟨rfl, N1112q, K1112, v1112_0, v1112_1, v1112_2, v1112_3, v1112_4, v1112_5, v1112_6, v1112_7, v1112_8, v1112_9, v1112_10⟩ := hQ1112
      have N1112 := Fr.app N1111 N1112q
      have f1117 : Keep h0 T1112.heap [r0, pp, pa, ha, qa, ka, oa] := f1093.trans K1112 (allS (Or.inl (List.mem_of_getElem? (i := 0) rfl)) (allS (Or.inl (List.mem_of_getElem? (i := 4) rfl)) (allS (Or.inl (List.mem_of_getElem? (i := 5) rfl)) (allS (Or.inl (List.mem_of_getElem? (i := 6) rfl)) (allS (Or.inr sz_pb_1059) all0)))))
      have f1118 := f1094.keep K1112 (ninS (Ne.symm ne_r0_pp) (ninS ne_pp_qa (ninS ne_pp_ka (ninS ne_pp_oa (ninS ne_pp_pb_1059 nin0)))))
      have f1119 := f1095.keep K1112 (ninS (Ne.symm ne_r0_pp) (ninS ne_pp_qa (ninS ne_pp_ka (ninS ne_pp_oa (ninS ne_pp_pb_1059 nin0)))))
      have f1120 := f1097.keep K1112 (ninS (Ne.symm ne_r0_hb_1059) (ninS (Ne.symm ne_qa_hb_1059) (ninS (Ne.symm ne_ka_hb_1059) (ninS (Ne.symm ne_oa_hb_1059) (ninS (Ne.symm ne_pb_1059_hb_1059) nin0)))))
      have Z1112 : n0 ≤ T1112.heap.size := Nat.le_trans Z1078 K1112.1
      refine own_s 142 [] (fun _ k_ => st1112.trans k_) ?_
      refine own_s 153 [] (fun _ k_ => XS.goto X1112.here hx rfl (pc0 := 142) (pc' := 153) rfl (hb hby d4_142) (by decide) (by decide) k_) ?_
      obtain ⟨fs, hr, hrun, hended, hW, hsame⟩ := X1112.leave (v := none) (fun _ => rfl)
      refine own_at ?_ (hG _ _ ⟨hrun, hended, _, _, rfl, ?_, ⟨_, rfl⟩, hW, hsame.mono (by decide) (by decide)⟩)
      · show Steps p.tables e below (T1112.setTop (mkF m 153 #[.val (.ref r0), .val (.int (Int32.ofNat ii)), .val (.double (FP.l2d kk)), .second, .val (.long 2), .second, .val (.int 0)] [])) _
        exact X1112.returnOut hx Bd.returns (hb hby d4_153) hr
      · show QAd1 Z r0 ii kk num pp pa ha qa ka oa cq ck co NN fH gP i1 k1 h0 n0 _ T1112.heap _
        exact ⟨MM_1059, pb_1059, hb_1059, (15 : Int32), _, rfl, N1112, f1117, g_pb_1059, g_hb_1059, (fun x hx _ => Nat.ne_of_lt (Nat.lt_of_lt_of_le hx sz_pb_1059)), (fun x hx _ => Nat.ne_of_lt (Nat.lt_of_lt_of_le hx sz_hb_1059)), ne_pb_1059_hb_1059, ⟨hlt_MM_1059, by omega, by omega⟩, (own_z.upd (own_z.mono hz1 (by omega)) hlt_MM_1059), (own_zI.upd (own_zI.mono hz2 (by omega)) hlt_MM_1059), (Or.inr ⟨rfl, rfl⟩), v1112_0, v1112_1, v1112_8, f1119, f1118, f1120, v1112_4, v1112_3, v1112_2, v1112_5⟩
    · refine own_s 94 [] (fun _ k_ => XS.ifNo X1104.here hx rfl (hb hby d4_91) rfl ((if0 _ _).trans (feq hc91).1) k_) ?_
      refine own_aloadN 95 X1104.here hx (hb hby d4_94) rfl rfl rfl ?_
      refine own_iloadN 96 X1104.here hx (hb hby d4_95) rfl rfl ?_
      refine own_s 97 [(.double (FP.l2d kk)), (.int (Int32.ofNat ii)), (.ref r0)] (fun _ k_ => XS.dloadN X1104.here hx rfl (hb hby d4_96) rfl k_) ?_
      refine own_s 99 [(.long 2), (.double (FP.l2d kk)), (.int (Int32.ofNat ii)), (.ref r0)] (fun _ k_ => XS.lload X1104.here hx rfl (hb hby d4_97) rfl k_) ?_
      refine own_s 100 [(.int 0), (.long 2), (.double (FP.l2d kk)), (.int (Int32.ofNat ii)), (.ref r0)] (fun _ k_ => XS.iconst X1104.here hx rfl (hb hby d4_99) k_) ?_
      obtain ⟨vv1122, _, ⟨T1122, L1122, k1122, n1122⟩, -, X1122, ⟨Lc1122, hQ1122, l1122, y1122, z1122⟩, st1122⟩ := own_privL X1104 hx hZ (y := (⟨"com/example/adfair/adfair/Ranking", "enqueue", "(IDJZ)V"⟩ : MethodName)) hown (own_w 59 hw rfl) (own_w 60 hw rfl) (own_w 61 hw rfl) (own_w 16 hw rfl) (own_w 62 hw rfl) (by decide) (backOf (W := 0) (rmEnE l Z a0 hw [] r0 (2 : Int64) ii kk pp pb_1059 qa ka oa cq ck co MM_1059 gP num i1 k1 h1078 n0 Z1078 f1079 f1080 f1081 f1082 f1083 f1085 f1086 f1087 f1094 f1096 f1090 f1091 f1092 ne_r0_pp ne_r0_pb_1059 ne_r0_qa ne_r0_ka ne_r0_oa ne_pp_pb_1059 ne_pp_qa ne_pp_ka ne_pp_oa (Ne.symm ne_qa_pb_1059) (Ne.symm ne_ka_pb_1059) (Ne.symm ne_oa_pb_1059) ne_qa_ka ne_qa_oa ne_ka_oa g_r0 g_qa g_ka g_oa g_pb_1059 hlt_MM_1059 (by omega)) hZ (own_w 62 hw rfl) (own_w 17 hw rfl) (by decide) (by decide)) (g := (mkF m 100 #[.val (.ref r0), .val (.int (Int32.ofNat ii)), .val (.double (FP.l2d kk)), .second, .val (.long 2), .second, .val (.int 0)] [(.int 0), (.long 2), (.double (FP.l2d kk)), (.int (Int32.ofNat ii)), (.ref r0)])) rfl (by rw [hml]; rfl) e1104q f1079 (argsL := [(.int (Int32.ofNat ii)), (.double (FP.l2d kk)), (.long 2), (.int 0)]) (rest := []) (lenOf pd__28_IDJZ_29_V rfl) rfl (by show 2 * 0 + _ ≤ _; exact Nat.le_of_eq rfl) (hb hby d4_100) (fun _ _ => ⟨rfl, e1104q, (by decide : 2 + 0 ≤ _), (by decide : 252 + 0 ≤ _)⟩)
      dsimp only [Pt.U, Pt.locs, Pt.cells, Pt.slots] at X1122 l1122 y1122 z1122 st1122 hQ1122
      subst l1122 y1122 z1122
      obtain ⟨rfl, N1122q, K1122, v1122_0, v1122_1, v1122_2, v1122_3, v1122_4, v1122_5, v1122_6, v1122_7, v1122_8, v1122_9, v1122_10⟩ := hQ1122
      have N1122 := Fr.app N1104 N1122q
      have f1127 : Keep h0 T1122.heap [r0, pp, pa, ha, qa, ka, oa] := f1093.trans K1122 (allS (Or.inl (List.mem_of_getElem? (i := 0) rfl)) (allS (Or.inl (List.mem_of_getElem? (i := 4) rfl)) (allS (Or.inl (List.mem_of_getElem? (i := 5) rfl)) (allS (Or.inl (List.mem_of_getElem? (i := 6) rfl)) (allS (Or.inr sz_pb_1059) all0)))))
      have f1128 := f1094.keep K1122 (ninS (Ne.symm ne_r0_pp) (ninS ne_pp_qa (ninS ne_pp_ka (ninS ne_pp_oa (ninS ne_pp_pb_1059 nin0)))))
      have f1129 := f1095.keep K1122 (ninS (Ne.symm ne_r0_pp) (ninS ne_pp_qa (ninS ne_pp_ka (ninS ne_pp_oa (ninS ne_pp_pb_1059 nin0)))))
      have f1130 := f1097.keep K1122 (ninS (Ne.symm ne_r0_hb_1059) (ninS (Ne.symm ne_qa_hb_1059) (ninS (Ne.symm ne_ka_hb_1059) (ninS (Ne.symm ne_oa_hb_1059) (ninS (Ne.symm ne_pb_1059_hb_1059) nin0)))))
      have Z1122 : n0 ≤ T1122.heap.size := Nat.le_trans Z1078 K1122.1
      refine own_s 103 [] (fun _ k_ => st1122.trans k_) ?_
      refine own_s 153 [] (fun _ k_ => XS.goto X1122.here hx rfl (pc0 := 103) (pc' := 153) rfl (hb hby d4_103) (by decide) (by decide) k_) ?_
      obtain ⟨fs, hr, hrun, hended, hW, hsame⟩ := X1122.leave (v := none) (fun _ => rfl)
      refine own_at ?_ (hG _ _ ⟨hrun, hended, _, _, rfl, ?_, ⟨_, rfl⟩, hW, hsame.mono (by decide) (by decide)⟩)
      · show Steps p.tables e below (T1122.setTop (mkF m 153 #[.val (.ref r0), .val (.int (Int32.ofNat ii)), .val (.double (FP.l2d kk)), .second, .val (.long 2), .second, .val (.int 0)] [])) _
        exact X1122.returnOut hx Bd.returns (hb hby d4_153) hr
      · show QAd1 Z r0 ii kk num pp pa ha qa ka oa cq ck co NN fH gP i1 k1 h0 n0 _ T1122.heap _
        exact ⟨MM_1059, pb_1059, hb_1059, (0 : Int32), _, rfl, N1122, f1127, g_pb_1059, g_hb_1059, (fun x hx _ => Nat.ne_of_lt (Nat.lt_of_lt_of_le hx sz_pb_1059)), (fun x hx _ => Nat.ne_of_lt (Nat.lt_of_lt_of_le hx sz_hb_1059)), ne_pb_1059_hb_1059, ⟨hlt_MM_1059, by omega, by omega⟩, (own_z.upd (own_z.mono hz1 (by omega)) hlt_MM_1059), (own_zI.upd (own_zI.mono hz2 (by omega)) hlt_MM_1059), (Or.inl ⟨rfl, rfl⟩), v1122_0, v1122_1, v1122_8, f1129, f1128, f1130, v1122_4, v1122_3, v1122_2, v1122_5⟩
theorem d14_0 : decode prog_20_method_4_code 0 = .ok (.iload_n 1, 1) := by decide +kernel
theorem d14_1 : decode prog_20_method_4_code 1 = .ok (.aload_n 0, 1) := by decide +kernel
theorem d14_2 : decode prog_20_method_4_code 2 = .ok (.getfield 36, 3) := by decide +kernel
theorem d14_5 : decode prog_20_method_4_code 5 = .ok (.getfield 54, 3) := by decide +kernel
theorem d14_8 : decode prog_20_method_4_code 8 = .ok (.arraylength, 1) := by decide +kernel
theorem d14_9 : decode prog_20_method_4_code 9 = .ok (.if_icmp .ge 24, 3) := by decide +kernel
theorem d14_12 : decode prog_20_method_4_code 12 = .ok (.aload_n 0, 1) := by decide +kernel
theorem d14_13 : decode prog_20_method_4_code 13 = .ok (.getfield 36, 3) := by decide +kernel
theorem d14_16 : decode prog_20_method_4_code 16 = .ok (.getfield 54, 3) := by decide +kernel
theorem d14_19 : decode prog_20_method_4_code 19 = .ok (.iload_n 1, 1) := by decide +kernel
theorem d14_20 : decode prog_20_method_4_code 20 = .ok (.laload, 1) := by decide +kernel
theorem d14_21 : decode prog_20_method_4_code 21 = .ok (.aload_n 0, 1) := by decide +kernel
theorem d14_22 : decode prog_20_method_4_code 22 = .ok (.getfield 44, 3) := by decide +kernel
theorem d14_25 : decode prog_20_method_4_code 25 = .ok (.lcmp, 1) := by decide +kernel
theorem d14_26 : decode prog_20_method_4_code 26 = .ok (.ifCond .ne 7, 3) := by decide +kernel
theorem d14_29 : decode prog_20_method_4_code 29 = .ok (.iconst 1, 1) := by decide +kernel
theorem d14_30 : decode prog_20_method_4_code 30 = .ok (.goto 4, 3) := by decide +kernel
theorem d14_33 : decode prog_20_method_4_code 33 = .ok (.iconst 0, 1) := by decide +kernel
theorem d14_34 : decode prog_20_method_4_code 34 = .ok (.ireturn, 1) := by decide +kernel
theorem pn_14 : plainName "com/example/adfair/adfair/Ranking" = true := by first | (simp [plainName, overriddenIn]; done) | decide +kernel
theorem ef_rmCo (m : MethodId) (x0 : Addr) (x1 : Int32) : entryFrame m #[(.ref x0), (.int x1)] 2 = mkF m 0 #[.val (.ref x0), .val (.int x1)] [] := by first | (simp [entryFrame, mkF, argsToLocals, Value.category]; done) | rfl
def QCo (Z : State) (r0 : Addr) (iq : Nat) (num : Int64) (pp : Addr) (ha : Addr) (NN : Nat) (fH : Nat → Int64) (h0 : Heap) (n0 : Nat) (v : Option Value) (h : Heap) (L : List Loc) : Prop := v = some (.int (own_con fH iq num)) ∧ Fr n0 L ∧ h = h0
set_option maxRecDepth 65536 in
set_option maxHeartbeats 40000000 in
theorem rmCo (l : Launch) (Z : State) (a0 : Array Value) (hw : ∀ d ∈ tables_1, d.before a0 Z = true) (ws : List Jvm.Cond) (r0 : Addr) (iq : Nat) (num : Int64) (pp : Addr) (ha : Addr) (NN : Nat) (fH : Nat → Int64) (h0 : Heap) (n0 : Nat) (Z0 : n0 ≤ h0.size) (u0 : Fld Z h0 r0 "com/example/adfair/adfair/Ranking" "places" "Lcom/example/adfair/adfair/Ranking$Places;" (.ref pp)) (u1 : Fld Z h0 r0 "com/example/adfair/adfair/Ranking" "number" "J" (.long num)) (u2 : Fld Z h0 pp "com/example/adfair/adfair/Ranking$Places" "holder" "[J" (.ref ha)) (u3 : own_LN Z h0 ha NN fH) (hq : iq < 2147483648) (hN : NN ≤ 126) (hz : own_z fH NN) (hnum : ¬ num = 0) :
    MetFree l (⟨"com/example/adfair/adfair/Ranking", "contains", "(I)Z"⟩ : MethodName) (head1 (Jvm.Cond.code (⟨"com/example/adfair/adfair/Ranking", "contains", "(I)Z"⟩ : MethodName) prog_20_method_4_code 2 (some .boolean) :: ws) ({ frames := 0, cells := 0, slots := 0, locals := 0 } : Room)) (fun a U => a = #[(.ref r0), (.int (Int32.ofNat iq))] ∧ Z.Warmed39 U.vm ∧ U.heap = h0) (fun _ _ _ _ _ => True) (fun _ U o U' => ∃ v L, o = .returned v ∧ QCo Z r0 iq num pp ha NN fH h0 n0 v U'.heap L ∧ FrameEnd U o U' L ({ frames := 0, cells := 0, slots := 0, locals := 0 } : Room).cells ({ frames := 0, cells := 0, slots := 0, locals := 0 } : Room).slots) := by
  refine MetFree.of_bodySF (plainFor_of_name pn_14) hisR ?_
  intro p e s m args below meth c s₁ Bd hml0 hP hK
  obtain ⟨rfl, hZ, hh⟩ := hP
  have hx := Bd.exec
  have hby := Bd.bytes
  have hml : c.maxLocals = 2 := hml0
  have hown : s.vm.findClass "com/example/adfair/adfair/Ranking" = some m.cls := findClass_of_methodNamed Bd.named
  have hnm := (name_of_methodNamed Bd.named Bd.method).1
  have X0 : Stand p l e ({ frames := 0, cells := 0, slots := 0, locals := 0 } : Room) s m #[(.ref r0), (.int (Int32.ofNat iq))] below meth c s₁ [] 0 0 := Stand.of_body Bd
  have e0 : s₁.heap = h0 := by rw [← hh, Bd.state]; rfl
  have N0 := Fr.nil n0
  refine own_open fun G hG => ?_
  refine own_go (B := s₁.setTop (mkF m 0 #[.val (.ref r0), .val (.int (Int32.ofNat iq))] [])) (fun t_ k_ => castTop (ef_rmCo m r0 (Int32.ofNat iq)) k_) ?_
  refine own_iloadN 1 X0.here hx (hb hby d14_0) rfl rfl ?_
  refine own_aloadN 2 X0.here hx (hb hby d14_1) rfl rfl rfl ?_
  obtain ⟨T1132, X1132, e1132, st1132⟩ := getF X0 hx hZ hown (host := "") (Or.inl (own_w 35 hw rfl)) Via.refl e0 u0 (g := (mkF m 2 #[.val (.ref r0), .val (.int (Int32.ofNat iq))] [(.ref r0), (.int (Int32.ofNat iq))])) rfl rfl (hb hby d14_2)
  refine own_s 5 [(.ref pp), (.int (Int32.ofNat iq))] (fun _ k_ => st1132 _ k_) ?_
  obtain ⟨T1133, X1133, e1133, st1133⟩ := own_getR X1132 hx hZ hown (own_w 50 hw rfl) e1132 u2 (g := (mkF m 5 #[.val (.ref r0), .val (.int (Int32.ofNat iq))] [(.ref pp), (.int (Int32.ofNat iq))])) rfl rfl (hb hby d14_5)
  refine own_s 8 [(.ref ha), (.int (Int32.ofNat iq))] (fun _ k_ => st1133 _ k_) ?_
  obtain ⟨cl1134, Ar1134, S1134, -⟩ := id u3
  refine own_go (B := T1133.setTop (mkF m 9 #[.val (.ref r0), .val (.int (Int32.ofNat iq))] [(.int (Int32.ofNat NN)), (.int (Int32.ofNat iq))])) (fun t_ k_ => ?_) ?_
  · refine X1133.arraylength hx (by rw [e1133]; exact Ar1134.1) (State.isArrayOf_alike hZ.alike Ar1134.2.1) (g := (mkF m 8 #[.val (.ref r0), .val (.int (Int32.ofNat iq))] [(.ref ha), (.int (Int32.ofNat iq))])) rfl rfl (hb hby d14_8) _ ?_
    rw [own_len S1134]
    exact k_
  by_cases hc9 : (Int32.ofNat iq) < (Int32.ofNat NN)
  · refine own_s 12 [] (fun _ k_ => XS.icmpNo X1133.here hx rfl (hb hby d14_9) rfl (tlt hc9).2.1 k_) ?_
    refine own_aloadN 13 X1133.here hx (hb hby d14_12) rfl rfl rfl ?_
    obtain ⟨T1135, X1135, e1135, st1135⟩ := getF X1133 hx hZ hown (host := "") (Or.inl (own_w 35 hw rfl)) Via.refl e1133 u0 (g := (mkF m 13 #[.val (.ref r0), .val (.int (Int32.ofNat iq))] [(.ref r0)])) rfl rfl (hb hby d14_13)
    refine own_s 16 [(.ref pp)] (fun _ k_ => st1135 _ k_) ?_
    obtain ⟨T1136, X1136, e1136, st1136⟩ := own_getR X1135 hx hZ hown (own_w 50 hw rfl) e1135 u2 (g := (mkF m 16 #[.val (.ref r0), .val (.int (Int32.ofNat iq))] [(.ref pp)])) rfl rfl (hb hby d14_16)
    refine own_s 19 [(.ref ha)] (fun _ k_ => st1136 _ k_) ?_
    refine own_iloadN 20 X1136.here hx (hb hby d14_19) rfl rfl ?_
    obtain ⟨cl1137, Ar1137, S1137, Hh1137⟩ := id u3
    have hat1137 : cl1137.slots[((Int32.ofNat iq)).toNatClampNeg]? = some (.long (fH iq)) := by rw [own_clamp (Nat.lt_trans ((own_lt hq (by omega)).mp hc9) (by omega))]; exact Hh1137 _ ((own_lt hq (by omega)).mp hc9)
    refine own_s 21 [(.long (fH iq))] (fun _ k_ => X1136.laload hx (j := (Int32.ofNat iq)) (v := (.long (fH iq))) (by rw [e1136]; exact Ar1137.1) (State.isArrayOf_alike hZ.alike Ar1137.2.1) Ar1137.2.2 (own_inb S1137 (by omega) ((own_lt hq (by omega)).mp hc9)) hat1137 (g := (mkF m 20 #[.val (.ref r0), .val (.int (Int32.ofNat iq))] [(.int (Int32.ofNat iq)), (.ref ha)])) rfl rfl (hb hby d14_20) _ k_) ?_
    refine own_aloadN 22 X1136.here hx (hb hby d14_21) rfl rfl rfl ?_
    obtain ⟨T1138, X1138, e1138, st1138⟩ := getF X1136 hx hZ hown (host := "") (Or.inl (own_w 39 hw rfl)) Via.refl e1136 u1 (g := (mkF m 22 #[.val (.ref r0), .val (.int (Int32.ofNat iq))] [(.ref r0), (.long (fH iq))])) rfl rfl (hb hby d14_22)
    refine own_s 25 [(.long num), (.long (fH iq))] (fun _ k_ => st1138 _ k_) ?_
    refine own_s 26 [(.int (lcmpW (fH iq) num))] (fun _ k_ => XS.lcmp X1138.here hx rfl (hb hby d14_25) rfl k_) ?_
    by_cases hc26 : (fH iq) = num
    · refine own_s 29 [] (fun _ k_ => XS.ifNo X1138.here hx rfl (hb hby d14_26) rfl ((if0 _ _).trans (teq ((lw_eq _ _).mpr hc26)).2) k_) ?_
      refine own_s 30 [(.int 1)] (fun _ k_ => XS.iconst X1138.here hx rfl (hb hby d14_29) k_) ?_
      refine own_s 34 [(.int 1)] (fun _ k_ => XS.goto X1138.here hx rfl (pc0 := 30) (pc' := 34) rfl (hb hby d14_30) (by decide) (by decide) k_) ?_
      obtain ⟨fs, hr, hrun, hended, hW, hsame⟩ := X1138.leave (v := some (.int 1)) (fun h => by rw [Bd.returns] at h; cases h)
      refine own_at ?_ (hG _ _ ⟨hrun, hended, _, _, rfl, ?_, ⟨_, rfl⟩, hW, hsame.mono (by decide) (by decide)⟩)
      · show Steps p.tables e below (T1138.setTop (mkF m 34 #[.val (.ref r0), .val (.int (Int32.ofNat iq))] [(.int 1)])) _
        exact retN X1138 hx (t := .boolean) Bd.returns (by simp) (hb hby d14_34) hr
      · show QCo Z r0 iq num pp ha NN fH h0 n0 _ T1138.heap _
        rw [e1138]
        exact ⟨congrArg (fun z => some (Value.int z)) (Eq.symm (own_con1 hc26)), N0, rfl⟩
    · refine own_s 33 [] (fun _ k_ => XS.ifYes X1138.here hx rfl (pc0 := 26) (pc' := 33) rfl (hb hby d14_26) rfl ((if0 _ _).trans (feq (mt (lw_eq _ _).mp hc26)).2) (by decide) (by decide) k_) ?_
      refine own_s 34 [(.int 0)] (fun _ k_ => XS.iconst X1138.here hx rfl (hb hby d14_33) k_) ?_
      obtain ⟨fs, hr, hrun, hended, hW, hsame⟩ := X1138.leave (v := some (.int 0)) (fun h => by rw [Bd.returns] at h; cases h)
      refine own_at ?_ (hG _ _ ⟨hrun, hended, _, _, rfl, ?_, ⟨_, rfl⟩, hW, hsame.mono (by decide) (by decide)⟩)
      · show Steps p.tables e below (T1138.setTop (mkF m 34 #[.val (.ref r0), .val (.int (Int32.ofNat iq))] [(.int 0)])) _
        exact retN X1138 hx (t := .boolean) Bd.returns (by simp) (hb hby d14_34) hr
      · show QCo Z r0 iq num pp ha NN fH h0 n0 _ T1138.heap _
        rw [e1138]
        exact ⟨congrArg (fun z => some (Value.int z)) (Eq.symm (own_con0 hc26)), N0, rfl⟩
  · refine own_s 33 [] (fun _ k_ => XS.icmpYes X1133.here hx rfl (pc0 := 9) (pc' := 33) rfl (hb hby d14_9) rfl (flt hc9).2.1 (by decide) (by decide) k_) ?_
    refine own_s 34 [(.int 0)] (fun _ k_ => XS.iconst X1133.here hx rfl (hb hby d14_33) k_) ?_
    obtain ⟨fs, hr, hrun, hended, hW, hsame⟩ := X1133.leave (v := some (.int 0)) (fun h => by rw [Bd.returns] at h; cases h)
    refine own_at ?_ (hG _ _ ⟨hrun, hended, _, _, rfl, ?_, ⟨_, rfl⟩, hW, hsame.mono (by decide) (by decide)⟩)
    · show Steps p.tables e below (T1133.setTop (mkF m 34 #[.val (.ref r0), .val (.int (Int32.ofNat iq))] [(.int 0)])) _
      exact retN X1133 hx (t := .boolean) Bd.returns (by simp) (hb hby d14_34) hr
    · show QCo Z r0 iq num pp ha NN fH h0 n0 _ T1133.heap _
      rw [e1133]
      exact ⟨congrArg (fun z => some (Value.int z)) (Eq.symm (own_con0 (fun q => hnum (q.symm.trans (hz iq (Nat.le_of_not_lt fun q => hc9 ((own_lt hq (by omega)).mpr q))))))), N0, rfl⟩
theorem d15_0 : decode prog_20_method_10_code 0 = .ok (.aload_n 0, 1) := by decide +kernel
theorem d15_1 : decode prog_20_method_10_code 1 = .ok (.iload_n 1, 1) := by decide +kernel
theorem d15_2 : decode prog_20_method_10_code 2 = .ok (.invokevirtual 102, 3) := by decide +kernel
theorem d15_5 : decode prog_20_method_10_code 5 = .ok (.ifCond .ne 17, 3) := by decide +kernel
theorem d15_8 : decode prog_20_method_10_code 8 = .ok (.new 74, 3) := by decide +kernel
theorem d15_11 : decode prog_20_method_10_code 11 = .ok (.dup, 1) := by decide +kernel
theorem d15_12 : decode prog_20_method_10_code 12 = .ok (.iload_n 1, 1) := by decide +kernel
theorem d15_18 : decode prog_20_method_10_code 18 = .ok (.invokespecial 80, 3) := by decide +kernel
theorem d15_21 : decode prog_20_method_10_code 21 = .ok (.athrow, 1) := by decide +kernel
theorem d15_22 : decode prog_20_method_10_code 22 = .ok (.aload_n 0, 1) := by decide +kernel
theorem d15_23 : decode prog_20_method_10_code 23 = .ok (.getfield 36, 3) := by decide +kernel
theorem d15_26 : decode prog_20_method_10_code 26 = .ok (.getfield 106, 3) := by decide +kernel
theorem d15_29 : decode prog_20_method_10_code 29 = .ok (.iload_n 1, 1) := by decide +kernel
theorem d15_30 : decode prog_20_method_10_code 30 = .ok (.iaload, 1) := by decide +kernel
theorem d15_31 : decode prog_20_method_10_code 31 = .ok (.bipush (-2), 2) := by decide +kernel
theorem d15_33 : decode prog_20_method_10_code 33 = .ok (.if_icmp .ne 7, 3) := by decide +kernel
theorem d15_36 : decode prog_20_method_10_code 36 = .ok (.iconst 1, 1) := by decide +kernel
theorem d15_37 : decode prog_20_method_10_code 37 = .ok (.goto 4, 3) := by decide +kernel
theorem d15_40 : decode prog_20_method_10_code 40 = .ok (.iconst 0, 1) := by decide +kernel
theorem d15_41 : decode prog_20_method_10_code 41 = .ok (.istore_n 2, 1) := by decide +kernel
theorem d15_42 : decode prog_20_method_10_code 42 = .ok (.iload_n 2, 1) := by decide +kernel
theorem d15_43 : decode prog_20_method_10_code 43 = .ok (.ifCond .eq 57, 3) := by decide +kernel
theorem d15_46 : decode prog_20_method_10_code 46 = .ok (.aload_n 0, 1) := by decide +kernel
theorem d15_47 : decode prog_20_method_10_code 47 = .ok (.getfield 27, 3) := by decide +kernel
theorem d15_50 : decode prog_20_method_10_code 50 = .ok (.aload_n 0, 1) := by decide +kernel
theorem d15_51 : decode prog_20_method_10_code 51 = .ok (.getfield 61, 3) := by decide +kernel
theorem d15_54 : decode prog_20_method_10_code 54 = .ok (.iaload, 1) := by decide +kernel
theorem d15_55 : decode prog_20_method_10_code 55 = .ok (.iload_n 1, 1) := by decide +kernel
theorem d15_56 : decode prog_20_method_10_code 56 = .ok (.if_icmp .ne 44, 3) := by decide +kernel
theorem d15_59 : decode prog_20_method_10_code 59 = .ok (.aload_n 0, 1) := by decide +kernel
theorem d15_60 : decode prog_20_method_10_code 60 = .ok (.getfield 27, 3) := by decide +kernel
theorem d15_63 : decode prog_20_method_10_code 63 = .ok (.aload_n 0, 1) := by decide +kernel
theorem d15_64 : decode prog_20_method_10_code 64 = .ok (.getfield 61, 3) := by decide +kernel
theorem d15_67 : decode prog_20_method_10_code 67 = .ok (.iconst (-1), 1) := by decide +kernel
theorem d15_68 : decode prog_20_method_10_code 68 = .ok (.iastore, 1) := by decide +kernel
theorem d15_69 : decode prog_20_method_10_code 69 = .ok (.aload_n 0, 1) := by decide +kernel
theorem d15_70 : decode prog_20_method_10_code 70 = .ok (.aload_n 0, 1) := by decide +kernel
theorem d15_71 : decode prog_20_method_10_code 71 = .ok (.getfield 61, 3) := by decide +kernel
theorem d15_74 : decode prog_20_method_10_code 74 = .ok (.iconst 1, 1) := by decide +kernel
theorem d15_75 : decode prog_20_method_10_code 75 = .ok (.iadd, 1) := by decide +kernel
theorem d15_76 : decode prog_20_method_10_code 76 = .ok (.aload_n 0, 1) := by decide +kernel
theorem d15_77 : decode prog_20_method_10_code 77 = .ok (.getfield 27, 3) := by decide +kernel
theorem d15_80 : decode prog_20_method_10_code 80 = .ok (.arraylength, 1) := by decide +kernel
theorem d15_81 : decode prog_20_method_10_code 81 = .ok (.iconst 1, 1) := by decide +kernel
theorem d15_82 : decode prog_20_method_10_code 82 = .ok (.isub, 1) := by decide +kernel
theorem d15_83 : decode prog_20_method_10_code 83 = .ok (.iand, 1) := by decide +kernel
theorem d15_84 : decode prog_20_method_10_code 84 = .ok (.putfield 61, 3) := by decide +kernel
theorem d15_87 : decode prog_20_method_10_code 87 = .ok (.aload_n 0, 1) := by decide +kernel
theorem d15_88 : decode prog_20_method_10_code 88 = .ok (.dup, 1) := by decide +kernel
theorem d15_89 : decode prog_20_method_10_code 89 = .ok (.getfield 51, 3) := by decide +kernel
theorem d15_92 : decode prog_20_method_10_code 92 = .ok (.iconst 1, 1) := by decide +kernel
theorem d15_93 : decode prog_20_method_10_code 93 = .ok (.isub, 1) := by decide +kernel
theorem d15_94 : decode prog_20_method_10_code 94 = .ok (.putfield 51, 3) := by decide +kernel
theorem d15_97 : decode prog_20_method_10_code 97 = .ok (.goto 64, 3) := by decide +kernel
theorem d15_100 : decode prog_20_method_10_code 100 = .ok (.iload_n 2, 1) := by decide +kernel
theorem d15_101 : decode prog_20_method_10_code 101 = .ok (.ifCond .eq 39, 3) := by decide +kernel
theorem d15_104 : decode prog_20_method_10_code 104 = .ok (.aload_n 0, 1) := by decide +kernel
theorem d15_105 : decode prog_20_method_10_code 105 = .ok (.getfield 27, 3) := by decide +kernel
theorem d15_108 : decode prog_20_method_10_code 108 = .ok (.aload_n 0, 1) := by decide +kernel
theorem d15_109 : decode prog_20_method_10_code 109 = .ok (.invokevirtual 86, 3) := by decide +kernel
theorem d15_112 : decode prog_20_method_10_code 112 = .ok (.iaload, 1) := by decide +kernel
theorem d15_113 : decode prog_20_method_10_code 113 = .ok (.iload_n 1, 1) := by decide +kernel
theorem d15_114 : decode prog_20_method_10_code 114 = .ok (.if_icmp .ne 26, 3) := by decide +kernel
theorem d15_117 : decode prog_20_method_10_code 117 = .ok (.aload_n 0, 1) := by decide +kernel
theorem d15_118 : decode prog_20_method_10_code 118 = .ok (.getfield 27, 3) := by decide +kernel
theorem d15_121 : decode prog_20_method_10_code 121 = .ok (.aload_n 0, 1) := by decide +kernel
theorem d15_122 : decode prog_20_method_10_code 122 = .ok (.invokevirtual 86, 3) := by decide +kernel
theorem d15_125 : decode prog_20_method_10_code 125 = .ok (.iconst (-1), 1) := by decide +kernel
theorem d15_126 : decode prog_20_method_10_code 126 = .ok (.iastore, 1) := by decide +kernel
theorem d15_127 : decode prog_20_method_10_code 127 = .ok (.aload_n 0, 1) := by decide +kernel
theorem d15_128 : decode prog_20_method_10_code 128 = .ok (.dup, 1) := by decide +kernel
theorem d15_129 : decode prog_20_method_10_code 129 = .ok (.getfield 51, 3) := by decide +kernel
theorem d15_132 : decode prog_20_method_10_code 132 = .ok (.iconst 1, 1) := by decide +kernel
theorem d15_133 : decode prog_20_method_10_code 133 = .ok (.isub, 1) := by decide +kernel
theorem d15_134 : decode prog_20_method_10_code 134 = .ok (.putfield 51, 3) := by decide +kernel
theorem d15_137 : decode prog_20_method_10_code 137 = .ok (.goto 24, 3) := by decide +kernel
theorem d15_140 : decode prog_20_method_10_code 140 = .ok (.iload_n 2, 1) := by decide +kernel
theorem d15_141 : decode prog_20_method_10_code 141 = .ok (.ifCond .eq 15, 3) := by decide +kernel
theorem d15_144 : decode prog_20_method_10_code 144 = .ok (.aload_n 0, 1) := by decide +kernel
theorem d15_145 : decode prog_20_method_10_code 145 = .ok (.invokevirtual 109, 3) := by decide +kernel
theorem d15_148 : decode prog_20_method_10_code 148 = .ok (.aload_n 0, 1) := by decide +kernel
theorem d15_149 : decode prog_20_method_10_code 149 = .ok (.iload_n 1, 1) := by decide +kernel
theorem d15_150 : decode prog_20_method_10_code 150 = .ok (.invokevirtual 112, 3) := by decide +kernel
theorem d15_153 : decode prog_20_method_10_code 153 = .ok (.goto 8, 3) := by decide +kernel
theorem d15_156 : decode prog_20_method_10_code 156 = .ok (.aload_n 0, 1) := by decide +kernel
theorem d15_157 : decode prog_20_method_10_code 157 = .ok (.iload_n 1, 1) := by decide +kernel
theorem d15_158 : decode prog_20_method_10_code 158 = .ok (.invokevirtual 112, 3) := by decide +kernel
theorem d15_161 : decode prog_20_method_10_code 161 = .ok (.aload_n 0, 1) := by decide +kernel
theorem d15_162 : decode prog_20_method_10_code 162 = .ok (.getfield 36, 3) := by decide +kernel
theorem d15_165 : decode prog_20_method_10_code 165 = .ok (.getfield 54, 3) := by decide +kernel
theorem d15_168 : decode prog_20_method_10_code 168 = .ok (.iload_n 1, 1) := by decide +kernel
theorem d15_169 : decode prog_20_method_10_code 169 = .ok (.lconst 0, 1) := by decide +kernel
theorem d15_170 : decode prog_20_method_10_code 170 = .ok (.lastore, 1) := by decide +kernel
theorem d15_171 : decode prog_20_method_10_code 171 = .ok (.return_, 1) := by decide +kernel
theorem pn_15 : plainName "com/example/adfair/adfair/Ranking" = true := by first | (simp [plainName, overriddenIn]; done) | decide +kernel
theorem ef_rmReAE (m : MethodId) (x0 : Addr) (x1 : Int32) : entryFrame m #[(.ref x0), (.int x1)] 3 = mkF m 0 #[.val (.ref x0), .val (.int x1), .unset] [] := by first | (simp [entryFrame, mkF, argsToLocals, Value.category]; done) | rfl
def QReAE (Z : State) (r0 : Addr) (ii : Nat) (num : Int64) (pp : Addr) (pa : Addr) (ha : Addr) (qa : Addr) (cq : ClassId) (NN : Nat) (fH : Nat → Int64) (gP : Nat → Int32) (jj : Nat) (h0 : Heap) (n0 : Nat) (v : Option Value) (h : Heap) (L : List Loc) : Prop := v = none ∧ Fr n0 L ∧ Keep h0 h [r0, qa, ha] ∧ Fld Z h r0 "com/example/adfair/adfair/Ranking" "places" "Lcom/example/adfair/adfair/Ranking$Places;" (.ref pp) ∧ Fld Z h r0 "com/example/adfair/adfair/Ranking" "number" "J" (.long num) ∧ Fld Z h r0 "com/example/adfair/adfair/Ranking" "queued" "[I" (.ref qa) ∧ Fld Z h r0 "com/example/adfair/adfair/Ranking" "queueFirst" "I" (.int 1) ∧ Fld Z h r0 "com/example/adfair/adfair/Ranking" "queueSize" "I" (.int 1) ∧ own_LN Z h ha NN (own_upd fH ii (0 : Int64)) ∧ Arv Z h qa cq .int (16 : Int32) [(.int (-1)), (.int (Int32.ofNat jj)), (.int 0), (.int 0), (.int 0), (.int 0), (.int 0), (.int 0), (.int 0), (.int 0), (.int 0), (.int 0), (.int 0), (.int 0), (.int 0), (.int 0)] (.int 0)
set_option maxRecDepth 65536 in
set_option maxHeartbeats 40000000 in
theorem rmReAE (l : Launch) (Z : State) (a0 : Array Value) (hw : ∀ d ∈ tables_1, d.before a0 Z = true) (ws : List Jvm.Cond) (r0 : Addr) (ii : Nat) (num : Int64) (pp : Addr) (pa : Addr) (ha : Addr) (qa : Addr) (cq : ClassId) (NN : Nat) (fH : Nat → Int64) (gP : Nat → Int32) (jj : Nat) (h0 : Heap) (n0 : Nat) (Z0 : n0 ≤ h0.size) (u0 : Exa Z h0 r0 "com/example/adfair/adfair/Ranking") (u1 : Fld Z h0 r0 "com/example/adfair/adfair/Ranking" "places" "Lcom/example/adfair/adfair/Ranking$Places;" (.ref pp)) (u2 : Fld Z h0 r0 "com/example/adfair/adfair/Ranking" "number" "J" (.long num)) (u3 : Fld Z h0 r0 "com/example/adfair/adfair/Ranking" "queued" "[I" (.ref qa)) (u4 : Fld Z h0 r0 "com/example/adfair/adfair/Ranking" "queueFirst" "I" (.int 0)) (u5 : Fld Z h0 r0 "com/example/adfair/adfair/Ranking" "queueSize" "I" (.int 2)) (u6 : Fld Z h0 pp "com/example/adfair/adfair/Ranking$Places" "holder" "[J" (.ref ha)) (u7 : Fld Z h0 pp "com/example/adfair/adfair/Ranking$Places" "place" "[I" (.ref pa)) (u8 : own_LN Z h0 ha NN fH) (u9 : own_IN Z h0 pa NN gP) (u10 : Arv Z h0 qa cq .int (16 : Int32) [(.int (Int32.ofNat ii)), (.int (Int32.ofNat jj)), (.int 0), (.int 0), (.int 0), (.int 0), (.int 0), (.int 0), (.int 0), (.int 0), (.int 0), (.int 0), (.int 0), (.int 0), (.int 0), (.int 0)] (.int 0)) (ne_r0_pp : r0 ≠ pp) (ne_r0_pa : r0 ≠ pa) (ne_r0_ha : r0 ≠ ha) (ne_r0_qa : r0 ≠ qa) (ne_pp_pa : pp ≠ pa) (ne_pp_ha : pp ≠ ha) (ne_pp_qa : pp ≠ qa) (ne_pa_ha : pa ≠ ha) (ne_pa_qa : pa ≠ qa) (ne_ha_qa : ha ≠ qa) (g_r0 : n0 ≤ r0) (g_ha : n0 ≤ ha) (g_qa : n0 ≤ qa) (hi : ii < NN) (hN : NN ≤ 126) (hz : own_z fH NN) (hnum : ¬ num = 0) (hf : fH ii = num) (hg : gP ii = (-2 : Int32)) (hne : ¬ jj = ii) (hj : jj < 64) :
    MetFree l (⟨"com/example/adfair/adfair/Ranking", "remove", "(I)V"⟩ : MethodName) (head1 (Jvm.Cond.code (⟨"com/example/adfair/adfair/Ranking", "remove", "(I)V"⟩ : MethodName) prog_20_method_10_code 3 none :: ws) ({ frames := 1, cells := 0, slots := 0, locals := 20 } : Room)) (fun a U => a = #[(.ref r0), (.int (Int32.ofNat ii))] ∧ Z.Warmed39 U.vm ∧ U.heap = h0) (fun _ _ _ _ _ => True) (fun _ U o U' => ∃ v L, o = .returned v ∧ QReAE Z r0 ii num pp pa ha qa cq NN fH gP jj h0 n0 v U'.heap L ∧ FrameEnd U o U' L ({ frames := 1, cells := 0, slots := 0, locals := 20 } : Room).cells ({ frames := 1, cells := 0, slots := 0, locals := 20 } : Room).slots) := by
  refine MetFree.of_bodySF (plainFor_of_name pn_15) hisR ?_
  intro p e s m args below meth c s₁ Bd hml0 hP hK
  obtain ⟨rfl, hZ, hh⟩ := hP
  have hx := Bd.exec
  have hby := Bd.bytes
  have hml : c.maxLocals = 3 := hml0
  have hown : s.vm.findClass "com/example/adfair/adfair/Ranking" = some m.cls := findClass_of_methodNamed Bd.named
  have hnm := (name_of_methodNamed Bd.named Bd.method).1
  have X0 : Stand p l e ({ frames := 1, cells := 0, slots := 0, locals := 20 } : Room) s m #[(.ref r0), (.int (Int32.ofNat ii))] below meth c s₁ [] 0 0 := Stand.of_body Bd
  have e0 : s₁.heap = h0 := by rw [← hh, Bd.state]; rfl
  have N0 := Fr.nil n0
  refine own_open fun G hG => ?_
  refine own_go (B := s₁.setTop (mkF m 0 #[.val (.ref r0), .val (.int (Int32.ofNat ii)), .unset] [])) (fun t_ k_ => castTop (ef_rmReAE m r0 (Int32.ofNat ii)) k_) ?_
  have K0 : Keep h0 h0 [r0, qa, ha] := Keep.refl h0 _
  refine own_aloadN 1 X0.here hx (hb hby d15_0) rfl rfl rfl ?_
  refine own_iloadN 2 X0.here hx (hb hby d15_1) rfl rfl ?_
  obtain ⟨cq1142, kq1142, q1142a, q1142b, q1142c⟩ := isOf hZ e0 u0
  obtain ⟨vv1142, _, ⟨T1142, L1142, k1142, n1142⟩, -, X1142, ⟨Lc1142, hQ1142, l1142, y1142, z1142⟩, st1142⟩ := X0.virtualBack hx (y := (⟨"com/example/adfair/adfair/Ranking", "contains", "(I)Z"⟩ : MethodName)) (z := (⟨"com/example/adfair/adfair/Ranking", "contains", "(I)Z"⟩ : MethodName)) hown (mvT hZ (own_w 101 hw rfl)) (mvT hZ (own_w 92 hw rfl)) (notFace_of_selects (args := #[]) (mvT hZ (own_w 94 hw rfl))) (mvT hZ (own_w 94 hw rfl)) (mvT hZ (own_w 93 hw rfl)) (by decide) (backOf (W := 0) (rmCo l Z a0 hw [] r0 ii num pp ha NN fH h0 n0 Z0 u1 u2 u6 u8 (by omega) hN hz hnum) hZ (own_w 95 hw rfl) (own_w 17 hw rfl) (by decide) (by decide)) q1142a q1142c (g := (mkF m 2 #[.val (.ref r0), .val (.int (Int32.ofNat ii)), .unset] [(.int (Int32.ofNat ii)), (.ref r0)])) rfl (by rw [hml]; rfl) (Steps.refl _) (argsL := [(.int (Int32.ofNat ii))]) (rest := []) (lenOf pd__28_I_29_Z rfl) rfl (by show 2 * 0 + _ ≤ _; exact Nat.le_of_eq rfl) (hb hby d15_2) (fun _ _ => ⟨rfl, e0, (by decide : 0 + 0 ≤ _), (by decide : 0 + 0 ≤ _)⟩)
  dsimp only [Pt.U, Pt.locs, Pt.cells, Pt.slots] at X1142 l1142 y1142 z1142 st1142 hQ1142
  subst l1142 y1142 z1142
  obtain ⟨rfl, N1142q, e1142q⟩ := hQ1142
  have N1142 := Fr.app N0 N1142q
  refine own_s 5 [(.int (own_con fH ii num))] (fun _ k_ => st1142.trans k_) ?_
  refine own_s 22 [] (fun _ k_ => XS.ifYes X1142.here hx rfl (pc0 := 5) (pc' := 22) rfl (hb hby d15_5) rfl ((if0 _ _).trans (feq (by rw [own_con1 hf]; decide)).2) (by decide) (by decide) k_) ?_
  refine own_aloadN 23 X1142.here hx (hb hby d15_22) rfl rfl rfl ?_
  obtain ⟨T1143, X1143, e1143, st1143⟩ := getF X1142 hx hZ hown (host := "") (Or.inl (own_w 35 hw rfl)) Via.refl e1142q u1 (g := (mkF m 23 #[.val (.ref r0), .val (.int (Int32.ofNat ii)), .unset] [(.ref r0)])) rfl rfl (hb hby d15_23)
  refine own_s 26 [(.ref pp)] (fun _ k_ => st1143 _ k_) ?_
  obtain ⟨T1144, X1144, e1144, st1144⟩ := own_getR X1143 hx hZ hown (own_w 63 hw rfl) e1143 u7 (g := (mkF m 26 #[.val (.ref r0), .val (.int (Int32.ofNat ii)), .unset] [(.ref pp)])) rfl rfl (hb hby d15_26)
  refine own_s 29 [(.ref pa)] (fun _ k_ => st1144 _ k_) ?_
  refine own_iloadN 30 X1144.here hx (hb hby d15_29) rfl rfl ?_
  obtain ⟨cl1145, Ar1145, S1145, Hh1145⟩ := id u9
  have hat1145 : cl1145.slots[((Int32.ofNat ii)).toNatClampNeg]? = some (.int (gP ii)) := by rw [own_clamp (Nat.lt_trans hi (by omega))]; exact Hh1145 _ hi
  refine own_s 31 [(.int (gP ii))] (fun _ k_ => X1144.iaload hx (j := (Int32.ofNat ii)) (v := (.int (gP ii))) (by rw [e1144]; exact Ar1145.1) (State.isArrayOf_alike hZ.alike Ar1145.2.1) Ar1145.2.2 (own_inb S1145 (by omega) hi) hat1145 (g := (mkF m 30 #[.val (.ref r0), .val (.int (Int32.ofNat ii)), .unset] [(.int (Int32.ofNat ii)), (.ref pa)])) rfl rfl (hb hby d15_30) _ k_) ?_
  refine own_s 33 [(.int (-2)), (.int (gP ii))] (fun _ k_ => XS.bipush X1144.here hx rfl (hb hby d15_31) k_) ?_
  refine own_s 36 [] (fun _ k_ => XS.icmpNo X1144.here hx rfl (hb hby d15_33) rfl (teq hg).2 k_) ?_
  refine own_s 37 [(.int 1)] (fun _ k_ => XS.iconst X1144.here hx rfl (hb hby d15_36) k_) ?_
  refine own_s 41 [(.int 1)] (fun _ k_ => XS.goto X1144.here hx rfl (pc0 := 37) (pc' := 41) rfl (hb hby d15_37) (by decide) (by decide) k_) ?_
  refine own_istoreN 42 #[.val (.ref r0), .val (.int (Int32.ofNat ii)), .val (.int 1)] X1144.here hx (hb hby d15_41) rfl rfl ?_
  refine own_iloadN 43 X1144.here hx (hb hby d15_42) rfl rfl ?_
  refine own_s 46 [] (fun _ k_ => XS.ifNo X1144.here hx rfl (hb hby d15_43) rfl ((if0 _ _).trans (feq (by decide : ¬ ((1 : Int32) = (0 : Int32)))).1) k_) ?_
  refine own_aloadN 47 X1144.here hx (hb hby d15_46) rfl rfl rfl ?_
  obtain ⟨T1146, X1146, e1146, st1146⟩ := getF X1144 hx hZ hown (host := "") (Or.inl (own_w 29 hw rfl)) Via.refl e1144 u3 (g := (mkF m 47 #[.val (.ref r0), .val (.int (Int32.ofNat ii)), .val (.int 1)] [(.ref r0)])) rfl rfl (hb hby d15_47)
  refine own_s 50 [(.ref qa)] (fun _ k_ => st1146 _ k_) ?_
  refine own_aloadN 51 X1146.here hx (hb hby d15_50) rfl rfl rfl ?_
  obtain ⟨T1147, X1147, e1147, st1147⟩ := getF X1146 hx hZ hown (host := "") (Or.inl (own_w 55 hw rfl)) Via.refl e1146 u4 (g := (mkF m 51 #[.val (.ref r0), .val (.int (Int32.ofNat ii)), .val (.int 1)] [(.ref r0), (.ref qa)])) rfl rfl (hb hby d15_51)
  refine own_s 54 [(.int 0), (.ref qa)] (fun _ k_ => st1147 _ k_) ?_
  obtain ⟨cl1148, Ar1148, -, S1148, M1148, Hh1148, -⟩ := id u10
  have hin1148 : ¬ ((0 : Int32) < 0 ∨ cl1148.slots.size ≤ ((0 : Int32)).toNatClampNeg) := inb_of S1148 ⟨by decide, by decide⟩
  have hat1148 : cl1148.slots[((0 : Int32)).toNatClampNeg]? = some (.int (Int32.ofNat ii)) := Hh1148.at hin1148 rfl
  refine own_s 55 [(.int (Int32.ofNat ii))] (fun _ k_ => X1147.iaload hx (j := (0 : Int32)) (v := (.int (Int32.ofNat ii))) (by rw [e1147]; exact Ar1148.1) (State.isArrayOf_alike hZ.alike Ar1148.2.1) Ar1148.2.2 hin1148 hat1148 (g := (mkF m 54 #[.val (.ref r0), .val (.int (Int32.ofNat ii)), .val (.int 1)] [(.int 0), (.ref qa)])) rfl rfl (hb hby d15_54) _ k_) ?_
  refine own_iloadN 56 X1147.here hx (hb hby d15_55) rfl rfl ?_
  refine own_s 59 [] (fun _ k_ => XS.icmpNo X1147.here hx rfl (hb hby d15_56) rfl (teq rfl).2 k_) ?_
  refine own_aloadN 60 X1147.here hx (hb hby d15_59) rfl rfl rfl ?_
  obtain ⟨T1149, X1149, e1149, st1149⟩ := getF X1147 hx hZ hown (host := "") (Or.inl (own_w 29 hw rfl)) Via.refl e1147 u3 (g := (mkF m 60 #[.val (.ref r0), .val (.int (Int32.ofNat ii)), .val (.int 1)] [(.ref r0)])) rfl rfl (hb hby d15_60)
  refine own_s 63 [(.ref qa)] (fun _ k_ => st1149 _ k_) ?_
  refine own_aloadN 64 X1149.here hx (hb hby d15_63) rfl rfl rfl ?_
  obtain ⟨T1150, X1150, e1150, st1150⟩ := getF X1149 hx hZ hown (host := "") (Or.inl (own_w 55 hw rfl)) Via.refl e1149 u4 (g := (mkF m 64 #[.val (.ref r0), .val (.int (Int32.ofNat ii)), .val (.int 1)] [(.ref r0), (.ref qa)])) rfl rfl (hb hby d15_64)
  refine own_s 67 [(.int 0), (.ref qa)] (fun _ k_ => st1150 _ k_) ?_
  refine own_s 68 [(.int (-1)), (.int 0), (.ref qa)] (fun _ k_ => XS.iconst X1150.here hx rfl (hb hby d15_67) k_) ?_
  obtain ⟨cl1151, Ar1151, q1151, S1151, M1151, Hh1151, G1151⟩ := id u10
  obtain ⟨T1151, h1151, X1151, e1151, W1151, st1151⟩ := stI X1150 hx hZ e1150 Ar1151 (j := (0 : Int32)) (inb_of S1151 ⟨by decide, by decide⟩) (g := (mkF m 68 #[.val (.ref r0), .val (.int (Int32.ofNat ii)), .val (.int 1)] [(.int (-1)), (.int 0), (.ref qa)])) rfl rfl (hb hby d15_68)
  have f1152 := u0.wr W1151
  have f1153 := u1.other W1151 (Or.inl ne_r0_qa)
  have f1154 := u2.other W1151 (Or.inl ne_r0_qa)
  have f1155 := u3.other W1151 (Or.inl ne_r0_qa)
  have f1156 := u4.other W1151 (Or.inl ne_r0_qa)
  have f1157 := u5.other W1151 (Or.inl ne_r0_qa)
  have f1158 := u6.other W1151 (Or.inl ne_pp_qa)
  have f1160 := u8.other W1151 ne_ha_qa
  have f1162 : Arv Z h1151 qa cq .int (16 : Int32) [(.int (-1)), (.int (Int32.ofNat jj)), (.int 0), (.int 0), (.int 0), (.int 0), (.int 0), (.int 0), (.int 0), (.int 0), (.int 0), (.int 0), (.int 0), (.int 0), (.int 0), (.int 0)] (.int 0) := Arv.set Ar1151 q1151 S1151 M1151 Hh1151 G1151 rfl W1151 0 rfl (Nat.le_of_ble_eq_true rfl)
  have f1163 := K0.wr W1151 (Or.inl (List.mem_of_getElem? (i := 1) rfl))
  have Z1151 : n0 ≤ h1151.size := Nat.le_trans Z0 (Keep.of_wr W1151).1
  have N1151 := Fr.snoc X1151 N1142 g_qa
  refine own_s 69 [] (fun _ k_ => st1151 _ k_) ?_
  refine own_aloadN 70 X1151.here hx (hb hby d15_69) rfl rfl rfl ?_
  refine own_aloadN 71 X1151.here hx (hb hby d15_70) rfl rfl rfl ?_
  obtain ⟨T1164, X1164, e1164, st1164⟩ := getF X1151 hx hZ hown (host := "") (Or.inl (own_w 55 hw rfl)) Via.refl e1151 f1156 (g := (mkF m 71 #[.val (.ref r0), .val (.int (Int32.ofNat ii)), .val (.int 1)] [(.ref r0), (.ref r0)])) rfl rfl (hb hby d15_71)
  refine own_s 74 [(.int 0), (.ref r0)] (fun _ k_ => st1164 _ k_) ?_
  refine own_s 75 [(.int 1), (.int 0), (.ref r0)] (fun _ k_ => XS.iconst X1164.here hx rfl (hb hby d15_74) k_) ?_
  refine own_s 76 [(.int ((0 : Int32) + (1 : Int32))), (.ref r0)] (fun _ k_ => XS.iadd X1164.here hx rfl (hb hby d15_75) rfl k_) ?_
  rw [show ((0 : Int32) + (1 : Int32)) = (1 : Int32) from by decide]
  refine own_aloadN 77 X1164.here hx (hb hby d15_76) rfl rfl rfl ?_
  obtain ⟨T1165, X1165, e1165, st1165⟩ := getF X1164 hx hZ hown (host := "") (Or.inl (own_w 29 hw rfl)) Via.refl e1164 f1155 (g := (mkF m 77 #[.val (.ref r0), .val (.int (Int32.ofNat ii)), .val (.int 1)] [(.ref r0), (.int 1), (.ref r0)])) rfl rfl (hb hby d15_77)
  refine own_s 80 [(.ref qa), (.int 1), (.ref r0)] (fun _ k_ => st1165 _ k_) ?_
  obtain ⟨cl1166, Ar1166, -, S1166, M1166, -, -⟩ := id f1162
  refine own_go (B := T1165.setTop (mkF m 81 #[.val (.ref r0), .val (.int (Int32.ofNat ii)), .val (.int 1)] [(.int 16), (.int 1), (.ref r0)])) (fun t_ k_ => ?_) ?_
  · refine X1165.arraylength hx (by rw [e1165]; exact Ar1166.1) (State.isArrayOf_alike hZ.alike Ar1166.2.1) (g := (mkF m 80 #[.val (.ref r0), .val (.int (Int32.ofNat ii)), .val (.int 1)] [(.ref qa), (.int 1), (.ref r0)])) rfl rfl (hb hby d15_80) _ ?_
    rw [len_of S1166 M1166]
    exact k_
  refine own_s 82 [(.int 1), (.int 16), (.int 1), (.ref r0)] (fun _ k_ => XS.iconst X1165.here hx rfl (hb hby d15_81) k_) ?_
  refine own_s 83 [(.int ((16 : Int32) - (1 : Int32))), (.int 1), (.ref r0)] (fun _ k_ => XS.isub X1165.here hx rfl (hb hby d15_82) rfl k_) ?_
  rw [show ((16 : Int32) - (1 : Int32)) = (15 : Int32) from by decide]
  refine own_s 84 [(.int ((1 : Int32) &&& (15 : Int32))), (.ref r0)] (fun _ k_ => XS.iand X1165.here hx rfl (hb hby d15_83) rfl k_) ?_
  rw [show ((1 : Int32) &&& (15 : Int32)) = (1 : Int32) from by decide]
  obtain ⟨T1167, h1167, X1167, e1167, W1167, st1167⟩ := putF X1165 hx hZ hown (host := "") (Or.inl (own_w 55 hw rfl)) Via.refl e1165 f1156 f1152 (Or.inl (own_w 56 hw rfl)) (own_w 16 hw rfl) (ty := .int) (by decide) rfl rfl (g := (mkF m 84 #[.val (.ref r0), .val (.int (Int32.ofNat ii)), .val (.int 1)] [(.int 1), (.ref r0)])) rfl rfl (hb hby d15_84)
  have f1168 := f1152.wr W1167
  have f1169 := f1153.other W1167 (Or.inr (slot_ne (Or.inr (own_w 36 hw rfl)) (Or.inl (own_w 56 hw rfl)) (by decide) (t := (.object "com/example/adfair/adfair/Ranking$Places")) (t' := .int) (by decide) (by decide)))
  have f1170 := f1154.other W1167 (Or.inr (slot_ne (Or.inr (own_w 40 hw rfl)) (Or.inl (own_w 56 hw rfl)) (by decide) (t := .long) (t' := .int) (by decide) (by decide)))
  have f1171 := f1155.other W1167 (Or.inr (slot_ne (Or.inl (own_w 30 hw rfl)) (Or.inl (own_w 56 hw rfl)) (by decide) (t := (.array .int)) (t' := .int) (by decide) (by decide)))
  have f1172 : Fld Z h1167 r0 "com/example/adfair/adfair/Ranking" "queueFirst" "I" (.int 1) := f1156.same W1167
  have f1173 := f1157.other W1167 (Or.inr (slot_ne (Or.inl (own_w 58 hw rfl)) (Or.inl (own_w 56 hw rfl)) (by decide) (t := .int) (t' := .int) (by decide) (by decide)))
  have f1174 := f1158.other W1167 (Or.inl (Ne.symm ne_r0_pp))
  have f1176 := f1160.other W1167 (Ne.symm ne_r0_ha)
  have f1178 := f1162.other W1167 (Ne.symm ne_r0_qa)
  have f1179 := f1163.wr W1167 (Or.inl (List.mem_of_getElem? (i := 0) rfl))
  have Z1167 : n0 ≤ h1167.size := Nat.le_trans Z1151 (Keep.of_wr W1167).1
  have N1167 := Fr.snoc X1167 N1151 g_r0
  refine own_s 87 [] (fun _ k_ => st1167 _ k_) ?_
  refine own_aloadN 88 X1167.here hx (hb hby d15_87) rfl rfl rfl ?_
  refine own_s 89 [(.ref r0), (.ref r0)] (fun _ k_ => XS.dup X1167.here hx rfl (hb hby d15_88) rfl rfl k_) ?_
  obtain ⟨T1180, X1180, e1180, st1180⟩ := getF X1167 hx hZ hown (host := "") (Or.inl (own_w 57 hw rfl)) Via.refl e1167 f1173 (g := (mkF m 89 #[.val (.ref r0), .val (.int (Int32.ofNat ii)), .val (.int 1)] [(.ref r0), (.ref r0)])) rfl rfl (hb hby d15_89)
  refine own_s 92 [(.int 2), (.ref r0)] (fun _ k_ => st1180 _ k_) ?_
  refine own_s 93 [(.int 1), (.int 2), (.ref r0)] (fun _ k_ => XS.iconst X1180.here hx rfl (hb hby d15_92) k_) ?_
  refine own_s 94 [(.int ((2 : Int32) - (1 : Int32))), (.ref r0)] (fun _ k_ => XS.isub X1180.here hx rfl (hb hby d15_93) rfl k_) ?_
  rw [show ((2 : Int32) - (1 : Int32)) = (1 : Int32) from by decide]
  obtain ⟨T1181, h1181, X1181, e1181, W1181, st1181⟩ := putF X1180 hx hZ hown (host := "") (Or.inl (own_w 57 hw rfl)) Via.refl e1180 f1173 f1168 (Or.inl (own_w 58 hw rfl)) (own_w 16 hw rfl) (ty := .int) (by decide) rfl rfl (g := (mkF m 94 #[.val (.ref r0), .val (.int (Int32.ofNat ii)), .val (.int 1)] [(.int 1), (.ref r0)])) rfl rfl (hb hby d15_94)
  have f1183 := f1169.other W1181 (Or.inr (slot_ne (Or.inr (own_w 36 hw rfl)) (Or.inl (own_w 58 hw rfl)) (by decide) (t := (.object "com/example/adfair/adfair/Ranking$Places")) (t' := .int) (by decide) (by decide)))
  have f1184 := f1170.other W1181 (Or.inr (slot_ne (Or.inr (own_w 40 hw rfl)) (Or.inl (own_w 58 hw rfl)) (by decide) (t := .long) (t' := .int) (by decide) (by decide)))
  have f1185 := f1171.other W1181 (Or.inr (slot_ne (Or.inl (own_w 30 hw rfl)) (Or.inl (own_w 58 hw rfl)) (by decide) (t := (.array .int)) (t' := .int) (by decide) (by decide)))
  have f1186 := f1172.other W1181 (Or.inr (slot_ne (Or.inl (own_w 56 hw rfl)) (Or.inl (own_w 58 hw rfl)) (by decide) (t := .int) (t' := .int) (by decide) (by decide)))
  have f1187 : Fld Z h1181 r0 "com/example/adfair/adfair/Ranking" "queueSize" "I" (.int 1) := f1173.same W1181
  have f1188 := f1174.other W1181 (Or.inl (Ne.symm ne_r0_pp))
  have f1190 := f1176.other W1181 (Ne.symm ne_r0_ha)
  have f1192 := f1178.other W1181 (Ne.symm ne_r0_qa)
  have f1193 := f1179.wr W1181 (Or.inl (List.mem_of_getElem? (i := 0) rfl))
  have Z1181 : n0 ≤ h1181.size := Nat.le_trans Z1167 (Keep.of_wr W1181).1
  have N1181 := Fr.snoc X1181 N1167 g_r0
  refine own_s 97 [] (fun _ k_ => st1181 _ k_) ?_
  refine own_s 161 [] (fun _ k_ => XS.goto X1181.here hx rfl (pc0 := 97) (pc' := 161) rfl (hb hby d15_97) (by decide) (by decide) k_) ?_
  refine own_aloadN 162 X1181.here hx (hb hby d15_161) rfl rfl rfl ?_
  obtain ⟨T1194, X1194, e1194, st1194⟩ := getF X1181 hx hZ hown (host := "") (Or.inl (own_w 35 hw rfl)) Via.refl e1181 f1183 (g := (mkF m 162 #[.val (.ref r0), .val (.int (Int32.ofNat ii)), .val (.int 1)] [(.ref r0)])) rfl rfl (hb hby d15_162)
  refine own_s 165 [(.ref pp)] (fun _ k_ => st1194 _ k_) ?_
  obtain ⟨T1195, X1195, e1195, st1195⟩ := own_getR X1194 hx hZ hown (own_w 50 hw rfl) e1194 f1188 (g := (mkF m 165 #[.val (.ref r0), .val (.int (Int32.ofNat ii)), .val (.int 1)] [(.ref pp)])) rfl rfl (hb hby d15_165)
  refine own_s 168 [(.ref ha)] (fun _ k_ => st1195 _ k_) ?_
  refine own_iloadN 169 X1195.here hx (hb hby d15_168) rfl rfl ?_
  refine own_s 170 [(.long 0), (.int (Int32.ofNat ii)), (.ref ha)] (fun _ k_ => XS.lconst X1195.here hx rfl (hb hby d15_169) k_) ?_
  obtain ⟨cl1196, Ar1196, S1196, Hh1196⟩ := id f1190
  obtain ⟨T1196, h1196, X1196, e1196, W1196, st1196⟩ := stJ X1195 hx hZ e1195 Ar1196 (j := (Int32.ofNat ii)) (own_inb S1196 (by omega) hi) (g := (mkF m 170 #[.val (.ref r0), .val (.int (Int32.ofNat ii)), .val (.int 1)] [(.long 0), (.int (Int32.ofNat ii)), (.ref ha)])) rfl rfl (hb hby d15_170)
  rw [own_clamp (Nat.lt_trans hi (by omega))] at W1196
  have f1198 := f1183.other W1196 (Or.inl ne_r0_ha)
  have f1199 := f1184.other W1196 (Or.inl ne_r0_ha)
  have f1200 := f1185.other W1196 (Or.inl ne_r0_ha)
  have f1201 := f1186.other W1196 (Or.inl ne_r0_ha)
  have f1202 := f1187.other W1196 (Or.inl ne_r0_ha)
  have f1205 : own_LN Z h1196 ha NN (own_upd fH ii (0 : Int64)) := f1190.set W1196 hi
  have f1207 := f1192.other W1196 (Ne.symm ne_ha_qa)
  have f1208 := f1193.wr W1196 (Or.inl (List.mem_of_getElem? (i := 2) rfl))
  have Z1196 : n0 ≤ h1196.size := Nat.le_trans Z1181 (Keep.of_wr W1196).1
  have N1196 := Fr.snoc X1196 N1181 g_ha
  refine own_s 171 [] (fun _ k_ => st1196 _ k_) ?_
  obtain ⟨fs, hr, hrun, hended, hW, hsame⟩ := X1196.leave (v := none) (fun _ => rfl)
  refine own_at ?_ (hG _ _ ⟨hrun, hended, _, _, rfl, ?_, ⟨_, rfl⟩, hW, hsame.mono (by decide) (by decide)⟩)
  · show Steps p.tables e below (T1196.setTop (mkF m 171 #[.val (.ref r0), .val (.int (Int32.ofNat ii)), .val (.int 1)] [])) _
    exact X1196.returnOut hx Bd.returns (hb hby d15_171) hr
  · show QReAE Z r0 ii num pp pa ha qa cq NN fH gP jj h0 n0 _ T1196.heap _
    rw [e1196]
    exact ⟨rfl, N1196, f1208, f1198, f1199, f1200, f1201, f1202, f1205, f1207⟩
theorem ef_rmReAF (m : MethodId) (x0 : Addr) (x1 : Int32) : entryFrame m #[(.ref x0), (.int x1)] 3 = mkF m 0 #[.val (.ref x0), .val (.int x1), .unset] [] := by first | (simp [entryFrame, mkF, argsToLocals, Value.category]; done) | rfl
def QReAF (Z : State) (r0 : Addr) (ii : Nat) (num : Int64) (pp : Addr) (pa : Addr) (ha : Addr) (qa : Addr) (cq : ClassId) (NN : Nat) (fH : Nat → Int64) (gP : Nat → Int32) (jj : Nat) (h0 : Heap) (n0 : Nat) (v : Option Value) (h : Heap) (L : List Loc) : Prop := v = none ∧ Fr n0 L ∧ Keep h0 h [r0, qa, ha] ∧ Fld Z h r0 "com/example/adfair/adfair/Ranking" "places" "Lcom/example/adfair/adfair/Ranking$Places;" (.ref pp) ∧ Fld Z h r0 "com/example/adfair/adfair/Ranking" "number" "J" (.long num) ∧ Fld Z h r0 "com/example/adfair/adfair/Ranking" "queued" "[I" (.ref qa) ∧ Fld Z h r0 "com/example/adfair/adfair/Ranking" "queueFirst" "I" (.int 15) ∧ Fld Z h r0 "com/example/adfair/adfair/Ranking" "queueSize" "I" (.int 1) ∧ own_LN Z h ha NN (own_upd fH ii (0 : Int64)) ∧ Arv Z h qa cq .int (16 : Int32) [(.int (-1)), (.int 0), (.int 0), (.int 0), (.int 0), (.int 0), (.int 0), (.int 0), (.int 0), (.int 0), (.int 0), (.int 0), (.int 0), (.int 0), (.int 0), (.int (Int32.ofNat jj))] (.int 0)
set_option maxRecDepth 65536 in
set_option maxHeartbeats 40000000 in
theorem rmReAF (l : Launch) (Z : State) (a0 : Array Value) (hw : ∀ d ∈ tables_1, d.before a0 Z = true) (ws : List Jvm.Cond) (r0 : Addr) (ii : Nat) (num : Int64) (pp : Addr) (pa : Addr) (ha : Addr) (qa : Addr) (cq : ClassId) (NN : Nat) (fH : Nat → Int64) (gP : Nat → Int32) (jj : Nat) (h0 : Heap) (n0 : Nat) (Z0 : n0 ≤ h0.size) (u0 : Exa Z h0 r0 "com/example/adfair/adfair/Ranking") (u1 : Fld Z h0 r0 "com/example/adfair/adfair/Ranking" "places" "Lcom/example/adfair/adfair/Ranking$Places;" (.ref pp)) (u2 : Fld Z h0 r0 "com/example/adfair/adfair/Ranking" "number" "J" (.long num)) (u3 : Fld Z h0 r0 "com/example/adfair/adfair/Ranking" "queued" "[I" (.ref qa)) (u4 : Fld Z h0 r0 "com/example/adfair/adfair/Ranking" "queueFirst" "I" (.int 15)) (u5 : Fld Z h0 r0 "com/example/adfair/adfair/Ranking" "queueSize" "I" (.int 2)) (u6 : Fld Z h0 pp "com/example/adfair/adfair/Ranking$Places" "holder" "[J" (.ref ha)) (u7 : Fld Z h0 pp "com/example/adfair/adfair/Ranking$Places" "place" "[I" (.ref pa)) (u8 : own_LN Z h0 ha NN fH) (u9 : own_IN Z h0 pa NN gP) (u10 : Arv Z h0 qa cq .int (16 : Int32) [(.int (Int32.ofNat ii)), (.int 0), (.int 0), (.int 0), (.int 0), (.int 0), (.int 0), (.int 0), (.int 0), (.int 0), (.int 0), (.int 0), (.int 0), (.int 0), (.int 0), (.int (Int32.ofNat jj))] (.int 0)) (ne_r0_pp : r0 ≠ pp) (ne_r0_pa : r0 ≠ pa) (ne_r0_ha : r0 ≠ ha) (ne_r0_qa : r0 ≠ qa) (ne_pp_pa : pp ≠ pa) (ne_pp_ha : pp ≠ ha) (ne_pp_qa : pp ≠ qa) (ne_pa_ha : pa ≠ ha) (ne_pa_qa : pa ≠ qa) (ne_ha_qa : ha ≠ qa) (g_r0 : n0 ≤ r0) (g_ha : n0 ≤ ha) (g_qa : n0 ≤ qa) (hi : ii < NN) (hN : NN ≤ 126) (hz : own_z fH NN) (hnum : ¬ num = 0) (hf : fH ii = num) (hg : gP ii = (-2 : Int32)) (hne : ¬ jj = ii) (hj : jj < 64) :
    MetFree l (⟨"com/example/adfair/adfair/Ranking", "remove", "(I)V"⟩ : MethodName) (head1 (Jvm.Cond.code (⟨"com/example/adfair/adfair/Ranking", "remove", "(I)V"⟩ : MethodName) prog_20_method_10_code 3 none :: ws) ({ frames := 1, cells := 0, slots := 0, locals := 20 } : Room)) (fun a U => a = #[(.ref r0), (.int (Int32.ofNat ii))] ∧ Z.Warmed39 U.vm ∧ U.heap = h0) (fun _ _ _ _ _ => True) (fun _ U o U' => ∃ v L, o = .returned v ∧ QReAF Z r0 ii num pp pa ha qa cq NN fH gP jj h0 n0 v U'.heap L ∧ FrameEnd U o U' L ({ frames := 1, cells := 0, slots := 0, locals := 20 } : Room).cells ({ frames := 1, cells := 0, slots := 0, locals := 20 } : Room).slots) := by
  refine MetFree.of_bodySF (plainFor_of_name pn_15) hisR ?_
  intro p e s m args below meth c s₁ Bd hml0 hP hK
  obtain ⟨rfl, hZ, hh⟩ := hP
  have hx := Bd.exec
  have hby := Bd.bytes
  have hml : c.maxLocals = 3 := hml0
  have hown : s.vm.findClass "com/example/adfair/adfair/Ranking" = some m.cls := findClass_of_methodNamed Bd.named
  have hnm := (name_of_methodNamed Bd.named Bd.method).1
  have X0 : Stand p l e ({ frames := 1, cells := 0, slots := 0, locals := 20 } : Room) s m #[(.ref r0), (.int (Int32.ofNat ii))] below meth c s₁ [] 0 0 := Stand.of_body Bd
  have e0 : s₁.heap = h0 := by rw [← hh, Bd.state]; rfl
  have N0 := Fr.nil n0
  refine own_open fun G hG => ?_
  refine own_go (B := s₁.setTop (mkF m 0 #[.val (.ref r0), .val (.int (Int32.ofNat ii)), .unset] [])) (fun t_ k_ => castTop (ef_rmReAF m r0 (Int32.ofNat ii)) k_) ?_
  have K0 : Keep h0 h0 [r0, qa, ha] := Keep.refl h0 _
  refine own_aloadN 1 X0.here hx (hb hby d15_0) rfl rfl rfl ?_
  refine own_iloadN 2 X0.here hx (hb hby d15_1) rfl rfl ?_
  obtain ⟨cq1210, kq1210, q1210a, q1210b, q1210c⟩ := isOf hZ e0 u0
  obtain ⟨vv1210, _, ⟨T1210, L1210, k1210, n1210⟩, -, X1210, ⟨Lc1210, hQ1210, l1210, y1210, z1210⟩, st1210⟩ := X0.virtualBack hx (y := (⟨"com/example/adfair/adfair/Ranking", "contains", "(I)Z"⟩ : MethodName)) (z := (⟨"com/example/adfair/adfair/Ranking", "contains", "(I)Z"⟩ : MethodName)) hown (mvT hZ (own_w 101 hw rfl)) (mvT hZ (own_w 92 hw rfl)) (notFace_of_selects (args := #[]) (mvT hZ (own_w 94 hw rfl))) (mvT hZ (own_w 94 hw rfl)) (mvT hZ (own_w 93 hw rfl)) (by decide) (backOf (W := 0) (rmCo l Z a0 hw [] r0 ii num pp ha NN fH h0 n0 Z0 u1 u2 u6 u8 (by omega) hN hz hnum) hZ (own_w 95 hw rfl) (own_w 17 hw rfl) (by decide) (by decide)) q1210a q1210c (g := (mkF m 2 #[.val (.ref r0), .val (.int (Int32.ofNat ii)), .unset] [(.int (Int32.ofNat ii)), (.ref r0)])) rfl (by rw [hml]; rfl) (Steps.refl _) (argsL := [(.int (Int32.ofNat ii))]) (rest := []) (lenOf pd__28_I_29_Z rfl) rfl (by show 2 * 0 + _ ≤ _; exact Nat.le_of_eq rfl) (hb hby d15_2) (fun _ _ => ⟨rfl, e0, (by decide : 0 + 0 ≤ _), (by decide : 0 + 0 ≤ _)⟩)
  dsimp only [Pt.U, Pt.locs, Pt.cells, Pt.slots] at X1210 l1210 y1210 z1210 st1210 hQ1210
  subst l1210 y1210 z1210
  obtain ⟨rfl, N1210q, e1210q⟩ := hQ1210
  have N1210 := Fr.app N0 N1210q
  refine own_s 5 [(.int (own_con fH ii num))] (fun _ k_ => st1210.trans k_) ?_
  refine own_s 22 [] (fun _ k_ => XS.ifYes X1210.here hx rfl (pc0 := 5) (pc' := 22) rfl (hb hby d15_5) rfl ((if0 _ _).trans (feq (by rw [own_con1 hf]; decide)).2) (by decide) (by decide) k_) ?_
  refine own_aloadN 23 X1210.here hx (hb hby d15_22) rfl rfl rfl ?_
  obtain ⟨T1211, X1211, e1211, st1211⟩ := getF X1210 hx hZ hown (host := "") (Or.inl (own_w 35 hw rfl)) Via.refl e1210q u1 (g := (mkF m 23 #[.val (.ref r0), .val (.int (Int32.ofNat ii)), .unset] [(.ref r0)])) rfl rfl (hb hby d15_23)
  refine own_s 26 [(.ref pp)] (fun _ k_ => st1211 _ k_) ?_
  obtain ⟨T1212, X1212, e1212, st1212⟩ := own_getR X1211 hx hZ hown (own_w 63 hw rfl) e1211 u7 (g := (mkF m 26 #[.val (.ref r0), .val (.int (Int32.ofNat ii)), .unset] [(.ref pp)])) rfl rfl (hb hby d15_26)
  refine own_s 29 [(.ref pa)] (fun _ k_ => st1212 _ k_) ?_
  refine own_iloadN 30 X1212.here hx (hb hby d15_29) rfl rfl ?_
  obtain ⟨cl1213, Ar1213, S1213, Hh1213⟩ := id u9
  have hat1213 : cl1213.slots[((Int32.ofNat ii)).toNatClampNeg]? = some (.int (gP ii)) := by rw [own_clamp (Nat.lt_trans hi (by omega))]; exact Hh1213 _ hi
  refine own_s 31 [(.int (gP ii))] (fun _ k_ => X1212.iaload hx (j := (Int32.ofNat ii)) (v := (.int (gP ii))) (by rw [e1212]; exact Ar1213.1) (State.isArrayOf_alike hZ.alike Ar1213.2.1) Ar1213.2.2 (own_inb S1213 (by omega) hi) hat1213 (g := (mkF m 30 #[.val (.ref r0), .val (.int (Int32.ofNat ii)), .unset] [(.int (Int32.ofNat ii)), (.ref pa)])) rfl rfl (hb hby d15_30) _ k_) ?_
  refine own_s 33 [(.int (-2)), (.int (gP ii))] (fun _ k_ => XS.bipush X1212.here hx rfl (hb hby d15_31) k_) ?_
  refine own_s 36 [] (fun _ k_ => XS.icmpNo X1212.here hx rfl (hb hby d15_33) rfl (teq hg).2 k_) ?_
  refine own_s 37 [(.int 1)] (fun _ k_ => XS.iconst X1212.here hx rfl (hb hby d15_36) k_) ?_
  refine own_s 41 [(.int 1)] (fun _ k_ => XS.goto X1212.here hx rfl (pc0 := 37) (pc' := 41) rfl (hb hby d15_37) (by decide) (by decide) k_) ?_
  refine own_istoreN 42 #[.val (.ref r0), .val (.int (Int32.ofNat ii)), .val (.int 1)] X1212.here hx (hb hby d15_41) rfl rfl ?_
  refine own_iloadN 43 X1212.here hx (hb hby d15_42) rfl rfl ?_
  refine own_s 46 [] (fun _ k_ => XS.ifNo X1212.here hx rfl (hb hby d15_43) rfl ((if0 _ _).trans (feq (by decide : ¬ ((1 : Int32) = (0 : Int32)))).1) k_) ?_
  refine own_aloadN 47 X1212.here hx (hb hby d15_46) rfl rfl rfl ?_
  obtain ⟨T1214, X1214, e1214, st1214⟩ := getF X1212 hx hZ hown (host := "") (Or.inl (own_w 29 hw rfl)) Via.refl e1212 u3 (g := (mkF m 47 #[.val (.ref r0), .val (.int (Int32.ofNat ii)), .val (.int 1)] [(.ref r0)])) rfl rfl (hb hby d15_47)
  refine own_s 50 [(.ref qa)] (fun _ k_ => st1214 _ k_) ?_
  refine own_aloadN 51 X1214.here hx (hb hby d15_50) rfl rfl rfl ?_
  obtain ⟨T1215, X1215, e1215, st1215⟩ := getF X1214 hx hZ hown (host := "") (Or.inl (own_w 55 hw rfl)) Via.refl e1214 u4 (g := (mkF m 51 #[.val (.ref r0), .val (.int (Int32.ofNat ii)), .val (.int 1)] [(.ref r0), (.ref qa)])) rfl rfl (hb hby d15_51)
  refine own_s 54 [(.int 15), (.ref qa)] (fun _ k_ => st1215 _ k_) ?_
  obtain ⟨cl1216, Ar1216, -, S1216, M1216, Hh1216, -⟩ := id u10
  have hin1216 : ¬ ((15 : Int32) < 0 ∨ cl1216.slots.size ≤ ((15 : Int32)).toNatClampNeg) := inb_of S1216 ⟨by decide, by decide⟩
  have hat1216 : cl1216.slots[((15 : Int32)).toNatClampNeg]? = some (.int (Int32.ofNat jj)) := Hh1216.at hin1216 rfl
  refine own_s 55 [(.int (Int32.ofNat jj))] (fun _ k_ => X1215.iaload hx (j := (15 : Int32)) (v := (.int (Int32.ofNat jj))) (by rw [e1215]; exact Ar1216.1) (State.isArrayOf_alike hZ.alike Ar1216.2.1) Ar1216.2.2 hin1216 hat1216 (g := (mkF m 54 #[.val (.ref r0), .val (.int (Int32.ofNat ii)), .val (.int 1)] [(.int 15), (.ref qa)])) rfl rfl (hb hby d15_54) _ k_) ?_
  refine own_iloadN 56 X1215.here hx (hb hby d15_55) rfl rfl ?_
  refine own_s 100 [] (fun _ k_ => XS.icmpYes X1215.here hx rfl (pc0 := 56) (pc' := 100) rfl (hb hby d15_56) rfl (feq (fun q => hne ((own_inj (by omega) (by omega)).mp q))).2 (by decide) (by decide) k_) ?_
  refine own_iloadN 101 X1215.here hx (hb hby d15_100) rfl rfl ?_
  refine own_s 104 [] (fun _ k_ => XS.ifNo X1215.here hx rfl (hb hby d15_101) rfl ((if0 _ _).trans (feq (by decide : ¬ ((1 : Int32) = (0 : Int32)))).1) k_) ?_
  refine own_aloadN 105 X1215.here hx (hb hby d15_104) rfl rfl rfl ?_
  obtain ⟨T1217, X1217, e1217, st1217⟩ := getF X1215 hx hZ hown (host := "") (Or.inl (own_w 29 hw rfl)) Via.refl e1215 u3 (g := (mkF m 105 #[.val (.ref r0), .val (.int (Int32.ofNat ii)), .val (.int 1)] [(.ref r0)])) rfl rfl (hb hby d15_105)
  refine own_s 108 [(.ref qa)] (fun _ k_ => st1217 _ k_) ?_
  refine own_aloadN 109 X1217.here hx (hb hby d15_108) rfl rfl rfl ?_
  obtain ⟨vv1218, _, ⟨T1218, L1218, k1218, n1218⟩, -, X1218, ⟨Lc1218, hQ1218, l1218, y1218, z1218⟩, st1218⟩ := own_privL X1217 hx hZ (y := (⟨"com/example/adfair/adfair/Ranking", "lastQueued", "()I"⟩ : MethodName)) hown (own_w 51 hw rfl) (own_w 52 hw rfl) (own_w 53 hw rfl) (own_w 16 hw rfl) (own_w 54 hw rfl) (by decide) (backOf (W := 1) (rmLQ_15_2 l Z a0 hw [] r0 qa cq ([(.int (Int32.ofNat ii)), (.int 0), (.int 0), (.int 0), (.int 0), (.int 0), (.int 0), (.int 0), (.int 0), (.int 0), (.int 0), (.int 0), (.int 0), (.int 0), (.int 0), (.int (Int32.ofNat jj))]) h0 n0 Z0 u4 u5 u3 u10) hZ (own_w 54 hw rfl) (own_w 17 hw rfl) (by decide) (by decide)) (g := (mkF m 109 #[.val (.ref r0), .val (.int (Int32.ofNat ii)), .val (.int 1)] [(.ref r0), (.ref qa)])) rfl (by rw [hml]; rfl) e1217 u0 (argsL := []) (rest := [(.ref qa)]) (lenOf pd__28__29_I rfl) rfl (by show 2 * 0 + _ ≤ _; exact Nat.le_of_eq rfl) (hb hby d15_109) (fun _ _ => ⟨rfl, e1217, (by decide : 0 + 0 ≤ _), (by decide : 0 + 0 ≤ _)⟩)
  dsimp only [Pt.U, Pt.locs, Pt.cells, Pt.slots] at X1218 l1218 y1218 z1218 st1218 hQ1218
  subst l1218 y1218 z1218
  obtain ⟨rfl, N1218q, e1218q⟩ := hQ1218
  have N1218 := Fr.app N1210 N1218q
  refine own_s 112 [(.int 0), (.ref qa)] (fun _ k_ => st1218.trans k_) ?_
  obtain ⟨cl1219, Ar1219, -, S1219, M1219, Hh1219, -⟩ := id u10
  have hin1219 : ¬ ((0 : Int32) < 0 ∨ cl1219.slots.size ≤ ((0 : Int32)).toNatClampNeg) := inb_of S1219 ⟨by decide, by decide⟩
  have hat1219 : cl1219.slots[((0 : Int32)).toNatClampNeg]? = some (.int (Int32.ofNat ii)) := Hh1219.at hin1219 rfl
  refine own_s 113 [(.int (Int32.ofNat ii))] (fun _ k_ => X1218.iaload hx (j := (0 : Int32)) (v := (.int (Int32.ofNat ii))) (by rw [e1218q]; exact Ar1219.1) (State.isArrayOf_alike hZ.alike Ar1219.2.1) Ar1219.2.2 hin1219 hat1219 (g := (mkF m 112 #[.val (.ref r0), .val (.int (Int32.ofNat ii)), .val (.int 1)] [(.int 0), (.ref qa)])) rfl rfl (hb hby d15_112) _ k_) ?_
  refine own_iloadN 114 X1218.here hx (hb hby d15_113) rfl rfl ?_
  refine own_s 117 [] (fun _ k_ => XS.icmpNo X1218.here hx rfl (hb hby d15_114) rfl (teq rfl).2 k_) ?_
  refine own_aloadN 118 X1218.here hx (hb hby d15_117) rfl rfl rfl ?_
  obtain ⟨T1220, X1220, e1220, st1220⟩ := getF X1218 hx hZ hown (host := "") (Or.inl (own_w 29 hw rfl)) Via.refl e1218q u3 (g := (mkF m 118 #[.val (.ref r0), .val (.int (Int32.ofNat ii)), .val (.int 1)] [(.ref r0)])) rfl rfl (hb hby d15_118)
  refine own_s 121 [(.ref qa)] (fun _ k_ => st1220 _ k_) ?_
  refine own_aloadN 122 X1220.here hx (hb hby d15_121) rfl rfl rfl ?_
  obtain ⟨vv1221, _, ⟨T1221, L1221, k1221, n1221⟩, -, X1221, ⟨Lc1221, hQ1221, l1221, y1221, z1221⟩, st1221⟩ := own_privL X1220 hx hZ (y := (⟨"com/example/adfair/adfair/Ranking", "lastQueued", "()I"⟩ : MethodName)) hown (own_w 51 hw rfl) (own_w 52 hw rfl) (own_w 53 hw rfl) (own_w 16 hw rfl) (own_w 54 hw rfl) (by decide) (backOf (W := 1) (rmLQ_15_2 l Z a0 hw [] r0 qa cq ([(.int (Int32.ofNat ii)), (.int 0), (.int 0), (.int 0), (.int 0), (.int 0), (.int 0), (.int 0), (.int 0), (.int 0), (.int 0), (.int 0), (.int 0), (.int 0), (.int 0), (.int (Int32.ofNat jj))]) h0 n0 Z0 u4 u5 u3 u10) hZ (own_w 54 hw rfl) (own_w 17 hw rfl) (by decide) (by decide)) (g := (mkF m 122 #[.val (.ref r0), .val (.int (Int32.ofNat ii)), .val (.int 1)] [(.ref r0), (.ref qa)])) rfl (by rw [hml]; rfl) e1220 u0 (argsL := []) (rest := [(.ref qa)]) (lenOf pd__28__29_I rfl) rfl (by show 2 * 0 + _ ≤ _; exact Nat.le_of_eq rfl) (hb hby d15_122) (fun _ _ => ⟨rfl, e1220, (by decide : 0 + 0 ≤ _), (by decide : 0 + 0 ≤ _)⟩)
  dsimp only [Pt.U, Pt.locs, Pt.cells, Pt.slots] at X1221 l1221 y1221 z1221 st1221 hQ1221
  subst l1221 y1221 z1221
  obtain ⟨rfl, N1221q, e1221q⟩ := hQ1221
  have N1221 := Fr.app N1218 N1221q
  refine own_s 125 [(.int 0), (.ref qa)] (fun _ k_ => st1221.trans k_) ?_
  refine own_s 126 [(.int (-1)), (.int 0), (.ref qa)] (fun _ k_ => XS.iconst X1221.here hx rfl (hb hby d15_125) k_) ?_
  obtain ⟨cl1222, Ar1222, q1222, S1222, M1222, Hh1222, G1222⟩ := id u10
  obtain ⟨T1222, h1222, X1222, e1222, W1222, st1222⟩ := stI X1221 hx hZ e1221q Ar1222 (j := (0 : Int32)) (inb_of S1222 ⟨by decide, by decide⟩) (g := (mkF m 126 #[.val (.ref r0), .val (.int (Int32.ofNat ii)), .val (.int 1)] [(.int (-1)), (.int 0), (.ref qa)])) rfl rfl (hb hby d15_126)
  have f1223 := u0.wr W1222
  have f1224 := u1.other W1222 (Or.inl ne_r0_qa)
  have f1225 := u2.other W1222 (Or.inl ne_r0_qa)
  have f1226 := u3.other W1222 (Or.inl ne_r0_qa)
  have f1227 := u4.other W1222 (Or.inl ne_r0_qa)
  have f1228 := u5.other W1222 (Or.inl ne_r0_qa)
  have f1229 := u6.other W1222 (Or.inl ne_pp_qa)
  have f1231 := u8.other W1222 ne_ha_qa
  have f1233 : Arv Z h1222 qa cq .int (16 : Int32) [(.int (-1)), (.int 0), (.int 0), (.int 0), (.int 0), (.int 0), (.int 0), (.int 0), (.int 0), (.int 0), (.int 0), (.int 0), (.int 0), (.int 0), (.int 0), (.int (Int32.ofNat jj))] (.int 0) := Arv.set Ar1222 q1222 S1222 M1222 Hh1222 G1222 rfl W1222 0 rfl (Nat.le_of_ble_eq_true rfl)
  have f1234 := K0.wr W1222 (Or.inl (List.mem_of_getElem? (i := 1) rfl))
  have Z1222 : n0 ≤ h1222.size := Nat.le_trans Z0 (Keep.of_wr W1222).1
  have N1222 := Fr.snoc X1222 N1221 g_qa
  refine own_s 127 [] (fun _ k_ => st1222 _ k_) ?_
  refine own_aloadN 128 X1222.here hx (hb hby d15_127) rfl rfl rfl ?_
  refine own_s 129 [(.ref r0), (.ref r0)] (fun _ k_ => XS.dup X1222.here hx rfl (hb hby d15_128) rfl rfl k_) ?_
  obtain ⟨T1235, X1235, e1235, st1235⟩ := getF X1222 hx hZ hown (host := "") (Or.inl (own_w 57 hw rfl)) Via.refl e1222 f1228 (g := (mkF m 129 #[.val (.ref r0), .val (.int (Int32.ofNat ii)), .val (.int 1)] [(.ref r0), (.ref r0)])) rfl rfl (hb hby d15_129)
  refine own_s 132 [(.int 2), (.ref r0)] (fun _ k_ => st1235 _ k_) ?_
  refine own_s 133 [(.int 1), (.int 2), (.ref r0)] (fun _ k_ => XS.iconst X1235.here hx rfl (hb hby d15_132) k_) ?_
  refine own_s 134 [(.int ((2 : Int32) - (1 : Int32))), (.ref r0)] (fun _ k_ => XS.isub X1235.here hx rfl (hb hby d15_133) rfl k_) ?_
  rw [show ((2 : Int32) - (1 : Int32)) = (1 : Int32) from by decide]
  obtain ⟨T1236, h1236, X1236, e1236, W1236, st1236⟩ := putF X1235 hx hZ hown (host := "") (Or.inl (own_w 57 hw rfl)) Via.refl e1235 f1228 f1223 (Or.inl (own_w 58 hw rfl)) (own_w 16 hw rfl) (ty := .int) (by decide) rfl rfl (g := (mkF m 134 #[.val (.ref r0), .val (.int (Int32.ofNat ii)), .val (.int 1)] [(.int 1), (.ref r0)])) rfl rfl (hb hby d15_134)
  have f1238 := f1224.other W1236 (Or.inr (slot_ne (Or.inr (own_w 36 hw rfl)) (Or.inl (own_w 58 hw rfl)) (by decide) (t := (.object "com/example/adfair/adfair/Ranking$Places")) (t' := .int) (by decide) (by decide)))
  have f1239 := f1225.other W1236 (Or.inr (slot_ne (Or.inr (own_w 40 hw rfl)) (Or.inl (own_w 58 hw rfl)) (by decide) (t := .long) (t' := .int) (by decide) (by decide)))
  have f1240 := f1226.other W1236 (Or.inr (slot_ne (Or.inl (own_w 30 hw rfl)) (Or.inl (own_w 58 hw rfl)) (by decide) (t := (.array .int)) (t' := .int) (by decide) (by decide)))
  have f1241 := f1227.other W1236 (Or.inr (slot_ne (Or.inl (own_w 56 hw rfl)) (Or.inl (own_w 58 hw rfl)) (by decide) (t := .int) (t' := .int) (by decide) (by decide)))
  have f1242 : Fld Z h1236 r0 "com/example/adfair/adfair/Ranking" "queueSize" "I" (.int 1) := f1228.same W1236
  have f1243 := f1229.other W1236 (Or.inl (Ne.symm ne_r0_pp))
  have f1245 := f1231.other W1236 (Ne.symm ne_r0_ha)
  have f1247 := f1233.other W1236 (Ne.symm ne_r0_qa)
  have f1248 := f1234.wr W1236 (Or.inl (List.mem_of_getElem? (i := 0) rfl))
  have Z1236 : n0 ≤ h1236.size := Nat.le_trans Z1222 (Keep.of_wr W1236).1
  have N1236 := Fr.snoc X1236 N1222 g_r0
  refine own_s 137 [] (fun _ k_ => st1236 _ k_) ?_
  refine own_s 161 [] (fun _ k_ => XS.goto X1236.here hx rfl (pc0 := 137) (pc' := 161) rfl (hb hby d15_137) (by decide) (by decide) k_) ?_
  refine own_aloadN 162 X1236.here hx (hb hby d15_161) rfl rfl rfl ?_
  obtain ⟨T1249, X1249, e1249, st1249⟩ := getF X1236 hx hZ hown (host := "") (Or.inl (own_w 35 hw rfl)) Via.refl e1236 f1238 (g := (mkF m 162 #[.val (.ref r0), .val (.int (Int32.ofNat ii)), .val (.int 1)] [(.ref r0)])) rfl rfl (hb hby d15_162)
  refine own_s 165 [(.ref pp)] (fun _ k_ => st1249 _ k_) ?_
  obtain ⟨T1250, X1250, e1250, st1250⟩ := own_getR X1249 hx hZ hown (own_w 50 hw rfl) e1249 f1243 (g := (mkF m 165 #[.val (.ref r0), .val (.int (Int32.ofNat ii)), .val (.int 1)] [(.ref pp)])) rfl rfl (hb hby d15_165)
  refine own_s 168 [(.ref ha)] (fun _ k_ => st1250 _ k_) ?_
  refine own_iloadN 169 X1250.here hx (hb hby d15_168) rfl rfl ?_
  refine own_s 170 [(.long 0), (.int (Int32.ofNat ii)), (.ref ha)] (fun _ k_ => XS.lconst X1250.here hx rfl (hb hby d15_169) k_) ?_
  obtain ⟨cl1251, Ar1251, S1251, Hh1251⟩ := id f1245
  obtain ⟨T1251, h1251, X1251, e1251, W1251, st1251⟩ := stJ X1250 hx hZ e1250 Ar1251 (j := (Int32.ofNat ii)) (own_inb S1251 (by omega) hi) (g := (mkF m 170 #[.val (.ref r0), .val (.int (Int32.ofNat ii)), .val (.int 1)] [(.long 0), (.int (Int32.ofNat ii)), (.ref ha)])) rfl rfl (hb hby d15_170)
  rw [own_clamp (Nat.lt_trans hi (by omega))] at W1251
  have f1253 := f1238.other W1251 (Or.inl ne_r0_ha)
  have f1254 := f1239.other W1251 (Or.inl ne_r0_ha)
  have f1255 := f1240.other W1251 (Or.inl ne_r0_ha)
  have f1256 := f1241.other W1251 (Or.inl ne_r0_ha)
  have f1257 := f1242.other W1251 (Or.inl ne_r0_ha)
  have f1260 : own_LN Z h1251 ha NN (own_upd fH ii (0 : Int64)) := f1245.set W1251 hi
  have f1262 := f1247.other W1251 (Ne.symm ne_ha_qa)
  have f1263 := f1248.wr W1251 (Or.inl (List.mem_of_getElem? (i := 2) rfl))
  have Z1251 : n0 ≤ h1251.size := Nat.le_trans Z1236 (Keep.of_wr W1251).1
  have N1251 := Fr.snoc X1251 N1236 g_ha
  refine own_s 171 [] (fun _ k_ => st1251 _ k_) ?_
  obtain ⟨fs, hr, hrun, hended, hW, hsame⟩ := X1251.leave (v := none) (fun _ => rfl)
  refine own_at ?_ (hG _ _ ⟨hrun, hended, _, _, rfl, ?_, ⟨_, rfl⟩, hW, hsame.mono (by decide) (by decide)⟩)
  · show Steps p.tables e below (T1251.setTop (mkF m 171 #[.val (.ref r0), .val (.int (Int32.ofNat ii)), .val (.int 1)] [])) _
    exact X1251.returnOut hx Bd.returns (hb hby d15_171) hr
  · show QReAF Z r0 ii num pp pa ha qa cq NN fH gP jj h0 n0 _ T1251.heap _
    rw [e1251]
    exact ⟨rfl, N1251, f1263, f1253, f1254, f1255, f1256, f1257, f1260, f1262⟩
theorem ef_rmReBE (m : MethodId) (x0 : Addr) (x1 : Int32) : entryFrame m #[(.ref x0), (.int x1)] 3 = mkF m 0 #[.val (.ref x0), .val (.int x1), .unset] [] := by first | (simp [entryFrame, mkF, argsToLocals, Value.category]; done) | rfl
def QReBE (Z : State) (r0 : Addr) (ii : Nat) (num : Int64) (pp : Addr) (pa : Addr) (ha : Addr) (qa : Addr) (cq : ClassId) (NN : Nat) (fH : Nat → Int64) (gP : Nat → Int32) (jj : Nat) (h0 : Heap) (n0 : Nat) (v : Option Value) (h : Heap) (L : List Loc) : Prop := v = none ∧ Fr n0 L ∧ Keep h0 h [r0, qa, ha] ∧ Fld Z h r0 "com/example/adfair/adfair/Ranking" "places" "Lcom/example/adfair/adfair/Ranking$Places;" (.ref pp) ∧ Fld Z h r0 "com/example/adfair/adfair/Ranking" "number" "J" (.long num) ∧ Fld Z h r0 "com/example/adfair/adfair/Ranking" "queued" "[I" (.ref qa) ∧ Fld Z h r0 "com/example/adfair/adfair/Ranking" "queueFirst" "I" (.int 0) ∧ Fld Z h r0 "com/example/adfair/adfair/Ranking" "queueSize" "I" (.int 1) ∧ own_LN Z h ha NN (own_upd fH ii (0 : Int64)) ∧ Arv Z h qa cq .int (16 : Int32) [(.int (Int32.ofNat jj)), (.int (-1)), (.int 0), (.int 0), (.int 0), (.int 0), (.int 0), (.int 0), (.int 0), (.int 0), (.int 0), (.int 0), (.int 0), (.int 0), (.int 0), (.int 0)] (.int 0)
set_option maxRecDepth 65536 in
set_option maxHeartbeats 40000000 in
theorem rmReBE (l : Launch) (Z : State) (a0 : Array Value) (hw : ∀ d ∈ tables_1, d.before a0 Z = true) (ws : List Jvm.Cond) (r0 : Addr) (ii : Nat) (num : Int64) (pp : Addr) (pa : Addr) (ha : Addr) (qa : Addr) (cq : ClassId) (NN : Nat) (fH : Nat → Int64) (gP : Nat → Int32) (jj : Nat) (h0 : Heap) (n0 : Nat) (Z0 : n0 ≤ h0.size) (u0 : Exa Z h0 r0 "com/example/adfair/adfair/Ranking") (u1 : Fld Z h0 r0 "com/example/adfair/adfair/Ranking" "places" "Lcom/example/adfair/adfair/Ranking$Places;" (.ref pp)) (u2 : Fld Z h0 r0 "com/example/adfair/adfair/Ranking" "number" "J" (.long num)) (u3 : Fld Z h0 r0 "com/example/adfair/adfair/Ranking" "queued" "[I" (.ref qa)) (u4 : Fld Z h0 r0 "com/example/adfair/adfair/Ranking" "queueFirst" "I" (.int 0)) (u5 : Fld Z h0 r0 "com/example/adfair/adfair/Ranking" "queueSize" "I" (.int 2)) (u6 : Fld Z h0 pp "com/example/adfair/adfair/Ranking$Places" "holder" "[J" (.ref ha)) (u7 : Fld Z h0 pp "com/example/adfair/adfair/Ranking$Places" "place" "[I" (.ref pa)) (u8 : own_LN Z h0 ha NN fH) (u9 : own_IN Z h0 pa NN gP) (u10 : Arv Z h0 qa cq .int (16 : Int32) [(.int (Int32.ofNat jj)), (.int (Int32.ofNat ii)), (.int 0), (.int 0), (.int 0), (.int 0), (.int 0), (.int 0), (.int 0), (.int 0), (.int 0), (.int 0), (.int 0), (.int 0), (.int 0), (.int 0)] (.int 0)) (ne_r0_pp : r0 ≠ pp) (ne_r0_pa : r0 ≠ pa) (ne_r0_ha : r0 ≠ ha) (ne_r0_qa : r0 ≠ qa) (ne_pp_pa : pp ≠ pa) (ne_pp_ha : pp ≠ ha) (ne_pp_qa : pp ≠ qa) (ne_pa_ha : pa ≠ ha) (ne_pa_qa : pa ≠ qa) (ne_ha_qa : ha ≠ qa) (g_r0 : n0 ≤ r0) (g_ha : n0 ≤ ha) (g_qa : n0 ≤ qa) (hi : ii < NN) (hN : NN ≤ 126) (hz : own_z fH NN) (hnum : ¬ num = 0) (hf : fH ii = num) (hg : gP ii = (-2 : Int32)) (hne : ¬ jj = ii) (hj : jj < 64) :
    MetFree l (⟨"com/example/adfair/adfair/Ranking", "remove", "(I)V"⟩ : MethodName) (head1 (Jvm.Cond.code (⟨"com/example/adfair/adfair/Ranking", "remove", "(I)V"⟩ : MethodName) prog_20_method_10_code 3 none :: ws) ({ frames := 1, cells := 0, slots := 0, locals := 20 } : Room)) (fun a U => a = #[(.ref r0), (.int (Int32.ofNat ii))] ∧ Z.Warmed39 U.vm ∧ U.heap = h0) (fun _ _ _ _ _ => True) (fun _ U o U' => ∃ v L, o = .returned v ∧ QReBE Z r0 ii num pp pa ha qa cq NN fH gP jj h0 n0 v U'.heap L ∧ FrameEnd U o U' L ({ frames := 1, cells := 0, slots := 0, locals := 20 } : Room).cells ({ frames := 1, cells := 0, slots := 0, locals := 20 } : Room).slots) := by
  refine MetFree.of_bodySF (plainFor_of_name pn_15) hisR ?_
  intro p e s m args below meth c s₁ Bd hml0 hP hK
  obtain ⟨rfl, hZ, hh⟩ := hP
  have hx := Bd.exec
  have hby := Bd.bytes
  have hml : c.maxLocals = 3 := hml0
  have hown : s.vm.findClass "com/example/adfair/adfair/Ranking" = some m.cls := findClass_of_methodNamed Bd.named
  have hnm := (name_of_methodNamed Bd.named Bd.method).1
  have X0 : Stand p l e ({ frames := 1, cells := 0, slots := 0, locals := 20 } : Room) s m #[(.ref r0), (.int (Int32.ofNat ii))] below meth c s₁ [] 0 0 := Stand.of_body Bd
  have e0 : s₁.heap = h0 := by rw [← hh, Bd.state]; rfl
  have N0 := Fr.nil n0
  refine own_open fun G hG => ?_
  refine own_go (B := s₁.setTop (mkF m 0 #[.val (.ref r0), .val (.int (Int32.ofNat ii)), .unset] [])) (fun t_ k_ => castTop (ef_rmReBE m r0 (Int32.ofNat ii)) k_) ?_
  have K0 : Keep h0 h0 [r0, qa, ha] := Keep.refl h0 _
  refine own_aloadN 1 X0.here hx (hb hby d15_0) rfl rfl rfl ?_
  refine own_iloadN 2 X0.here hx (hb hby d15_1) rfl rfl ?_
  obtain ⟨cq1265, kq1265, q1265a, q1265b, q1265c⟩ := isOf hZ e0 u0
  obtain ⟨vv1265, _, ⟨T1265, L1265, k1265, n1265⟩, -, X1265, ⟨Lc1265, hQ1265, l1265, y1265, z1265⟩, st1265⟩ := X0.virtualBack hx (y := (⟨"com/example/adfair/adfair/Ranking", "contains", "(I)Z"⟩ : MethodName)) (z := (⟨"com/example/adfair/adfair/Ranking", "contains", "(I)Z"⟩ : MethodName)) hown (mvT hZ (own_w 101 hw rfl)) (mvT hZ (own_w 92 hw rfl)) (notFace_of_selects (args := #[]) (mvT hZ (own_w 94 hw rfl))) (mvT hZ (own_w 94 hw rfl)) (mvT hZ (own_w 93 hw rfl)) (by decide) (backOf (W := 0) (rmCo l Z a0 hw [] r0 ii num pp ha NN fH h0 n0 Z0 u1 u2 u6 u8 (by omega) hN hz hnum) hZ (own_w 95 hw rfl) (own_w 17 hw rfl) (by decide) (by decide)) q1265a q1265c (g := (mkF m 2 #[.val (.ref r0), .val (.int (Int32.ofNat ii)), .unset] [(.int (Int32.ofNat ii)), (.ref r0)])) rfl (by rw [hml]; rfl) (Steps.refl _) (argsL := [(.int (Int32.ofNat ii))]) (rest := []) (lenOf pd__28_I_29_Z rfl) rfl (by show 2 * 0 + _ ≤ _; exact Nat.le_of_eq rfl) (hb hby d15_2) (fun _ _ => ⟨rfl, e0, (by decide : 0 + 0 ≤ _), (by decide : 0 + 0 ≤ _)⟩)
  dsimp only [Pt.U, Pt.locs, Pt.cells, Pt.slots] at X1265 l1265 y1265 z1265 st1265 hQ1265
  subst l1265 y1265 z1265
  obtain ⟨rfl, N1265q, e1265q⟩ := hQ1265
  have N1265 := Fr.app N0 N1265q
  refine own_s 5 [(.int (own_con fH ii num))] (fun _ k_ => st1265.trans k_) ?_
  refine own_s 22 [] (fun _ k_ => XS.ifYes X1265.here hx rfl (pc0 := 5) (pc' := 22) rfl (hb hby d15_5) rfl ((if0 _ _).trans (feq (by rw [own_con1 hf]; decide)).2) (by decide) (by decide) k_) ?_
  refine own_aloadN 23 X1265.here hx (hb hby d15_22) rfl rfl rfl ?_
  obtain ⟨T1266, X1266, e1266, st1266⟩ := getF X1265 hx hZ hown (host := "") (Or.inl (own_w 35 hw rfl)) Via.refl e1265q u1 (g := (mkF m 23 #[.val (.ref r0), .val (.int (Int32.ofNat ii)), .unset] [(.ref r0)])) rfl rfl (hb hby d15_23)
  refine own_s 26 [(.ref pp)] (fun _ k_ => st1266 _ k_) ?_
  obtain ⟨T1267, X1267, e1267, st1267⟩ := own_getR X1266 hx hZ hown (own_w 63 hw rfl) e1266 u7 (g := (mkF m 26 #[.val (.ref r0), .val (.int (Int32.ofNat ii)), .unset] [(.ref pp)])) rfl rfl (hb hby d15_26)
  refine own_s 29 [(.ref pa)] (fun _ k_ => st1267 _ k_) ?_
  refine own_iloadN 30 X1267.here hx (hb hby d15_29) rfl rfl ?_
  obtain ⟨cl1268, Ar1268, S1268, Hh1268⟩ := id u9
  have hat1268 : cl1268.slots[((Int32.ofNat ii)).toNatClampNeg]? = some (.int (gP ii)) := by rw [own_clamp (Nat.lt_trans hi (by omega))]; exact Hh1268 _ hi
  refine own_s 31 [(.int (gP ii))] (fun _ k_ => X1267.iaload hx (j := (Int32.ofNat ii)) (v := (.int (gP ii))) (by rw [e1267]; exact Ar1268.1) (State.isArrayOf_alike hZ.alike Ar1268.2.1) Ar1268.2.2 (own_inb S1268 (by omega) hi) hat1268 (g := (mkF m 30 #[.val (.ref r0), .val (.int (Int32.ofNat ii)), .unset] [(.int (Int32.ofNat ii)), (.ref pa)])) rfl rfl (hb hby d15_30) _ k_) ?_
  refine own_s 33 [(.int (-2)), (.int (gP ii))] (fun _ k_ => XS.bipush X1267.here hx rfl (hb hby d15_31) k_) ?_
  refine own_s 36 [] (fun _ k_ => XS.icmpNo X1267.here hx rfl (hb hby d15_33) rfl (teq hg).2 k_) ?_
  refine own_s 37 [(.int 1)] (fun _ k_ => XS.iconst X1267.here hx rfl (hb hby d15_36) k_) ?_
  refine own_s 41 [(.int 1)] (fun _ k_ => XS.goto X1267.here hx rfl (pc0 := 37) (pc' := 41) rfl (hb hby d15_37) (by decide) (by decide) k_) ?_
  refine own_istoreN 42 #[.val (.ref r0), .val (.int (Int32.ofNat ii)), .val (.int 1)] X1267.here hx (hb hby d15_41) rfl rfl ?_
  refine own_iloadN 43 X1267.here hx (hb hby d15_42) rfl rfl ?_
  refine own_s 46 [] (fun _ k_ => XS.ifNo X1267.here hx rfl (hb hby d15_43) rfl ((if0 _ _).trans (feq (by decide : ¬ ((1 : Int32) = (0 : Int32)))).1) k_) ?_
  refine own_aloadN 47 X1267.here hx (hb hby d15_46) rfl rfl rfl ?_
  obtain ⟨T1269, X1269, e1269, st1269⟩ := getF X1267 hx hZ hown (host := "") (Or.inl (own_w 29 hw rfl)) Via.refl e1267 u3 (g := (mkF m 47 #[.val (.ref r0), .val (.int (Int32.ofNat ii)), .val (.int 1)] [(.ref r0)])) rfl rfl (hb hby d15_47)
  refine own_s 50 [(.ref qa)] (fun _ k_ => st1269 _ k_) ?_
  refine own_aloadN 51 X1269.here hx (hb hby d15_50) rfl rfl rfl ?_
  obtain ⟨T1270, X1270, e1270, st1270⟩ := getF X1269 hx hZ hown (host := "") (Or.inl (own_w 55 hw rfl)) Via.refl e1269 u4 (g := (mkF m 51 #[.val (.ref r0), .val (.int (Int32.ofNat ii)), .val (.int 1)] [(.ref r0), (.ref qa)])) rfl rfl (hb hby d15_51)
  refine own_s 54 [(.int 0), (.ref qa)] (fun _ k_ => st1270 _ k_) ?_
  obtain ⟨cl1271, Ar1271, -, S1271, M1271, Hh1271, -⟩ := id u10
  have hin1271 : ¬ ((0 : Int32) < 0 ∨ cl1271.slots.size ≤ ((0 : Int32)).toNatClampNeg) := inb_of S1271 ⟨by decide, by decide⟩
  have hat1271 : cl1271.slots[((0 : Int32)).toNatClampNeg]? = some (.int (Int32.ofNat jj)) := Hh1271.at hin1271 rfl
  refine own_s 55 [(.int (Int32.ofNat jj))] (fun _ k_ => X1270.iaload hx (j := (0 : Int32)) (v := (.int (Int32.ofNat jj))) (by rw [e1270]; exact Ar1271.1) (State.isArrayOf_alike hZ.alike Ar1271.2.1) Ar1271.2.2 hin1271 hat1271 (g := (mkF m 54 #[.val (.ref r0), .val (.int (Int32.ofNat ii)), .val (.int 1)] [(.int 0), (.ref qa)])) rfl rfl (hb hby d15_54) _ k_) ?_
  refine own_iloadN 56 X1270.here hx (hb hby d15_55) rfl rfl ?_
  refine own_s 100 [] (fun _ k_ => XS.icmpYes X1270.here hx rfl (pc0 := 56) (pc' := 100) rfl (hb hby d15_56) rfl (feq (fun q => hne ((own_inj (by omega) (by omega)).mp q))).2 (by decide) (by decide) k_) ?_
  refine own_iloadN 101 X1270.here hx (hb hby d15_100) rfl rfl ?_
  refine own_s 104 [] (fun _ k_ => XS.ifNo X1270.here hx rfl (hb hby d15_101) rfl ((if0 _ _).trans (feq (by decide : ¬ ((1 : Int32) = (0 : Int32)))).1) k_) ?_
  refine own_aloadN 105 X1270.here hx (hb hby d15_104) rfl rfl rfl ?_
  obtain ⟨T1272, X1272, e1272, st1272⟩ := getF X1270 hx hZ hown (host := "") (Or.inl (own_w 29 hw rfl)) Via.refl e1270 u3 (g := (mkF m 105 #[.val (.ref r0), .val (.int (Int32.ofNat ii)), .val (.int 1)] [(.ref r0)])) rfl rfl (hb hby d15_105)
  refine own_s 108 [(.ref qa)] (fun _ k_ => st1272 _ k_) ?_
  refine own_aloadN 109 X1272.here hx (hb hby d15_108) rfl rfl rfl ?_
  obtain ⟨vv1273, _, ⟨T1273, L1273, k1273, n1273⟩, -, X1273, ⟨Lc1273, hQ1273, l1273, y1273, z1273⟩, st1273⟩ := own_privL X1272 hx hZ (y := (⟨"com/example/adfair/adfair/Ranking", "lastQueued", "()I"⟩ : MethodName)) hown (own_w 51 hw rfl) (own_w 52 hw rfl) (own_w 53 hw rfl) (own_w 16 hw rfl) (own_w 54 hw rfl) (by decide) (backOf (W := 1) (rmLQ_0_2 l Z a0 hw [] r0 qa cq ([(.int (Int32.ofNat jj)), (.int (Int32.ofNat ii)), (.int 0), (.int 0), (.int 0), (.int 0), (.int 0), (.int 0), (.int 0), (.int 0), (.int 0), (.int 0), (.int 0), (.int 0), (.int 0), (.int 0)]) h0 n0 Z0 u4 u5 u3 u10) hZ (own_w 54 hw rfl) (own_w 17 hw rfl) (by decide) (by decide)) (g := (mkF m 109 #[.val (.ref r0), .val (.int (Int32.ofNat ii)), .val (.int 1)] [(.ref r0), (.ref qa)])) rfl (by rw [hml]; rfl) e1272 u0 (argsL := []) (rest := [(.ref qa)]) (lenOf pd__28__29_I rfl) rfl (by show 2 * 0 + _ ≤ _; exact Nat.le_of_eq rfl) (hb hby d15_109) (fun _ _ => ⟨rfl, e1272, (by decide : 0 + 0 ≤ _), (by decide : 0 + 0 ≤ _)⟩)
  dsimp only [Pt.U, Pt.locs, Pt.cells, Pt.slots] at X1273 l1273 y1273 z1273 st1273 hQ1273
  subst l1273 y1273 z1273
  obtain ⟨rfl, N1273q, e1273q⟩ := hQ1273
  have N1273 := Fr.app N1265 N1273q
  refine own_s 112 [(.int 1), (.ref qa)] (fun _ k_ => st1273.trans k_) ?_
  obtain ⟨cl1274, Ar1274, -, S1274, M1274, Hh1274, -⟩ := id u10
  have hin1274 : ¬ ((1 : Int32) < 0 ∨ cl1274.slots.size ≤ ((1 : Int32)).toNatClampNeg) := inb_of S1274 ⟨by decide, by decide⟩
  have hat1274 : cl1274.slots[((1 : Int32)).toNatClampNeg]? = some (.int (Int32.ofNat ii)) := Hh1274.at hin1274 rfl
  refine own_s 113 [(.int (Int32.ofNat ii))] (fun _ k_ => X1273.iaload hx (j := (1 : Int32)) (v := (.int (Int32.ofNat ii))) (by rw [e1273q]; exact Ar1274.1) (State.isArrayOf_alike hZ.alike Ar1274.2.1) Ar1274.2.2 hin1274 hat1274 (g := (mkF m 112 #[.val (.ref r0), .val (.int (Int32.ofNat ii)), .val (.int 1)] [(.int 1), (.ref qa)])) rfl rfl (hb hby d15_112) _ k_) ?_
  refine own_iloadN 114 X1273.here hx (hb hby d15_113) rfl rfl ?_
  refine own_s 117 [] (fun _ k_ => XS.icmpNo X1273.here hx rfl (hb hby d15_114) rfl (teq rfl).2 k_) ?_
  refine own_aloadN 118 X1273.here hx (hb hby d15_117) rfl rfl rfl ?_
  obtain ⟨T1275, X1275, e1275, st1275⟩ := getF X1273 hx hZ hown (host := "") (Or.inl (own_w 29 hw rfl)) Via.refl e1273q u3 (g := (mkF m 118 #[.val (.ref r0), .val (.int (Int32.ofNat ii)), .val (.int 1)] [(.ref r0)])) rfl rfl (hb hby d15_118)
  refine own_s 121 [(.ref qa)] (fun _ k_ => st1275 _ k_) ?_
  refine own_aloadN 122 X1275.here hx (hb hby d15_121) rfl rfl rfl ?_
  obtain ⟨vv1276, _, ⟨T1276, L1276, k1276, n1276⟩, -, X1276, ⟨Lc1276, hQ1276, l1276, y1276, z1276⟩, st1276⟩ := own_privL X1275 hx hZ (y := (⟨"com/example/adfair/adfair/Ranking", "lastQueued", "()I"⟩ : MethodName)) hown (own_w 51 hw rfl) (own_w 52 hw rfl) (own_w 53 hw rfl) (own_w 16 hw rfl) (own_w 54 hw rfl) (by decide) (backOf (W := 1) (rmLQ_0_2 l Z a0 hw [] r0 qa cq ([(.int (Int32.ofNat jj)), (.int (Int32.ofNat ii)), (.int 0), (.int 0), (.int 0), (.int 0), (.int 0), (.int 0), (.int 0), (.int 0), (.int 0), (.int 0), (.int 0), (.int 0), (.int 0), (.int 0)]) h0 n0 Z0 u4 u5 u3 u10) hZ (own_w 54 hw rfl) (own_w 17 hw rfl) (by decide) (by decide)) (g := (mkF m 122 #[.val (.ref r0), .val (.int (Int32.ofNat ii)), .val (.int 1)] [(.ref r0), (.ref qa)])) rfl (by rw [hml]; rfl) e1275 u0 (argsL := []) (rest := [(.ref qa)]) (lenOf pd__28__29_I rfl) rfl (by show 2 * 0 + _ ≤ _; exact Nat.le_of_eq rfl) (hb hby d15_122) (fun _ _ => ⟨rfl, e1275, (by decide : 0 + 0 ≤ _), (by decide : 0 + 0 ≤ _)⟩)
  dsimp only [Pt.U, Pt.locs, Pt.cells, Pt.slots] at X1276 l1276 y1276 z1276 st1276 hQ1276
  subst l1276 y1276 z1276
  obtain ⟨rfl, N1276q, e1276q⟩ := hQ1276
  have N1276 := Fr.app N1273 N1276q
  refine own_s 125 [(.int 1), (.ref qa)] (fun _ k_ => st1276.trans k_) ?_
  refine own_s 126 [(.int (-1)), (.int 1), (.ref qa)] (fun _ k_ => XS.iconst X1276.here hx rfl (hb hby d15_125) k_) ?_
  obtain ⟨cl1277, Ar1277, q1277, S1277, M1277, Hh1277, G1277⟩ := id u10
  obtain ⟨T1277, h1277, X1277, e1277, W1277, st1277⟩ := stI X1276 hx hZ e1276q Ar1277 (j := (1 : Int32)) (inb_of S1277 ⟨by decide, by decide⟩) (g := (mkF m 126 #[.val (.ref r0), .val (.int (Int32.ofNat ii)), .val (.int 1)] [(.int (-1)), (.int 1), (.ref qa)])) rfl rfl (hb hby d15_126)
  have f1278 := u0.wr W1277
  have f1279 := u1.other W1277 (Or.inl ne_r0_qa)
  have f1280 := u2.other W1277 (Or.inl ne_r0_qa)
  have f1281 := u3.other W1277 (Or.inl ne_r0_qa)
  have f1282 := u4.other W1277 (Or.inl ne_r0_qa)
  have f1283 := u5.other W1277 (Or.inl ne_r0_qa)
  have f1284 := u6.other W1277 (Or.inl ne_pp_qa)
  have f1286 := u8.other W1277 ne_ha_qa
  have f1288 : Arv Z h1277 qa cq .int (16 : Int32) [(.int (Int32.ofNat jj)), (.int (-1)), (.int 0), (.int 0), (.int 0), (.int 0), (.int 0), (.int 0), (.int 0), (.int 0), (.int 0), (.int 0), (.int 0), (.int 0), (.int 0), (.int 0)] (.int 0) := Arv.set Ar1277 q1277 S1277 M1277 Hh1277 G1277 rfl W1277 1 rfl (Nat.le_of_ble_eq_true rfl)
  have f1289 := K0.wr W1277 (Or.inl (List.mem_of_getElem? (i := 1) rfl))
  have Z1277 : n0 ≤ h1277.size := Nat.le_trans Z0 (Keep.of_wr W1277).1
  have N1277 := Fr.snoc X1277 N1276 g_qa
  refine own_s 127 [] (fun _ k_ => st1277 _ k_) ?_
  refine own_aloadN 128 X1277.here hx (hb hby d15_127) rfl rfl rfl ?_
  refine own_s 129 [(.ref r0), (.ref r0)] (fun _ k_ => XS.dup X1277.here hx rfl (hb hby d15_128) rfl rfl k_) ?_
  obtain ⟨T1290, X1290, e1290, st1290⟩ := getF X1277 hx hZ hown (host := "") (Or.inl (own_w 57 hw rfl)) Via.refl e1277 f1283 (g := (mkF m 129 #[.val (.ref r0), .val (.int (Int32.ofNat ii)), .val (.int 1)] [(.ref r0), (.ref r0)])) rfl rfl (hb hby d15_129)
  refine own_s 132 [(.int 2), (.ref r0)] (fun _ k_ => st1290 _ k_) ?_
  refine own_s 133 [(.int 1), (.int 2), (.ref r0)] (fun _ k_ => XS.iconst X1290.here hx rfl (hb hby d15_132) k_) ?_
  refine own_s 134 [(.int ((2 : Int32) - (1 : Int32))), (.ref r0)] (fun _ k_ => XS.isub X1290.here hx rfl (hb hby d15_133) rfl k_) ?_
  rw [show ((2 : Int32) - (1 : Int32)) = (1 : Int32) from by decide]
  obtain ⟨T1291, h1291, X1291, e1291, W1291, st1291⟩ := putF X1290 hx hZ hown (host := "") (Or.inl (own_w 57 hw rfl)) Via.refl e1290 f1283 f1278 (Or.inl (own_w 58 hw rfl)) (own_w 16 hw rfl) (ty := .int) (by decide) rfl rfl (g := (mkF m 134 #[.val (.ref r0), .val (.int (Int32.ofNat ii)), .val (.int 1)] [(.int 1), (.ref r0)])) rfl rfl (hb hby d15_134)
  have f1293 := f1279.other W1291 (Or.inr (slot_ne (Or.inr (own_w 36 hw rfl)) (Or.inl (own_w 58 hw rfl)) (by decide) (t := (.object "com/example/adfair/adfair/Ranking$Places")) (t' := .int) (by decide) (by decide)))
  have f1294 := f1280.other W1291 (Or.inr (slot_ne (Or.inr (own_w 40 hw rfl)) (Or.inl (own_w 58 hw rfl)) (by decide) (t := .long) (t' := .int) (by decide) (by decide)))
  have f1295 := f1281.other W1291 (Or.inr (slot_ne (Or.inl (own_w 30 hw rfl)) (Or.inl (own_w 58 hw rfl)) (by decide) (t := (.array .int)) (t' := .int) (by decide) (by decide)))
  have f1296 := f1282.other W1291 (Or.inr (slot_ne (Or.inl (own_w 56 hw rfl)) (Or.inl (own_w 58 hw rfl)) (by decide) (t := .int) (t' := .int) (by decide) (by decide)))
  have f1297 : Fld Z h1291 r0 "com/example/adfair/adfair/Ranking" "queueSize" "I" (.int 1) := f1283.same W1291
  have f1298 := f1284.other W1291 (Or.inl (Ne.symm ne_r0_pp))
  have f1300 := f1286.other W1291 (Ne.symm ne_r0_ha)
  have f1302 := f1288.other W1291 (Ne.symm ne_r0_qa)
  have f1303 := f1289.wr W1291 (Or.inl (List.mem_of_getElem? (i := 0) rfl))
  have Z1291 : n0 ≤ h1291.size := Nat.le_trans Z1277 (Keep.of_wr W1291).1
  have N1291 := Fr.snoc X1291 N1277 g_r0
  refine own_s 137 [] (fun _ k_ => st1291 _ k_) ?_
  refine own_s 161 [] (fun _ k_ => XS.goto X1291.here hx rfl (pc0 := 137) (pc' := 161) rfl (hb hby d15_137) (by decide) (by decide) k_) ?_
  refine own_aloadN 162 X1291.here hx (hb hby d15_161) rfl rfl rfl ?_
  obtain ⟨T1304, X1304, e1304, st1304⟩ := getF X1291 hx hZ hown (host := "") (Or.inl (own_w 35 hw rfl)) Via.refl e1291 f1293 (g := (mkF m 162 #[.val (.ref r0), .val (.int (Int32.ofNat ii)), .val (.int 1)] [(.ref r0)])) rfl rfl (hb hby d15_162)
  refine own_s 165 [(.ref pp)] (fun _ k_ => st1304 _ k_) ?_
  obtain ⟨T1305, X1305, e1305, st1305⟩ := own_getR X1304 hx hZ hown (own_w 50 hw rfl) e1304 f1298 (g := (mkF m 165 #[.val (.ref r0), .val (.int (Int32.ofNat ii)), .val (.int 1)] [(.ref pp)])) rfl rfl (hb hby d15_165)
  refine own_s 168 [(.ref ha)] (fun _ k_ => st1305 _ k_) ?_
  refine own_iloadN 169 X1305.here hx (hb hby d15_168) rfl rfl ?_
  refine own_s 170 [(.long 0), (.int (Int32.ofNat ii)), (.ref ha)] (fun _ k_ => XS.lconst X1305.here hx rfl (hb hby d15_169) k_) ?_
  obtain ⟨cl1306, Ar1306, S1306, Hh1306⟩ := id f1300
  obtain ⟨T1306, h1306, X1306, e1306, W1306, st1306⟩ := stJ X1305 hx hZ e1305 Ar1306 (j := (Int32.ofNat ii)) (own_inb S1306 (by omega) hi) (g := (mkF m 170 #[.val (.ref r0), .val (.int (Int32.ofNat ii)), .val (.int 1)] [(.long 0), (.int (Int32.ofNat ii)), (.ref ha)])) rfl rfl (hb hby d15_170)
  rw [own_clamp (Nat.lt_trans hi (by omega))] at W1306
  have f1308 := f1293.other W1306 (Or.inl ne_r0_ha)
  have f1309 := f1294.other W1306 (Or.inl ne_r0_ha)
  have f1310 := f1295.other W1306 (Or.inl ne_r0_ha)
  have f1311 := f1296.other W1306 (Or.inl ne_r0_ha)
  have f1312 := f1297.other W1306 (Or.inl ne_r0_ha)
  have f1315 : own_LN Z h1306 ha NN (own_upd fH ii (0 : Int64)) := f1300.set W1306 hi
  have f1317 := f1302.other W1306 (Ne.symm ne_ha_qa)
  have f1318 := f1303.wr W1306 (Or.inl (List.mem_of_getElem? (i := 2) rfl))
  have Z1306 : n0 ≤ h1306.size := Nat.le_trans Z1291 (Keep.of_wr W1306).1
  have N1306 := Fr.snoc X1306 N1291 g_ha
  refine own_s 171 [] (fun _ k_ => st1306 _ k_) ?_
  obtain ⟨fs, hr, hrun, hended, hW, hsame⟩ := X1306.leave (v := none) (fun _ => rfl)
  refine own_at ?_ (hG _ _ ⟨hrun, hended, _, _, rfl, ?_, ⟨_, rfl⟩, hW, hsame.mono (by decide) (by decide)⟩)
  · show Steps p.tables e below (T1306.setTop (mkF m 171 #[.val (.ref r0), .val (.int (Int32.ofNat ii)), .val (.int 1)] [])) _
    exact X1306.returnOut hx Bd.returns (hb hby d15_171) hr
  · show QReBE Z r0 ii num pp pa ha qa cq NN fH gP jj h0 n0 _ T1306.heap _
    rw [e1306]
    exact ⟨rfl, N1306, f1318, f1308, f1309, f1310, f1311, f1312, f1315, f1317⟩
theorem ef_rmReBF (m : MethodId) (x0 : Addr) (x1 : Int32) : entryFrame m #[(.ref x0), (.int x1)] 3 = mkF m 0 #[.val (.ref x0), .val (.int x1), .unset] [] := by first | (simp [entryFrame, mkF, argsToLocals, Value.category]; done) | rfl
def QReBF (Z : State) (r0 : Addr) (ii : Nat) (num : Int64) (pp : Addr) (pa : Addr) (ha : Addr) (qa : Addr) (cq : ClassId) (NN : Nat) (fH : Nat → Int64) (gP : Nat → Int32) (jj : Nat) (h0 : Heap) (n0 : Nat) (v : Option Value) (h : Heap) (L : List Loc) : Prop := v = none ∧ Fr n0 L ∧ Keep h0 h [r0, qa, ha] ∧ Fld Z h r0 "com/example/adfair/adfair/Ranking" "places" "Lcom/example/adfair/adfair/Ranking$Places;" (.ref pp) ∧ Fld Z h r0 "com/example/adfair/adfair/Ranking" "number" "J" (.long num) ∧ Fld Z h r0 "com/example/adfair/adfair/Ranking" "queued" "[I" (.ref qa) ∧ Fld Z h r0 "com/example/adfair/adfair/Ranking" "queueFirst" "I" (.int 0) ∧ Fld Z h r0 "com/example/adfair/adfair/Ranking" "queueSize" "I" (.int 1) ∧ own_LN Z h ha NN (own_upd fH ii (0 : Int64)) ∧ Arv Z h qa cq .int (16 : Int32) [(.int (Int32.ofNat jj)), (.int 0), (.int 0), (.int 0), (.int 0), (.int 0), (.int 0), (.int 0), (.int 0), (.int 0), (.int 0), (.int 0), (.int 0), (.int 0), (.int 0), (.int (-1))] (.int 0)
set_option maxRecDepth 65536 in
set_option maxHeartbeats 40000000 in
theorem rmReBF (l : Launch) (Z : State) (a0 : Array Value) (hw : ∀ d ∈ tables_1, d.before a0 Z = true) (ws : List Jvm.Cond) (r0 : Addr) (ii : Nat) (num : Int64) (pp : Addr) (pa : Addr) (ha : Addr) (qa : Addr) (cq : ClassId) (NN : Nat) (fH : Nat → Int64) (gP : Nat → Int32) (jj : Nat) (h0 : Heap) (n0 : Nat) (Z0 : n0 ≤ h0.size) (u0 : Exa Z h0 r0 "com/example/adfair/adfair/Ranking") (u1 : Fld Z h0 r0 "com/example/adfair/adfair/Ranking" "places" "Lcom/example/adfair/adfair/Ranking$Places;" (.ref pp)) (u2 : Fld Z h0 r0 "com/example/adfair/adfair/Ranking" "number" "J" (.long num)) (u3 : Fld Z h0 r0 "com/example/adfair/adfair/Ranking" "queued" "[I" (.ref qa)) (u4 : Fld Z h0 r0 "com/example/adfair/adfair/Ranking" "queueFirst" "I" (.int 15)) (u5 : Fld Z h0 r0 "com/example/adfair/adfair/Ranking" "queueSize" "I" (.int 2)) (u6 : Fld Z h0 pp "com/example/adfair/adfair/Ranking$Places" "holder" "[J" (.ref ha)) (u7 : Fld Z h0 pp "com/example/adfair/adfair/Ranking$Places" "place" "[I" (.ref pa)) (u8 : own_LN Z h0 ha NN fH) (u9 : own_IN Z h0 pa NN gP) (u10 : Arv Z h0 qa cq .int (16 : Int32) [(.int (Int32.ofNat jj)), (.int 0), (.int 0), (.int 0), (.int 0), (.int 0), (.int 0), (.int 0), (.int 0), (.int 0), (.int 0), (.int 0), (.int 0), (.int 0), (.int 0), (.int (Int32.ofNat ii))] (.int 0)) (ne_r0_pp : r0 ≠ pp) (ne_r0_pa : r0 ≠ pa) (ne_r0_ha : r0 ≠ ha) (ne_r0_qa : r0 ≠ qa) (ne_pp_pa : pp ≠ pa) (ne_pp_ha : pp ≠ ha) (ne_pp_qa : pp ≠ qa) (ne_pa_ha : pa ≠ ha) (ne_pa_qa : pa ≠ qa) (ne_ha_qa : ha ≠ qa) (g_r0 : n0 ≤ r0) (g_ha : n0 ≤ ha) (g_qa : n0 ≤ qa) (hi : ii < NN) (hN : NN ≤ 126) (hz : own_z fH NN) (hnum : ¬ num = 0) (hf : fH ii = num) (hg : gP ii = (-2 : Int32)) (hne : ¬ jj = ii) (hj : jj < 64) :
    MetFree l (⟨"com/example/adfair/adfair/Ranking", "remove", "(I)V"⟩ : MethodName) (head1 (Jvm.Cond.code (⟨"com/example/adfair/adfair/Ranking", "remove", "(I)V"⟩ : MethodName) prog_20_method_10_code 3 none :: ws) ({ frames := 1, cells := 0, slots := 0, locals := 20 } : Room)) (fun a U => a = #[(.ref r0), (.int (Int32.ofNat ii))] ∧ Z.Warmed39 U.vm ∧ U.heap = h0) (fun _ _ _ _ _ => True) (fun _ U o U' => ∃ v L, o = .returned v ∧ QReBF Z r0 ii num pp pa ha qa cq NN fH gP jj h0 n0 v U'.heap L ∧ FrameEnd U o U' L ({ frames := 1, cells := 0, slots := 0, locals := 20 } : Room).cells ({ frames := 1, cells := 0, slots := 0, locals := 20 } : Room).slots) := by
  refine MetFree.of_bodySF (plainFor_of_name pn_15) hisR ?_
  intro p e s m args below meth c s₁ Bd hml0 hP hK
  obtain ⟨rfl, hZ, hh⟩ := hP
  have hx := Bd.exec
  have hby := Bd.bytes
  have hml : c.maxLocals = 3 := hml0
  have hown : s.vm.findClass "com/example/adfair/adfair/Ranking" = some m.cls := findClass_of_methodNamed Bd.named
  have hnm := (name_of_methodNamed Bd.named Bd.method).1
  have X0 : Stand p l e ({ frames := 1, cells := 0, slots := 0, locals := 20 } : Room) s m #[(.ref r0), (.int (Int32.ofNat ii))] below meth c s₁ [] 0 0 := Stand.of_body Bd
  have e0 : s₁.heap = h0 := by rw [← hh, Bd.state]; rfl
  have N0 := Fr.nil n0
  refine own_open fun G hG => ?_
  refine own_go (B := s₁.setTop (mkF m 0 #[.val (.ref r0), .val (.int (Int32.ofNat ii)), .unset] [])) (fun t_ k_ => castTop (ef_rmReBF m r0 (Int32.ofNat ii)) k_) ?_
  have K0 : Keep h0 h0 [r0, qa, ha] := Keep.refl h0 _
  refine own_aloadN 1 X0.here hx (hb hby d15_0) rfl rfl rfl ?_
  refine own_iloadN 2 X0.here hx (hb hby d15_1) rfl rfl ?_
  obtain ⟨cq1320, kq1320, q1320a, q1320b, q1320c⟩ := isOf hZ e0 u0
  obtain ⟨vv1320, _, ⟨T1320, L1320, k1320, n1320⟩, -, X1320, ⟨Lc1320, hQ1320, l1320, y1320, z1320⟩, st1320⟩ := X0.virtualBack hx (y := (⟨"com/example/adfair/adfair/Ranking", "contains", "(I)Z"⟩ : MethodName)) (z := (⟨"com/example/adfair/adfair/Ranking", "contains", "(I)Z"⟩ : MethodName)) hown (mvT hZ (own_w 101 hw rfl)) (mvT hZ (own_w 92 hw rfl)) (notFace_of_selects (args := #[]) (mvT hZ (own_w 94 hw rfl))) (mvT hZ (own_w 94 hw rfl)) (mvT hZ (own_w 93 hw rfl)) (by decide) (backOf (W := 0) (rmCo l Z a0 hw [] r0 ii num pp ha NN fH h0 n0 Z0 u1 u2 u6 u8 (by omega) hN hz hnum) hZ (own_w 95 hw rfl) (own_w 17 hw rfl) (by decide) (by decide)) q1320a q1320c (g := (mkF m 2 #[.val (.ref r0), .val (.int (Int32.ofNat ii)), .unset] [(.int (Int32.ofNat ii)), (.ref r0)])) rfl (by rw [hml]; rfl) (Steps.refl _) (argsL := [(.int (Int32.ofNat ii))]) (rest := []) (lenOf pd__28_I_29_Z rfl) rfl (by show 2 * 0 + _ ≤ _; exact Nat.le_of_eq rfl) (hb hby d15_2) (fun _ _ => ⟨rfl, e0, (by decide : 0 + 0 ≤ _), (by decide : 0 + 0 ≤ _)⟩)
  dsimp only [Pt.U, Pt.locs, Pt.cells, Pt.slots] at X1320 l1320 y1320 z1320 st1320 hQ1320
  subst l1320 y1320 z1320
  obtain ⟨rfl, N1320q, e1320q⟩ := hQ1320
  have N1320 := Fr.app N0 N1320q
  refine own_s 5 [(.int (own_con fH ii num))] (fun _ k_ => st1320.trans k_) ?_
  refine own_s 22 [] (fun _ k_ => XS.ifYes X1320.here hx rfl (pc0 := 5) (pc' := 22) rfl (hb hby d15_5) rfl ((if0 _ _).trans (feq (by rw [own_con1 hf]; decide)).2) (by decide) (by decide) k_) ?_
  refine own_aloadN 23 X1320.here hx (hb hby d15_22) rfl rfl rfl ?_
  obtain ⟨T1321, X1321, e1321, st1321⟩ := getF X1320 hx hZ hown (host := "") (Or.inl (own_w 35 hw rfl)) Via.refl e1320q u1 (g := (mkF m 23 #[.val (.ref r0), .val (.int (Int32.ofNat ii)), .unset] [(.ref r0)])) rfl rfl (hb hby d15_23)
  refine own_s 26 [(.ref pp)] (fun _ k_ => st1321 _ k_) ?_
  obtain ⟨T1322, X1322, e1322, st1322⟩ := own_getR X1321 hx hZ hown (own_w 63 hw rfl) e1321 u7 (g := (mkF m 26 #[.val (.ref r0), .val (.int (Int32.ofNat ii)), .unset] [(.ref pp)])) rfl rfl (hb hby d15_26)
  refine own_s 29 [(.ref pa)] (fun _ k_ => st1322 _ k_) ?_
  refine own_iloadN 30 X1322.here hx (hb hby d15_29) rfl rfl ?_
  obtain ⟨cl1323, Ar1323, S1323, Hh1323⟩ := id u9
  have hat1323 : cl1323.slots[((Int32.ofNat ii)).toNatClampNeg]? = some (.int (gP ii)) := by rw [own_clamp (Nat.lt_trans hi (by omega))]; exact Hh1323 _ hi
  refine own_s 31 [(.int (gP ii))] (fun _ k_ => X1322.iaload hx (j := (Int32.ofNat ii)) (v := (.int (gP ii))) (by rw [e1322]; exact Ar1323.1) (State.isArrayOf_alike hZ.alike Ar1323.2.1) Ar1323.2.2 (own_inb S1323 (by omega) hi) hat1323 (g := (mkF m 30 #[.val (.ref r0), .val (.int (Int32.ofNat ii)), .unset] [(.int (Int32.ofNat ii)), (.ref pa)])) rfl rfl (hb hby d15_30) _ k_) ?_
  refine own_s 33 [(.int (-2)), (.int (gP ii))] (fun _ k_ => XS.bipush X1322.here hx rfl (hb hby d15_31) k_) ?_
  refine own_s 36 [] (fun _ k_ => XS.icmpNo X1322.here hx rfl (hb hby d15_33) rfl (teq hg).2 k_) ?_
  refine own_s 37 [(.int 1)] (fun _ k_ => XS.iconst X1322.here hx rfl (hb hby d15_36) k_) ?_
  refine own_s 41 [(.int 1)] (fun _ k_ => XS.goto X1322.here hx rfl (pc0 := 37) (pc' := 41) rfl (hb hby d15_37) (by decide) (by decide) k_) ?_
  refine own_istoreN 42 #[.val (.ref r0), .val (.int (Int32.ofNat ii)), .val (.int 1)] X1322.here hx (hb hby d15_41) rfl rfl ?_
  refine own_iloadN 43 X1322.here hx (hb hby d15_42) rfl rfl ?_
  refine own_s 46 [] (fun _ k_ => XS.ifNo X1322.here hx rfl (hb hby d15_43) rfl ((if0 _ _).trans (feq (by decide : ¬ ((1 : Int32) = (0 : Int32)))).1) k_) ?_
  refine own_aloadN 47 X1322.here hx (hb hby d15_46) rfl rfl rfl ?_
  obtain ⟨T1324, X1324, e1324, st1324⟩ := getF X1322 hx hZ hown (host := "") (Or.inl (own_w 29 hw rfl)) Via.refl e1322 u3 (g := (mkF m 47 #[.val (.ref r0), .val (.int (Int32.ofNat ii)), .val (.int 1)] [(.ref r0)])) rfl rfl (hb hby d15_47)
  refine own_s 50 [(.ref qa)] (fun _ k_ => st1324 _ k_) ?_
  refine own_aloadN 51 X1324.here hx (hb hby d15_50) rfl rfl rfl ?_
  obtain ⟨T1325, X1325, e1325, st1325⟩ := getF X1324 hx hZ hown (host := "") (Or.inl (own_w 55 hw rfl)) Via.refl e1324 u4 (g := (mkF m 51 #[.val (.ref r0), .val (.int (Int32.ofNat ii)), .val (.int 1)] [(.ref r0), (.ref qa)])) rfl rfl (hb hby d15_51)
  refine own_s 54 [(.int 15), (.ref qa)] (fun _ k_ => st1325 _ k_) ?_
  obtain ⟨cl1326, Ar1326, -, S1326, M1326, Hh1326, -⟩ := id u10
  have hin1326 : ¬ ((15 : Int32) < 0 ∨ cl1326.slots.size ≤ ((15 : Int32)).toNatClampNeg) := inb_of S1326 ⟨by decide, by decide⟩
  have hat1326 : cl1326.slots[((15 : Int32)).toNatClampNeg]? = some (.int (Int32.ofNat ii)) := Hh1326.at hin1326 rfl
  refine own_s 55 [(.int (Int32.ofNat ii))] (fun _ k_ => X1325.iaload hx (j := (15 : Int32)) (v := (.int (Int32.ofNat ii))) (by rw [e1325]; exact Ar1326.1) (State.isArrayOf_alike hZ.alike Ar1326.2.1) Ar1326.2.2 hin1326 hat1326 (g := (mkF m 54 #[.val (.ref r0), .val (.int (Int32.ofNat ii)), .val (.int 1)] [(.int 15), (.ref qa)])) rfl rfl (hb hby d15_54) _ k_) ?_
  refine own_iloadN 56 X1325.here hx (hb hby d15_55) rfl rfl ?_
  refine own_s 59 [] (fun _ k_ => XS.icmpNo X1325.here hx rfl (hb hby d15_56) rfl (teq rfl).2 k_) ?_
  refine own_aloadN 60 X1325.here hx (hb hby d15_59) rfl rfl rfl ?_
  obtain ⟨T1327, X1327, e1327, st1327⟩ := getF X1325 hx hZ hown (host := "") (Or.inl (own_w 29 hw rfl)) Via.refl e1325 u3 (g := (mkF m 60 #[.val (.ref r0), .val (.int (Int32.ofNat ii)), .val (.int 1)] [(.ref r0)])) rfl rfl (hb hby d15_60)
  refine own_s 63 [(.ref qa)] (fun _ k_ => st1327 _ k_) ?_
  refine own_aloadN 64 X1327.here hx (hb hby d15_63) rfl rfl rfl ?_
  obtain ⟨T1328, X1328, e1328, st1328⟩ := getF X1327 hx hZ hown (host := "") (Or.inl (own_w 55 hw rfl)) Via.refl e1327 u4 (g := (mkF m 64 #[.val (.ref r0), .val (.int (Int32.ofNat ii)), .val (.int 1)] [(.ref r0), (.ref qa)])) rfl rfl (hb hby d15_64)
  refine own_s 67 [(.int 15), (.ref qa)] (fun _ k_ => st1328 _ k_) ?_
  refine own_s 68 [(.int (-1)), (.int 15), (.ref qa)] (fun _ k_ => XS.iconst X1328.here hx rfl (hb hby d15_67) k_) ?_
  obtain ⟨cl1329, Ar1329, q1329, S1329, M1329, Hh1329, G1329⟩ := id u10
  obtain ⟨T1329, h1329, X1329, e1329, W1329, st1329⟩ := stI X1328 hx hZ e1328 Ar1329 (j := (15 : Int32)) (inb_of S1329 ⟨by decide, by decide⟩) (g := (mkF m 68 #[.val (.ref r0), .val (.int (Int32.ofNat ii)), .val (.int 1)] [(.int (-1)), (.int 15), (.ref qa)])) rfl rfl (hb hby d15_68)
  have f1330 := u0.wr W1329
  have f1331 := u1.other W1329 (Or.inl ne_r0_qa)
  have f1332 := u2.other W1329 (Or.inl ne_r0_qa)
  have f1333 := u3.other W1329 (Or.inl ne_r0_qa)
  have f1334 := u4.other W1329 (Or.inl ne_r0_qa)
  have f1335 := u5.other W1329 (Or.inl ne_r0_qa)
  have f1336 := u6.other W1329 (Or.inl ne_pp_qa)
  have f1338 := u8.other W1329 ne_ha_qa
  have f1340 : Arv Z h1329 qa cq .int (16 : Int32) [(.int (Int32.ofNat jj)), (.int 0), (.int 0), (.int 0), (.int 0), (.int 0), (.int 0), (.int 0), (.int 0), (.int 0), (.int 0), (.int 0), (.int 0), (.int 0), (.int 0), (.int (-1))] (.int 0) := Arv.set Ar1329 q1329 S1329 M1329 Hh1329 G1329 rfl W1329 15 rfl (Nat.le_of_ble_eq_true rfl)
  have f1341 := K0.wr W1329 (Or.inl (List.mem_of_getElem? (i := 1) rfl))
  have Z1329 : n0 ≤ h1329.size := Nat.le_trans Z0 (Keep.of_wr W1329).1
  have N1329 := Fr.snoc X1329 N1320 g_qa
  refine own_s 69 [] (fun _ k_ => st1329 _ k_) ?_
  refine own_aloadN 70 X1329.here hx (hb hby d15_69) rfl rfl rfl ?_
  refine own_aloadN 71 X1329.here hx (hb hby d15_70) rfl rfl rfl ?_
  obtain ⟨T1342, X1342, e1342, st1342⟩ := getF X1329 hx hZ hown (host := "") (Or.inl (own_w 55 hw rfl)) Via.refl e1329 f1334 (g := (mkF m 71 #[.val (.ref r0), .val (.int (Int32.ofNat ii)), .val (.int 1)] [(.ref r0), (.ref r0)])) rfl rfl (hb hby d15_71)
  refine own_s 74 [(.int 15), (.ref r0)] (fun _ k_ => st1342 _ k_) ?_
  refine own_s 75 [(.int 1), (.int 15), (.ref r0)] (fun _ k_ => XS.iconst X1342.here hx rfl (hb hby d15_74) k_) ?_
  refine own_s 76 [(.int ((15 : Int32) + (1 : Int32))), (.ref r0)] (fun _ k_ => XS.iadd X1342.here hx rfl (hb hby d15_75) rfl k_) ?_
  rw [show ((15 : Int32) + (1 : Int32)) = (16 : Int32) from by decide]
  refine own_aloadN 77 X1342.here hx (hb hby d15_76) rfl rfl rfl ?_
  obtain ⟨T1343, X1343, e1343, st1343⟩ := getF X1342 hx hZ hown (host := "") (Or.inl (own_w 29 hw rfl)) Via.refl e1342 f1333 (g := (mkF m 77 #[.val (.ref r0), .val (.int (Int32.ofNat ii)), .val (.int 1)] [(.ref r0), (.int 16), (.ref r0)])) rfl rfl (hb hby d15_77)
  refine own_s 80 [(.ref qa), (.int 16), (.ref r0)] (fun _ k_ => st1343 _ k_) ?_
  obtain ⟨cl1344, Ar1344, -, S1344, M1344, -, -⟩ := id f1340
  refine own_go (B := T1343.setTop (mkF m 81 #[.val (.ref r0), .val (.int (Int32.ofNat ii)), .val (.int 1)] [(.int 16), (.int 16), (.ref r0)])) (fun t_ k_ => ?_) ?_
  · refine X1343.arraylength hx (by rw [e1343]; exact Ar1344.1) (State.isArrayOf_alike hZ.alike Ar1344.2.1) (g := (mkF m 80 #[.val (.ref r0), .val (.int (Int32.ofNat ii)), .val (.int 1)] [(.ref qa), (.int 16), (.ref r0)])) rfl rfl (hb hby d15_80) _ ?_
    rw [len_of S1344 M1344]
    exact k_
  refine own_s 82 [(.int 1), (.int 16), (.int 16), (.ref r0)] (fun _ k_ => XS.iconst X1343.here hx rfl (hb hby d15_81) k_) ?_
  refine own_s 83 [(.int ((16 : Int32) - (1 : Int32))), (.int 16), (.ref r0)] (fun _ k_ => XS.isub X1343.here hx rfl (hb hby d15_82) rfl k_) ?_
  rw [show ((16 : Int32) - (1 : Int32)) = (15 : Int32) from by decide]
  refine own_s 84 [(.int ((16 : Int32) &&& (15 : Int32))), (.ref r0)] (fun _ k_ => XS.iand X1343.here hx rfl (hb hby d15_83) rfl k_) ?_
  rw [show ((16 : Int32) &&& (15 : Int32)) = (0 : Int32) from by decide]
  obtain ⟨T1345, h1345, X1345, e1345, W1345, st1345⟩ := putF X1343 hx hZ hown (host := "") (Or.inl (own_w 55 hw rfl)) Via.refl e1343 f1334 f1330 (Or.inl (own_w 56 hw rfl)) (own_w 16 hw rfl) (ty := .int) (by decide) rfl rfl (g := (mkF m 84 #[.val (.ref r0), .val (.int (Int32.ofNat ii)), .val (.int 1)] [(.int 0), (.ref r0)])) rfl rfl (hb hby d15_84)
  have f1346 := f1330.wr W1345
  have f1347 := f1331.other W1345 (Or.inr (slot_ne (Or.inr (own_w 36 hw rfl)) (Or.inl (own_w 56 hw rfl)) (by decide) (t := (.object "com/example/adfair/adfair/Ranking$Places")) (t' := .int) (by decide) (by decide)))
  have f1348 := f1332.other W1345 (Or.inr (slot_ne (Or.inr (own_w 40 hw rfl)) (Or.inl (own_w 56 hw rfl)) (by decide) (t := .long) (t' := .int) (by decide) (by decide)))
  have f1349 := f1333.other W1345 (Or.inr (slot_ne (Or.inl (own_w 30 hw rfl)) (Or.inl (own_w 56 hw rfl)) (by decide) (t := (.array .int)) (t' := .int) (by decide) (by decide)))
  have f1350 : Fld Z h1345 r0 "com/example/adfair/adfair/Ranking" "queueFirst" "I" (.int 0) := f1334.same W1345
  have f1351 := f1335.other W1345 (Or.inr (slot_ne (Or.inl (own_w 58 hw rfl)) (Or.inl (own_w 56 hw rfl)) (by decide) (t := .int) (t' := .int) (by decide) (by decide)))
  have f1352 := f1336.other W1345 (Or.inl (Ne.symm ne_r0_pp))
  have f1354 := f1338.other W1345 (Ne.symm ne_r0_ha)
  have f1356 := f1340.other W1345 (Ne.symm ne_r0_qa)
  have f1357 := f1341.wr W1345 (Or.inl (List.mem_of_getElem? (i := 0) rfl))
  have Z1345 : n0 ≤ h1345.size := Nat.le_trans Z1329 (Keep.of_wr W1345).1
  have N1345 := Fr.snoc X1345 N1329 g_r0
  refine own_s 87 [] (fun _ k_ => st1345 _ k_) ?_
  refine own_aloadN 88 X1345.here hx (hb hby d15_87) rfl rfl rfl ?_
  refine own_s 89 [(.ref r0), (.ref r0)] (fun _ k_ => XS.dup X1345.here hx rfl (hb hby d15_88) rfl rfl k_) ?_
  obtain ⟨T1358, X1358, e1358, st1358⟩ := getF X1345 hx hZ hown (host := "") (Or.inl (own_w 57 hw rfl)) Via.refl e1345 f1351 (g := (mkF m 89 #[.val (.ref r0), .val (.int (Int32.ofNat ii)), .val (.int 1)] [(.ref r0), (.ref r0)])) rfl rfl (hb hby d15_89)
  refine own_s 92 [(.int 2), (.ref r0)] (fun _ k_ => st1358 _ k_) ?_
  refine own_s 93 [(.int 1), (.int 2), (.ref r0)] (fun _ k_ => XS.iconst X1358.here hx rfl (hb hby d15_92) k_) ?_
  refine own_s 94 [(.int ((2 : Int32) - (1 : Int32))), (.ref r0)] (fun _ k_ => XS.isub X1358.here hx rfl (hb hby d15_93) rfl k_) ?_
  rw [show ((2 : Int32) - (1 : Int32)) = (1 : Int32) from by decide]
  obtain ⟨T1359, h1359, X1359, e1359, W1359, st1359⟩ := putF X1358 hx hZ hown (host := "") (Or.inl (own_w 57 hw rfl)) Via.refl e1358 f1351 f1346 (Or.inl (own_w 58 hw rfl)) (own_w 16 hw rfl) (ty := .int) (by decide) rfl rfl (g := (mkF m 94 #[.val (.ref r0), .val (.int (Int32.ofNat ii)), .val (.int 1)] [(.int 1), (.ref r0)])) rfl rfl (hb hby d15_94)
  have f1361 := f1347.other W1359 (Or.inr (slot_ne (Or.inr (own_w 36 hw rfl)) (Or.inl (own_w 58 hw rfl)) (by decide) (t := (.object "com/example/adfair/adfair/Ranking$Places")) (t' := .int) (by decide) (by decide)))
  have f1362 := f1348.other W1359 (Or.inr (slot_ne (Or.inr (own_w 40 hw rfl)) (Or.inl (own_w 58 hw rfl)) (by decide) (t := .long) (t' := .int) (by decide) (by decide)))
  have f1363 := f1349.other W1359 (Or.inr (slot_ne (Or.inl (own_w 30 hw rfl)) (Or.inl (own_w 58 hw rfl)) (by decide) (t := (.array .int)) (t' := .int) (by decide) (by decide)))
  have f1364 := f1350.other W1359 (Or.inr (slot_ne (Or.inl (own_w 56 hw rfl)) (Or.inl (own_w 58 hw rfl)) (by decide) (t := .int) (t' := .int) (by decide) (by decide)))
  have f1365 : Fld Z h1359 r0 "com/example/adfair/adfair/Ranking" "queueSize" "I" (.int 1) := f1351.same W1359
  have f1366 := f1352.other W1359 (Or.inl (Ne.symm ne_r0_pp))
  have f1368 := f1354.other W1359 (Ne.symm ne_r0_ha)
  have f1370 := f1356.other W1359 (Ne.symm ne_r0_qa)
  have f1371 := f1357.wr W1359 (Or.inl (List.mem_of_getElem? (i := 0) rfl))
  have Z1359 : n0 ≤ h1359.size := Nat.le_trans Z1345 (Keep.of_wr W1359).1
  have N1359 := Fr.snoc X1359 N1345 g_r0
  refine own_s 97 [] (fun _ k_ => st1359 _ k_) ?_
  refine own_s 161 [] (fun _ k_ => XS.goto X1359.here hx rfl (pc0 := 97) (pc' := 161) rfl (hb hby d15_97) (by decide) (by decide) k_) ?_
  refine own_aloadN 162 X1359.here hx (hb hby d15_161) rfl rfl rfl ?_
  obtain ⟨T1372, X1372, e1372, st1372⟩ := getF X1359 hx hZ hown (host := "") (Or.inl (own_w 35 hw rfl)) Via.refl e1359 f1361 (g := (mkF m 162 #[.val (.ref r0), .val (.int (Int32.ofNat ii)), .val (.int 1)] [(.ref r0)])) rfl rfl (hb hby d15_162)
  refine own_s 165 [(.ref pp)] (fun _ k_ => st1372 _ k_) ?_
  obtain ⟨T1373, X1373, e1373, st1373⟩ := own_getR X1372 hx hZ hown (own_w 50 hw rfl) e1372 f1366 (g := (mkF m 165 #[.val (.ref r0), .val (.int (Int32.ofNat ii)), .val (.int 1)] [(.ref pp)])) rfl rfl (hb hby d15_165)
  refine own_s 168 [(.ref ha)] (fun _ k_ => st1373 _ k_) ?_
  refine own_iloadN 169 X1373.here hx (hb hby d15_168) rfl rfl ?_
  refine own_s 170 [(.long 0), (.int (Int32.ofNat ii)), (.ref ha)] (fun _ k_ => XS.lconst X1373.here hx rfl (hb hby d15_169) k_) ?_
  obtain ⟨cl1374, Ar1374, S1374, Hh1374⟩ := id f1368
  obtain ⟨T1374, h1374, X1374, e1374, W1374, st1374⟩ := stJ X1373 hx hZ e1373 Ar1374 (j := (Int32.ofNat ii)) (own_inb S1374 (by omega) hi) (g := (mkF m 170 #[.val (.ref r0), .val (.int (Int32.ofNat ii)), .val (.int 1)] [(.long 0), (.int (Int32.ofNat ii)), (.ref ha)])) rfl rfl (hb hby d15_170)
  rw [own_clamp (Nat.lt_trans hi (by omega))] at W1374
  have f1376 := f1361.other W1374 (Or.inl ne_r0_ha)
  have f1377 := f1362.other W1374 (Or.inl ne_r0_ha)
  have f1378 := f1363.other W1374 (Or.inl ne_r0_ha)
  have f1379 := f1364.other W1374 (Or.inl ne_r0_ha)
  have f1380 := f1365.other W1374 (Or.inl ne_r0_ha)
  have f1383 : own_LN Z h1374 ha NN (own_upd fH ii (0 : Int64)) := f1368.set W1374 hi
  have f1385 := f1370.other W1374 (Ne.symm ne_ha_qa)
  have f1386 := f1371.wr W1374 (Or.inl (List.mem_of_getElem? (i := 2) rfl))
  have Z1374 : n0 ≤ h1374.size := Nat.le_trans Z1359 (Keep.of_wr W1374).1
  have N1374 := Fr.snoc X1374 N1359 g_ha
  refine own_s 171 [] (fun _ k_ => st1374 _ k_) ?_
  obtain ⟨fs, hr, hrun, hended, hW, hsame⟩ := X1374.leave (v := none) (fun _ => rfl)
  refine own_at ?_ (hG _ _ ⟨hrun, hended, _, _, rfl, ?_, ⟨_, rfl⟩, hW, hsame.mono (by decide) (by decide)⟩)
  · show Steps p.tables e below (T1374.setTop (mkF m 171 #[.val (.ref r0), .val (.int (Int32.ofNat ii)), .val (.int 1)] [])) _
    exact X1374.returnOut hx Bd.returns (hb hby d15_171) hr
  · show QReBF Z r0 ii num pp pa ha qa cq NN fH gP jj h0 n0 _ T1374.heap _
    rw [e1374]
    exact ⟨rfl, N1374, f1386, f1376, f1377, f1378, f1379, f1380, f1383, f1385⟩
theorem ef_rmReB2E (m : MethodId) (x0 : Addr) (x1 : Int32) : entryFrame m #[(.ref x0), (.int x1)] 3 = mkF m 0 #[.val (.ref x0), .val (.int x1), .unset] [] := by first | (simp [entryFrame, mkF, argsToLocals, Value.category]; done) | rfl
def QReB2E (Z : State) (r0 : Addr) (ii : Nat) (num : Int64) (pp : Addr) (pa : Addr) (ha : Addr) (qa : Addr) (cq : ClassId) (NN : Nat) (fH : Nat → Int64) (gP : Nat → Int32) (h0 : Heap) (n0 : Nat) (v : Option Value) (h : Heap) (L : List Loc) : Prop := v = none ∧ Fr n0 L ∧ Keep h0 h [r0, qa, ha] ∧ Fld Z h r0 "com/example/adfair/adfair/Ranking" "places" "Lcom/example/adfair/adfair/Ranking$Places;" (.ref pp) ∧ Fld Z h r0 "com/example/adfair/adfair/Ranking" "number" "J" (.long num) ∧ Fld Z h r0 "com/example/adfair/adfair/Ranking" "queued" "[I" (.ref qa) ∧ Fld Z h r0 "com/example/adfair/adfair/Ranking" "queueFirst" "I" (.int 2) ∧ Fld Z h r0 "com/example/adfair/adfair/Ranking" "queueSize" "I" (.int 0) ∧ own_LN Z h ha NN (own_upd fH ii (0 : Int64)) ∧ Arv Z h qa cq .int (16 : Int32) [(.int (-1)), (.int (-1)), (.int 0), (.int 0), (.int 0), (.int 0), (.int 0), (.int 0), (.int 0), (.int 0), (.int 0), (.int 0), (.int 0), (.int 0), (.int 0), (.int 0)] (.int 0)
set_option maxRecDepth 65536 in
set_option maxHeartbeats 40000000 in
theorem rmReB2E (l : Launch) (Z : State) (a0 : Array Value) (hw : ∀ d ∈ tables_1, d.before a0 Z = true) (ws : List Jvm.Cond) (r0 : Addr) (ii : Nat) (num : Int64) (pp : Addr) (pa : Addr) (ha : Addr) (qa : Addr) (cq : ClassId) (NN : Nat) (fH : Nat → Int64) (gP : Nat → Int32) (h0 : Heap) (n0 : Nat) (Z0 : n0 ≤ h0.size) (u0 : Exa Z h0 r0 "com/example/adfair/adfair/Ranking") (u1 : Fld Z h0 r0 "com/example/adfair/adfair/Ranking" "places" "Lcom/example/adfair/adfair/Ranking$Places;" (.ref pp)) (u2 : Fld Z h0 r0 "com/example/adfair/adfair/Ranking" "number" "J" (.long num)) (u3 : Fld Z h0 r0 "com/example/adfair/adfair/Ranking" "queued" "[I" (.ref qa)) (u4 : Fld Z h0 r0 "com/example/adfair/adfair/Ranking" "queueFirst" "I" (.int 1)) (u5 : Fld Z h0 r0 "com/example/adfair/adfair/Ranking" "queueSize" "I" (.int 1)) (u6 : Fld Z h0 pp "com/example/adfair/adfair/Ranking$Places" "holder" "[J" (.ref ha)) (u7 : Fld Z h0 pp "com/example/adfair/adfair/Ranking$Places" "place" "[I" (.ref pa)) (u8 : own_LN Z h0 ha NN fH) (u9 : own_IN Z h0 pa NN gP) (u10 : Arv Z h0 qa cq .int (16 : Int32) [(.int (-1)), (.int (Int32.ofNat ii)), (.int 0), (.int 0), (.int 0), (.int 0), (.int 0), (.int 0), (.int 0), (.int 0), (.int 0), (.int 0), (.int 0), (.int 0), (.int 0), (.int 0)] (.int 0)) (ne_r0_pp : r0 ≠ pp) (ne_r0_pa : r0 ≠ pa) (ne_r0_ha : r0 ≠ ha) (ne_r0_qa : r0 ≠ qa) (ne_pp_pa : pp ≠ pa) (ne_pp_ha : pp ≠ ha) (ne_pp_qa : pp ≠ qa) (ne_pa_ha : pa ≠ ha) (ne_pa_qa : pa ≠ qa) (ne_ha_qa : ha ≠ qa) (g_r0 : n0 ≤ r0) (g_ha : n0 ≤ ha) (g_qa : n0 ≤ qa) (hi : ii < NN) (hN : NN ≤ 126) (hz : own_z fH NN) (hnum : ¬ num = 0) (hf : fH ii = num) (hg : gP ii = (-2 : Int32)) :
    MetFree l (⟨"com/example/adfair/adfair/Ranking", "remove", "(I)V"⟩ : MethodName) (head1 (Jvm.Cond.code (⟨"com/example/adfair/adfair/Ranking", "remove", "(I)V"⟩ : MethodName) prog_20_method_10_code 3 none :: ws) ({ frames := 1, cells := 0, slots := 0, locals := 20 } : Room)) (fun a U => a = #[(.ref r0), (.int (Int32.ofNat ii))] ∧ Z.Warmed39 U.vm ∧ U.heap = h0) (fun _ _ _ _ _ => True) (fun _ U o U' => ∃ v L, o = .returned v ∧ QReB2E Z r0 ii num pp pa ha qa cq NN fH gP h0 n0 v U'.heap L ∧ FrameEnd U o U' L ({ frames := 1, cells := 0, slots := 0, locals := 20 } : Room).cells ({ frames := 1, cells := 0, slots := 0, locals := 20 } : Room).slots) := by
  refine MetFree.of_bodySF (plainFor_of_name pn_15) hisR ?_
  intro p e s m args below meth c s₁ Bd hml0 hP hK
  obtain ⟨rfl, hZ, hh⟩ := hP
  have hx := Bd.exec
  have hby := Bd.bytes
  have hml : c.maxLocals = 3 := hml0
  have hown : s.vm.findClass "com/example/adfair/adfair/Ranking" = some m.cls := findClass_of_methodNamed Bd.named
  have hnm := (name_of_methodNamed Bd.named Bd.method).1
  have X0 : Stand p l e ({ frames := 1, cells := 0, slots := 0, locals := 20 } : Room) s m #[(.ref r0), (.int (Int32.ofNat ii))] below meth c s₁ [] 0 0 := Stand.of_body Bd
  have e0 : s₁.heap = h0 := by rw [← hh, Bd.state]; rfl
  have N0 := Fr.nil n0
  refine own_open fun G hG => ?_
  refine own_go (B := s₁.setTop (mkF m 0 #[.val (.ref r0), .val (.int (Int32.ofNat ii)), .unset] [])) (fun t_ k_ => castTop (ef_rmReB2E m r0 (Int32.ofNat ii)) k_) ?_
  have K0 : Keep h0 h0 [r0, qa, ha] := Keep.refl h0 _
  refine own_aloadN 1 X0.here hx (hb hby d15_0) rfl rfl rfl ?_
  refine own_iloadN 2 X0.here hx (hb hby d15_1) rfl rfl ?_
  obtain ⟨cq1388, kq1388, q1388a, q1388b, q1388c⟩ := isOf hZ e0 u0
  obtain ⟨vv1388, _, ⟨T1388, L1388, k1388, n1388⟩, -, X1388, ⟨Lc1388, hQ1388, l1388, y1388, z1388⟩, st1388⟩ := X0.virtualBack hx (y := (⟨"com/example/adfair/adfair/Ranking", "contains", "(I)Z"⟩ : MethodName)) (z := (⟨"com/example/adfair/adfair/Ranking", "contains", "(I)Z"⟩ : MethodName)) hown (mvT hZ (own_w 101 hw rfl)) (mvT hZ (own_w 92 hw rfl)) (notFace_of_selects (args := #[]) (mvT hZ (own_w 94 hw rfl))) (mvT hZ (own_w 94 hw rfl)) (mvT hZ (own_w 93 hw rfl)) (by decide) (backOf (W := 0) (rmCo l Z a0 hw [] r0 ii num pp ha NN fH h0 n0 Z0 u1 u2 u6 u8 (by omega) hN hz hnum) hZ (own_w 95 hw rfl) (own_w 17 hw rfl) (by decide) (by decide)) q1388a q1388c (g := (mkF m 2 #[.val (.ref r0), .val (.int (Int32.ofNat ii)), .unset] [(.int (Int32.ofNat ii)), (.ref r0)])) rfl (by rw [hml]; rfl) (Steps.refl _) (argsL := [(.int (Int32.ofNat ii))]) (rest := []) (lenOf pd__28_I_29_Z rfl) rfl (by show 2 * 0 + _ ≤ _; exact Nat.le_of_eq rfl) (hb hby d15_2) (fun _ _ => ⟨rfl, e0, (by decide : 0 + 0 ≤ _), (by decide : 0 + 0 ≤ _)⟩)
  dsimp only [Pt.U, Pt.locs, Pt.cells, Pt.slots] at X1388 l1388 y1388 z1388 st1388 hQ1388
  subst l1388 y1388 z1388
  obtain ⟨rfl, N1388q, e1388q⟩ := hQ1388
  have N1388 := Fr.app N0 N1388q
  refine own_s 5 [(.int (own_con fH ii num))] (fun _ k_ => st1388.trans k_) ?_
  refine own_s 22 [] (fun _ k_ => XS.ifYes X1388.here hx rfl (pc0 := 5) (pc' := 22) rfl (hb hby d15_5) rfl ((if0 _ _).trans (feq (by rw [own_con1 hf]; decide)).2) (by decide) (by decide) k_) ?_
  refine own_aloadN 23 X1388.here hx (hb hby d15_22) rfl rfl rfl ?_
  obtain ⟨T1389, X1389, e1389, st1389⟩ := getF X1388 hx hZ hown (host := "") (Or.inl (own_w 35 hw rfl)) Via.refl e1388q u1 (g := (mkF m 23 #[.val (.ref r0), .val (.int (Int32.ofNat ii)), .unset] [(.ref r0)])) rfl rfl (hb hby d15_23)
  refine own_s 26 [(.ref pp)] (fun _ k_ => st1389 _ k_) ?_
  obtain ⟨T1390, X1390, e1390, st1390⟩ := own_getR X1389 hx hZ hown (own_w 63 hw rfl) e1389 u7 (g := (mkF m 26 #[.val (.ref r0), .val (.int (Int32.ofNat ii)), .unset] [(.ref pp)])) rfl rfl (hb hby d15_26)
  refine own_s 29 [(.ref pa)] (fun _ k_ => st1390 _ k_) ?_
  refine own_iloadN 30 X1390.here hx (hb hby d15_29) rfl rfl ?_
  obtain ⟨cl1391, Ar1391, S1391, Hh1391⟩ := id u9
  have hat1391 : cl1391.slots[((Int32.ofNat ii)).toNatClampNeg]? = some (.int (gP ii)) := by rw [own_clamp (Nat.lt_trans hi (by omega))]; exact Hh1391 _ hi
  refine own_s 31 [(.int (gP ii))] (fun _ k_ => X1390.iaload hx (j := (Int32.ofNat ii)) (v := (.int (gP ii))) (by rw [e1390]; exact Ar1391.1) (State.isArrayOf_alike hZ.alike Ar1391.2.1) Ar1391.2.2 (own_inb S1391 (by omega) hi) hat1391 (g := (mkF m 30 #[.val (.ref r0), .val (.int (Int32.ofNat ii)), .unset] [(.int (Int32.ofNat ii)), (.ref pa)])) rfl rfl (hb hby d15_30) _ k_) ?_
  refine own_s 33 [(.int (-2)), (.int (gP ii))] (fun _ k_ => XS.bipush X1390.here hx rfl (hb hby d15_31) k_) ?_
  refine own_s 36 [] (fun _ k_ => XS.icmpNo X1390.here hx rfl (hb hby d15_33) rfl (teq hg).2 k_) ?_
  refine own_s 37 [(.int 1)] (fun _ k_ => XS.iconst X1390.here hx rfl (hb hby d15_36) k_) ?_
  refine own_s 41 [(.int 1)] (fun _ k_ => XS.goto X1390.here hx rfl (pc0 := 37) (pc' := 41) rfl (hb hby d15_37) (by decide) (by decide) k_) ?_
  refine own_istoreN 42 #[.val (.ref r0), .val (.int (Int32.ofNat ii)), .val (.int 1)] X1390.here hx (hb hby d15_41) rfl rfl ?_
  refine own_iloadN 43 X1390.here hx (hb hby d15_42) rfl rfl ?_
  refine own_s 46 [] (fun _ k_ => XS.ifNo X1390.here hx rfl (hb hby d15_43) rfl ((if0 _ _).trans (feq (by decide : ¬ ((1 : Int32) = (0 : Int32)))).1) k_) ?_
  refine own_aloadN 47 X1390.here hx (hb hby d15_46) rfl rfl rfl ?_
  obtain ⟨T1392, X1392, e1392, st1392⟩ := getF X1390 hx hZ hown (host := "") (Or.inl (own_w 29 hw rfl)) Via.refl e1390 u3 (g := (mkF m 47 #[.val (.ref r0), .val (.int (Int32.ofNat ii)), .val (.int 1)] [(.ref r0)])) rfl rfl (hb hby d15_47)
  refine own_s 50 [(.ref qa)] (fun _ k_ => st1392 _ k_) ?_
  refine own_aloadN 51 X1392.here hx (hb hby d15_50) rfl rfl rfl ?_
  obtain ⟨T1393, X1393, e1393, st1393⟩ := getF X1392 hx hZ hown (host := "") (Or.inl (own_w 55 hw rfl)) Via.refl e1392 u4 (g := (mkF m 51 #[.val (.ref r0), .val (.int (Int32.ofNat ii)), .val (.int 1)] [(.ref r0), (.ref qa)])) rfl rfl (hb hby d15_51)
  refine own_s 54 [(.int 1), (.ref qa)] (fun _ k_ => st1393 _ k_) ?_
  obtain ⟨cl1394, Ar1394, -, S1394, M1394, Hh1394, -⟩ := id u10
  have hin1394 : ¬ ((1 : Int32) < 0 ∨ cl1394.slots.size ≤ ((1 : Int32)).toNatClampNeg) := inb_of S1394 ⟨by decide, by decide⟩
  have hat1394 : cl1394.slots[((1 : Int32)).toNatClampNeg]? = some (.int (Int32.ofNat ii)) := Hh1394.at hin1394 rfl
  refine own_s 55 [(.int (Int32.ofNat ii))] (fun _ k_ => X1393.iaload hx (j := (1 : Int32)) (v := (.int (Int32.ofNat ii))) (by rw [e1393]; exact Ar1394.1) (State.isArrayOf_alike hZ.alike Ar1394.2.1) Ar1394.2.2 hin1394 hat1394 (g := (mkF m 54 #[.val (.ref r0), .val (.int (Int32.ofNat ii)), .val (.int 1)] [(.int 1), (.ref qa)])) rfl rfl (hb hby d15_54) _ k_) ?_
  refine own_iloadN 56 X1393.here hx (hb hby d15_55) rfl rfl ?_
  refine own_s 59 [] (fun _ k_ => XS.icmpNo X1393.here hx rfl (hb hby d15_56) rfl (teq rfl).2 k_) ?_
  refine own_aloadN 60 X1393.here hx (hb hby d15_59) rfl rfl rfl ?_
  obtain ⟨T1395, X1395, e1395, st1395⟩ := getF X1393 hx hZ hown (host := "") (Or.inl (own_w 29 hw rfl)) Via.refl e1393 u3 (g := (mkF m 60 #[.val (.ref r0), .val (.int (Int32.ofNat ii)), .val (.int 1)] [(.ref r0)])) rfl rfl (hb hby d15_60)
  refine own_s 63 [(.ref qa)] (fun _ k_ => st1395 _ k_) ?_
  refine own_aloadN 64 X1395.here hx (hb hby d15_63) rfl rfl rfl ?_
  obtain ⟨T1396, X1396, e1396, st1396⟩ := getF X1395 hx hZ hown (host := "") (Or.inl (own_w 55 hw rfl)) Via.refl e1395 u4 (g := (mkF m 64 #[.val (.ref r0), .val (.int (Int32.ofNat ii)), .val (.int 1)] [(.ref r0), (.ref qa)])) rfl rfl (hb hby d15_64)
  refine own_s 67 [(.int 1), (.ref qa)] (fun _ k_ => st1396 _ k_) ?_
  refine own_s 68 [(.int (-1)), (.int 1), (.ref qa)] (fun _ k_ => XS.iconst X1396.here hx rfl (hb hby d15_67) k_) ?_
  obtain ⟨cl1397, Ar1397, q1397, S1397, M1397, Hh1397, G1397⟩ := id u10
  obtain ⟨T1397, h1397, X1397, e1397, W1397, st1397⟩ := stI X1396 hx hZ e1396 Ar1397 (j := (1 : Int32)) (inb_of S1397 ⟨by decide, by decide⟩) (g := (mkF m 68 #[.val (.ref r0), .val (.int (Int32.ofNat ii)), .val (.int 1)] [(.int (-1)), (.int 1), (.ref qa)])) rfl rfl (hb hby d15_68)
  have f1398 := u0.wr W1397
  have f1399 := u1.other W1397 (Or.inl ne_r0_qa)
  have f1400 := u2.other W1397 (Or.inl ne_r0_qa)
  have f1401 := u3.other W1397 (Or.inl ne_r0_qa)
  have f1402 := u4.other W1397 (Or.inl ne_r0_qa)
  have f1403 := u5.other W1397 (Or.inl ne_r0_qa)
  have f1404 := u6.other W1397 (Or.inl ne_pp_qa)
  have f1406 := u8.other W1397 ne_ha_qa
  have f1408 : Arv Z h1397 qa cq .int (16 : Int32) [(.int (-1)), (.int (-1)), (.int 0), (.int 0), (.int 0), (.int 0), (.int 0), (.int 0), (.int 0), (.int 0), (.int 0), (.int 0), (.int 0), (.int 0), (.int 0), (.int 0)] (.int 0) := Arv.set Ar1397 q1397 S1397 M1397 Hh1397 G1397 rfl W1397 1 rfl (Nat.le_of_ble_eq_true rfl)
  have f1409 := K0.wr W1397 (Or.inl (List.mem_of_getElem? (i := 1) rfl))
  have Z1397 : n0 ≤ h1397.size := Nat.le_trans Z0 (Keep.of_wr W1397).1
  have N1397 := Fr.snoc X1397 N1388 g_qa
  refine own_s 69 [] (fun _ k_ => st1397 _ k_) ?_
  refine own_aloadN 70 X1397.here hx (hb hby d15_69) rfl rfl rfl ?_
  refine own_aloadN 71 X1397.here hx (hb hby d15_70) rfl rfl rfl ?_
  obtain ⟨T1410, X1410, e1410, st1410⟩ := getF X1397 hx hZ hown (host := "") (Or.inl (own_w 55 hw rfl)) Via.refl e1397 f1402 (g := (mkF m 71 #[.val (.ref r0), .val (.int (Int32.ofNat ii)), .val (.int 1)] [(.ref r0), (.ref r0)])) rfl rfl (hb hby d15_71)
  refine own_s 74 [(.int 1), (.ref r0)] (fun _ k_ => st1410 _ k_) ?_
  refine own_s 75 [(.int 1), (.int 1), (.ref r0)] (fun _ k_ => XS.iconst X1410.here hx rfl (hb hby d15_74) k_) ?_
  refine own_s 76 [(.int ((1 : Int32) + (1 : Int32))), (.ref r0)] (fun _ k_ => XS.iadd X1410.here hx rfl (hb hby d15_75) rfl k_) ?_
  rw [show ((1 : Int32) + (1 : Int32)) = (2 : Int32) from by decide]
  refine own_aloadN 77 X1410.here hx (hb hby d15_76) rfl rfl rfl ?_
  obtain ⟨T1411, X1411, e1411, st1411⟩ := getF X1410 hx hZ hown (host := "") (Or.inl (own_w 29 hw rfl)) Via.refl e1410 f1401 (g := (mkF m 77 #[.val (.ref r0), .val (.int (Int32.ofNat ii)), .val (.int 1)] [(.ref r0), (.int 2), (.ref r0)])) rfl rfl (hb hby d15_77)
  refine own_s 80 [(.ref qa), (.int 2), (.ref r0)] (fun _ k_ => st1411 _ k_) ?_
  obtain ⟨cl1412, Ar1412, -, S1412, M1412, -, -⟩ := id f1408
  refine own_go (B := T1411.setTop (mkF m 81 #[.val (.ref r0), .val (.int (Int32.ofNat ii)), .val (.int 1)] [(.int 16), (.int 2), (.ref r0)])) (fun t_ k_ => ?_) ?_
  · refine X1411.arraylength hx (by rw [e1411]; exact Ar1412.1) (State.isArrayOf_alike hZ.alike Ar1412.2.1) (g := (mkF m 80 #[.val (.ref r0), .val (.int (Int32.ofNat ii)), .val (.int 1)] [(.ref qa), (.int 2), (.ref r0)])) rfl rfl (hb hby d15_80) _ ?_
    rw [len_of S1412 M1412]
    exact k_
  refine own_s 82 [(.int 1), (.int 16), (.int 2), (.ref r0)] (fun _ k_ => XS.iconst X1411.here hx rfl (hb hby d15_81) k_) ?_
  refine own_s 83 [(.int ((16 : Int32) - (1 : Int32))), (.int 2), (.ref r0)] (fun _ k_ => XS.isub X1411.here hx rfl (hb hby d15_82) rfl k_) ?_
  rw [show ((16 : Int32) - (1 : Int32)) = (15 : Int32) from by decide]
  refine own_s 84 [(.int ((2 : Int32) &&& (15 : Int32))), (.ref r0)] (fun _ k_ => XS.iand X1411.here hx rfl (hb hby d15_83) rfl k_) ?_
  rw [show ((2 : Int32) &&& (15 : Int32)) = (2 : Int32) from by decide]
  obtain ⟨T1413, h1413, X1413, e1413, W1413, st1413⟩ := putF X1411 hx hZ hown (host := "") (Or.inl (own_w 55 hw rfl)) Via.refl e1411 f1402 f1398 (Or.inl (own_w 56 hw rfl)) (own_w 16 hw rfl) (ty := .int) (by decide) rfl rfl (g := (mkF m 84 #[.val (.ref r0), .val (.int (Int32.ofNat ii)), .val (.int 1)] [(.int 2), (.ref r0)])) rfl rfl (hb hby d15_84)
  have f1414 := f1398.wr W1413
  have f1415 := f1399.other W1413 (Or.inr (slot_ne (Or.inr (own_w 36 hw rfl)) (Or.inl (own_w 56 hw rfl)) (by decide) (t := (.object "com/example/adfair/adfair/Ranking$Places")) (t' := .int) (by decide) (by decide)))
  have f1416 := f1400.other W1413 (Or.inr (slot_ne (Or.inr (own_w 40 hw rfl)) (Or.inl (own_w 56 hw rfl)) (by decide) (t := .long) (t' := .int) (by decide) (by decide)))
  have f1417 := f1401.other W1413 (Or.inr (slot_ne (Or.inl (own_w 30 hw rfl)) (Or.inl (own_w 56 hw rfl)) (by decide) (t := (.array .int)) (t' := .int) (by decide) (by decide)))
  have f1418 : Fld Z h1413 r0 "com/example/adfair/adfair/Ranking" "queueFirst" "I" (.int 2) := f1402.same W1413
  have f1419 := f1403.other W1413 (Or.inr (slot_ne (Or.inl (own_w 58 hw rfl)) (Or.inl (own_w 56 hw rfl)) (by decide) (t := .int) (t' := .int) (by decide) (by decide)))
  have f1420 := f1404.other W1413 (Or.inl (Ne.symm ne_r0_pp))
  have f1422 := f1406.other W1413 (Ne.symm ne_r0_ha)
  have f1424 := f1408.other W1413 (Ne.symm ne_r0_qa)
  have f1425 := f1409.wr W1413 (Or.inl (List.mem_of_getElem? (i := 0) rfl))
  have Z1413 : n0 ≤ h1413.size := Nat.le_trans Z1397 (Keep.of_wr W1413).1
  have N1413 := Fr.snoc X1413 N1397 g_r0
  refine own_s 87 [] (fun _ k_ => st1413 _ k_) ?_
  refine own_aloadN 88 X1413.here hx (hb hby d15_87) rfl rfl rfl ?_
  refine own_s 89 [(.ref r0), (.ref r0)] (fun _ k_ => XS.dup X1413.here hx rfl (hb hby d15_88) rfl rfl k_) ?_
  obtain ⟨T1426, X1426, e1426, st1426⟩ := getF X1413 hx hZ hown (host := "") (Or.inl (own_w 57 hw rfl)) Via.refl e1413 f1419 (g := (mkF m 89 #[.val (.ref r0), .val (.int (Int32.ofNat ii)), .val (.int 1)] [(.ref r0), (.ref r0)])) rfl rfl (hb hby d15_89)
  refine own_s 92 [(.int 1), (.ref r0)] (fun _ k_ => st1426 _ k_) ?_
  refine own_s 93 [(.int 1), (.int 1), (.ref r0)] (fun _ k_ => XS.iconst X1426.here hx rfl (hb hby d15_92) k_) ?_
  refine own_s 94 [(.int ((1 : Int32) - (1 : Int32))), (.ref r0)] (fun _ k_ => XS.isub X1426.here hx rfl (hb hby d15_93) rfl k_) ?_
  rw [show ((1 : Int32) - (1 : Int32)) = (0 : Int32) from by decide]
  obtain ⟨T1427, h1427, X1427, e1427, W1427, st1427⟩ := putF X1426 hx hZ hown (host := "") (Or.inl (own_w 57 hw rfl)) Via.refl e1426 f1419 f1414 (Or.inl (own_w 58 hw rfl)) (own_w 16 hw rfl) (ty := .int) (by decide) rfl rfl (g := (mkF m 94 #[.val (.ref r0), .val (.int (Int32.ofNat ii)), .val (.int 1)] [(.int 0), (.ref r0)])) rfl rfl (hb hby d15_94)
  have f1429 := f1415.other W1427 (Or.inr (slot_ne (Or.inr (own_w 36 hw rfl)) (Or.inl (own_w 58 hw rfl)) (by decide) (t := (.object "com/example/adfair/adfair/Ranking$Places")) (t' := .int) (by decide) (by decide)))
  have f1430 := f1416.other W1427 (Or.inr (slot_ne (Or.inr (own_w 40 hw rfl)) (Or.inl (own_w 58 hw rfl)) (by decide) (t := .long) (t' := .int) (by decide) (by decide)))
  have f1431 := f1417.other W1427 (Or.inr (slot_ne (Or.inl (own_w 30 hw rfl)) (Or.inl (own_w 58 hw rfl)) (by decide) (t := (.array .int)) (t' := .int) (by decide) (by decide)))
  have f1432 := f1418.other W1427 (Or.inr (slot_ne (Or.inl (own_w 56 hw rfl)) (Or.inl (own_w 58 hw rfl)) (by decide) (t := .int) (t' := .int) (by decide) (by decide)))
  have f1433 : Fld Z h1427 r0 "com/example/adfair/adfair/Ranking" "queueSize" "I" (.int 0) := f1419.same W1427
  have f1434 := f1420.other W1427 (Or.inl (Ne.symm ne_r0_pp))
  have f1436 := f1422.other W1427 (Ne.symm ne_r0_ha)
  have f1438 := f1424.other W1427 (Ne.symm ne_r0_qa)
  have f1439 := f1425.wr W1427 (Or.inl (List.mem_of_getElem? (i := 0) rfl))
  have Z1427 : n0 ≤ h1427.size := Nat.le_trans Z1413 (Keep.of_wr W1427).1
  have N1427 := Fr.snoc X1427 N1413 g_r0
  refine own_s 97 [] (fun _ k_ => st1427 _ k_) ?_
  refine own_s 161 [] (fun _ k_ => XS.goto X1427.here hx rfl (pc0 := 97) (pc' := 161) rfl (hb hby d15_97) (by decide) (by decide) k_) ?_
  refine own_aloadN 162 X1427.here hx (hb hby d15_161) rfl rfl rfl ?_
  obtain ⟨T1440, X1440, e1440, st1440⟩ := getF X1427 hx hZ hown (host := "") (Or.inl (own_w 35 hw rfl)) Via.refl e1427 f1429 (g := (mkF m 162 #[.val (.ref r0), .val (.int (Int32.ofNat ii)), .val (.int 1)] [(.ref r0)])) rfl rfl (hb hby d15_162)
  refine own_s 165 [(.ref pp)] (fun _ k_ => st1440 _ k_) ?_
  obtain ⟨T1441, X1441, e1441, st1441⟩ := own_getR X1440 hx hZ hown (own_w 50 hw rfl) e1440 f1434 (g := (mkF m 165 #[.val (.ref r0), .val (.int (Int32.ofNat ii)), .val (.int 1)] [(.ref pp)])) rfl rfl (hb hby d15_165)
  refine own_s 168 [(.ref ha)] (fun _ k_ => st1441 _ k_) ?_
  refine own_iloadN 169 X1441.here hx (hb hby d15_168) rfl rfl ?_
  refine own_s 170 [(.long 0), (.int (Int32.ofNat ii)), (.ref ha)] (fun _ k_ => XS.lconst X1441.here hx rfl (hb hby d15_169) k_) ?_
  obtain ⟨cl1442, Ar1442, S1442, Hh1442⟩ := id f1436
  obtain ⟨T1442, h1442, X1442, e1442, W1442, st1442⟩ := stJ X1441 hx hZ e1441 Ar1442 (j := (Int32.ofNat ii)) (own_inb S1442 (by omega) hi) (g := (mkF m 170 #[.val (.ref r0), .val (.int (Int32.ofNat ii)), .val (.int 1)] [(.long 0), (.int (Int32.ofNat ii)), (.ref ha)])) rfl rfl (hb hby d15_170)
  rw [own_clamp (Nat.lt_trans hi (by omega))] at W1442
  have f1444 := f1429.other W1442 (Or.inl ne_r0_ha)
  have f1445 := f1430.other W1442 (Or.inl ne_r0_ha)
  have f1446 := f1431.other W1442 (Or.inl ne_r0_ha)
  have f1447 := f1432.other W1442 (Or.inl ne_r0_ha)
  have f1448 := f1433.other W1442 (Or.inl ne_r0_ha)
  have f1451 : own_LN Z h1442 ha NN (own_upd fH ii (0 : Int64)) := f1436.set W1442 hi
  have f1453 := f1438.other W1442 (Ne.symm ne_ha_qa)
  have f1454 := f1439.wr W1442 (Or.inl (List.mem_of_getElem? (i := 2) rfl))
  have Z1442 : n0 ≤ h1442.size := Nat.le_trans Z1427 (Keep.of_wr W1442).1
  have N1442 := Fr.snoc X1442 N1427 g_ha
  refine own_s 171 [] (fun _ k_ => st1442 _ k_) ?_
  obtain ⟨fs, hr, hrun, hended, hW, hsame⟩ := X1442.leave (v := none) (fun _ => rfl)
  refine own_at ?_ (hG _ _ ⟨hrun, hended, _, _, rfl, ?_, ⟨_, rfl⟩, hW, hsame.mono (by decide) (by decide)⟩)
  · show Steps p.tables e below (T1442.setTop (mkF m 171 #[.val (.ref r0), .val (.int (Int32.ofNat ii)), .val (.int 1)] [])) _
    exact X1442.returnOut hx Bd.returns (hb hby d15_171) hr
  · show QReB2E Z r0 ii num pp pa ha qa cq NN fH gP h0 n0 _ T1442.heap _
    rw [e1442]
    exact ⟨rfl, N1442, f1454, f1444, f1445, f1446, f1447, f1448, f1451, f1453⟩
theorem ef_rmReB2F (m : MethodId) (x0 : Addr) (x1 : Int32) : entryFrame m #[(.ref x0), (.int x1)] 3 = mkF m 0 #[.val (.ref x0), .val (.int x1), .unset] [] := by first | (simp [entryFrame, mkF, argsToLocals, Value.category]; done) | rfl
def QReB2F (Z : State) (r0 : Addr) (ii : Nat) (num : Int64) (pp : Addr) (pa : Addr) (ha : Addr) (qa : Addr) (cq : ClassId) (NN : Nat) (fH : Nat → Int64) (gP : Nat → Int32) (h0 : Heap) (n0 : Nat) (v : Option Value) (h : Heap) (L : List Loc) : Prop := v = none ∧ Fr n0 L ∧ Keep h0 h [r0, qa, ha] ∧ Fld Z h r0 "com/example/adfair/adfair/Ranking" "places" "Lcom/example/adfair/adfair/Ranking$Places;" (.ref pp) ∧ Fld Z h r0 "com/example/adfair/adfair/Ranking" "number" "J" (.long num) ∧ Fld Z h r0 "com/example/adfair/adfair/Ranking" "queued" "[I" (.ref qa) ∧ Fld Z h r0 "com/example/adfair/adfair/Ranking" "queueFirst" "I" (.int 0) ∧ Fld Z h r0 "com/example/adfair/adfair/Ranking" "queueSize" "I" (.int 0) ∧ own_LN Z h ha NN (own_upd fH ii (0 : Int64)) ∧ Arv Z h qa cq .int (16 : Int32) [(.int (-1)), (.int 0), (.int 0), (.int 0), (.int 0), (.int 0), (.int 0), (.int 0), (.int 0), (.int 0), (.int 0), (.int 0), (.int 0), (.int 0), (.int 0), (.int (-1))] (.int 0)
set_option maxRecDepth 65536 in
set_option maxHeartbeats 40000000 in
theorem rmReB2F (l : Launch) (Z : State) (a0 : Array Value) (hw : ∀ d ∈ tables_1, d.before a0 Z = true) (ws : List Jvm.Cond) (r0 : Addr) (ii : Nat) (num : Int64) (pp : Addr) (pa : Addr) (ha : Addr) (qa : Addr) (cq : ClassId) (NN : Nat) (fH : Nat → Int64) (gP : Nat → Int32) (h0 : Heap) (n0 : Nat) (Z0 : n0 ≤ h0.size) (u0 : Exa Z h0 r0 "com/example/adfair/adfair/Ranking") (u1 : Fld Z h0 r0 "com/example/adfair/adfair/Ranking" "places" "Lcom/example/adfair/adfair/Ranking$Places;" (.ref pp)) (u2 : Fld Z h0 r0 "com/example/adfair/adfair/Ranking" "number" "J" (.long num)) (u3 : Fld Z h0 r0 "com/example/adfair/adfair/Ranking" "queued" "[I" (.ref qa)) (u4 : Fld Z h0 r0 "com/example/adfair/adfair/Ranking" "queueFirst" "I" (.int 15)) (u5 : Fld Z h0 r0 "com/example/adfair/adfair/Ranking" "queueSize" "I" (.int 1)) (u6 : Fld Z h0 pp "com/example/adfair/adfair/Ranking$Places" "holder" "[J" (.ref ha)) (u7 : Fld Z h0 pp "com/example/adfair/adfair/Ranking$Places" "place" "[I" (.ref pa)) (u8 : own_LN Z h0 ha NN fH) (u9 : own_IN Z h0 pa NN gP) (u10 : Arv Z h0 qa cq .int (16 : Int32) [(.int (-1)), (.int 0), (.int 0), (.int 0), (.int 0), (.int 0), (.int 0), (.int 0), (.int 0), (.int 0), (.int 0), (.int 0), (.int 0), (.int 0), (.int 0), (.int (Int32.ofNat ii))] (.int 0)) (ne_r0_pp : r0 ≠ pp) (ne_r0_pa : r0 ≠ pa) (ne_r0_ha : r0 ≠ ha) (ne_r0_qa : r0 ≠ qa) (ne_pp_pa : pp ≠ pa) (ne_pp_ha : pp ≠ ha) (ne_pp_qa : pp ≠ qa) (ne_pa_ha : pa ≠ ha) (ne_pa_qa : pa ≠ qa) (ne_ha_qa : ha ≠ qa) (g_r0 : n0 ≤ r0) (g_ha : n0 ≤ ha) (g_qa : n0 ≤ qa) (hi : ii < NN) (hN : NN ≤ 126) (hz : own_z fH NN) (hnum : ¬ num = 0) (hf : fH ii = num) (hg : gP ii = (-2 : Int32)) :
    MetFree l (⟨"com/example/adfair/adfair/Ranking", "remove", "(I)V"⟩ : MethodName) (head1 (Jvm.Cond.code (⟨"com/example/adfair/adfair/Ranking", "remove", "(I)V"⟩ : MethodName) prog_20_method_10_code 3 none :: ws) ({ frames := 1, cells := 0, slots := 0, locals := 20 } : Room)) (fun a U => a = #[(.ref r0), (.int (Int32.ofNat ii))] ∧ Z.Warmed39 U.vm ∧ U.heap = h0) (fun _ _ _ _ _ => True) (fun _ U o U' => ∃ v L, o = .returned v ∧ QReB2F Z r0 ii num pp pa ha qa cq NN fH gP h0 n0 v U'.heap L ∧ FrameEnd U o U' L ({ frames := 1, cells := 0, slots := 0, locals := 20 } : Room).cells ({ frames := 1, cells := 0, slots := 0, locals := 20 } : Room).slots) := by
  refine MetFree.of_bodySF (plainFor_of_name pn_15) hisR ?_
  intro p e s m args below meth c s₁ Bd hml0 hP hK
  obtain ⟨rfl, hZ, hh⟩ := hP
  have hx := Bd.exec
  have hby := Bd.bytes
  have hml : c.maxLocals = 3 := hml0
  have hown : s.vm.findClass "com/example/adfair/adfair/Ranking" = some m.cls := findClass_of_methodNamed Bd.named
  have hnm := (name_of_methodNamed Bd.named Bd.method).1
  have X0 : Stand p l e ({ frames := 1, cells := 0, slots := 0, locals := 20 } : Room) s m #[(.ref r0), (.int (Int32.ofNat ii))] below meth c s₁ [] 0 0 := Stand.of_body Bd
  have e0 : s₁.heap = h0 := by rw [← hh, Bd.state]; rfl
  have N0 := Fr.nil n0
  refine own_open fun G hG => ?_
  refine own_go (B := s₁.setTop (mkF m 0 #[.val (.ref r0), .val (.int (Int32.ofNat ii)), .unset] [])) (fun t_ k_ => castTop (ef_rmReB2F m r0 (Int32.ofNat ii)) k_) ?_
  have K0 : Keep h0 h0 [r0, qa, ha] := Keep.refl h0 _
  refine own_aloadN 1 X0.here hx (hb hby d15_0) rfl rfl rfl ?_
  refine own_iloadN 2 X0.here hx (hb hby d15_1) rfl rfl ?_
  obtain ⟨cq1456, kq1456, q1456a, q1456b, q1456c⟩ := isOf hZ e0 u0
  obtain ⟨vv1456, _, ⟨T1456, L1456, k1456, n1456⟩, -, X1456, ⟨Lc1456, hQ1456, l1456, y1456, z1456⟩, st1456⟩ := X0.virtualBack hx (y := (⟨"com/example/adfair/adfair/Ranking", "contains", "(I)Z"⟩ : MethodName)) (z := (⟨"com/example/adfair/adfair/Ranking", "contains", "(I)Z"⟩ : MethodName)) hown (mvT hZ (own_w 101 hw rfl)) (mvT hZ (own_w 92 hw rfl)) (notFace_of_selects (args := #[]) (mvT hZ (own_w 94 hw rfl))) (mvT hZ (own_w 94 hw rfl)) (mvT hZ (own_w 93 hw rfl)) (by decide) (backOf (W := 0) (rmCo l Z a0 hw [] r0 ii num pp ha NN fH h0 n0 Z0 u1 u2 u6 u8 (by omega) hN hz hnum) hZ (own_w 95 hw rfl) (own_w 17 hw rfl) (by decide) (by decide)) q1456a q1456c (g := (mkF m 2 #[.val (.ref r0), .val (.int (Int32.ofNat ii)), .unset] [(.int (Int32.ofNat ii)), (.ref r0)])) rfl (by rw [hml]; rfl) (Steps.refl _) (argsL := [(.int (Int32.ofNat ii))]) (rest := []) (lenOf pd__28_I_29_Z rfl) rfl (by show 2 * 0 + _ ≤ _; exact Nat.le_of_eq rfl) (hb hby d15_2) (fun _ _ => ⟨rfl, e0, (by decide : 0 + 0 ≤ _), (by decide : 0 + 0 ≤ _)⟩)
  dsimp only [Pt.U, Pt.locs, Pt.cells, Pt.slots] at X1456 l1456 y1456 z1456 st1456 hQ1456
  subst l1456 y1456 z1456
  obtain ⟨rfl, N1456q, e1456q⟩ := hQ1456
  have N1456 := Fr.app N0 N1456q
  refine own_s 5 [(.int (own_con fH ii num))] (fun _ k_ => st1456.trans k_) ?_
  refine own_s 22 [] (fun _ k_ => XS.ifYes X1456.here hx rfl (pc0 := 5) (pc' := 22) rfl (hb hby d15_5) rfl ((if0 _ _).trans (feq (by rw [own_con1 hf]; decide)).2) (by decide) (by decide) k_) ?_
  refine own_aloadN 23 X1456.here hx (hb hby d15_22) rfl rfl rfl ?_
  obtain ⟨T1457, X1457, e1457, st1457⟩ := getF X1456 hx hZ hown (host := "") (Or.inl (own_w 35 hw rfl)) Via.refl e1456q u1 (g := (mkF m 23 #[.val (.ref r0), .val (.int (Int32.ofNat ii)), .unset] [(.ref r0)])) rfl rfl (hb hby d15_23)
  refine own_s 26 [(.ref pp)] (fun _ k_ => st1457 _ k_) ?_
  obtain ⟨T1458, X1458, e1458, st1458⟩ := own_getR X1457 hx hZ hown (own_w 63 hw rfl) e1457 u7 (g := (mkF m 26 #[.val (.ref r0), .val (.int (Int32.ofNat ii)), .unset] [(.ref pp)])) rfl rfl (hb hby d15_26)
  refine own_s 29 [(.ref pa)] (fun _ k_ => st1458 _ k_) ?_
  refine own_iloadN 30 X1458.here hx (hb hby d15_29) rfl rfl ?_
  obtain ⟨cl1459, Ar1459, S1459, Hh1459⟩ := id u9
  have hat1459 : cl1459.slots[((Int32.ofNat ii)).toNatClampNeg]? = some (.int (gP ii)) := by rw [own_clamp (Nat.lt_trans hi (by omega))]; exact Hh1459 _ hi
  refine own_s 31 [(.int (gP ii))] (fun _ k_ => X1458.iaload hx (j := (Int32.ofNat ii)) (v := (.int (gP ii))) (by rw [e1458]; exact Ar1459.1) (State.isArrayOf_alike hZ.alike Ar1459.2.1) Ar1459.2.2 (own_inb S1459 (by omega) hi) hat1459 (g := (mkF m 30 #[.val (.ref r0), .val (.int (Int32.ofNat ii)), .unset] [(.int (Int32.ofNat ii)), (.ref pa)])) rfl rfl (hb hby d15_30) _ k_) ?_
  refine own_s 33 [(.int (-2)), (.int (gP ii))] (fun _ k_ => XS.bipush X1458.here hx rfl (hb hby d15_31) k_) ?_
  refine own_s 36 [] (fun _ k_ => XS.icmpNo X1458.here hx rfl (hb hby d15_33) rfl (teq hg).2 k_) ?_
  refine own_s 37 [(.int 1)] (fun _ k_ => XS.iconst X1458.here hx rfl (hb hby d15_36) k_) ?_
  refine own_s 41 [(.int 1)] (fun _ k_ => XS.goto X1458.here hx rfl (pc0 := 37) (pc' := 41) rfl (hb hby d15_37) (by decide) (by decide) k_) ?_
  refine own_istoreN 42 #[.val (.ref r0), .val (.int (Int32.ofNat ii)), .val (.int 1)] X1458.here hx (hb hby d15_41) rfl rfl ?_
  refine own_iloadN 43 X1458.here hx (hb hby d15_42) rfl rfl ?_
  refine own_s 46 [] (fun _ k_ => XS.ifNo X1458.here hx rfl (hb hby d15_43) rfl ((if0 _ _).trans (feq (by decide : ¬ ((1 : Int32) = (0 : Int32)))).1) k_) ?_
  refine own_aloadN 47 X1458.here hx (hb hby d15_46) rfl rfl rfl ?_
  obtain ⟨T1460, X1460, e1460, st1460⟩ := getF X1458 hx hZ hown (host := "") (Or.inl (own_w 29 hw rfl)) Via.refl e1458 u3 (g := (mkF m 47 #[.val (.ref r0), .val (.int (Int32.ofNat ii)), .val (.int 1)] [(.ref r0)])) rfl rfl (hb hby d15_47)
  refine own_s 50 [(.ref qa)] (fun _ k_ => st1460 _ k_) ?_
  refine own_aloadN 51 X1460.here hx (hb hby d15_50) rfl rfl rfl ?_
  obtain ⟨T1461, X1461, e1461, st1461⟩ := getF X1460 hx hZ hown (host := "") (Or.inl (own_w 55 hw rfl)) Via.refl e1460 u4 (g := (mkF m 51 #[.val (.ref r0), .val (.int (Int32.ofNat ii)), .val (.int 1)] [(.ref r0), (.ref qa)])) rfl rfl (hb hby d15_51)
  refine own_s 54 [(.int 15), (.ref qa)] (fun _ k_ => st1461 _ k_) ?_
  obtain ⟨cl1462, Ar1462, -, S1462, M1462, Hh1462, -⟩ := id u10
  have hin1462 : ¬ ((15 : Int32) < 0 ∨ cl1462.slots.size ≤ ((15 : Int32)).toNatClampNeg) := inb_of S1462 ⟨by decide, by decide⟩
  have hat1462 : cl1462.slots[((15 : Int32)).toNatClampNeg]? = some (.int (Int32.ofNat ii)) := Hh1462.at hin1462 rfl
  refine own_s 55 [(.int (Int32.ofNat ii))] (fun _ k_ => X1461.iaload hx (j := (15 : Int32)) (v := (.int (Int32.ofNat ii))) (by rw [e1461]; exact Ar1462.1) (State.isArrayOf_alike hZ.alike Ar1462.2.1) Ar1462.2.2 hin1462 hat1462 (g := (mkF m 54 #[.val (.ref r0), .val (.int (Int32.ofNat ii)), .val (.int 1)] [(.int 15), (.ref qa)])) rfl rfl (hb hby d15_54) _ k_) ?_
  refine own_iloadN 56 X1461.here hx (hb hby d15_55) rfl rfl ?_
  refine own_s 59 [] (fun _ k_ => XS.icmpNo X1461.here hx rfl (hb hby d15_56) rfl (teq rfl).2 k_) ?_
  refine own_aloadN 60 X1461.here hx (hb hby d15_59) rfl rfl rfl ?_
  obtain ⟨T1463, X1463, e1463, st1463⟩ := getF X1461 hx hZ hown (host := "") (Or.inl (own_w 29 hw rfl)) Via.refl e1461 u3 (g := (mkF m 60 #[.val (.ref r0), .val (.int (Int32.ofNat ii)), .val (.int 1)] [(.ref r0)])) rfl rfl (hb hby d15_60)
  refine own_s 63 [(.ref qa)] (fun _ k_ => st1463 _ k_) ?_
  refine own_aloadN 64 X1463.here hx (hb hby d15_63) rfl rfl rfl ?_
  obtain ⟨T1464, X1464, e1464, st1464⟩ := getF X1463 hx hZ hown (host := "") (Or.inl (own_w 55 hw rfl)) Via.refl e1463 u4 (g := (mkF m 64 #[.val (.ref r0), .val (.int (Int32.ofNat ii)), .val (.int 1)] [(.ref r0), (.ref qa)])) rfl rfl (hb hby d15_64)
  refine own_s 67 [(.int 15), (.ref qa)] (fun _ k_ => st1464 _ k_) ?_
  refine own_s 68 [(.int (-1)), (.int 15), (.ref qa)] (fun _ k_ => XS.iconst X1464.here hx rfl (hb hby d15_67) k_) ?_
  obtain ⟨cl1465, Ar1465, q1465, S1465, M1465, Hh1465, G1465⟩ := id u10
  obtain ⟨T1465, h1465, X1465, e1465, W1465, st1465⟩ := stI X1464 hx hZ e1464 Ar1465 (j := (15 : Int32)) (inb_of S1465 ⟨by decide, by decide⟩) (g := (mkF m 68 #[.val (.ref r0), .val (.int (Int32.ofNat ii)), .val (.int 1)] [(.int (-1)), (.int 15), (.ref qa)])) rfl rfl (hb hby d15_68)
  have f1466 := u0.wr W1465
  have f1467 := u1.other W1465 (Or.inl ne_r0_qa)
  have f1468 := u2.other W1465 (Or.inl ne_r0_qa)
  have f1469 := u3.other W1465 (Or.inl ne_r0_qa)
  have f1470 := u4.other W1465 (Or.inl ne_r0_qa)
  have f1471 := u5.other W1465 (Or.inl ne_r0_qa)
  have f1472 := u6.other W1465 (Or.inl ne_pp_qa)
  have f1474 := u8.other W1465 ne_ha_qa
  have f1476 : Arv Z h1465 qa cq .int (16 : Int32) [(.int (-1)), (.int 0), (.int 0), (.int 0), (.int 0), (.int 0), (.int 0), (.int 0), (.int 0), (.int 0), (.int 0), (.int 0), (.int 0), (.int 0), (.int 0), (.int (-1))] (.int 0) := Arv.set Ar1465 q1465 S1465 M1465 Hh1465 G1465 rfl W1465 15 rfl (Nat.le_of_ble_eq_true rfl)
  have f1477 := K0.wr W1465 (Or.inl (List.mem_of_getElem? (i := 1) rfl))
  have Z1465 : n0 ≤ h1465.size := Nat.le_trans Z0 (Keep.of_wr W1465).1
  have N1465 := Fr.snoc X1465 N1456 g_qa
  refine own_s 69 [] (fun _ k_ => st1465 _ k_) ?_
  refine own_aloadN 70 X1465.here hx (hb hby d15_69) rfl rfl rfl ?_
  refine own_aloadN 71 X1465.here hx (hb hby d15_70) rfl rfl rfl ?_
  obtain ⟨T1478, X1478, e1478, st1478⟩ := getF X1465 hx hZ hown (host := "") (Or.inl (own_w 55 hw rfl)) Via.refl e1465 f1470 (g := (mkF m 71 #[.val (.ref r0), .val (.int (Int32.ofNat ii)), .val (.int 1)] [(.ref r0), (.ref r0)])) rfl rfl (hb hby d15_71)
  refine own_s 74 [(.int 15), (.ref r0)] (fun _ k_ => st1478 _ k_) ?_
  refine own_s 75 [(.int 1), (.int 15), (.ref r0)] (fun _ k_ => XS.iconst X1478.here hx rfl (hb hby d15_74) k_) ?_
  refine own_s 76 [(.int ((15 : Int32) + (1 : Int32))), (.ref r0)] (fun _ k_ => XS.iadd X1478.here hx rfl (hb hby d15_75) rfl k_) ?_
  rw [show ((15 : Int32) + (1 : Int32)) = (16 : Int32) from by decide]
  refine own_aloadN 77 X1478.here hx (hb hby d15_76) rfl rfl rfl ?_
  obtain ⟨T1479, X1479, e1479, st1479⟩ := getF X1478 hx hZ hown (host := "") (Or.inl (own_w 29 hw rfl)) Via.refl e1478 f1469 (g := (mkF m 77 #[.val (.ref r0), .val (.int (Int32.ofNat ii)), .val (.int 1)] [(.ref r0), (.int 16), (.ref r0)])) rfl rfl (hb hby d15_77)
  refine own_s 80 [(.ref qa), (.int 16), (.ref r0)] (fun _ k_ => st1479 _ k_) ?_
  obtain ⟨cl1480, Ar1480, -, S1480, M1480, -, -⟩ := id f1476
  refine own_go (B := T1479.setTop (mkF m 81 #[.val (.ref r0), .val (.int (Int32.ofNat ii)), .val (.int 1)] [(.int 16), (.int 16), (.ref r0)])) (fun t_ k_ => ?_) ?_
  · refine X1479.arraylength hx (by rw [e1479]; exact Ar1480.1) (State.isArrayOf_alike hZ.alike Ar1480.2.1) (g := (mkF m 80 #[.val (.ref r0), .val (.int (Int32.ofNat ii)), .val (.int 1)] [(.ref qa), (.int 16), (.ref r0)])) rfl rfl (hb hby d15_80) _ ?_
    rw [len_of S1480 M1480]
    exact k_
  refine own_s 82 [(.int 1), (.int 16), (.int 16), (.ref r0)] (fun _ k_ => XS.iconst X1479.here hx rfl (hb hby d15_81) k_) ?_
  refine own_s 83 [(.int ((16 : Int32) - (1 : Int32))), (.int 16), (.ref r0)] (fun _ k_ => XS.isub X1479.here hx rfl (hb hby d15_82) rfl k_) ?_
  rw [show ((16 : Int32) - (1 : Int32)) = (15 : Int32) from by decide]
  refine own_s 84 [(.int ((16 : Int32) &&& (15 : Int32))), (.ref r0)] (fun _ k_ => XS.iand X1479.here hx rfl (hb hby d15_83) rfl k_) ?_
  rw [show ((16 : Int32) &&& (15 : Int32)) = (0 : Int32) from by decide]
  obtain ⟨T1481, h1481, X1481, e1481, W1481, st1481⟩ := putF X1479 hx hZ hown (host := "") (Or.inl (own_w 55 hw rfl)) Via.refl e1479 f1470 f1466 (Or.inl (own_w 56 hw rfl)) (own_w 16 hw rfl) (ty := .int) (by decide) rfl rfl (g := (mkF m 84 #[.val (.ref r0), .val (.int (Int32.ofNat ii)), .val (.int 1)] [(.int 0), (.ref r0)])) rfl rfl (hb hby d15_84)
  have f1482 := f1466.wr W1481
  have f1483 := f1467.other W1481 (Or.inr (slot_ne (Or.inr (own_w 36 hw rfl)) (Or.inl (own_w 56 hw rfl)) (by decide) (t := (.object "com/example/adfair/adfair/Ranking$Places")) (t' := .int) (by decide) (by decide)))
  have f1484 := f1468.other W1481 (Or.inr (slot_ne (Or.inr (own_w 40 hw rfl)) (Or.inl (own_w 56 hw rfl)) (by decide) (t := .long) (t' := .int) (by decide) (by decide)))
  have f1485 := f1469.other W1481 (Or.inr (slot_ne (Or.inl (own_w 30 hw rfl)) (Or.inl (own_w 56 hw rfl)) (by decide) (t := (.array .int)) (t' := .int) (by decide) (by decide)))
  have f1486 : Fld Z h1481 r0 "com/example/adfair/adfair/Ranking" "queueFirst" "I" (.int 0) := f1470.same W1481
  have f1487 := f1471.other W1481 (Or.inr (slot_ne (Or.inl (own_w 58 hw rfl)) (Or.inl (own_w 56 hw rfl)) (by decide) (t := .int) (t' := .int) (by decide) (by decide)))
  have f1488 := f1472.other W1481 (Or.inl (Ne.symm ne_r0_pp))
  have f1490 := f1474.other W1481 (Ne.symm ne_r0_ha)
  have f1492 := f1476.other W1481 (Ne.symm ne_r0_qa)
  have f1493 := f1477.wr W1481 (Or.inl (List.mem_of_getElem? (i := 0) rfl))
  have Z1481 : n0 ≤ h1481.size := Nat.le_trans Z1465 (Keep.of_wr W1481).1
  have N1481 := Fr.snoc X1481 N1465 g_r0
  refine own_s 87 [] (fun _ k_ => st1481 _ k_) ?_
  refine own_aloadN 88 X1481.here hx (hb hby d15_87) rfl rfl rfl ?_
  refine own_s 89 [(.ref r0), (.ref r0)] (fun _ k_ => XS.dup X1481.here hx rfl (hb hby d15_88) rfl rfl k_) ?_
  obtain ⟨T1494, X1494, e1494, st1494⟩ := getF X1481 hx hZ hown (host := "") (Or.inl (own_w 57 hw rfl)) Via.refl e1481 f1487 (g := (mkF m 89 #[.val (.ref r0), .val (.int (Int32.ofNat ii)), .val (.int 1)] [(.ref r0), (.ref r0)])) rfl rfl (hb hby d15_89)
  refine own_s 92 [(.int 1), (.ref r0)] (fun _ k_ => st1494 _ k_) ?_
  refine own_s 93 [(.int 1), (.int 1), (.ref r0)] (fun _ k_ => XS.iconst X1494.here hx rfl (hb hby d15_92) k_) ?_
  refine own_s 94 [(.int ((1 : Int32) - (1 : Int32))), (.ref r0)] (fun _ k_ => XS.isub X1494.here hx rfl (hb hby d15_93) rfl k_) ?_
  rw [show ((1 : Int32) - (1 : Int32)) = (0 : Int32) from by decide]
  obtain ⟨T1495, h1495, X1495, e1495, W1495, st1495⟩ := putF X1494 hx hZ hown (host := "") (Or.inl (own_w 57 hw rfl)) Via.refl e1494 f1487 f1482 (Or.inl (own_w 58 hw rfl)) (own_w 16 hw rfl) (ty := .int) (by decide) rfl rfl (g := (mkF m 94 #[.val (.ref r0), .val (.int (Int32.ofNat ii)), .val (.int 1)] [(.int 0), (.ref r0)])) rfl rfl (hb hby d15_94)
  have f1497 := f1483.other W1495 (Or.inr (slot_ne (Or.inr (own_w 36 hw rfl)) (Or.inl (own_w 58 hw rfl)) (by decide) (t := (.object "com/example/adfair/adfair/Ranking$Places")) (t' := .int) (by decide) (by decide)))
  have f1498 := f1484.other W1495 (Or.inr (slot_ne (Or.inr (own_w 40 hw rfl)) (Or.inl (own_w 58 hw rfl)) (by decide) (t := .long) (t' := .int) (by decide) (by decide)))
  have f1499 := f1485.other W1495 (Or.inr (slot_ne (Or.inl (own_w 30 hw rfl)) (Or.inl (own_w 58 hw rfl)) (by decide) (t := (.array .int)) (t' := .int) (by decide) (by decide)))
  have f1500 := f1486.other W1495 (Or.inr (slot_ne (Or.inl (own_w 56 hw rfl)) (Or.inl (own_w 58 hw rfl)) (by decide) (t := .int) (t' := .int) (by decide) (by decide)))
  have f1501 : Fld Z h1495 r0 "com/example/adfair/adfair/Ranking" "queueSize" "I" (.int 0) := f1487.same W1495
  have f1502 := f1488.other W1495 (Or.inl (Ne.symm ne_r0_pp))
  have f1504 := f1490.other W1495 (Ne.symm ne_r0_ha)
  have f1506 := f1492.other W1495 (Ne.symm ne_r0_qa)
  have f1507 := f1493.wr W1495 (Or.inl (List.mem_of_getElem? (i := 0) rfl))
  have Z1495 : n0 ≤ h1495.size := Nat.le_trans Z1481 (Keep.of_wr W1495).1
  have N1495 := Fr.snoc X1495 N1481 g_r0
  refine own_s 97 [] (fun _ k_ => st1495 _ k_) ?_
  refine own_s 161 [] (fun _ k_ => XS.goto X1495.here hx rfl (pc0 := 97) (pc' := 161) rfl (hb hby d15_97) (by decide) (by decide) k_) ?_
  refine own_aloadN 162 X1495.here hx (hb hby d15_161) rfl rfl rfl ?_
  obtain ⟨T1508, X1508, e1508, st1508⟩ := getF X1495 hx hZ hown (host := "") (Or.inl (own_w 35 hw rfl)) Via.refl e1495 f1497 (g := (mkF m 162 #[.val (.ref r0), .val (.int (Int32.ofNat ii)), .val (.int 1)] [(.ref r0)])) rfl rfl (hb hby d15_162)
  refine own_s 165 [(.ref pp)] (fun _ k_ => st1508 _ k_) ?_
  obtain ⟨T1509, X1509, e1509, st1509⟩ := own_getR X1508 hx hZ hown (own_w 50 hw rfl) e1508 f1502 (g := (mkF m 165 #[.val (.ref r0), .val (.int (Int32.ofNat ii)), .val (.int 1)] [(.ref pp)])) rfl rfl (hb hby d15_165)
  refine own_s 168 [(.ref ha)] (fun _ k_ => st1509 _ k_) ?_
  refine own_iloadN 169 X1509.here hx (hb hby d15_168) rfl rfl ?_
  refine own_s 170 [(.long 0), (.int (Int32.ofNat ii)), (.ref ha)] (fun _ k_ => XS.lconst X1509.here hx rfl (hb hby d15_169) k_) ?_
  obtain ⟨cl1510, Ar1510, S1510, Hh1510⟩ := id f1504
  obtain ⟨T1510, h1510, X1510, e1510, W1510, st1510⟩ := stJ X1509 hx hZ e1509 Ar1510 (j := (Int32.ofNat ii)) (own_inb S1510 (by omega) hi) (g := (mkF m 170 #[.val (.ref r0), .val (.int (Int32.ofNat ii)), .val (.int 1)] [(.long 0), (.int (Int32.ofNat ii)), (.ref ha)])) rfl rfl (hb hby d15_170)
  rw [own_clamp (Nat.lt_trans hi (by omega))] at W1510
  have f1512 := f1497.other W1510 (Or.inl ne_r0_ha)
  have f1513 := f1498.other W1510 (Or.inl ne_r0_ha)
  have f1514 := f1499.other W1510 (Or.inl ne_r0_ha)
  have f1515 := f1500.other W1510 (Or.inl ne_r0_ha)
  have f1516 := f1501.other W1510 (Or.inl ne_r0_ha)
  have f1519 : own_LN Z h1510 ha NN (own_upd fH ii (0 : Int64)) := f1504.set W1510 hi
  have f1521 := f1506.other W1510 (Ne.symm ne_ha_qa)
  have f1522 := f1507.wr W1510 (Or.inl (List.mem_of_getElem? (i := 2) rfl))
  have Z1510 : n0 ≤ h1510.size := Nat.le_trans Z1495 (Keep.of_wr W1510).1
  have N1510 := Fr.snoc X1510 N1495 g_ha
  refine own_s 171 [] (fun _ k_ => st1510 _ k_) ?_
  obtain ⟨fs, hr, hrun, hended, hW, hsame⟩ := X1510.leave (v := none) (fun _ => rfl)
  refine own_at ?_ (hG _ _ ⟨hrun, hended, _, _, rfl, ?_, ⟨_, rfl⟩, hW, hsame.mono (by decide) (by decide)⟩)
  · show Steps p.tables e below (T1510.setTop (mkF m 171 #[.val (.ref r0), .val (.int (Int32.ofNat ii)), .val (.int 1)] [])) _
    exact X1510.returnOut hx Bd.returns (hb hby d15_171) hr
  · show QReB2F Z r0 ii num pp pa ha qa cq NN fH gP h0 n0 _ T1510.heap _
    rw [e1510]
    exact ⟨rfl, N1510, f1522, f1512, f1513, f1514, f1515, f1516, f1519, f1521⟩
theorem ef_rmReC (m : MethodId) (x0 : Addr) (x1 : Int32) : entryFrame m #[(.ref x0), (.int x1)] 3 = mkF m 0 #[.val (.ref x0), .val (.int x1), .unset] [] := by first | (simp [entryFrame, mkF, argsToLocals, Value.category]; done) | rfl
def QReC (Z : State) (r0 : Addr) (ii : Nat) (num : Int64) (pp : Addr) (pa : Addr) (ha : Addr) (qa : Addr) (cq : ClassId) (NN : Nat) (fH : Nat → Int64) (gP : Nat → Int32) (h0 : Heap) (n0 : Nat) (v : Option Value) (h : Heap) (L : List Loc) : Prop := v = none ∧ Fr n0 L ∧ Keep h0 h [r0, qa, ha] ∧ Fld Z h r0 "com/example/adfair/adfair/Ranking" "places" "Lcom/example/adfair/adfair/Ranking$Places;" (.ref pp) ∧ Fld Z h r0 "com/example/adfair/adfair/Ranking" "number" "J" (.long num) ∧ Fld Z h r0 "com/example/adfair/adfair/Ranking" "queued" "[I" (.ref qa) ∧ Fld Z h r0 "com/example/adfair/adfair/Ranking" "queueFirst" "I" (.int 1) ∧ Fld Z h r0 "com/example/adfair/adfair/Ranking" "queueSize" "I" (.int 0) ∧ own_LN Z h ha NN (own_upd fH ii (0 : Int64)) ∧ Arv Z h qa cq .int (16 : Int32) [(.int (-1)), (.int 0), (.int 0), (.int 0), (.int 0), (.int 0), (.int 0), (.int 0), (.int 0), (.int 0), (.int 0), (.int 0), (.int 0), (.int 0), (.int 0), (.int 0)] (.int 0)
set_option maxRecDepth 65536 in
set_option maxHeartbeats 40000000 in
theorem rmReC (l : Launch) (Z : State) (a0 : Array Value) (hw : ∀ d ∈ tables_1, d.before a0 Z = true) (ws : List Jvm.Cond) (r0 : Addr) (ii : Nat) (num : Int64) (pp : Addr) (pa : Addr) (ha : Addr) (qa : Addr) (cq : ClassId) (NN : Nat) (fH : Nat → Int64) (gP : Nat → Int32) (h0 : Heap) (n0 : Nat) (Z0 : n0 ≤ h0.size) (u0 : Exa Z h0 r0 "com/example/adfair/adfair/Ranking") (u1 : Fld Z h0 r0 "com/example/adfair/adfair/Ranking" "places" "Lcom/example/adfair/adfair/Ranking$Places;" (.ref pp)) (u2 : Fld Z h0 r0 "com/example/adfair/adfair/Ranking" "number" "J" (.long num)) (u3 : Fld Z h0 r0 "com/example/adfair/adfair/Ranking" "queued" "[I" (.ref qa)) (u4 : Fld Z h0 r0 "com/example/adfair/adfair/Ranking" "queueFirst" "I" (.int 0)) (u5 : Fld Z h0 r0 "com/example/adfair/adfair/Ranking" "queueSize" "I" (.int 1)) (u6 : Fld Z h0 pp "com/example/adfair/adfair/Ranking$Places" "holder" "[J" (.ref ha)) (u7 : Fld Z h0 pp "com/example/adfair/adfair/Ranking$Places" "place" "[I" (.ref pa)) (u8 : own_LN Z h0 ha NN fH) (u9 : own_IN Z h0 pa NN gP) (u10 : Arv Z h0 qa cq .int (16 : Int32) [(.int (Int32.ofNat ii)), (.int 0), (.int 0), (.int 0), (.int 0), (.int 0), (.int 0), (.int 0), (.int 0), (.int 0), (.int 0), (.int 0), (.int 0), (.int 0), (.int 0), (.int 0)] (.int 0)) (ne_r0_pp : r0 ≠ pp) (ne_r0_pa : r0 ≠ pa) (ne_r0_ha : r0 ≠ ha) (ne_r0_qa : r0 ≠ qa) (ne_pp_pa : pp ≠ pa) (ne_pp_ha : pp ≠ ha) (ne_pp_qa : pp ≠ qa) (ne_pa_ha : pa ≠ ha) (ne_pa_qa : pa ≠ qa) (ne_ha_qa : ha ≠ qa) (g_r0 : n0 ≤ r0) (g_ha : n0 ≤ ha) (g_qa : n0 ≤ qa) (hi : ii < NN) (hN : NN ≤ 126) (hz : own_z fH NN) (hnum : ¬ num = 0) (hf : fH ii = num) (hg : gP ii = (-2 : Int32)) :
    MetFree l (⟨"com/example/adfair/adfair/Ranking", "remove", "(I)V"⟩ : MethodName) (head1 (Jvm.Cond.code (⟨"com/example/adfair/adfair/Ranking", "remove", "(I)V"⟩ : MethodName) prog_20_method_10_code 3 none :: ws) ({ frames := 1, cells := 0, slots := 0, locals := 20 } : Room)) (fun a U => a = #[(.ref r0), (.int (Int32.ofNat ii))] ∧ Z.Warmed39 U.vm ∧ U.heap = h0) (fun _ _ _ _ _ => True) (fun _ U o U' => ∃ v L, o = .returned v ∧ QReC Z r0 ii num pp pa ha qa cq NN fH gP h0 n0 v U'.heap L ∧ FrameEnd U o U' L ({ frames := 1, cells := 0, slots := 0, locals := 20 } : Room).cells ({ frames := 1, cells := 0, slots := 0, locals := 20 } : Room).slots) := by
  refine MetFree.of_bodySF (plainFor_of_name pn_15) hisR ?_
  intro p e s m args below meth c s₁ Bd hml0 hP hK
  obtain ⟨rfl, hZ, hh⟩ := hP
  have hx := Bd.exec
  have hby := Bd.bytes
  have hml : c.maxLocals = 3 := hml0
  have hown : s.vm.findClass "com/example/adfair/adfair/Ranking" = some m.cls := findClass_of_methodNamed Bd.named
  have hnm := (name_of_methodNamed Bd.named Bd.method).1
  have X0 : Stand p l e ({ frames := 1, cells := 0, slots := 0, locals := 20 } : Room) s m #[(.ref r0), (.int (Int32.ofNat ii))] below meth c s₁ [] 0 0 := Stand.of_body Bd
  have e0 : s₁.heap = h0 := by rw [← hh, Bd.state]; rfl
  have N0 := Fr.nil n0
  refine own_open fun G hG => ?_
  refine own_go (B := s₁.setTop (mkF m 0 #[.val (.ref r0), .val (.int (Int32.ofNat ii)), .unset] [])) (fun t_ k_ => castTop (ef_rmReC m r0 (Int32.ofNat ii)) k_) ?_
  have K0 : Keep h0 h0 [r0, qa, ha] := Keep.refl h0 _
  refine own_aloadN 1 X0.here hx (hb hby d15_0) rfl rfl rfl ?_
  refine own_iloadN 2 X0.here hx (hb hby d15_1) rfl rfl ?_
  obtain ⟨cq1524, kq1524, q1524a, q1524b, q1524c⟩ := isOf hZ e0 u0
  obtain ⟨vv1524, _, ⟨T1524, L1524, k1524, n1524⟩, -, X1524, ⟨Lc1524, hQ1524, l1524, y1524, z1524⟩, st1524⟩ := X0.virtualBack hx (y := (⟨"com/example/adfair/adfair/Ranking", "contains", "(I)Z"⟩ : MethodName)) (z := (⟨"com/example/adfair/adfair/Ranking", "contains", "(I)Z"⟩ : MethodName)) hown (mvT hZ (own_w 101 hw rfl)) (mvT hZ (own_w 92 hw rfl)) (notFace_of_selects (args := #[]) (mvT hZ (own_w 94 hw rfl))) (mvT hZ (own_w 94 hw rfl)) (mvT hZ (own_w 93 hw rfl)) (by decide) (backOf (W := 0) (rmCo l Z a0 hw [] r0 ii num pp ha NN fH h0 n0 Z0 u1 u2 u6 u8 (by omega) hN hz hnum) hZ (own_w 95 hw rfl) (own_w 17 hw rfl) (by decide) (by decide)) q1524a q1524c (g := (mkF m 2 #[.val (.ref r0), .val (.int (Int32.ofNat ii)), .unset] [(.int (Int32.ofNat ii)), (.ref r0)])) rfl (by rw [hml]; rfl) (Steps.refl _) (argsL := [(.int (Int32.ofNat ii))]) (rest := []) (lenOf pd__28_I_29_Z rfl) rfl (by show 2 * 0 + _ ≤ _; exact Nat.le_of_eq rfl) (hb hby d15_2) (fun _ _ => ⟨rfl, e0, (by decide : 0 + 0 ≤ _), (by decide : 0 + 0 ≤ _)⟩)
  dsimp only [Pt.U, Pt.locs, Pt.cells, Pt.slots] at X1524 l1524 y1524 z1524 st1524 hQ1524
  subst l1524 y1524 z1524
  obtain ⟨rfl, N1524q, e1524q⟩ := hQ1524
  have N1524 := Fr.app N0 N1524q
  refine own_s 5 [(.int (own_con fH ii num))] (fun _ k_ => st1524.trans k_) ?_
  refine own_s 22 [] (fun _ k_ => XS.ifYes X1524.here hx rfl (pc0 := 5) (pc' := 22) rfl (hb hby d15_5) rfl ((if0 _ _).trans (feq (by rw [own_con1 hf]; decide)).2) (by decide) (by decide) k_) ?_
  refine own_aloadN 23 X1524.here hx (hb hby d15_22) rfl rfl rfl ?_
  obtain ⟨T1525, X1525, e1525, st1525⟩ := getF X1524 hx hZ hown (host := "") (Or.inl (own_w 35 hw rfl)) Via.refl e1524q u1 (g := (mkF m 23 #[.val (.ref r0), .val (.int (Int32.ofNat ii)), .unset] [(.ref r0)])) rfl rfl (hb hby d15_23)
  refine own_s 26 [(.ref pp)] (fun _ k_ => st1525 _ k_) ?_
  obtain ⟨T1526, X1526, e1526, st1526⟩ := own_getR X1525 hx hZ hown (own_w 63 hw rfl) e1525 u7 (g := (mkF m 26 #[.val (.ref r0), .val (.int (Int32.ofNat ii)), .unset] [(.ref pp)])) rfl rfl (hb hby d15_26)
  refine own_s 29 [(.ref pa)] (fun _ k_ => st1526 _ k_) ?_
  refine own_iloadN 30 X1526.here hx (hb hby d15_29) rfl rfl ?_
  obtain ⟨cl1527, Ar1527, S1527, Hh1527⟩ := id u9
  have hat1527 : cl1527.slots[((Int32.ofNat ii)).toNatClampNeg]? = some (.int (gP ii)) := by rw [own_clamp (Nat.lt_trans hi (by omega))]; exact Hh1527 _ hi
  refine own_s 31 [(.int (gP ii))] (fun _ k_ => X1526.iaload hx (j := (Int32.ofNat ii)) (v := (.int (gP ii))) (by rw [e1526]; exact Ar1527.1) (State.isArrayOf_alike hZ.alike Ar1527.2.1) Ar1527.2.2 (own_inb S1527 (by omega) hi) hat1527 (g := (mkF m 30 #[.val (.ref r0), .val (.int (Int32.ofNat ii)), .unset] [(.int (Int32.ofNat ii)), (.ref pa)])) rfl rfl (hb hby d15_30) _ k_) ?_
  refine own_s 33 [(.int (-2)), (.int (gP ii))] (fun _ k_ => XS.bipush X1526.here hx rfl (hb hby d15_31) k_) ?_
  refine own_s 36 [] (fun _ k_ => XS.icmpNo X1526.here hx rfl (hb hby d15_33) rfl (teq hg).2 k_) ?_
  refine own_s 37 [(.int 1)] (fun _ k_ => XS.iconst X1526.here hx rfl (hb hby d15_36) k_) ?_
  refine own_s 41 [(.int 1)] (fun _ k_ => XS.goto X1526.here hx rfl (pc0 := 37) (pc' := 41) rfl (hb hby d15_37) (by decide) (by decide) k_) ?_
  refine own_istoreN 42 #[.val (.ref r0), .val (.int (Int32.ofNat ii)), .val (.int 1)] X1526.here hx (hb hby d15_41) rfl rfl ?_
  refine own_iloadN 43 X1526.here hx (hb hby d15_42) rfl rfl ?_
  refine own_s 46 [] (fun _ k_ => XS.ifNo X1526.here hx rfl (hb hby d15_43) rfl ((if0 _ _).trans (feq (by decide : ¬ ((1 : Int32) = (0 : Int32)))).1) k_) ?_
  refine own_aloadN 47 X1526.here hx (hb hby d15_46) rfl rfl rfl ?_
  obtain ⟨T1528, X1528, e1528, st1528⟩ := getF X1526 hx hZ hown (host := "") (Or.inl (own_w 29 hw rfl)) Via.refl e1526 u3 (g := (mkF m 47 #[.val (.ref r0), .val (.int (Int32.ofNat ii)), .val (.int 1)] [(.ref r0)])) rfl rfl (hb hby d15_47)
  refine own_s 50 [(.ref qa)] (fun _ k_ => st1528 _ k_) ?_
  refine own_aloadN 51 X1528.here hx (hb hby d15_50) rfl rfl rfl ?_
  obtain ⟨T1529, X1529, e1529, st1529⟩ := getF X1528 hx hZ hown (host := "") (Or.inl (own_w 55 hw rfl)) Via.refl e1528 u4 (g := (mkF m 51 #[.val (.ref r0), .val (.int (Int32.ofNat ii)), .val (.int 1)] [(.ref r0), (.ref qa)])) rfl rfl (hb hby d15_51)
  refine own_s 54 [(.int 0), (.ref qa)] (fun _ k_ => st1529 _ k_) ?_
  obtain ⟨cl1530, Ar1530, -, S1530, M1530, Hh1530, -⟩ := id u10
  have hin1530 : ¬ ((0 : Int32) < 0 ∨ cl1530.slots.size ≤ ((0 : Int32)).toNatClampNeg) := inb_of S1530 ⟨by decide, by decide⟩
  have hat1530 : cl1530.slots[((0 : Int32)).toNatClampNeg]? = some (.int (Int32.ofNat ii)) := Hh1530.at hin1530 rfl
  refine own_s 55 [(.int (Int32.ofNat ii))] (fun _ k_ => X1529.iaload hx (j := (0 : Int32)) (v := (.int (Int32.ofNat ii))) (by rw [e1529]; exact Ar1530.1) (State.isArrayOf_alike hZ.alike Ar1530.2.1) Ar1530.2.2 hin1530 hat1530 (g := (mkF m 54 #[.val (.ref r0), .val (.int (Int32.ofNat ii)), .val (.int 1)] [(.int 0), (.ref qa)])) rfl rfl (hb hby d15_54) _ k_) ?_
  refine own_iloadN 56 X1529.here hx (hb hby d15_55) rfl rfl ?_
  refine own_s 59 [] (fun _ k_ => XS.icmpNo X1529.here hx rfl (hb hby d15_56) rfl (teq rfl).2 k_) ?_
  refine own_aloadN 60 X1529.here hx (hb hby d15_59) rfl rfl rfl ?_
  obtain ⟨T1531, X1531, e1531, st1531⟩ := getF X1529 hx hZ hown (host := "") (Or.inl (own_w 29 hw rfl)) Via.refl e1529 u3 (g := (mkF m 60 #[.val (.ref r0), .val (.int (Int32.ofNat ii)), .val (.int 1)] [(.ref r0)])) rfl rfl (hb hby d15_60)
  refine own_s 63 [(.ref qa)] (fun _ k_ => st1531 _ k_) ?_
  refine own_aloadN 64 X1531.here hx (hb hby d15_63) rfl rfl rfl ?_
  obtain ⟨T1532, X1532, e1532, st1532⟩ := getF X1531 hx hZ hown (host := "") (Or.inl (own_w 55 hw rfl)) Via.refl e1531 u4 (g := (mkF m 64 #[.val (.ref r0), .val (.int (Int32.ofNat ii)), .val (.int 1)] [(.ref r0), (.ref qa)])) rfl rfl (hb hby d15_64)
  refine own_s 67 [(.int 0), (.ref qa)] (fun _ k_ => st1532 _ k_) ?_
  refine own_s 68 [(.int (-1)), (.int 0), (.ref qa)] (fun _ k_ => XS.iconst X1532.here hx rfl (hb hby d15_67) k_) ?_
  obtain ⟨cl1533, Ar1533, q1533, S1533, M1533, Hh1533, G1533⟩ := id u10
  obtain ⟨T1533, h1533, X1533, e1533, W1533, st1533⟩ := stI X1532 hx hZ e1532 Ar1533 (j := (0 : Int32)) (inb_of S1533 ⟨by decide, by decide⟩) (g := (mkF m 68 #[.val (.ref r0), .val (.int (Int32.ofNat ii)), .val (.int 1)] [(.int (-1)), (.int 0), (.ref qa)])) rfl rfl (hb hby d15_68)
  have f1534 := u0.wr W1533
  have f1535 := u1.other W1533 (Or.inl ne_r0_qa)
  have f1536 := u2.other W1533 (Or.inl ne_r0_qa)
  have f1537 := u3.other W1533 (Or.inl ne_r0_qa)
  have f1538 := u4.other W1533 (Or.inl ne_r0_qa)
  have f1539 := u5.other W1533 (Or.inl ne_r0_qa)
  have f1540 := u6.other W1533 (Or.inl ne_pp_qa)
  have f1542 := u8.other W1533 ne_ha_qa
  have f1544 : Arv Z h1533 qa cq .int (16 : Int32) [(.int (-1)), (.int 0), (.int 0), (.int 0), (.int 0), (.int 0), (.int 0), (.int 0), (.int 0), (.int 0), (.int 0), (.int 0), (.int 0), (.int 0), (.int 0), (.int 0)] (.int 0) := Arv.set Ar1533 q1533 S1533 M1533 Hh1533 G1533 rfl W1533 0 rfl (Nat.le_of_ble_eq_true rfl)
  have f1545 := K0.wr W1533 (Or.inl (List.mem_of_getElem? (i := 1) rfl))
  have Z1533 : n0 ≤ h1533.size := Nat.le_trans Z0 (Keep.of_wr W1533).1
  have N1533 := Fr.snoc X1533 N1524 g_qa
  refine own_s 69 [] (fun _ k_ => st1533 _ k_) ?_
  refine own_aloadN 70 X1533.here hx (hb hby d15_69) rfl rfl rfl ?_
  refine own_aloadN 71 X1533.here hx (hb hby d15_70) rfl rfl rfl ?_
  obtain ⟨T1546, X1546, e1546, st1546⟩ := getF X1533 hx hZ hown (host := "") (Or.inl (own_w 55 hw rfl)) Via.refl e1533 f1538 (g := (mkF m 71 #[.val (.ref r0), .val (.int (Int32.ofNat ii)), .val (.int 1)] [(.ref r0), (.ref r0)])) rfl rfl (hb hby d15_71)
  refine own_s 74 [(.int 0), (.ref r0)] (fun _ k_ => st1546 _ k_) ?_
  refine own_s 75 [(.int 1), (.int 0), (.ref r0)] (fun _ k_ => XS.iconst X1546.here hx rfl (hb hby d15_74) k_) ?_
  refine own_s 76 [(.int ((0 : Int32) + (1 : Int32))), (.ref r0)] (fun _ k_ => XS.iadd X1546.here hx rfl (hb hby d15_75) rfl k_) ?_
  rw [show ((0 : Int32) + (1 : Int32)) = (1 : Int32) from by decide]
  refine own_aloadN 77 X1546.here hx (hb hby d15_76) rfl rfl rfl ?_
  obtain ⟨T1547, X1547, e1547, st1547⟩ := getF X1546 hx hZ hown (host := "") (Or.inl (own_w 29 hw rfl)) Via.refl e1546 f1537 (g := (mkF m 77 #[.val (.ref r0), .val (.int (Int32.ofNat ii)), .val (.int 1)] [(.ref r0), (.int 1), (.ref r0)])) rfl rfl (hb hby d15_77)
  refine own_s 80 [(.ref qa), (.int 1), (.ref r0)] (fun _ k_ => st1547 _ k_) ?_
  obtain ⟨cl1548, Ar1548, -, S1548, M1548, -, -⟩ := id f1544
  refine own_go (B := T1547.setTop (mkF m 81 #[.val (.ref r0), .val (.int (Int32.ofNat ii)), .val (.int 1)] [(.int 16), (.int 1), (.ref r0)])) (fun t_ k_ => ?_) ?_
  · refine X1547.arraylength hx (by rw [e1547]; exact Ar1548.1) (State.isArrayOf_alike hZ.alike Ar1548.2.1) (g := (mkF m 80 #[.val (.ref r0), .val (.int (Int32.ofNat ii)), .val (.int 1)] [(.ref qa), (.int 1), (.ref r0)])) rfl rfl (hb hby d15_80) _ ?_
    rw [len_of S1548 M1548]
    exact k_
  refine own_s 82 [(.int 1), (.int 16), (.int 1), (.ref r0)] (fun _ k_ => XS.iconst X1547.here hx rfl (hb hby d15_81) k_) ?_
  refine own_s 83 [(.int ((16 : Int32) - (1 : Int32))), (.int 1), (.ref r0)] (fun _ k_ => XS.isub X1547.here hx rfl (hb hby d15_82) rfl k_) ?_
  rw [show ((16 : Int32) - (1 : Int32)) = (15 : Int32) from by decide]
  refine own_s 84 [(.int ((1 : Int32) &&& (15 : Int32))), (.ref r0)] (fun _ k_ => XS.iand X1547.here hx rfl (hb hby d15_83) rfl k_) ?_
  rw [show ((1 : Int32) &&& (15 : Int32)) = (1 : Int32) from by decide]
  obtain ⟨T1549, h1549, X1549, e1549, W1549, st1549⟩ := putF X1547 hx hZ hown (host := "") (Or.inl (own_w 55 hw rfl)) Via.refl e1547 f1538 f1534 (Or.inl (own_w 56 hw rfl)) (own_w 16 hw rfl) (ty := .int) (by decide) rfl rfl (g := (mkF m 84 #[.val (.ref r0), .val (.int (Int32.ofNat ii)), .val (.int 1)] [(.int 1), (.ref r0)])) rfl rfl (hb hby d15_84)
  have f1550 := f1534.wr W1549
  have f1551 := f1535.other W1549 (Or.inr (slot_ne (Or.inr (own_w 36 hw rfl)) (Or.inl (own_w 56 hw rfl)) (by decide) (t := (.object "com/example/adfair/adfair/Ranking$Places")) (t' := .int) (by decide) (by decide)))
  have f1552 := f1536.other W1549 (Or.inr (slot_ne (Or.inr (own_w 40 hw rfl)) (Or.inl (own_w 56 hw rfl)) (by decide) (t := .long) (t' := .int) (by decide) (by decide)))
  have f1553 := f1537.other W1549 (Or.inr (slot_ne (Or.inl (own_w 30 hw rfl)) (Or.inl (own_w 56 hw rfl)) (by decide) (t := (.array .int)) (t' := .int) (by decide) (by decide)))
  have f1554 : Fld Z h1549 r0 "com/example/adfair/adfair/Ranking" "queueFirst" "I" (.int 1) := f1538.same W1549
  have f1555 := f1539.other W1549 (Or.inr (slot_ne (Or.inl (own_w 58 hw rfl)) (Or.inl (own_w 56 hw rfl)) (by decide) (t := .int) (t' := .int) (by decide) (by decide)))
  have f1556 := f1540.other W1549 (Or.inl (Ne.symm ne_r0_pp))
  have f1558 := f1542.other W1549 (Ne.symm ne_r0_ha)
  have f1560 := f1544.other W1549 (Ne.symm ne_r0_qa)
  have f1561 := f1545.wr W1549 (Or.inl (List.mem_of_getElem? (i := 0) rfl))
  have Z1549 : n0 ≤ h1549.size := Nat.le_trans Z1533 (Keep.of_wr W1549).1
  have N1549 := Fr.snoc X1549 N1533 g_r0
  refine own_s 87 [] (fun _ k_ => st1549 _ k_) ?_
  refine own_aloadN 88 X1549.here hx (hb hby d15_87) rfl rfl rfl ?_
  refine own_s 89 [(.ref r0), (.ref r0)] (fun _ k_ => XS.dup X1549.here hx rfl (hb hby d15_88) rfl rfl k_) ?_
  obtain ⟨T1562, X1562, e1562, st1562⟩ := getF X1549 hx hZ hown (host := "") (Or.inl (own_w 57 hw rfl)) Via.refl e1549 f1555 (g := (mkF m 89 #[.val (.ref r0), .val (.int (Int32.ofNat ii)), .val (.int 1)] [(.ref r0), (.ref r0)])) rfl rfl (hb hby d15_89)
  refine own_s 92 [(.int 1), (.ref r0)] (fun _ k_ => st1562 _ k_) ?_
  refine own_s 93 [(.int 1), (.int 1), (.ref r0)] (fun _ k_ => XS.iconst X1562.here hx rfl (hb hby d15_92) k_) ?_
  refine own_s 94 [(.int ((1 : Int32) - (1 : Int32))), (.ref r0)] (fun _ k_ => XS.isub X1562.here hx rfl (hb hby d15_93) rfl k_) ?_
  rw [show ((1 : Int32) - (1 : Int32)) = (0 : Int32) from by decide]
  obtain ⟨T1563, h1563, X1563, e1563, W1563, st1563⟩ := putF X1562 hx hZ hown (host := "") (Or.inl (own_w 57 hw rfl)) Via.refl e1562 f1555 f1550 (Or.inl (own_w 58 hw rfl)) (own_w 16 hw rfl) (ty := .int) (by decide) rfl rfl (g := (mkF m 94 #[.val (.ref r0), .val (.int (Int32.ofNat ii)), .val (.int 1)] [(.int 0), (.ref r0)])) rfl rfl (hb hby d15_94)
  have f1565 := f1551.other W1563 (Or.inr (slot_ne (Or.inr (own_w 36 hw rfl)) (Or.inl (own_w 58 hw rfl)) (by decide) (t := (.object "com/example/adfair/adfair/Ranking$Places")) (t' := .int) (by decide) (by decide)))
  have f1566 := f1552.other W1563 (Or.inr (slot_ne (Or.inr (own_w 40 hw rfl)) (Or.inl (own_w 58 hw rfl)) (by decide) (t := .long) (t' := .int) (by decide) (by decide)))
  have f1567 := f1553.other W1563 (Or.inr (slot_ne (Or.inl (own_w 30 hw rfl)) (Or.inl (own_w 58 hw rfl)) (by decide) (t := (.array .int)) (t' := .int) (by decide) (by decide)))
  have f1568 := f1554.other W1563 (Or.inr (slot_ne (Or.inl (own_w 56 hw rfl)) (Or.inl (own_w 58 hw rfl)) (by decide) (t := .int) (t' := .int) (by decide) (by decide)))
  have f1569 : Fld Z h1563 r0 "com/example/adfair/adfair/Ranking" "queueSize" "I" (.int 0) := f1555.same W1563
  have f1570 := f1556.other W1563 (Or.inl (Ne.symm ne_r0_pp))
  have f1572 := f1558.other W1563 (Ne.symm ne_r0_ha)
  have f1574 := f1560.other W1563 (Ne.symm ne_r0_qa)
  have f1575 := f1561.wr W1563 (Or.inl (List.mem_of_getElem? (i := 0) rfl))
  have Z1563 : n0 ≤ h1563.size := Nat.le_trans Z1549 (Keep.of_wr W1563).1
  have N1563 := Fr.snoc X1563 N1549 g_r0
  refine own_s 97 [] (fun _ k_ => st1563 _ k_) ?_
  refine own_s 161 [] (fun _ k_ => XS.goto X1563.here hx rfl (pc0 := 97) (pc' := 161) rfl (hb hby d15_97) (by decide) (by decide) k_) ?_
  refine own_aloadN 162 X1563.here hx (hb hby d15_161) rfl rfl rfl ?_
  obtain ⟨T1576, X1576, e1576, st1576⟩ := getF X1563 hx hZ hown (host := "") (Or.inl (own_w 35 hw rfl)) Via.refl e1563 f1565 (g := (mkF m 162 #[.val (.ref r0), .val (.int (Int32.ofNat ii)), .val (.int 1)] [(.ref r0)])) rfl rfl (hb hby d15_162)
  refine own_s 165 [(.ref pp)] (fun _ k_ => st1576 _ k_) ?_
  obtain ⟨T1577, X1577, e1577, st1577⟩ := own_getR X1576 hx hZ hown (own_w 50 hw rfl) e1576 f1570 (g := (mkF m 165 #[.val (.ref r0), .val (.int (Int32.ofNat ii)), .val (.int 1)] [(.ref pp)])) rfl rfl (hb hby d15_165)
  refine own_s 168 [(.ref ha)] (fun _ k_ => st1577 _ k_) ?_
  refine own_iloadN 169 X1577.here hx (hb hby d15_168) rfl rfl ?_
  refine own_s 170 [(.long 0), (.int (Int32.ofNat ii)), (.ref ha)] (fun _ k_ => XS.lconst X1577.here hx rfl (hb hby d15_169) k_) ?_
  obtain ⟨cl1578, Ar1578, S1578, Hh1578⟩ := id f1572
  obtain ⟨T1578, h1578, X1578, e1578, W1578, st1578⟩ := stJ X1577 hx hZ e1577 Ar1578 (j := (Int32.ofNat ii)) (own_inb S1578 (by omega) hi) (g := (mkF m 170 #[.val (.ref r0), .val (.int (Int32.ofNat ii)), .val (.int 1)] [(.long 0), (.int (Int32.ofNat ii)), (.ref ha)])) rfl rfl (hb hby d15_170)
  rw [own_clamp (Nat.lt_trans hi (by omega))] at W1578
  have f1580 := f1565.other W1578 (Or.inl ne_r0_ha)
  have f1581 := f1566.other W1578 (Or.inl ne_r0_ha)
  have f1582 := f1567.other W1578 (Or.inl ne_r0_ha)
  have f1583 := f1568.other W1578 (Or.inl ne_r0_ha)
  have f1584 := f1569.other W1578 (Or.inl ne_r0_ha)
  have f1587 : own_LN Z h1578 ha NN (own_upd fH ii (0 : Int64)) := f1572.set W1578 hi
  have f1589 := f1574.other W1578 (Ne.symm ne_ha_qa)
  have f1590 := f1575.wr W1578 (Or.inl (List.mem_of_getElem? (i := 2) rfl))
  have Z1578 : n0 ≤ h1578.size := Nat.le_trans Z1563 (Keep.of_wr W1578).1
  have N1578 := Fr.snoc X1578 N1563 g_ha
  refine own_s 171 [] (fun _ k_ => st1578 _ k_) ?_
  obtain ⟨fs, hr, hrun, hended, hW, hsame⟩ := X1578.leave (v := none) (fun _ => rfl)
  refine own_at ?_ (hG _ _ ⟨hrun, hended, _, _, rfl, ?_, ⟨_, rfl⟩, hW, hsame.mono (by decide) (by decide)⟩)
  · show Steps p.tables e below (T1578.setTop (mkF m 171 #[.val (.ref r0), .val (.int (Int32.ofNat ii)), .val (.int 1)] [])) _
    exact X1578.returnOut hx Bd.returns (hb hby d15_171) hr
  · show QReC Z r0 ii num pp pa ha qa cq NN fH gP h0 n0 _ T1578.heap _
    rw [e1578]
    exact ⟨rfl, N1578, f1590, f1580, f1581, f1582, f1583, f1584, f1587, f1589⟩
theorem own_fin_000 {ia ib ic : Nat} {u9 u10 u11 : Int32} (hab : ia ≠ ib) (hac : ia ≠ ic) (hbc : ib ≠ ic) (h9 : u9 = 0) (h10 : u10 = 0) (h11 : u11 = 0) : ∀ j, (own_upd (own_upd (own_upd (fun _ => 0) ia (1 : Int64)) ib (1 : Int64)) ic (2 : Int64)) j = own_fin ia ib ic u9 u10 u11 j := by
  intro j
  unfold own_fin own_upd
  by_cases q1 : j = ia <;> by_cases q2 : j = ib <;> by_cases q3 : j = ic <;> simp_all
theorem own_fin_001 {ia ib ic : Nat} {u9 u10 u11 : Int32} (hab : ia ≠ ib) (hac : ia ≠ ic) (hbc : ib ≠ ic) (h9 : u9 = 0) (h10 : u10 = 0) (h11 : ¬ u11 = 0) : ∀ j, (own_upd (own_upd (own_upd (own_upd (fun _ => 0) ia (1 : Int64)) ib (1 : Int64)) ic (2 : Int64)) ic (0 : Int64)) j = own_fin ia ib ic u9 u10 u11 j := by
  intro j
  unfold own_fin own_upd
  by_cases q1 : j = ia <;> by_cases q2 : j = ib <;> by_cases q3 : j = ic <;> simp_all
theorem own_fin_010 {ia ib ic : Nat} {u9 u10 u11 : Int32} (hab : ia ≠ ib) (hac : ia ≠ ic) (hbc : ib ≠ ic) (h9 : u9 = 0) (h10 : ¬ u10 = 0) (h11 : u11 = 0) : ∀ j, (own_upd (own_upd (own_upd (own_upd (fun _ => 0) ia (1 : Int64)) ib (1 : Int64)) ic (2 : Int64)) ib (0 : Int64)) j = own_fin ia ib ic u9 u10 u11 j := by
  intro j
  unfold own_fin own_upd
  by_cases q1 : j = ia <;> by_cases q2 : j = ib <;> by_cases q3 : j = ic <;> simp_all
theorem own_fin_011 {ia ib ic : Nat} {u9 u10 u11 : Int32} (hab : ia ≠ ib) (hac : ia ≠ ic) (hbc : ib ≠ ic) (h9 : u9 = 0) (h10 : ¬ u10 = 0) (h11 : ¬ u11 = 0) : ∀ j, (own_upd (own_upd (own_upd (own_upd (own_upd (fun _ => 0) ia (1 : Int64)) ib (1 : Int64)) ic (2 : Int64)) ib (0 : Int64)) ic (0 : Int64)) j = own_fin ia ib ic u9 u10 u11 j := by
  intro j
  unfold own_fin own_upd
  by_cases q1 : j = ia <;> by_cases q2 : j = ib <;> by_cases q3 : j = ic <;> simp_all
theorem own_fin_100 {ia ib ic : Nat} {u9 u10 u11 : Int32} (hab : ia ≠ ib) (hac : ia ≠ ic) (hbc : ib ≠ ic) (h9 : ¬ u9 = 0) (h10 : u10 = 0) (h11 : u11 = 0) : ∀ j, (own_upd (own_upd (own_upd (own_upd (fun _ => 0) ia (1 : Int64)) ib (1 : Int64)) ic (2 : Int64)) ia (0 : Int64)) j = own_fin ia ib ic u9 u10 u11 j := by
  intro j
  unfold own_fin own_upd
  by_cases q1 : j = ia <;> by_cases q2 : j = ib <;> by_cases q3 : j = ic <;> simp_all
theorem own_fin_101 {ia ib ic : Nat} {u9 u10 u11 : Int32} (hab : ia ≠ ib) (hac : ia ≠ ic) (hbc : ib ≠ ic) (h9 : ¬ u9 = 0) (h10 : u10 = 0) (h11 : ¬ u11 = 0) : ∀ j, (own_upd (own_upd (own_upd (own_upd (own_upd (fun _ => 0) ia (1 : Int64)) ib (1 : Int64)) ic (2 : Int64)) ia (0 : Int64)) ic (0 : Int64)) j = own_fin ia ib ic u9 u10 u11 j := by
  intro j
  unfold own_fin own_upd
  by_cases q1 : j = ia <;> by_cases q2 : j = ib <;> by_cases q3 : j = ic <;> simp_all
theorem own_fin_110 {ia ib ic : Nat} {u9 u10 u11 : Int32} (hab : ia ≠ ib) (hac : ia ≠ ic) (hbc : ib ≠ ic) (h9 : ¬ u9 = 0) (h10 : ¬ u10 = 0) (h11 : u11 = 0) : ∀ j, (own_upd (own_upd (own_upd (own_upd (own_upd (fun _ => 0) ia (1 : Int64)) ib (1 : Int64)) ic (2 : Int64)) ia (0 : Int64)) ib (0 : Int64)) j = own_fin ia ib ic u9 u10 u11 j := by
  intro j
  unfold own_fin own_upd
  by_cases q1 : j = ia <;> by_cases q2 : j = ib <;> by_cases q3 : j = ic <;> simp_all
theorem own_fin_111 {ia ib ic : Nat} {u9 u10 u11 : Int32} (hab : ia ≠ ib) (hac : ia ≠ ic) (hbc : ib ≠ ic) (h9 : ¬ u9 = 0) (h10 : ¬ u10 = 0) (h11 : ¬ u11 = 0) : ∀ j, (own_upd (own_upd (own_upd (own_upd (own_upd (own_upd (fun _ => 0) ia (1 : Int64)) ib (1 : Int64)) ic (2 : Int64)) ia (0 : Int64)) ib (0 : Int64)) ic (0 : Int64)) j = own_fin ia ib ic u9 u10 u11 j := by
  intro j
  unfold own_fin own_upd
  by_cases q1 : j = ia <;> by_cases q2 : j = ib <;> by_cases q3 : j = ic <;> simp_all
theorem pn_0 : plainName "com/example/adfair/adfair/RankingContainsPinLaw" = true := by first | (simp [plainName, overriddenIn]; done) | decide +kernel
theorem ef_rm0 (m : MethodId) (x0 : Int32) (x1 : Int32) (x2 : Int32) (x3 : Int32) (x4 : Int32) (x5 : Int32) : entryFrame m #[(.int x0), (.int x1), (.int x2), (.int x3), (.int x4), (.int x5)] maxLocals = mkF m 0 #[.val (.int x0), .val (.int x1), .val (.int x2), .val (.int x3), .val (.int x4), .val (.int x5), .unset, .unset, .unset, .unset, .unset, .unset, .unset, .unset, .unset, .unset, .unset, .unset, .unset] [] := by first | (simp [entryFrame, mkF, argsToLocals, Value.category, maxLocals]; done) | rfl
def Q0 (Z : State) (p0 : Int32) (p1 : Int32) (p2 : Int32) (p3 : Int32) (p4 : Int32) (p5 : Int32) (h0 : Heap) (n0 : Nat) (v : Option Value) (h : Heap) (L : List Loc) : Prop := v = some (.int 1) ∧ Fr n0 L
set_option maxRecDepth 65536 in
set_option maxHeartbeats 40000000 in
theorem rm0 (l : Launch) (Z : State) (a0 : Array Value) (hw : ∀ d ∈ tables_1, d.before a0 Z = true) (ws : List Jvm.Cond) (p0 : Int32) (p1 : Int32) (p2 : Int32) (p3 : Int32) (p4 : Int32) (p5 : Int32) (h0 : Heap) (n0 : Nat) (Z0 : n0 ≤ h0.size) :
    MetFree l x (head1 (Jvm.Cond.code x code maxLocals ret :: ws) room_1) (fun a U => a = #[(.int p0), (.int p1), (.int p2), (.int p3), (.int p4), (.int p5)] ∧ Z.Warmed39 U.vm ∧ U.heap = h0) (fun _ _ _ _ _ => True) (fun _ U o U' => ∃ v L, o = .returned v ∧ Q0 Z p0 p1 p2 p3 p4 p5 h0 n0 v U'.heap L ∧ FrameEnd U o U' L room_1.cells room_1.slots) := by
  refine MetFree.of_bodySF (plainFor_of_name pn_0) hisR ?_
  intro p e s m args below meth c s₁ Bd hml0 hP hK
  obtain ⟨rfl, hZ, hh⟩ := hP
  have hx := Bd.exec
  have hby := Bd.bytes
  have hml : c.maxLocals = 19 := hml0
  have hown : s.vm.findClass "com/example/adfair/adfair/RankingContainsPinLaw" = some m.cls := findClass_of_methodNamed Bd.named
  have hnm := (name_of_methodNamed Bd.named Bd.method).1
  have X0 : Stand p l e room_1 s m #[(.int p0), (.int p1), (.int p2), (.int p3), (.int p4), (.int p5)] below meth c s₁ [] 0 0 := Stand.of_body Bd
  have e0 : s₁.heap = h0 := by rw [← hh, Bd.state]; rfl
  have N0 := Fr.nil n0
  refine own_open fun G hG => ?_
  refine own_go (B := s₁.setTop (mkF m 0 #[.val (.int p0), .val (.int p1), .val (.int p2), .val (.int p3), .val (.int p4), .val (.int p5), .unset, .unset, .unset, .unset, .unset, .unset, .unset, .unset, .unset, .unset, .unset, .unset, .unset] [])) (fun t_ k_ => castTop (ef_rm0 m p0 p1 p2 p3 p4 p5) k_) ?_
  refine own_iloadN 1 X0.here hx (hb hby at_0) rfl rfl ?_
  refine own_s 3 [(.int 63), (.int p0)] (fun _ k_ => XS.bipush X0.here hx rfl (hb hby at_1) k_) ?_
  refine own_s 4 [(.int (p0 &&& (63 : Int32)))] (fun _ k_ => XS.iand X0.here hx rfl (hb hby at_3) rfl k_) ?_
  refine own_istore 6 #[.val (.int p0), .val (.int p1), .val (.int p2), .val (.int p3), .val (.int p4), .val (.int p5), .val (.int (p0 &&& (63 : Int32))), .unset, .unset, .unset, .unset, .unset, .unset, .unset, .unset, .unset, .unset, .unset, .unset] X0.here hx (hb hby at_4) rfl rfl ?_
  obtain ⟨ia, la, ea, -⟩ := own_m63 p0
  rw [ea]
  refine own_iload 8 X0.here hx (hb hby at_6) rfl rfl ?_
  refine own_s 9 [(.int 1), (.int (Int32.ofNat ia))] (fun _ k_ => XS.iconst X0.here hx rfl (hb hby at_8) k_) ?_
  refine own_s 10 [(.int ((Int32.ofNat ia) + (1 : Int32)))] (fun _ k_ => XS.iadd X0.here hx rfl (hb hby at_9) rfl k_) ?_
  refine own_iloadN 11 X0.here hx (hb hby at_10) rfl rfl ?_
  refine own_s 13 [(.int 31), (.int p1), (.int ((Int32.ofNat ia) + (1 : Int32)))] (fun _ k_ => XS.bipush X0.here hx rfl (hb hby at_11) k_) ?_
  refine own_s 14 [(.int (p1 &&& (31 : Int32))), (.int ((Int32.ofNat ia) + (1 : Int32)))] (fun _ k_ => XS.iand X0.here hx rfl (hb hby at_13) rfl k_) ?_
  refine own_s 15 [(.int (((Int32.ofNat ia) + (1 : Int32)) + (p1 &&& (31 : Int32))))] (fun _ k_ => XS.iadd X0.here hx rfl (hb hby at_14) rfl k_) ?_
  refine own_s 17 [(.int 63), (.int (((Int32.ofNat ia) + (1 : Int32)) + (p1 &&& (31 : Int32))))] (fun _ k_ => XS.bipush X0.here hx rfl (hb hby at_15) k_) ?_
  refine own_s 18 [(.int ((((Int32.ofNat ia) + (1 : Int32)) + (p1 &&& (31 : Int32))) &&& (63 : Int32)))] (fun _ k_ => XS.iand X0.here hx rfl (hb hby at_17) rfl k_) ?_
  refine own_istore 20 #[.val (.int p0), .val (.int p1), .val (.int p2), .val (.int p3), .val (.int p4), .val (.int p5), .val (.int (Int32.ofNat ia)), .val (.int ((((Int32.ofNat ia) + (1 : Int32)) + (p1 &&& (31 : Int32))) &&& (63 : Int32))), .unset, .unset, .unset, .unset, .unset, .unset, .unset, .unset, .unset, .unset, .unset] X0.here hx (hb hby at_18) rfl rfl ?_
  obtain ⟨ib, tb, lb, ltb, eb, hb_⟩ := own_b ia la p1
  rw [eb]
  refine own_iload 22 X0.here hx (hb hby at_20) rfl rfl ?_
  refine own_s 24 [(.int 33), (.int (Int32.ofNat ia))] (fun _ k_ => XS.bipush X0.here hx rfl (hb hby at_22) k_) ?_
  refine own_s 25 [(.int ((Int32.ofNat ia) + (33 : Int32)))] (fun _ k_ => XS.iadd X0.here hx rfl (hb hby at_24) rfl k_) ?_
  refine own_iloadN 26 X0.here hx (hb hby at_25) rfl rfl ?_
  refine own_s 28 [(.int 15), (.int p2), (.int ((Int32.ofNat ia) + (33 : Int32)))] (fun _ k_ => XS.bipush X0.here hx rfl (hb hby at_26) k_) ?_
  refine own_s 29 [(.int (p2 &&& (15 : Int32))), (.int ((Int32.ofNat ia) + (33 : Int32)))] (fun _ k_ => XS.iand X0.here hx rfl (hb hby at_28) rfl k_) ?_
  refine own_s 30 [(.int (((Int32.ofNat ia) + (33 : Int32)) + (p2 &&& (15 : Int32))))] (fun _ k_ => XS.iadd X0.here hx rfl (hb hby at_29) rfl k_) ?_
  refine own_s 32 [(.int 63), (.int (((Int32.ofNat ia) + (33 : Int32)) + (p2 &&& (15 : Int32))))] (fun _ k_ => XS.bipush X0.here hx rfl (hb hby at_30) k_) ?_
  refine own_s 33 [(.int ((((Int32.ofNat ia) + (33 : Int32)) + (p2 &&& (15 : Int32))) &&& (63 : Int32)))] (fun _ k_ => XS.iand X0.here hx rfl (hb hby at_32) rfl k_) ?_
  refine own_istore 35 #[.val (.int p0), .val (.int p1), .val (.int p2), .val (.int p3), .val (.int p4), .val (.int p5), .val (.int (Int32.ofNat ia)), .val (.int (Int32.ofNat ib)), .val (.int ((((Int32.ofNat ia) + (33 : Int32)) + (p2 &&& (15 : Int32))) &&& (63 : Int32))), .unset, .unset, .unset, .unset, .unset, .unset, .unset, .unset, .unset, .unset] X0.here hx (hb hby at_33) rfl rfl ?_
  obtain ⟨ic, tc, lc, ltc, ec, hc_⟩ := own_c ia la p2
  rw [ec]
  have hab : ia ≠ ib := by omega
  have hac : ia ≠ ic := by omega
  have hbc : ib ≠ ic := by omega
  have K130 : ∀ (qq : Nat) (u9 u10 u11 : Int32) (s12 : Slot), qq < 2147483648 → own_R p.tables e below G (s₁.setTop (mkF m 130 #[.val (.int p0), .val (.int p1), .val (.int p2), .val (.int p3), .val (.int p4), .val (.int p5), .val (.int (Int32.ofNat ia)), .val (.int (Int32.ofNat ib)), .val (.int (Int32.ofNat ic)), .val (.int u9), .val (.int u10), .val (.int u11), s12, .val (.int (Int32.ofNat qq)), .unset, .unset, .unset, .unset, .unset] [])) := by
    intro qq u9 u10 u11 s12 hq
    have K241 : ∀ (TK : State) (LK : List Loc) (hK : Heap) (pp rr ss ha : Addr) (NN : Nat) (fH : Nat → Int64), Stand p l e room_1 s m #[(.int p0), (.int p1), (.int p2), (.int p3), (.int p4), (.int p5)] below meth c TK LK 23 1005 → TK.heap = hK → Fr n0 LK → n0 ≤ hK.size → Exa Z hK rr "com/example/adfair/adfair/Ranking" → Exa Z hK ss "com/example/adfair/adfair/Ranking" → Fld Z hK rr "com/example/adfair/adfair/Ranking" "places" "Lcom/example/adfair/adfair/Ranking$Places;" (.ref pp) → Fld Z hK rr "com/example/adfair/adfair/Ranking" "number" "J" (.long 1) → Fld Z hK ss "com/example/adfair/adfair/Ranking" "places" "Lcom/example/adfair/adfair/Ranking$Places;" (.ref pp) → Fld Z hK ss "com/example/adfair/adfair/Ranking" "number" "J" (.long 2) → Fld Z hK pp "com/example/adfair/adfair/Ranking$Places" "holder" "[J" (.ref ha) → own_LN Z hK ha NN fH → NN ≤ 126 → own_z fH NN → (∀ j, fH j = own_fin ia ib ic u9 u10 u11 j) → own_R p.tables e below G (TK.setTop (mkF m 241 #[.val (.int p0), .val (.int p1), .val (.int p2), .val (.int p3), .val (.int p4), .val (.int p5), .val (.int (Int32.ofNat ia)), .val (.int (Int32.ofNat ib)), .val (.int (Int32.ofNat ic)), .val (.int u9), .val (.int u10), .val (.int u11), s12, .val (.int (Int32.ofNat qq)), .val (.ref pp), .val (.ref rr), .val (.ref ss), .unset, .unset] [])) := by
      intro TK LK hK pp rr ss ha NN fH XK eK NK ZK y0 y1 y2 y3 y4 y5 y6 y7 hNN hzK hfK
      have hR := own_finR hfK hab qq
      have hS := own_finS hfK hac hbc qq
      refine own_iload 243 XK.here hx (hb hby at_241) rfl rfl ?_
      refine own_iload 245 XK.here hx (hb hby at_243) rfl rfl ?_
      by_cases hc245 : (Int32.ofNat qq) = (Int32.ofNat ia)
      · refine own_s 248 [] (fun _ k_ => XS.icmpNo XK.here hx rfl (hb hby at_245) rfl (teq hc245).2 k_) ?_
        refine own_iload 250 XK.here hx (hb hby at_248) rfl rfl ?_
        by_cases hc250 : u9 = (0 : Int32)
        · refine own_s 265 [] (fun _ k_ => XS.ifYes XK.here hx rfl (pc0 := 250) (pc' := 265) rfl (hb hby at_250) rfl ((if0 _ _).trans (teq hc250).1) (by decide) (by decide) k_) ?_
          refine own_s 266 [(.int 1)] (fun _ k_ => XS.iconst XK.here hx rfl (hb hby at_265) k_) ?_
          refine own_s 270 [(.int 1)] (fun _ k_ => XS.goto XK.here hx rfl (pc0 := 266) (pc' := 270) rfl (hb hby at_266) (by decide) (by decide) k_) ?_
          refine own_istore 272 #[.val (.int p0), .val (.int p1), .val (.int p2), .val (.int p3), .val (.int p4), .val (.int p5), .val (.int (Int32.ofNat ia)), .val (.int (Int32.ofNat ib)), .val (.int (Int32.ofNat ic)), .val (.int u9), .val (.int u10), .val (.int u11), s12, .val (.int (Int32.ofNat qq)), .val (.ref pp), .val (.ref rr), .val (.ref ss), .val (.int 1), .unset] XK.here hx (hb hby at_270) rfl rfl ?_
          refine own_iload 274 XK.here hx (hb hby at_272) rfl rfl ?_
          refine own_iload 276 XK.here hx (hb hby at_274) rfl rfl ?_
          by_cases hc276 : (Int32.ofNat qq) = (Int32.ofNat ic)
          · refine own_s 279 [] (fun _ k_ => XS.icmpNo XK.here hx rfl (hb hby at_276) rfl (teq hc276).2 k_) ?_
            refine own_iload 281 XK.here hx (hb hby at_279) rfl rfl ?_
            by_cases hc281 : u11 = (0 : Int32)
            · refine own_s 284 [] (fun _ k_ => XS.ifNo XK.here hx rfl (hb hby at_281) rfl ((if0 _ _).trans (teq hc281).2) k_) ?_
              refine own_s 285 [(.int 1)] (fun _ k_ => XS.iconst XK.here hx rfl (hb hby at_284) k_) ?_
              refine own_s 289 [(.int 1)] (fun _ k_ => XS.goto XK.here hx rfl (pc0 := 285) (pc' := 289) rfl (hb hby at_285) (by decide) (by decide) k_) ?_
              refine own_istore 291 #[.val (.int p0), .val (.int p1), .val (.int p2), .val (.int p3), .val (.int p4), .val (.int p5), .val (.int (Int32.ofNat ia)), .val (.int (Int32.ofNat ib)), .val (.int (Int32.ofNat ic)), .val (.int u9), .val (.int u10), .val (.int u11), s12, .val (.int (Int32.ofNat qq)), .val (.ref pp), .val (.ref rr), .val (.ref ss), .val (.int 1), .val (.int 1)] XK.here hx (hb hby at_289) rfl rfl ?_
              refine own_aload 293 XK.here hx (hb hby at_291) rfl rfl rfl ?_
              refine own_iload 295 XK.here hx (hb hby at_293) rfl rfl ?_
              obtain ⟨cq1592, kq1592, q1592a, q1592b, q1592c⟩ := isOf hZ eK y0
              obtain ⟨vv1592, _, ⟨T1592, L1592, k1592, n1592⟩, -, X1592, ⟨Lc1592, hQ1592, l1592, y1592, z1592⟩, st1592⟩ := XK.virtualBack hx (y := (⟨"com/example/adfair/adfair/Ranking", "contains", "(I)Z"⟩ : MethodName)) (z := (⟨"com/example/adfair/adfair/Ranking", "contains", "(I)Z"⟩ : MethodName)) hown (mvT hZ (own_w 91 hw rfl)) (mvT hZ (own_w 92 hw rfl)) (notFace_of_selects (args := #[]) (mvT hZ (own_w 94 hw rfl))) (mvT hZ (own_w 94 hw rfl)) (mvT hZ (own_w 93 hw rfl)) (by decide) (backOf (W := 0) (rmCo l Z a0 hw [] rr qq (1 : Int64) pp ha NN fH hK n0 ZK y2 y3 y6 y7 hq hNN hzK (by decide)) hZ (own_w 95 hw rfl) (own_w 17 hw rfl) (by decide) (by decide)) q1592a q1592c (g := (mkF m 295 #[.val (.int p0), .val (.int p1), .val (.int p2), .val (.int p3), .val (.int p4), .val (.int p5), .val (.int (Int32.ofNat ia)), .val (.int (Int32.ofNat ib)), .val (.int (Int32.ofNat ic)), .val (.int u9), .val (.int u10), .val (.int u11), s12, .val (.int (Int32.ofNat qq)), .val (.ref pp), .val (.ref rr), .val (.ref ss), .val (.int 1), .val (.int 1)] [(.int (Int32.ofNat qq)), (.ref rr)])) rfl (by rw [hml]; rfl) (Steps.refl _) (argsL := [(.int (Int32.ofNat qq))]) (rest := []) (lenOf pd__28_I_29_Z rfl) rfl (by show 2 * 0 + _ ≤ _; exact Nat.le_of_eq rfl) (hb hby at_295) (fun _ _ => ⟨rfl, eK, (by decide : 23 + 0 ≤ _), (by decide : 1005 + 0 ≤ _)⟩)
              dsimp only [Pt.U, Pt.locs, Pt.cells, Pt.slots] at X1592 l1592 y1592 z1592 st1592 hQ1592
              subst l1592 y1592 z1592
              obtain ⟨rfl, N1592q, e1592q⟩ := hQ1592
              have N1592 := Fr.app NK N1592q
              refine own_s 298 [(.int (own_con fH qq (1 : Int64)))] (fun _ k_ => st1592.trans k_) ?_
              refine own_iload 300 X1592.here hx (hb hby at_298) rfl rfl ?_
              refine own_s 303 [] (fun _ k_ => XS.icmpNo X1592.here hx rfl (hb hby at_300) rfl (teq (hR.trans (if_pos (Or.inl ⟨(own_inj hq (Nat.lt_trans la (by decide))).mp hc245, hc250⟩)))).2 k_) ?_
              refine own_aload 305 X1592.here hx (hb hby at_303) rfl rfl rfl ?_
              refine own_iload 307 X1592.here hx (hb hby at_305) rfl rfl ?_
              obtain ⟨cq1593, kq1593, q1593a, q1593b, q1593c⟩ := isOf hZ e1592q y1
              obtain ⟨vv1593, _, ⟨T1593, L1593, k1593, n1593⟩, -, X1593, ⟨Lc1593, hQ1593, l1593, y1593, z1593⟩, st1593⟩ := X1592.virtualBack hx (y := (⟨"com/example/adfair/adfair/Ranking", "contains", "(I)Z"⟩ : MethodName)) (z := (⟨"com/example/adfair/adfair/Ranking", "contains", "(I)Z"⟩ : MethodName)) hown (mvT hZ (own_w 91 hw rfl)) (mvT hZ (own_w 92 hw rfl)) (notFace_of_selects (args := #[]) (mvT hZ (own_w 94 hw rfl))) (mvT hZ (own_w 94 hw rfl)) (mvT hZ (own_w 93 hw rfl)) (by decide) (backOf (W := 0) (rmCo l Z a0 hw [] ss qq (2 : Int64) pp ha NN fH hK n0 ZK y4 y5 y6 y7 hq hNN hzK (by decide)) hZ (own_w 95 hw rfl) (own_w 17 hw rfl) (by decide) (by decide)) q1593a q1593c (g := (mkF m 307 #[.val (.int p0), .val (.int p1), .val (.int p2), .val (.int p3), .val (.int p4), .val (.int p5), .val (.int (Int32.ofNat ia)), .val (.int (Int32.ofNat ib)), .val (.int (Int32.ofNat ic)), .val (.int u9), .val (.int u10), .val (.int u11), s12, .val (.int (Int32.ofNat qq)), .val (.ref pp), .val (.ref rr), .val (.ref ss), .val (.int 1), .val (.int 1)] [(.int (Int32.ofNat qq)), (.ref ss)])) rfl (by rw [hml]; rfl) (Steps.refl _) (argsL := [(.int (Int32.ofNat qq))]) (rest := []) (lenOf pd__28_I_29_Z rfl) rfl (by show 2 * 0 + _ ≤ _; exact Nat.le_of_eq rfl) (hb hby at_307) (fun _ _ => ⟨rfl, e1592q, (by decide : 23 + 0 ≤ _), (by decide : 1005 + 0 ≤ _)⟩)
              dsimp only [Pt.U, Pt.locs, Pt.cells, Pt.slots] at X1593 l1593 y1593 z1593 st1593 hQ1593
              subst l1593 y1593 z1593
              obtain ⟨rfl, N1593q, e1593q⟩ := hQ1593
              have N1593 := Fr.app N1592 N1593q
              refine own_s 310 [(.int (own_con fH qq (2 : Int64)))] (fun _ k_ => st1593.trans k_) ?_
              refine own_iload 312 X1593.here hx (hb hby at_310) rfl rfl ?_
              refine own_s 315 [] (fun _ k_ => XS.icmpNo X1593.here hx rfl (hb hby at_312) rfl (teq (hS.trans (if_pos ⟨(own_inj hq (Nat.lt_trans lc (by decide))).mp hc276, hc281⟩))).2 k_) ?_
              refine own_s 316 [(.int 1)] (fun _ k_ => XS.iconst X1593.here hx rfl (hb hby at_315) k_) ?_
              refine own_s 320 [(.int 1)] (fun _ k_ => XS.goto X1593.here hx rfl (pc0 := 316) (pc' := 320) rfl (hb hby at_316) (by decide) (by decide) k_) ?_
              obtain ⟨fs, hr, hrun, hended, hW, hsame⟩ := X1593.leave (v := some (.int 1)) (fun h => by rw [Bd.returns] at h; cases h)
              refine own_at ?_ (hG _ _ ⟨hrun, hended, _, _, rfl, ?_, ⟨_, rfl⟩, hW, hsame.mono (by decide) (by decide)⟩)
              · show Steps p.tables e below (T1593.setTop (mkF m 320 #[.val (.int p0), .val (.int p1), .val (.int p2), .val (.int p3), .val (.int p4), .val (.int p5), .val (.int (Int32.ofNat ia)), .val (.int (Int32.ofNat ib)), .val (.int (Int32.ofNat ic)), .val (.int u9), .val (.int u10), .val (.int u11), s12, .val (.int (Int32.ofNat qq)), .val (.ref pp), .val (.ref rr), .val (.ref ss), .val (.int 1), .val (.int 1)] [(.int 1)])) _
                exact retN X1593 hx (t := .boolean) Bd.returns (by simp) (hb hby at_320) hr
              · show Q0 Z p0 p1 p2 p3 p4 p5 h0 n0 _ T1593.heap _
                rw [e1593q]
                exact ⟨rfl, N1593⟩
            · refine own_s 288 [] (fun _ k_ => XS.ifYes XK.here hx rfl (pc0 := 281) (pc' := 288) rfl (hb hby at_281) rfl ((if0 _ _).trans (feq hc281).2) (by decide) (by decide) k_) ?_
              refine own_s 289 [(.int 0)] (fun _ k_ => XS.iconst XK.here hx rfl (hb hby at_288) k_) ?_
              refine own_istore 291 #[.val (.int p0), .val (.int p1), .val (.int p2), .val (.int p3), .val (.int p4), .val (.int p5), .val (.int (Int32.ofNat ia)), .val (.int (Int32.ofNat ib)), .val (.int (Int32.ofNat ic)), .val (.int u9), .val (.int u10), .val (.int u11), s12, .val (.int (Int32.ofNat qq)), .val (.ref pp), .val (.ref rr), .val (.ref ss), .val (.int 1), .val (.int 0)] XK.here hx (hb hby at_289) rfl rfl ?_
              refine own_aload 293 XK.here hx (hb hby at_291) rfl rfl rfl ?_
              refine own_iload 295 XK.here hx (hb hby at_293) rfl rfl ?_
              obtain ⟨cq1595, kq1595, q1595a, q1595b, q1595c⟩ := isOf hZ eK y0
              obtain ⟨vv1595, _, ⟨T1595, L1595, k1595, n1595⟩, -, X1595, ⟨Lc1595, hQ1595, l1595, y1595, z1595⟩, st1595⟩ := XK.virtualBack hx (y := (⟨"com/example/adfair/adfair/Ranking", "contains", "(I)Z"⟩ : MethodName)) (z := (⟨"com/example/adfair/adfair/Ranking", "contains", "(I)Z"⟩ : MethodName)) hown (mvT hZ (own_w 91 hw rfl)) (mvT hZ (own_w 92 hw rfl)) (notFace_of_selects (args := #[]) (mvT hZ (own_w 94 hw rfl))) (mvT hZ (own_w 94 hw rfl)) (mvT hZ (own_w 93 hw rfl)) (by decide) (backOf (W := 0) (rmCo l Z a0 hw [] rr qq (1 : Int64) pp ha NN fH hK n0 ZK y2 y3 y6 y7 hq hNN hzK (by decide)) hZ (own_w 95 hw rfl) (own_w 17 hw rfl) (by decide) (by decide)) q1595a q1595c (g := (mkF m 295 #[.val (.int p0), .val (.int p1), .val (.int p2), .val (.int p3), .val (.int p4), .val (.int p5), .val (.int (Int32.ofNat ia)), .val (.int (Int32.ofNat ib)), .val (.int (Int32.ofNat ic)), .val (.int u9), .val (.int u10), .val (.int u11), s12, .val (.int (Int32.ofNat qq)), .val (.ref pp), .val (.ref rr), .val (.ref ss), .val (.int 1), .val (.int 0)] [(.int (Int32.ofNat qq)), (.ref rr)])) rfl (by rw [hml]; rfl) (Steps.refl _) (argsL := [(.int (Int32.ofNat qq))]) (rest := []) (lenOf pd__28_I_29_Z rfl) rfl (by show 2 * 0 + _ ≤ _; exact Nat.le_of_eq rfl) (hb hby at_295) (fun _ _ => ⟨rfl, eK, (by decide : 23 + 0 ≤ _), (by decide : 1005 + 0 ≤ _)⟩)
              dsimp only [Pt.U, Pt.locs, Pt.cells, Pt.slots] at X1595 l1595 y1595 z1595 st1595 hQ1595
              subst l1595 y1595 z1595
              obtain ⟨rfl, N1595q, e1595q⟩ := hQ1595
              have N1595 := Fr.app NK N1595q
              refine own_s 298 [(.int (own_con fH qq (1 : Int64)))] (fun _ k_ => st1595.trans k_) ?_
              refine own_iload 300 X1595.here hx (hb hby at_298) rfl rfl ?_
              refine own_s 303 [] (fun _ k_ => XS.icmpNo X1595.here hx rfl (hb hby at_300) rfl (teq (hR.trans (if_pos (Or.inl ⟨(own_inj hq (Nat.lt_trans la (by decide))).mp hc245, hc250⟩)))).2 k_) ?_
              refine own_aload 305 X1595.here hx (hb hby at_303) rfl rfl rfl ?_
              refine own_iload 307 X1595.here hx (hb hby at_305) rfl rfl ?_
              obtain ⟨cq1596, kq1596, q1596a, q1596b, q1596c⟩ := isOf hZ e1595q y1
              obtain ⟨vv1596, _, ⟨T1596, L1596, k1596, n1596⟩, -, X1596, ⟨Lc1596, hQ1596, l1596, y1596, z1596⟩, st1596⟩ := X1595.virtualBack hx (y := (⟨"com/example/adfair/adfair/Ranking", "contains", "(I)Z"⟩ : MethodName)) (z := (⟨"com/example/adfair/adfair/Ranking", "contains", "(I)Z"⟩ : MethodName)) hown (mvT hZ (own_w 91 hw rfl)) (mvT hZ (own_w 92 hw rfl)) (notFace_of_selects (args := #[]) (mvT hZ (own_w 94 hw rfl))) (mvT hZ (own_w 94 hw rfl)) (mvT hZ (own_w 93 hw rfl)) (by decide) (backOf (W := 0) (rmCo l Z a0 hw [] ss qq (2 : Int64) pp ha NN fH hK n0 ZK y4 y5 y6 y7 hq hNN hzK (by decide)) hZ (own_w 95 hw rfl) (own_w 17 hw rfl) (by decide) (by decide)) q1596a q1596c (g := (mkF m 307 #[.val (.int p0), .val (.int p1), .val (.int p2), .val (.int p3), .val (.int p4), .val (.int p5), .val (.int (Int32.ofNat ia)), .val (.int (Int32.ofNat ib)), .val (.int (Int32.ofNat ic)), .val (.int u9), .val (.int u10), .val (.int u11), s12, .val (.int (Int32.ofNat qq)), .val (.ref pp), .val (.ref rr), .val (.ref ss), .val (.int 1), .val (.int 0)] [(.int (Int32.ofNat qq)), (.ref ss)])) rfl (by rw [hml]; rfl) (Steps.refl _) (argsL := [(.int (Int32.ofNat qq))]) (rest := []) (lenOf pd__28_I_29_Z rfl) rfl (by show 2 * 0 + _ ≤ _; exact Nat.le_of_eq rfl) (hb hby at_307) (fun _ _ => ⟨rfl, e1595q, (by decide : 23 + 0 ≤ _), (by decide : 1005 + 0 ≤ _)⟩)
              dsimp only [Pt.U, Pt.locs, Pt.cells, Pt.slots] at X1596 l1596 y1596 z1596 st1596 hQ1596
              subst l1596 y1596 z1596
              obtain ⟨rfl, N1596q, e1596q⟩ := hQ1596
              have N1596 := Fr.app N1595 N1596q
              refine own_s 310 [(.int (own_con fH qq (2 : Int64)))] (fun _ k_ => st1596.trans k_) ?_
              refine own_iload 312 X1596.here hx (hb hby at_310) rfl rfl ?_
              refine own_s 315 [] (fun _ k_ => XS.icmpNo X1596.here hx rfl (hb hby at_312) rfl (teq (hS.trans (if_neg (fun k => hc281 k.2)))).2 k_) ?_
              refine own_s 316 [(.int 1)] (fun _ k_ => XS.iconst X1596.here hx rfl (hb hby at_315) k_) ?_
              refine own_s 320 [(.int 1)] (fun _ k_ => XS.goto X1596.here hx rfl (pc0 := 316) (pc' := 320) rfl (hb hby at_316) (by decide) (by decide) k_) ?_
              obtain ⟨fs, hr, hrun, hended, hW, hsame⟩ := X1596.leave (v := some (.int 1)) (fun h => by rw [Bd.returns] at h; cases h)
              refine own_at ?_ (hG _ _ ⟨hrun, hended, _, _, rfl, ?_, ⟨_, rfl⟩, hW, hsame.mono (by decide) (by decide)⟩)
              · show Steps p.tables e below (T1596.setTop (mkF m 320 #[.val (.int p0), .val (.int p1), .val (.int p2), .val (.int p3), .val (.int p4), .val (.int p5), .val (.int (Int32.ofNat ia)), .val (.int (Int32.ofNat ib)), .val (.int (Int32.ofNat ic)), .val (.int u9), .val (.int u10), .val (.int u11), s12, .val (.int (Int32.ofNat qq)), .val (.ref pp), .val (.ref rr), .val (.ref ss), .val (.int 1), .val (.int 0)] [(.int 1)])) _
                exact retN X1596 hx (t := .boolean) Bd.returns (by simp) (hb hby at_320) hr
              · show Q0 Z p0 p1 p2 p3 p4 p5 h0 n0 _ T1596.heap _
                rw [e1596q]
                exact ⟨rfl, N1596⟩
          · refine own_s 288 [] (fun _ k_ => XS.icmpYes XK.here hx rfl (pc0 := 276) (pc' := 288) rfl (hb hby at_276) rfl (feq hc276).2 (by decide) (by decide) k_) ?_
            refine own_s 289 [(.int 0)] (fun _ k_ => XS.iconst XK.here hx rfl (hb hby at_288) k_) ?_
            refine own_istore 291 #[.val (.int p0), .val (.int p1), .val (.int p2), .val (.int p3), .val (.int p4), .val (.int p5), .val (.int (Int32.ofNat ia)), .val (.int (Int32.ofNat ib)), .val (.int (Int32.ofNat ic)), .val (.int u9), .val (.int u10), .val (.int u11), s12, .val (.int (Int32.ofNat qq)), .val (.ref pp), .val (.ref rr), .val (.ref ss), .val (.int 1), .val (.int 0)] XK.here hx (hb hby at_289) rfl rfl ?_
            refine own_aload 293 XK.here hx (hb hby at_291) rfl rfl rfl ?_
            refine own_iload 295 XK.here hx (hb hby at_293) rfl rfl ?_
            obtain ⟨cq1598, kq1598, q1598a, q1598b, q1598c⟩ := isOf hZ eK y0
            obtain ⟨vv1598, _, ⟨T1598, L1598, k1598, n1598⟩, -, X1598, ⟨Lc1598, hQ1598, l1598, y1598, z1598⟩, st1598⟩ := XK.virtualBack hx (y := (⟨"com/example/adfair/adfair/Ranking", "contains", "(I)Z"⟩ : MethodName)) (z := (⟨"com/example/adfair/adfair/Ranking", "contains", "(I)Z"⟩ : MethodName)) hown (mvT hZ (own_w 91 hw rfl)) (mvT hZ (own_w 92 hw rfl)) (notFace_of_selects (args := #[]) (mvT hZ (own_w 94 hw rfl))) (mvT hZ (own_w 94 hw rfl)) (mvT hZ (own_w 93 hw rfl)) (by decide) (backOf (W := 0) (rmCo l Z a0 hw [] rr qq (1 : Int64) pp ha NN fH hK n0 ZK y2 y3 y6 y7 hq hNN hzK (by decide)) hZ (own_w 95 hw rfl) (own_w 17 hw rfl) (by decide) (by decide)) q1598a q1598c (g := (mkF m 295 #[.val (.int p0), .val (.int p1), .val (.int p2), .val (.int p3), .val (.int p4), .val (.int p5), .val (.int (Int32.ofNat ia)), .val (.int (Int32.ofNat ib)), .val (.int (Int32.ofNat ic)), .val (.int u9), .val (.int u10), .val (.int u11), s12, .val (.int (Int32.ofNat qq)), .val (.ref pp), .val (.ref rr), .val (.ref ss), .val (.int 1), .val (.int 0)] [(.int (Int32.ofNat qq)), (.ref rr)])) rfl (by rw [hml]; rfl) (Steps.refl _) (argsL := [(.int (Int32.ofNat qq))]) (rest := []) (lenOf pd__28_I_29_Z rfl) rfl (by show 2 * 0 + _ ≤ _; exact Nat.le_of_eq rfl) (hb hby at_295) (fun _ _ => ⟨rfl, eK, (by decide : 23 + 0 ≤ _), (by decide : 1005 + 0 ≤ _)⟩)
            dsimp only [Pt.U, Pt.locs, Pt.cells, Pt.slots] at X1598 l1598 y1598 z1598 st1598 hQ1598
            subst l1598 y1598 z1598
            obtain ⟨rfl, N1598q, e1598q⟩ := hQ1598
            have N1598 := Fr.app NK N1598q
            refine own_s 298 [(.int (own_con fH qq (1 : Int64)))] (fun _ k_ => st1598.trans k_) ?_
            refine own_iload 300 X1598.here hx (hb hby at_298) rfl rfl ?_
            refine own_s 303 [] (fun _ k_ => XS.icmpNo X1598.here hx rfl (hb hby at_300) rfl (teq (hR.trans (if_pos (Or.inl ⟨(own_inj hq (Nat.lt_trans la (by decide))).mp hc245, hc250⟩)))).2 k_) ?_
            refine own_aload 305 X1598.here hx (hb hby at_303) rfl rfl rfl ?_
            refine own_iload 307 X1598.here hx (hb hby at_305) rfl rfl ?_
            obtain ⟨cq1599, kq1599, q1599a, q1599b, q1599c⟩ := isOf hZ e1598q y1
            obtain ⟨vv1599, _, ⟨T1599, L1599, k1599, n1599⟩, -, X1599, ⟨Lc1599, hQ1599, l1599, y1599, z1599⟩, st1599⟩ := X1598.virtualBack hx (y := (⟨"com/example/adfair/adfair/Ranking", "contains", "(I)Z"⟩ : MethodName)) (z := (⟨"com/example/adfair/adfair/Ranking", "contains", "(I)Z"⟩ : MethodName)) hown (mvT hZ (own_w 91 hw rfl)) (mvT hZ (own_w 92 hw rfl)) (notFace_of_selects (args := #[]) (mvT hZ (own_w 94 hw rfl))) (mvT hZ (own_w 94 hw rfl)) (mvT hZ (own_w 93 hw rfl)) (by decide) (backOf (W := 0) (rmCo l Z a0 hw [] ss qq (2 : Int64) pp ha NN fH hK n0 ZK y4 y5 y6 y7 hq hNN hzK (by decide)) hZ (own_w 95 hw rfl) (own_w 17 hw rfl) (by decide) (by decide)) q1599a q1599c (g := (mkF m 307 #[.val (.int p0), .val (.int p1), .val (.int p2), .val (.int p3), .val (.int p4), .val (.int p5), .val (.int (Int32.ofNat ia)), .val (.int (Int32.ofNat ib)), .val (.int (Int32.ofNat ic)), .val (.int u9), .val (.int u10), .val (.int u11), s12, .val (.int (Int32.ofNat qq)), .val (.ref pp), .val (.ref rr), .val (.ref ss), .val (.int 1), .val (.int 0)] [(.int (Int32.ofNat qq)), (.ref ss)])) rfl (by rw [hml]; rfl) (Steps.refl _) (argsL := [(.int (Int32.ofNat qq))]) (rest := []) (lenOf pd__28_I_29_Z rfl) rfl (by show 2 * 0 + _ ≤ _; exact Nat.le_of_eq rfl) (hb hby at_307) (fun _ _ => ⟨rfl, e1598q, (by decide : 23 + 0 ≤ _), (by decide : 1005 + 0 ≤ _)⟩)
            dsimp only [Pt.U, Pt.locs, Pt.cells, Pt.slots] at X1599 l1599 y1599 z1599 st1599 hQ1599
            subst l1599 y1599 z1599
            obtain ⟨rfl, N1599q, e1599q⟩ := hQ1599
            have N1599 := Fr.app N1598 N1599q
            refine own_s 310 [(.int (own_con fH qq (2 : Int64)))] (fun _ k_ => st1599.trans k_) ?_
            refine own_iload 312 X1599.here hx (hb hby at_310) rfl rfl ?_
            refine own_s 315 [] (fun _ k_ => XS.icmpNo X1599.here hx rfl (hb hby at_312) rfl (teq (hS.trans (if_neg (fun k => hc276 ((own_inj hq (Nat.lt_trans lc (by decide))).mpr k.1))))).2 k_) ?_
            refine own_s 316 [(.int 1)] (fun _ k_ => XS.iconst X1599.here hx rfl (hb hby at_315) k_) ?_
            refine own_s 320 [(.int 1)] (fun _ k_ => XS.goto X1599.here hx rfl (pc0 := 316) (pc' := 320) rfl (hb hby at_316) (by decide) (by decide) k_) ?_
            obtain ⟨fs, hr, hrun, hended, hW, hsame⟩ := X1599.leave (v := some (.int 1)) (fun h => by rw [Bd.returns] at h; cases h)
            refine own_at ?_ (hG _ _ ⟨hrun, hended, _, _, rfl, ?_, ⟨_, rfl⟩, hW, hsame.mono (by decide) (by decide)⟩)
            · show Steps p.tables e below (T1599.setTop (mkF m 320 #[.val (.int p0), .val (.int p1), .val (.int p2), .val (.int p3), .val (.int p4), .val (.int p5), .val (.int (Int32.ofNat ia)), .val (.int (Int32.ofNat ib)), .val (.int (Int32.ofNat ic)), .val (.int u9), .val (.int u10), .val (.int u11), s12, .val (.int (Int32.ofNat qq)), .val (.ref pp), .val (.ref rr), .val (.ref ss), .val (.int 1), .val (.int 0)] [(.int 1)])) _
              exact retN X1599 hx (t := .boolean) Bd.returns (by simp) (hb hby at_320) hr
            · show Q0 Z p0 p1 p2 p3 p4 p5 h0 n0 _ T1599.heap _
              rw [e1599q]
              exact ⟨rfl, N1599⟩
        · refine own_s 253 [] (fun _ k_ => XS.ifNo XK.here hx rfl (hb hby at_250) rfl ((if0 _ _).trans (feq hc250).1) k_) ?_
          refine own_iload 255 XK.here hx (hb hby at_253) rfl rfl ?_
          refine own_iload 257 XK.here hx (hb hby at_255) rfl rfl ?_
          by_cases hc257 : (Int32.ofNat qq) = (Int32.ofNat ib)
          · refine own_s 260 [] (fun _ k_ => XS.icmpNo XK.here hx rfl (hb hby at_257) rfl (teq hc257).2 k_) ?_
            refine own_iload 262 XK.here hx (hb hby at_260) rfl rfl ?_
            by_cases hc262 : u10 = (0 : Int32)
            · refine own_s 265 [] (fun _ k_ => XS.ifNo XK.here hx rfl (hb hby at_262) rfl ((if0 _ _).trans (teq hc262).2) k_) ?_
              refine own_s 266 [(.int 1)] (fun _ k_ => XS.iconst XK.here hx rfl (hb hby at_265) k_) ?_
              refine own_s 270 [(.int 1)] (fun _ k_ => XS.goto XK.here hx rfl (pc0 := 266) (pc' := 270) rfl (hb hby at_266) (by decide) (by decide) k_) ?_
              refine own_istore 272 #[.val (.int p0), .val (.int p1), .val (.int p2), .val (.int p3), .val (.int p4), .val (.int p5), .val (.int (Int32.ofNat ia)), .val (.int (Int32.ofNat ib)), .val (.int (Int32.ofNat ic)), .val (.int u9), .val (.int u10), .val (.int u11), s12, .val (.int (Int32.ofNat qq)), .val (.ref pp), .val (.ref rr), .val (.ref ss), .val (.int 1), .unset] XK.here hx (hb hby at_270) rfl rfl ?_
              refine own_iload 274 XK.here hx (hb hby at_272) rfl rfl ?_
              refine own_iload 276 XK.here hx (hb hby at_274) rfl rfl ?_
              by_cases hc276 : (Int32.ofNat qq) = (Int32.ofNat ic)
              · refine own_s 279 [] (fun _ k_ => XS.icmpNo XK.here hx rfl (hb hby at_276) rfl (teq hc276).2 k_) ?_
                refine own_iload 281 XK.here hx (hb hby at_279) rfl rfl ?_
                by_cases hc281 : u11 = (0 : Int32)
                · refine own_s 284 [] (fun _ k_ => XS.ifNo XK.here hx rfl (hb hby at_281) rfl ((if0 _ _).trans (teq hc281).2) k_) ?_
                  refine own_s 285 [(.int 1)] (fun _ k_ => XS.iconst XK.here hx rfl (hb hby at_284) k_) ?_
                  refine own_s 289 [(.int 1)] (fun _ k_ => XS.goto XK.here hx rfl (pc0 := 285) (pc' := 289) rfl (hb hby at_285) (by decide) (by decide) k_) ?_
                  refine own_istore 291 #[.val (.int p0), .val (.int p1), .val (.int p2), .val (.int p3), .val (.int p4), .val (.int p5), .val (.int (Int32.ofNat ia)), .val (.int (Int32.ofNat ib)), .val (.int (Int32.ofNat ic)), .val (.int u9), .val (.int u10), .val (.int u11), s12, .val (.int (Int32.ofNat qq)), .val (.ref pp), .val (.ref rr), .val (.ref ss), .val (.int 1), .val (.int 1)] XK.here hx (hb hby at_289) rfl rfl ?_
                  refine own_aload 293 XK.here hx (hb hby at_291) rfl rfl rfl ?_
                  refine own_iload 295 XK.here hx (hb hby at_293) rfl rfl ?_
                  obtain ⟨cq1601, kq1601, q1601a, q1601b, q1601c⟩ := isOf hZ eK y0
                  obtain ⟨vv1601, _, ⟨T1601, L1601, k1601, n1601⟩, -, X1601, ⟨Lc1601, hQ1601, l1601, y1601, z1601⟩, st1601⟩ := XK.virtualBack hx (y := (⟨"com/example/adfair/adfair/Ranking", "contains", "(I)Z"⟩ : MethodName)) (z := (⟨"com/example/adfair/adfair/Ranking", "contains", "(I)Z"⟩ : MethodName)) hown (mvT hZ (own_w 91 hw rfl)) (mvT hZ (own_w 92 hw rfl)) (notFace_of_selects (args := #[]) (mvT hZ (own_w 94 hw rfl))) (mvT hZ (own_w 94 hw rfl)) (mvT hZ (own_w 93 hw rfl)) (by decide) (backOf (W := 0) (rmCo l Z a0 hw [] rr qq (1 : Int64) pp ha NN fH hK n0 ZK y2 y3 y6 y7 hq hNN hzK (by decide)) hZ (own_w 95 hw rfl) (own_w 17 hw rfl) (by decide) (by decide)) q1601a q1601c (g := (mkF m 295 #[.val (.int p0), .val (.int p1), .val (.int p2), .val (.int p3), .val (.int p4), .val (.int p5), .val (.int (Int32.ofNat ia)), .val (.int (Int32.ofNat ib)), .val (.int (Int32.ofNat ic)), .val (.int u9), .val (.int u10), .val (.int u11), s12, .val (.int (Int32.ofNat qq)), .val (.ref pp), .val (.ref rr), .val (.ref ss), .val (.int 1), .val (.int 1)] [(.int (Int32.ofNat qq)), (.ref rr)])) rfl (by rw [hml]; rfl) (Steps.refl _) (argsL := [(.int (Int32.ofNat qq))]) (rest := []) (lenOf pd__28_I_29_Z rfl) rfl (by show 2 * 0 + _ ≤ _; exact Nat.le_of_eq rfl) (hb hby at_295) (fun _ _ => ⟨rfl, eK, (by decide : 23 + 0 ≤ _), (by decide : 1005 + 0 ≤ _)⟩)
                  dsimp only [Pt.U, Pt.locs, Pt.cells, Pt.slots] at X1601 l1601 y1601 z1601 st1601 hQ1601
                  subst l1601 y1601 z1601
                  obtain ⟨rfl, N1601q, e1601q⟩ := hQ1601
                  have N1601 := Fr.app NK N1601q
                  refine own_s 298 [(.int (own_con fH qq (1 : Int64)))] (fun _ k_ => st1601.trans k_) ?_
                  refine own_iload 300 X1601.here hx (hb hby at_298) rfl rfl ?_
                  refine own_s 303 [] (fun _ k_ => XS.icmpNo X1601.here hx rfl (hb hby at_300) rfl (teq (hR.trans (if_pos (Or.inr ⟨(own_inj hq (Nat.lt_trans lb (by decide))).mp hc257, hc262⟩)))).2 k_) ?_
                  refine own_aload 305 X1601.here hx (hb hby at_303) rfl rfl rfl ?_
                  refine own_iload 307 X1601.here hx (hb hby at_305) rfl rfl ?_
                  obtain ⟨cq1602, kq1602, q1602a, q1602b, q1602c⟩ := isOf hZ e1601q y1
                  obtain ⟨vv1602, _, ⟨T1602, L1602, k1602, n1602⟩, -, X1602, ⟨Lc1602, hQ1602, l1602, y1602, z1602⟩, st1602⟩ := X1601.virtualBack hx (y := (⟨"com/example/adfair/adfair/Ranking", "contains", "(I)Z"⟩ : MethodName)) (z := (⟨"com/example/adfair/adfair/Ranking", "contains", "(I)Z"⟩ : MethodName)) hown (mvT hZ (own_w 91 hw rfl)) (mvT hZ (own_w 92 hw rfl)) (notFace_of_selects (args := #[]) (mvT hZ (own_w 94 hw rfl))) (mvT hZ (own_w 94 hw rfl)) (mvT hZ (own_w 93 hw rfl)) (by decide) (backOf (W := 0) (rmCo l Z a0 hw [] ss qq (2 : Int64) pp ha NN fH hK n0 ZK y4 y5 y6 y7 hq hNN hzK (by decide)) hZ (own_w 95 hw rfl) (own_w 17 hw rfl) (by decide) (by decide)) q1602a q1602c (g := (mkF m 307 #[.val (.int p0), .val (.int p1), .val (.int p2), .val (.int p3), .val (.int p4), .val (.int p5), .val (.int (Int32.ofNat ia)), .val (.int (Int32.ofNat ib)), .val (.int (Int32.ofNat ic)), .val (.int u9), .val (.int u10), .val (.int u11), s12, .val (.int (Int32.ofNat qq)), .val (.ref pp), .val (.ref rr), .val (.ref ss), .val (.int 1), .val (.int 1)] [(.int (Int32.ofNat qq)), (.ref ss)])) rfl (by rw [hml]; rfl) (Steps.refl _) (argsL := [(.int (Int32.ofNat qq))]) (rest := []) (lenOf pd__28_I_29_Z rfl) rfl (by show 2 * 0 + _ ≤ _; exact Nat.le_of_eq rfl) (hb hby at_307) (fun _ _ => ⟨rfl, e1601q, (by decide : 23 + 0 ≤ _), (by decide : 1005 + 0 ≤ _)⟩)
                  dsimp only [Pt.U, Pt.locs, Pt.cells, Pt.slots] at X1602 l1602 y1602 z1602 st1602 hQ1602
                  subst l1602 y1602 z1602
                  obtain ⟨rfl, N1602q, e1602q⟩ := hQ1602
                  have N1602 := Fr.app N1601 N1602q
                  refine own_s 310 [(.int (own_con fH qq (2 : Int64)))] (fun _ k_ => st1602.trans k_) ?_
                  refine own_iload 312 X1602.here hx (hb hby at_310) rfl rfl ?_
                  refine own_s 315 [] (fun _ k_ => XS.icmpNo X1602.here hx rfl (hb hby at_312) rfl (teq (hS.trans (if_pos ⟨(own_inj hq (Nat.lt_trans lc (by decide))).mp hc276, hc281⟩))).2 k_) ?_
                  refine own_s 316 [(.int 1)] (fun _ k_ => XS.iconst X1602.here hx rfl (hb hby at_315) k_) ?_
                  refine own_s 320 [(.int 1)] (fun _ k_ => XS.goto X1602.here hx rfl (pc0 := 316) (pc' := 320) rfl (hb hby at_316) (by decide) (by decide) k_) ?_
                  obtain ⟨fs, hr, hrun, hended, hW, hsame⟩ := X1602.leave (v := some (.int 1)) (fun h => by rw [Bd.returns] at h; cases h)
                  refine own_at ?_ (hG _ _ ⟨hrun, hended, _, _, rfl, ?_, ⟨_, rfl⟩, hW, hsame.mono (by decide) (by decide)⟩)
                  · show Steps p.tables e below (T1602.setTop (mkF m 320 #[.val (.int p0), .val (.int p1), .val (.int p2), .val (.int p3), .val (.int p4), .val (.int p5), .val (.int (Int32.ofNat ia)), .val (.int (Int32.ofNat ib)), .val (.int (Int32.ofNat ic)), .val (.int u9), .val (.int u10), .val (.int u11), s12, .val (.int (Int32.ofNat qq)), .val (.ref pp), .val (.ref rr), .val (.ref ss), .val (.int 1), .val (.int 1)] [(.int 1)])) _
                    exact retN X1602 hx (t := .boolean) Bd.returns (by simp) (hb hby at_320) hr
                  · show Q0 Z p0 p1 p2 p3 p4 p5 h0 n0 _ T1602.heap _
                    rw [e1602q]
                    exact ⟨rfl, N1602⟩
                · refine own_s 288 [] (fun _ k_ => XS.ifYes XK.here hx rfl (pc0 := 281) (pc' := 288) rfl (hb hby at_281) rfl ((if0 _ _).trans (feq hc281).2) (by decide) (by decide) k_) ?_
                  refine own_s 289 [(.int 0)] (fun _ k_ => XS.iconst XK.here hx rfl (hb hby at_288) k_) ?_
                  refine own_istore 291 #[.val (.int p0), .val (.int p1), .val (.int p2), .val (.int p3), .val (.int p4), .val (.int p5), .val (.int (Int32.ofNat ia)), .val (.int (Int32.ofNat ib)), .val (.int (Int32.ofNat ic)), .val (.int u9), .val (.int u10), .val (.int u11), s12, .val (.int (Int32.ofNat qq)), .val (.ref pp), .val (.ref rr), .val (.ref ss), .val (.int 1), .val (.int 0)] XK.here hx (hb hby at_289) rfl rfl ?_
                  refine own_aload 293 XK.here hx (hb hby at_291) rfl rfl rfl ?_
                  refine own_iload 295 XK.here hx (hb hby at_293) rfl rfl ?_
                  obtain ⟨cq1604, kq1604, q1604a, q1604b, q1604c⟩ := isOf hZ eK y0
                  obtain ⟨vv1604, _, ⟨T1604, L1604, k1604, n1604⟩, -, X1604, ⟨Lc1604, hQ1604, l1604, y1604, z1604⟩, st1604⟩ := XK.virtualBack hx (y := (⟨"com/example/adfair/adfair/Ranking", "contains", "(I)Z"⟩ : MethodName)) (z := (⟨"com/example/adfair/adfair/Ranking", "contains", "(I)Z"⟩ : MethodName)) hown (mvT hZ (own_w 91 hw rfl)) (mvT hZ (own_w 92 hw rfl)) (notFace_of_selects (args := #[]) (mvT hZ (own_w 94 hw rfl))) (mvT hZ (own_w 94 hw rfl)) (mvT hZ (own_w 93 hw rfl)) (by decide) (backOf (W := 0) (rmCo l Z a0 hw [] rr qq (1 : Int64) pp ha NN fH hK n0 ZK y2 y3 y6 y7 hq hNN hzK (by decide)) hZ (own_w 95 hw rfl) (own_w 17 hw rfl) (by decide) (by decide)) q1604a q1604c (g := (mkF m 295 #[.val (.int p0), .val (.int p1), .val (.int p2), .val (.int p3), .val (.int p4), .val (.int p5), .val (.int (Int32.ofNat ia)), .val (.int (Int32.ofNat ib)), .val (.int (Int32.ofNat ic)), .val (.int u9), .val (.int u10), .val (.int u11), s12, .val (.int (Int32.ofNat qq)), .val (.ref pp), .val (.ref rr), .val (.ref ss), .val (.int 1), .val (.int 0)] [(.int (Int32.ofNat qq)), (.ref rr)])) rfl (by rw [hml]; rfl) (Steps.refl _) (argsL := [(.int (Int32.ofNat qq))]) (rest := []) (lenOf pd__28_I_29_Z rfl) rfl (by show 2 * 0 + _ ≤ _; exact Nat.le_of_eq rfl) (hb hby at_295) (fun _ _ => ⟨rfl, eK, (by decide : 23 + 0 ≤ _), (by decide : 1005 + 0 ≤ _)⟩)
                  dsimp only [Pt.U, Pt.locs, Pt.cells, Pt.slots] at X1604 l1604 y1604 z1604 st1604 hQ1604
                  subst l1604 y1604 z1604
                  obtain ⟨rfl, N1604q, e1604q⟩ := hQ1604
                  have N1604 := Fr.app NK N1604q
                  refine own_s 298 [(.int (own_con fH qq (1 : Int64)))] (fun _ k_ => st1604.trans k_) ?_
                  refine own_iload 300 X1604.here hx (hb hby at_298) rfl rfl ?_
                  refine own_s 303 [] (fun _ k_ => XS.icmpNo X1604.here hx rfl (hb hby at_300) rfl (teq (hR.trans (if_pos (Or.inr ⟨(own_inj hq (Nat.lt_trans lb (by decide))).mp hc257, hc262⟩)))).2 k_) ?_
                  refine own_aload 305 X1604.here hx (hb hby at_303) rfl rfl rfl ?_
                  refine own_iload 307 X1604.here hx (hb hby at_305) rfl rfl ?_
                  obtain ⟨cq1605, kq1605, q1605a, q1605b, q1605c⟩ := isOf hZ e1604q y1
                  obtain ⟨vv1605, _, ⟨T1605, L1605, k1605, n1605⟩, -, X1605, ⟨Lc1605, hQ1605, l1605, y1605, z1605⟩, st1605⟩ := X1604.virtualBack hx (y := (⟨"com/example/adfair/adfair/Ranking", "contains", "(I)Z"⟩ : MethodName)) (z := (⟨"com/example/adfair/adfair/Ranking", "contains", "(I)Z"⟩ : MethodName)) hown (mvT hZ (own_w 91 hw rfl)) (mvT hZ (own_w 92 hw rfl)) (notFace_of_selects (args := #[]) (mvT hZ (own_w 94 hw rfl))) (mvT hZ (own_w 94 hw rfl)) (mvT hZ (own_w 93 hw rfl)) (by decide) (backOf (W := 0) (rmCo l Z a0 hw [] ss qq (2 : Int64) pp ha NN fH hK n0 ZK y4 y5 y6 y7 hq hNN hzK (by decide)) hZ (own_w 95 hw rfl) (own_w 17 hw rfl) (by decide) (by decide)) q1605a q1605c (g := (mkF m 307 #[.val (.int p0), .val (.int p1), .val (.int p2), .val (.int p3), .val (.int p4), .val (.int p5), .val (.int (Int32.ofNat ia)), .val (.int (Int32.ofNat ib)), .val (.int (Int32.ofNat ic)), .val (.int u9), .val (.int u10), .val (.int u11), s12, .val (.int (Int32.ofNat qq)), .val (.ref pp), .val (.ref rr), .val (.ref ss), .val (.int 1), .val (.int 0)] [(.int (Int32.ofNat qq)), (.ref ss)])) rfl (by rw [hml]; rfl) (Steps.refl _) (argsL := [(.int (Int32.ofNat qq))]) (rest := []) (lenOf pd__28_I_29_Z rfl) rfl (by show 2 * 0 + _ ≤ _; exact Nat.le_of_eq rfl) (hb hby at_307) (fun _ _ => ⟨rfl, e1604q, (by decide : 23 + 0 ≤ _), (by decide : 1005 + 0 ≤ _)⟩)
                  dsimp only [Pt.U, Pt.locs, Pt.cells, Pt.slots] at X1605 l1605 y1605 z1605 st1605 hQ1605
                  subst l1605 y1605 z1605
                  obtain ⟨rfl, N1605q, e1605q⟩ := hQ1605
                  have N1605 := Fr.app N1604 N1605q
                  refine own_s 310 [(.int (own_con fH qq (2 : Int64)))] (fun _ k_ => st1605.trans k_) ?_
                  refine own_iload 312 X1605.here hx (hb hby at_310) rfl rfl ?_
                  refine own_s 315 [] (fun _ k_ => XS.icmpNo X1605.here hx rfl (hb hby at_312) rfl (teq (hS.trans (if_neg (fun k => hc281 k.2)))).2 k_) ?_
                  refine own_s 316 [(.int 1)] (fun _ k_ => XS.iconst X1605.here hx rfl (hb hby at_315) k_) ?_
                  refine own_s 320 [(.int 1)] (fun _ k_ => XS.goto X1605.here hx rfl (pc0 := 316) (pc' := 320) rfl (hb hby at_316) (by decide) (by decide) k_) ?_
                  obtain ⟨fs, hr, hrun, hended, hW, hsame⟩ := X1605.leave (v := some (.int 1)) (fun h => by rw [Bd.returns] at h; cases h)
                  refine own_at ?_ (hG _ _ ⟨hrun, hended, _, _, rfl, ?_, ⟨_, rfl⟩, hW, hsame.mono (by decide) (by decide)⟩)
                  · show Steps p.tables e below (T1605.setTop (mkF m 320 #[.val (.int p0), .val (.int p1), .val (.int p2), .val (.int p3), .val (.int p4), .val (.int p5), .val (.int (Int32.ofNat ia)), .val (.int (Int32.ofNat ib)), .val (.int (Int32.ofNat ic)), .val (.int u9), .val (.int u10), .val (.int u11), s12, .val (.int (Int32.ofNat qq)), .val (.ref pp), .val (.ref rr), .val (.ref ss), .val (.int 1), .val (.int 0)] [(.int 1)])) _
                    exact retN X1605 hx (t := .boolean) Bd.returns (by simp) (hb hby at_320) hr
                  · show Q0 Z p0 p1 p2 p3 p4 p5 h0 n0 _ T1605.heap _
                    rw [e1605q]
                    exact ⟨rfl, N1605⟩
              · refine own_s 288 [] (fun _ k_ => XS.icmpYes XK.here hx rfl (pc0 := 276) (pc' := 288) rfl (hb hby at_276) rfl (feq hc276).2 (by decide) (by decide) k_) ?_
                refine own_s 289 [(.int 0)] (fun _ k_ => XS.iconst XK.here hx rfl (hb hby at_288) k_) ?_
                refine own_istore 291 #[.val (.int p0), .val (.int p1), .val (.int p2), .val (.int p3), .val (.int p4), .val (.int p5), .val (.int (Int32.ofNat ia)), .val (.int (Int32.ofNat ib)), .val (.int (Int32.ofNat ic)), .val (.int u9), .val (.int u10), .val (.int u11), s12, .val (.int (Int32.ofNat qq)), .val (.ref pp), .val (.ref rr), .val (.ref ss), .val (.int 1), .val (.int 0)] XK.here hx (hb hby at_289) rfl rfl ?_
                refine own_aload 293 XK.here hx (hb hby at_291) rfl rfl rfl ?_
                refine own_iload 295 XK.here hx (hb hby at_293) rfl rfl ?_
                obtain ⟨cq1607, kq1607, q1607a, q1607b, q1607c⟩ := isOf hZ eK y0
                obtain ⟨vv1607, _, ⟨T1607, L1607, k1607, n1607⟩, -, X1607, ⟨Lc1607, hQ1607, l1607, y1607, z1607⟩, st1607⟩ := XK.virtualBack hx (y := (⟨"com/example/adfair/adfair/Ranking", "contains", "(I)Z"⟩ : MethodName)) (z := (⟨"com/example/adfair/adfair/Ranking", "contains", "(I)Z"⟩ : MethodName)) hown (mvT hZ (own_w 91 hw rfl)) (mvT hZ (own_w 92 hw rfl)) (notFace_of_selects (args := #[]) (mvT hZ (own_w 94 hw rfl))) (mvT hZ (own_w 94 hw rfl)) (mvT hZ (own_w 93 hw rfl)) (by decide) (backOf (W := 0) (rmCo l Z a0 hw [] rr qq (1 : Int64) pp ha NN fH hK n0 ZK y2 y3 y6 y7 hq hNN hzK (by decide)) hZ (own_w 95 hw rfl) (own_w 17 hw rfl) (by decide) (by decide)) q1607a q1607c (g := (mkF m 295 #[.val (.int p0), .val (.int p1), .val (.int p2), .val (.int p3), .val (.int p4), .val (.int p5), .val (.int (Int32.ofNat ia)), .val (.int (Int32.ofNat ib)), .val (.int (Int32.ofNat ic)), .val (.int u9), .val (.int u10), .val (.int u11), s12, .val (.int (Int32.ofNat qq)), .val (.ref pp), .val (.ref rr), .val (.ref ss), .val (.int 1), .val (.int 0)] [(.int (Int32.ofNat qq)), (.ref rr)])) rfl (by rw [hml]; rfl) (Steps.refl _) (argsL := [(.int (Int32.ofNat qq))]) (rest := []) (lenOf pd__28_I_29_Z rfl) rfl (by show 2 * 0 + _ ≤ _; exact Nat.le_of_eq rfl) (hb hby at_295) (fun _ _ => ⟨rfl, eK, (by decide : 23 + 0 ≤ _), (by decide : 1005 + 0 ≤ _)⟩)
                dsimp only [Pt.U, Pt.locs, Pt.cells, Pt.slots] at X1607 l1607 y1607 z1607 st1607 hQ1607
                subst l1607 y1607 z1607
                obtain ⟨rfl, N1607q, e1607q⟩ := hQ1607
                have N1607 := Fr.app NK N1607q
                refine own_s 298 [(.int (own_con fH qq (1 : Int64)))] (fun _ k_ => st1607.trans k_) ?_
                refine own_iload 300 X1607.here hx (hb hby at_298) rfl rfl ?_
                refine own_s 303 [] (fun _ k_ => XS.icmpNo X1607.here hx rfl (hb hby at_300) rfl (teq (hR.trans (if_pos (Or.inr ⟨(own_inj hq (Nat.lt_trans lb (by decide))).mp hc257, hc262⟩)))).2 k_) ?_
                refine own_aload 305 X1607.here hx (hb hby at_303) rfl rfl rfl ?_
                refine own_iload 307 X1607.here hx (hb hby at_305) rfl rfl ?_
                obtain ⟨cq1608, kq1608, q1608a, q1608b, q1608c⟩ := isOf hZ e1607q y1
                obtain ⟨vv1608, _, ⟨T1608, L1608, k1608, n1608⟩, -, X1608, ⟨Lc1608, hQ1608, l1608, y1608, z1608⟩, st1608⟩ := X1607.virtualBack hx (y := (⟨"com/example/adfair/adfair/Ranking", "contains", "(I)Z"⟩ : MethodName)) (z := (⟨"com/example/adfair/adfair/Ranking", "contains", "(I)Z"⟩ : MethodName)) hown (mvT hZ (own_w 91 hw rfl)) (mvT hZ (own_w 92 hw rfl)) (notFace_of_selects (args := #[]) (mvT hZ (own_w 94 hw rfl))) (mvT hZ (own_w 94 hw rfl)) (mvT hZ (own_w 93 hw rfl)) (by decide) (backOf (W := 0) (rmCo l Z a0 hw [] ss qq (2 : Int64) pp ha NN fH hK n0 ZK y4 y5 y6 y7 hq hNN hzK (by decide)) hZ (own_w 95 hw rfl) (own_w 17 hw rfl) (by decide) (by decide)) q1608a q1608c (g := (mkF m 307 #[.val (.int p0), .val (.int p1), .val (.int p2), .val (.int p3), .val (.int p4), .val (.int p5), .val (.int (Int32.ofNat ia)), .val (.int (Int32.ofNat ib)), .val (.int (Int32.ofNat ic)), .val (.int u9), .val (.int u10), .val (.int u11), s12, .val (.int (Int32.ofNat qq)), .val (.ref pp), .val (.ref rr), .val (.ref ss), .val (.int 1), .val (.int 0)] [(.int (Int32.ofNat qq)), (.ref ss)])) rfl (by rw [hml]; rfl) (Steps.refl _) (argsL := [(.int (Int32.ofNat qq))]) (rest := []) (lenOf pd__28_I_29_Z rfl) rfl (by show 2 * 0 + _ ≤ _; exact Nat.le_of_eq rfl) (hb hby at_307) (fun _ _ => ⟨rfl, e1607q, (by decide : 23 + 0 ≤ _), (by decide : 1005 + 0 ≤ _)⟩)
                dsimp only [Pt.U, Pt.locs, Pt.cells, Pt.slots] at X1608 l1608 y1608 z1608 st1608 hQ1608
                subst l1608 y1608 z1608
                obtain ⟨rfl, N1608q, e1608q⟩ := hQ1608
                have N1608 := Fr.app N1607 N1608q
                refine own_s 310 [(.int (own_con fH qq (2 : Int64)))] (fun _ k_ => st1608.trans k_) ?_
                refine own_iload 312 X1608.here hx (hb hby at_310) rfl rfl ?_
                refine own_s 315 [] (fun _ k_ => XS.icmpNo X1608.here hx rfl (hb hby at_312) rfl (teq (hS.trans (if_neg (fun k => hc276 ((own_inj hq (Nat.lt_trans lc (by decide))).mpr k.1))))).2 k_) ?_
                refine own_s 316 [(.int 1)] (fun _ k_ => XS.iconst X1608.here hx rfl (hb hby at_315) k_) ?_
                refine own_s 320 [(.int 1)] (fun _ k_ => XS.goto X1608.here hx rfl (pc0 := 316) (pc' := 320) rfl (hb hby at_316) (by decide) (by decide) k_) ?_
                obtain ⟨fs, hr, hrun, hended, hW, hsame⟩ := X1608.leave (v := some (.int 1)) (fun h => by rw [Bd.returns] at h; cases h)
                refine own_at ?_ (hG _ _ ⟨hrun, hended, _, _, rfl, ?_, ⟨_, rfl⟩, hW, hsame.mono (by decide) (by decide)⟩)
                · show Steps p.tables e below (T1608.setTop (mkF m 320 #[.val (.int p0), .val (.int p1), .val (.int p2), .val (.int p3), .val (.int p4), .val (.int p5), .val (.int (Int32.ofNat ia)), .val (.int (Int32.ofNat ib)), .val (.int (Int32.ofNat ic)), .val (.int u9), .val (.int u10), .val (.int u11), s12, .val (.int (Int32.ofNat qq)), .val (.ref pp), .val (.ref rr), .val (.ref ss), .val (.int 1), .val (.int 0)] [(.int 1)])) _
                  exact retN X1608 hx (t := .boolean) Bd.returns (by simp) (hb hby at_320) hr
                · show Q0 Z p0 p1 p2 p3 p4 p5 h0 n0 _ T1608.heap _
                  rw [e1608q]
                  exact ⟨rfl, N1608⟩
            · refine own_s 269 [] (fun _ k_ => XS.ifYes XK.here hx rfl (pc0 := 262) (pc' := 269) rfl (hb hby at_262) rfl ((if0 _ _).trans (feq hc262).2) (by decide) (by decide) k_) ?_
              refine own_s 270 [(.int 0)] (fun _ k_ => XS.iconst XK.here hx rfl (hb hby at_269) k_) ?_
              refine own_istore 272 #[.val (.int p0), .val (.int p1), .val (.int p2), .val (.int p3), .val (.int p4), .val (.int p5), .val (.int (Int32.ofNat ia)), .val (.int (Int32.ofNat ib)), .val (.int (Int32.ofNat ic)), .val (.int u9), .val (.int u10), .val (.int u11), s12, .val (.int (Int32.ofNat qq)), .val (.ref pp), .val (.ref rr), .val (.ref ss), .val (.int 0), .unset] XK.here hx (hb hby at_270) rfl rfl ?_
              refine own_iload 274 XK.here hx (hb hby at_272) rfl rfl ?_
              refine own_iload 276 XK.here hx (hb hby at_274) rfl rfl ?_
              by_cases hc276 : (Int32.ofNat qq) = (Int32.ofNat ic)
              · refine own_s 279 [] (fun _ k_ => XS.icmpNo XK.here hx rfl (hb hby at_276) rfl (teq hc276).2 k_) ?_
                refine own_iload 281 XK.here hx (hb hby at_279) rfl rfl ?_
                by_cases hc281 : u11 = (0 : Int32)
                · refine own_s 284 [] (fun _ k_ => XS.ifNo XK.here hx rfl (hb hby at_281) rfl ((if0 _ _).trans (teq hc281).2) k_) ?_
                  refine own_s 285 [(.int 1)] (fun _ k_ => XS.iconst XK.here hx rfl (hb hby at_284) k_) ?_
                  refine own_s 289 [(.int 1)] (fun _ k_ => XS.goto XK.here hx rfl (pc0 := 285) (pc' := 289) rfl (hb hby at_285) (by decide) (by decide) k_) ?_
                  refine own_istore 291 #[.val (.int p0), .val (.int p1), .val (.int p2), .val (.int p3), .val (.int p4), .val (.int p5), .val (.int (Int32.ofNat ia)), .val (.int (Int32.ofNat ib)), .val (.int (Int32.ofNat ic)), .val (.int u9), .val (.int u10), .val (.int u11), s12, .val (.int (Int32.ofNat qq)), .val (.ref pp), .val (.ref rr), .val (.ref ss), .val (.int 0), .val (.int 1)] XK.here hx (hb hby at_289) rfl rfl ?_
                  refine own_aload 293 XK.here hx (hb hby at_291) rfl rfl rfl ?_
                  refine own_iload 295 XK.here hx (hb hby at_293) rfl rfl ?_
                  obtain ⟨cq1610, kq1610, q1610a, q1610b, q1610c⟩ := isOf hZ eK y0
                  obtain ⟨vv1610, _, ⟨T1610, L1610, k1610, n1610⟩, -, X1610, ⟨Lc1610, hQ1610, l1610, y1610, z1610⟩, st1610⟩ := XK.virtualBack hx (y := (⟨"com/example/adfair/adfair/Ranking", "contains", "(I)Z"⟩ : MethodName)) (z := (⟨"com/example/adfair/adfair/Ranking", "contains", "(I)Z"⟩ : MethodName)) hown (mvT hZ (own_w 91 hw rfl)) (mvT hZ (own_w 92 hw rfl)) (notFace_of_selects (args := #[]) (mvT hZ (own_w 94 hw rfl))) (mvT hZ (own_w 94 hw rfl)) (mvT hZ (own_w 93 hw rfl)) (by decide) (backOf (W := 0) (rmCo l Z a0 hw [] rr qq (1 : Int64) pp ha NN fH hK n0 ZK y2 y3 y6 y7 hq hNN hzK (by decide)) hZ (own_w 95 hw rfl) (own_w 17 hw rfl) (by decide) (by decide)) q1610a q1610c (g := (mkF m 295 #[.val (.int p0), .val (.int p1), .val (.int p2), .val (.int p3), .val (.int p4), .val (.int p5), .val (.int (Int32.ofNat ia)), .val (.int (Int32.ofNat ib)), .val (.int (Int32.ofNat ic)), .val (.int u9), .val (.int u10), .val (.int u11), s12, .val (.int (Int32.ofNat qq)), .val (.ref pp), .val (.ref rr), .val (.ref ss), .val (.int 0), .val (.int 1)] [(.int (Int32.ofNat qq)), (.ref rr)])) rfl (by rw [hml]; rfl) (Steps.refl _) (argsL := [(.int (Int32.ofNat qq))]) (rest := []) (lenOf pd__28_I_29_Z rfl) rfl (by show 2 * 0 + _ ≤ _; exact Nat.le_of_eq rfl) (hb hby at_295) (fun _ _ => ⟨rfl, eK, (by decide : 23 + 0 ≤ _), (by decide : 1005 + 0 ≤ _)⟩)
                  dsimp only [Pt.U, Pt.locs, Pt.cells, Pt.slots] at X1610 l1610 y1610 z1610 st1610 hQ1610
                  subst l1610 y1610 z1610
                  obtain ⟨rfl, N1610q, e1610q⟩ := hQ1610
                  have N1610 := Fr.app NK N1610q
                  refine own_s 298 [(.int (own_con fH qq (1 : Int64)))] (fun _ k_ => st1610.trans k_) ?_
                  refine own_iload 300 X1610.here hx (hb hby at_298) rfl rfl ?_
                  refine own_s 303 [] (fun _ k_ => XS.icmpNo X1610.here hx rfl (hb hby at_300) rfl (teq (hR.trans (if_neg (fun k => k.elim (fun k => hc250 k.2) (fun k => hc262 k.2))))).2 k_) ?_
                  refine own_aload 305 X1610.here hx (hb hby at_303) rfl rfl rfl ?_
                  refine own_iload 307 X1610.here hx (hb hby at_305) rfl rfl ?_
                  obtain ⟨cq1611, kq1611, q1611a, q1611b, q1611c⟩ := isOf hZ e1610q y1
                  obtain ⟨vv1611, _, ⟨T1611, L1611, k1611, n1611⟩, -, X1611, ⟨Lc1611, hQ1611, l1611, y1611, z1611⟩, st1611⟩ := X1610.virtualBack hx (y := (⟨"com/example/adfair/adfair/Ranking", "contains", "(I)Z"⟩ : MethodName)) (z := (⟨"com/example/adfair/adfair/Ranking", "contains", "(I)Z"⟩ : MethodName)) hown (mvT hZ (own_w 91 hw rfl)) (mvT hZ (own_w 92 hw rfl)) (notFace_of_selects (args := #[]) (mvT hZ (own_w 94 hw rfl))) (mvT hZ (own_w 94 hw rfl)) (mvT hZ (own_w 93 hw rfl)) (by decide) (backOf (W := 0) (rmCo l Z a0 hw [] ss qq (2 : Int64) pp ha NN fH hK n0 ZK y4 y5 y6 y7 hq hNN hzK (by decide)) hZ (own_w 95 hw rfl) (own_w 17 hw rfl) (by decide) (by decide)) q1611a q1611c (g := (mkF m 307 #[.val (.int p0), .val (.int p1), .val (.int p2), .val (.int p3), .val (.int p4), .val (.int p5), .val (.int (Int32.ofNat ia)), .val (.int (Int32.ofNat ib)), .val (.int (Int32.ofNat ic)), .val (.int u9), .val (.int u10), .val (.int u11), s12, .val (.int (Int32.ofNat qq)), .val (.ref pp), .val (.ref rr), .val (.ref ss), .val (.int 0), .val (.int 1)] [(.int (Int32.ofNat qq)), (.ref ss)])) rfl (by rw [hml]; rfl) (Steps.refl _) (argsL := [(.int (Int32.ofNat qq))]) (rest := []) (lenOf pd__28_I_29_Z rfl) rfl (by show 2 * 0 + _ ≤ _; exact Nat.le_of_eq rfl) (hb hby at_307) (fun _ _ => ⟨rfl, e1610q, (by decide : 23 + 0 ≤ _), (by decide : 1005 + 0 ≤ _)⟩)
                  dsimp only [Pt.U, Pt.locs, Pt.cells, Pt.slots] at X1611 l1611 y1611 z1611 st1611 hQ1611
                  subst l1611 y1611 z1611
                  obtain ⟨rfl, N1611q, e1611q⟩ := hQ1611
                  have N1611 := Fr.app N1610 N1611q
                  refine own_s 310 [(.int (own_con fH qq (2 : Int64)))] (fun _ k_ => st1611.trans k_) ?_
                  refine own_iload 312 X1611.here hx (hb hby at_310) rfl rfl ?_
                  refine own_s 315 [] (fun _ k_ => XS.icmpNo X1611.here hx rfl (hb hby at_312) rfl (teq (hS.trans (if_pos ⟨(own_inj hq (Nat.lt_trans lc (by decide))).mp hc276, hc281⟩))).2 k_) ?_
                  refine own_s 316 [(.int 1)] (fun _ k_ => XS.iconst X1611.here hx rfl (hb hby at_315) k_) ?_
                  refine own_s 320 [(.int 1)] (fun _ k_ => XS.goto X1611.here hx rfl (pc0 := 316) (pc' := 320) rfl (hb hby at_316) (by decide) (by decide) k_) ?_
                  obtain ⟨fs, hr, hrun, hended, hW, hsame⟩ := X1611.leave (v := some (.int 1)) (fun h => by rw [Bd.returns] at h; cases h)
                  refine own_at ?_ (hG _ _ ⟨hrun, hended, _, _, rfl, ?_, ⟨_, rfl⟩, hW, hsame.mono (by decide) (by decide)⟩)
                  · show Steps p.tables e below (T1611.setTop (mkF m 320 #[.val (.int p0), .val (.int p1), .val (.int p2), .val (.int p3), .val (.int p4), .val (.int p5), .val (.int (Int32.ofNat ia)), .val (.int (Int32.ofNat ib)), .val (.int (Int32.ofNat ic)), .val (.int u9), .val (.int u10), .val (.int u11), s12, .val (.int (Int32.ofNat qq)), .val (.ref pp), .val (.ref rr), .val (.ref ss), .val (.int 0), .val (.int 1)] [(.int 1)])) _
                    exact retN X1611 hx (t := .boolean) Bd.returns (by simp) (hb hby at_320) hr
                  · show Q0 Z p0 p1 p2 p3 p4 p5 h0 n0 _ T1611.heap _
                    rw [e1611q]
                    exact ⟨rfl, N1611⟩
                · refine own_s 288 [] (fun _ k_ => XS.ifYes XK.here hx rfl (pc0 := 281) (pc' := 288) rfl (hb hby at_281) rfl ((if0 _ _).trans (feq hc281).2) (by decide) (by decide) k_) ?_
                  refine own_s 289 [(.int 0)] (fun _ k_ => XS.iconst XK.here hx rfl (hb hby at_288) k_) ?_
                  refine own_istore 291 #[.val (.int p0), .val (.int p1), .val (.int p2), .val (.int p3), .val (.int p4), .val (.int p5), .val (.int (Int32.ofNat ia)), .val (.int (Int32.ofNat ib)), .val (.int (Int32.ofNat ic)), .val (.int u9), .val (.int u10), .val (.int u11), s12, .val (.int (Int32.ofNat qq)), .val (.ref pp), .val (.ref rr), .val (.ref ss), .val (.int 0), .val (.int 0)] XK.here hx (hb hby at_289) rfl rfl ?_
                  refine own_aload 293 XK.here hx (hb hby at_291) rfl rfl rfl ?_
                  refine own_iload 295 XK.here hx (hb hby at_293) rfl rfl ?_
                  obtain ⟨cq1613, kq1613, q1613a, q1613b, q1613c⟩ := isOf hZ eK y0
                  obtain ⟨vv1613, _, ⟨T1613, L1613, k1613, n1613⟩, -, X1613, ⟨Lc1613, hQ1613, l1613, y1613, z1613⟩, st1613⟩ := XK.virtualBack hx (y := (⟨"com/example/adfair/adfair/Ranking", "contains", "(I)Z"⟩ : MethodName)) (z := (⟨"com/example/adfair/adfair/Ranking", "contains", "(I)Z"⟩ : MethodName)) hown (mvT hZ (own_w 91 hw rfl)) (mvT hZ (own_w 92 hw rfl)) (notFace_of_selects (args := #[]) (mvT hZ (own_w 94 hw rfl))) (mvT hZ (own_w 94 hw rfl)) (mvT hZ (own_w 93 hw rfl)) (by decide) (backOf (W := 0) (rmCo l Z a0 hw [] rr qq (1 : Int64) pp ha NN fH hK n0 ZK y2 y3 y6 y7 hq hNN hzK (by decide)) hZ (own_w 95 hw rfl) (own_w 17 hw rfl) (by decide) (by decide)) q1613a q1613c (g := (mkF m 295 #[.val (.int p0), .val (.int p1), .val (.int p2), .val (.int p3), .val (.int p4), .val (.int p5), .val (.int (Int32.ofNat ia)), .val (.int (Int32.ofNat ib)), .val (.int (Int32.ofNat ic)), .val (.int u9), .val (.int u10), .val (.int u11), s12, .val (.int (Int32.ofNat qq)), .val (.ref pp), .val (.ref rr), .val (.ref ss), .val (.int 0), .val (.int 0)] [(.int (Int32.ofNat qq)), (.ref rr)])) rfl (by rw [hml]; rfl) (Steps.refl _) (argsL := [(.int (Int32.ofNat qq))]) (rest := []) (lenOf pd__28_I_29_Z rfl) rfl (by show 2 * 0 + _ ≤ _; exact Nat.le_of_eq rfl) (hb hby at_295) (fun _ _ => ⟨rfl, eK, (by decide : 23 + 0 ≤ _), (by decide : 1005 + 0 ≤ _)⟩)
                  dsimp only [Pt.U, Pt.locs, Pt.cells, Pt.slots] at X1613 l1613 y1613 z1613 st1613 hQ1613
                  subst l1613 y1613 z1613
                  obtain ⟨rfl, N1613q, e1613q⟩ := hQ1613
                  have N1613 := Fr.app NK N1613q
                  refine own_s 298 [(.int (own_con fH qq (1 : Int64)))] (fun _ k_ => st1613.trans k_) ?_
                  refine own_iload 300 X1613.here hx (hb hby at_298) rfl rfl ?_
                  refine own_s 303 [] (fun _ k_ => XS.icmpNo X1613.here hx rfl (hb hby at_300) rfl (teq (hR.trans (if_neg (fun k => k.elim (fun k => hc250 k.2) (fun k => hc262 k.2))))).2 k_) ?_
                  refine own_aload 305 X1613.here hx (hb hby at_303) rfl rfl rfl ?_
                  refine own_iload 307 X1613.here hx (hb hby at_305) rfl rfl ?_
                  obtain ⟨cq1614, kq1614, q1614a, q1614b, q1614c⟩ := isOf hZ e1613q y1
                  obtain ⟨vv1614, _, ⟨T1614, L1614, k1614, n1614⟩, -, X1614, ⟨Lc1614, hQ1614, l1614, y1614, z1614⟩, st1614⟩ := X1613.virtualBack hx (y := (⟨"com/example/adfair/adfair/Ranking", "contains", "(I)Z"⟩ : MethodName)) (z := (⟨"com/example/adfair/adfair/Ranking", "contains", "(I)Z"⟩ : MethodName)) hown (mvT hZ (own_w 91 hw rfl)) (mvT hZ (own_w 92 hw rfl)) (notFace_of_selects (args := #[]) (mvT hZ (own_w 94 hw rfl))) (mvT hZ (own_w 94 hw rfl)) (mvT hZ (own_w 93 hw rfl)) (by decide) (backOf (W := 0) (rmCo l Z a0 hw [] ss qq (2 : Int64) pp ha NN fH hK n0 ZK y4 y5 y6 y7 hq hNN hzK (by decide)) hZ (own_w 95 hw rfl) (own_w 17 hw rfl) (by decide) (by decide)) q1614a q1614c (g := (mkF m 307 #[.val (.int p0), .val (.int p1), .val (.int p2), .val (.int p3), .val (.int p4), .val (.int p5), .val (.int (Int32.ofNat ia)), .val (.int (Int32.ofNat ib)), .val (.int (Int32.ofNat ic)), .val (.int u9), .val (.int u10), .val (.int u11), s12, .val (.int (Int32.ofNat qq)), .val (.ref pp), .val (.ref rr), .val (.ref ss), .val (.int 0), .val (.int 0)] [(.int (Int32.ofNat qq)), (.ref ss)])) rfl (by rw [hml]; rfl) (Steps.refl _) (argsL := [(.int (Int32.ofNat qq))]) (rest := []) (lenOf pd__28_I_29_Z rfl) rfl (by show 2 * 0 + _ ≤ _; exact Nat.le_of_eq rfl) (hb hby at_307) (fun _ _ => ⟨rfl, e1613q, (by decide : 23 + 0 ≤ _), (by decide : 1005 + 0 ≤ _)⟩)
                  dsimp only [Pt.U, Pt.locs, Pt.cells, Pt.slots] at X1614 l1614 y1614 z1614 st1614 hQ1614
                  subst l1614 y1614 z1614
                  obtain ⟨rfl, N1614q, e1614q⟩ := hQ1614
                  have N1614 := Fr.app N1613 N1614q
                  refine own_s 310 [(.int (own_con fH qq (2 : Int64)))] (fun _ k_ => st1614.trans k_) ?_
                  refine own_iload 312 X1614.here hx (hb hby at_310) rfl rfl ?_
                  refine own_s 315 [] (fun _ k_ => XS.icmpNo X1614.here hx rfl (hb hby at_312) rfl (teq (hS.trans (if_neg (fun k => hc281 k.2)))).2 k_) ?_
                  refine own_s 316 [(.int 1)] (fun _ k_ => XS.iconst X1614.here hx rfl (hb hby at_315) k_) ?_
                  refine own_s 320 [(.int 1)] (fun _ k_ => XS.goto X1614.here hx rfl (pc0 := 316) (pc' := 320) rfl (hb hby at_316) (by decide) (by decide) k_) ?_
                  obtain ⟨fs, hr, hrun, hended, hW, hsame⟩ := X1614.leave (v := some (.int 1)) (fun h => by rw [Bd.returns] at h; cases h)
                  refine own_at ?_ (hG _ _ ⟨hrun, hended, _, _, rfl, ?_, ⟨_, rfl⟩, hW, hsame.mono (by decide) (by decide)⟩)
                  · show Steps p.tables e below (T1614.setTop (mkF m 320 #[.val (.int p0), .val (.int p1), .val (.int p2), .val (.int p3), .val (.int p4), .val (.int p5), .val (.int (Int32.ofNat ia)), .val (.int (Int32.ofNat ib)), .val (.int (Int32.ofNat ic)), .val (.int u9), .val (.int u10), .val (.int u11), s12, .val (.int (Int32.ofNat qq)), .val (.ref pp), .val (.ref rr), .val (.ref ss), .val (.int 0), .val (.int 0)] [(.int 1)])) _
                    exact retN X1614 hx (t := .boolean) Bd.returns (by simp) (hb hby at_320) hr
                  · show Q0 Z p0 p1 p2 p3 p4 p5 h0 n0 _ T1614.heap _
                    rw [e1614q]
                    exact ⟨rfl, N1614⟩
              · refine own_s 288 [] (fun _ k_ => XS.icmpYes XK.here hx rfl (pc0 := 276) (pc' := 288) rfl (hb hby at_276) rfl (feq hc276).2 (by decide) (by decide) k_) ?_
                refine own_s 289 [(.int 0)] (fun _ k_ => XS.iconst XK.here hx rfl (hb hby at_288) k_) ?_
                refine own_istore 291 #[.val (.int p0), .val (.int p1), .val (.int p2), .val (.int p3), .val (.int p4), .val (.int p5), .val (.int (Int32.ofNat ia)), .val (.int (Int32.ofNat ib)), .val (.int (Int32.ofNat ic)), .val (.int u9), .val (.int u10), .val (.int u11), s12, .val (.int (Int32.ofNat qq)), .val (.ref pp), .val (.ref rr), .val (.ref ss), .val (.int 0), .val (.int 0)] XK.here hx (hb hby at_289) rfl rfl ?_
                refine own_aload 293 XK.here hx (hb hby at_291) rfl rfl rfl ?_
                refine own_iload 295 XK.here hx (hb hby at_293) rfl rfl ?_
                obtain ⟨cq1616, kq1616, q1616a, q1616b, q1616c⟩ := isOf hZ eK y0
                obtain ⟨vv1616, _, ⟨T1616, L1616, k1616, n1616⟩, -, X1616, ⟨Lc1616, hQ1616, l1616, y1616, z1616⟩, st1616⟩ := XK.virtualBack hx (y := (⟨"com/example/adfair/adfair/Ranking", "contains", "(I)Z"⟩ : MethodName)) (z := (⟨"com/example/adfair/adfair/Ranking", "contains", "(I)Z"⟩ : MethodName)) hown (mvT hZ (own_w 91 hw rfl)) (mvT hZ (own_w 92 hw rfl)) (notFace_of_selects (args := #[]) (mvT hZ (own_w 94 hw rfl))) (mvT hZ (own_w 94 hw rfl)) (mvT hZ (own_w 93 hw rfl)) (by decide) (backOf (W := 0) (rmCo l Z a0 hw [] rr qq (1 : Int64) pp ha NN fH hK n0 ZK y2 y3 y6 y7 hq hNN hzK (by decide)) hZ (own_w 95 hw rfl) (own_w 17 hw rfl) (by decide) (by decide)) q1616a q1616c (g := (mkF m 295 #[.val (.int p0), .val (.int p1), .val (.int p2), .val (.int p3), .val (.int p4), .val (.int p5), .val (.int (Int32.ofNat ia)), .val (.int (Int32.ofNat ib)), .val (.int (Int32.ofNat ic)), .val (.int u9), .val (.int u10), .val (.int u11), s12, .val (.int (Int32.ofNat qq)), .val (.ref pp), .val (.ref rr), .val (.ref ss), .val (.int 0), .val (.int 0)] [(.int (Int32.ofNat qq)), (.ref rr)])) rfl (by rw [hml]; rfl) (Steps.refl _) (argsL := [(.int (Int32.ofNat qq))]) (rest := []) (lenOf pd__28_I_29_Z rfl) rfl (by show 2 * 0 + _ ≤ _; exact Nat.le_of_eq rfl) (hb hby at_295) (fun _ _ => ⟨rfl, eK, (by decide : 23 + 0 ≤ _), (by decide : 1005 + 0 ≤ _)⟩)
                dsimp only [Pt.U, Pt.locs, Pt.cells, Pt.slots] at X1616 l1616 y1616 z1616 st1616 hQ1616
                subst l1616 y1616 z1616
                obtain ⟨rfl, N1616q, e1616q⟩ := hQ1616
                have N1616 := Fr.app NK N1616q
                refine own_s 298 [(.int (own_con fH qq (1 : Int64)))] (fun _ k_ => st1616.trans k_) ?_
                refine own_iload 300 X1616.here hx (hb hby at_298) rfl rfl ?_
                refine own_s 303 [] (fun _ k_ => XS.icmpNo X1616.here hx rfl (hb hby at_300) rfl (teq (hR.trans (if_neg (fun k => k.elim (fun k => hc250 k.2) (fun k => hc262 k.2))))).2 k_) ?_
                refine own_aload 305 X1616.here hx (hb hby at_303) rfl rfl rfl ?_
                refine own_iload 307 X1616.here hx (hb hby at_305) rfl rfl ?_
                obtain ⟨cq1617, kq1617, q1617a, q1617b, q1617c⟩ := isOf hZ e1616q y1
                obtain ⟨vv1617, _, ⟨T1617, L1617, k1617, n1617⟩, -, X1617, ⟨Lc1617, hQ1617, l1617, y1617, z1617⟩, st1617⟩ := X1616.virtualBack hx (y := (⟨"com/example/adfair/adfair/Ranking", "contains", "(I)Z"⟩ : MethodName)) (z := (⟨"com/example/adfair/adfair/Ranking", "contains", "(I)Z"⟩ : MethodName)) hown (mvT hZ (own_w 91 hw rfl)) (mvT hZ (own_w 92 hw rfl)) (notFace_of_selects (args := #[]) (mvT hZ (own_w 94 hw rfl))) (mvT hZ (own_w 94 hw rfl)) (mvT hZ (own_w 93 hw rfl)) (by decide) (backOf (W := 0) (rmCo l Z a0 hw [] ss qq (2 : Int64) pp ha NN fH hK n0 ZK y4 y5 y6 y7 hq hNN hzK (by decide)) hZ (own_w 95 hw rfl) (own_w 17 hw rfl) (by decide) (by decide)) q1617a q1617c (g := (mkF m 307 #[.val (.int p0), .val (.int p1), .val (.int p2), .val (.int p3), .val (.int p4), .val (.int p5), .val (.int (Int32.ofNat ia)), .val (.int (Int32.ofNat ib)), .val (.int (Int32.ofNat ic)), .val (.int u9), .val (.int u10), .val (.int u11), s12, .val (.int (Int32.ofNat qq)), .val (.ref pp), .val (.ref rr), .val (.ref ss), .val (.int 0), .val (.int 0)] [(.int (Int32.ofNat qq)), (.ref ss)])) rfl (by rw [hml]; rfl) (Steps.refl _) (argsL := [(.int (Int32.ofNat qq))]) (rest := []) (lenOf pd__28_I_29_Z rfl) rfl (by show 2 * 0 + _ ≤ _; exact Nat.le_of_eq rfl) (hb hby at_307) (fun _ _ => ⟨rfl, e1616q, (by decide : 23 + 0 ≤ _), (by decide : 1005 + 0 ≤ _)⟩)
                dsimp only [Pt.U, Pt.locs, Pt.cells, Pt.slots] at X1617 l1617 y1617 z1617 st1617 hQ1617
                subst l1617 y1617 z1617
                obtain ⟨rfl, N1617q, e1617q⟩ := hQ1617
                have N1617 := Fr.app N1616 N1617q
                refine own_s 310 [(.int (own_con fH qq (2 : Int64)))] (fun _ k_ => st1617.trans k_) ?_
                refine own_iload 312 X1617.here hx (hb hby at_310) rfl rfl ?_
                refine own_s 315 [] (fun _ k_ => XS.icmpNo X1617.here hx rfl (hb hby at_312) rfl (teq (hS.trans (if_neg (fun k => hc276 ((own_inj hq (Nat.lt_trans lc (by decide))).mpr k.1))))).2 k_) ?_
                refine own_s 316 [(.int 1)] (fun _ k_ => XS.iconst X1617.here hx rfl (hb hby at_315) k_) ?_
                refine own_s 320 [(.int 1)] (fun _ k_ => XS.goto X1617.here hx rfl (pc0 := 316) (pc' := 320) rfl (hb hby at_316) (by decide) (by decide) k_) ?_
                obtain ⟨fs, hr, hrun, hended, hW, hsame⟩ := X1617.leave (v := some (.int 1)) (fun h => by rw [Bd.returns] at h; cases h)
                refine own_at ?_ (hG _ _ ⟨hrun, hended, _, _, rfl, ?_, ⟨_, rfl⟩, hW, hsame.mono (by decide) (by decide)⟩)
                · show Steps p.tables e below (T1617.setTop (mkF m 320 #[.val (.int p0), .val (.int p1), .val (.int p2), .val (.int p3), .val (.int p4), .val (.int p5), .val (.int (Int32.ofNat ia)), .val (.int (Int32.ofNat ib)), .val (.int (Int32.ofNat ic)), .val (.int u9), .val (.int u10), .val (.int u11), s12, .val (.int (Int32.ofNat qq)), .val (.ref pp), .val (.ref rr), .val (.ref ss), .val (.int 0), .val (.int 0)] [(.int 1)])) _
                  exact retN X1617 hx (t := .boolean) Bd.returns (by simp) (hb hby at_320) hr
                · show Q0 Z p0 p1 p2 p3 p4 p5 h0 n0 _ T1617.heap _
                  rw [e1617q]
                  exact ⟨rfl, N1617⟩
          · refine own_s 269 [] (fun _ k_ => XS.icmpYes XK.here hx rfl (pc0 := 257) (pc' := 269) rfl (hb hby at_257) rfl (feq hc257).2 (by decide) (by decide) k_) ?_
            refine own_s 270 [(.int 0)] (fun _ k_ => XS.iconst XK.here hx rfl (hb hby at_269) k_) ?_
            refine own_istore 272 #[.val (.int p0), .val (.int p1), .val (.int p2), .val (.int p3), .val (.int p4), .val (.int p5), .val (.int (Int32.ofNat ia)), .val (.int (Int32.ofNat ib)), .val (.int (Int32.ofNat ic)), .val (.int u9), .val (.int u10), .val (.int u11), s12, .val (.int (Int32.ofNat qq)), .val (.ref pp), .val (.ref rr), .val (.ref ss), .val (.int 0), .unset] XK.here hx (hb hby at_270) rfl rfl ?_
            refine own_iload 274 XK.here hx (hb hby at_272) rfl rfl ?_
            refine own_iload 276 XK.here hx (hb hby at_274) rfl rfl ?_
            by_cases hc276 : (Int32.ofNat qq) = (Int32.ofNat ic)
            · refine own_s 279 [] (fun _ k_ => XS.icmpNo XK.here hx rfl (hb hby at_276) rfl (teq hc276).2 k_) ?_
              refine own_iload 281 XK.here hx (hb hby at_279) rfl rfl ?_
              by_cases hc281 : u11 = (0 : Int32)
              · refine own_s 284 [] (fun _ k_ => XS.ifNo XK.here hx rfl (hb hby at_281) rfl ((if0 _ _).trans (teq hc281).2) k_) ?_
                refine own_s 285 [(.int 1)] (fun _ k_ => XS.iconst XK.here hx rfl (hb hby at_284) k_) ?_
                refine own_s 289 [(.int 1)] (fun _ k_ => XS.goto XK.here hx rfl (pc0 := 285) (pc' := 289) rfl (hb hby at_285) (by decide) (by decide) k_) ?_
                refine own_istore 291 #[.val (.int p0), .val (.int p1), .val (.int p2), .val (.int p3), .val (.int p4), .val (.int p5), .val (.int (Int32.ofNat ia)), .val (.int (Int32.ofNat ib)), .val (.int (Int32.ofNat ic)), .val (.int u9), .val (.int u10), .val (.int u11), s12, .val (.int (Int32.ofNat qq)), .val (.ref pp), .val (.ref rr), .val (.ref ss), .val (.int 0), .val (.int 1)] XK.here hx (hb hby at_289) rfl rfl ?_
                refine own_aload 293 XK.here hx (hb hby at_291) rfl rfl rfl ?_
                refine own_iload 295 XK.here hx (hb hby at_293) rfl rfl ?_
                obtain ⟨cq1619, kq1619, q1619a, q1619b, q1619c⟩ := isOf hZ eK y0
                obtain ⟨vv1619, _, ⟨T1619, L1619, k1619, n1619⟩, -, X1619, ⟨Lc1619, hQ1619, l1619, y1619, z1619⟩, st1619⟩ := XK.virtualBack hx (y := (⟨"com/example/adfair/adfair/Ranking", "contains", "(I)Z"⟩ : MethodName)) (z := (⟨"com/example/adfair/adfair/Ranking", "contains", "(I)Z"⟩ : MethodName)) hown (mvT hZ (own_w 91 hw rfl)) (mvT hZ (own_w 92 hw rfl)) (notFace_of_selects (args := #[]) (mvT hZ (own_w 94 hw rfl))) (mvT hZ (own_w 94 hw rfl)) (mvT hZ (own_w 93 hw rfl)) (by decide) (backOf (W := 0) (rmCo l Z a0 hw [] rr qq (1 : Int64) pp ha NN fH hK n0 ZK y2 y3 y6 y7 hq hNN hzK (by decide)) hZ (own_w 95 hw rfl) (own_w 17 hw rfl) (by decide) (by decide)) q1619a q1619c (g := (mkF m 295 #[.val (.int p0), .val (.int p1), .val (.int p2), .val (.int p3), .val (.int p4), .val (.int p5), .val (.int (Int32.ofNat ia)), .val (.int (Int32.ofNat ib)), .val (.int (Int32.ofNat ic)), .val (.int u9), .val (.int u10), .val (.int u11), s12, .val (.int (Int32.ofNat qq)), .val (.ref pp), .val (.ref rr), .val (.ref ss), .val (.int 0), .val (.int 1)] [(.int (Int32.ofNat qq)), (.ref rr)])) rfl (by rw [hml]; rfl) (Steps.refl _) (argsL := [(.int (Int32.ofNat qq))]) (rest := []) (lenOf pd__28_I_29_Z rfl) rfl (by show 2 * 0 + _ ≤ _; exact Nat.le_of_eq rfl) (hb hby at_295) (fun _ _ => ⟨rfl, eK, (by decide : 23 + 0 ≤ _), (by decide : 1005 + 0 ≤ _)⟩)
                dsimp only [Pt.U, Pt.locs, Pt.cells, Pt.slots] at X1619 l1619 y1619 z1619 st1619 hQ1619
                subst l1619 y1619 z1619
                obtain ⟨rfl, N1619q, e1619q⟩ := hQ1619
                have N1619 := Fr.app NK N1619q
                refine own_s 298 [(.int (own_con fH qq (1 : Int64)))] (fun _ k_ => st1619.trans k_) ?_
                refine own_iload 300 X1619.here hx (hb hby at_298) rfl rfl ?_
                refine own_s 303 [] (fun _ k_ => XS.icmpNo X1619.here hx rfl (hb hby at_300) rfl (teq (hR.trans (if_neg (fun k => k.elim (fun k => hc250 k.2) (fun k => hc257 ((own_inj hq (Nat.lt_trans lb (by decide))).mpr k.1)))))).2 k_) ?_
                refine own_aload 305 X1619.here hx (hb hby at_303) rfl rfl rfl ?_
                refine own_iload 307 X1619.here hx (hb hby at_305) rfl rfl ?_
                obtain ⟨cq1620, kq1620, q1620a, q1620b, q1620c⟩ := isOf hZ e1619q y1
                obtain ⟨vv1620, _, ⟨T1620, L1620, k1620, n1620⟩, -, X1620, ⟨Lc1620, hQ1620, l1620, y1620, z1620⟩, st1620⟩ := X1619.virtualBack hx (y := (⟨"com/example/adfair/adfair/Ranking", "contains", "(I)Z"⟩ : MethodName)) (z := (⟨"com/example/adfair/adfair/Ranking", "contains", "(I)Z"⟩ : MethodName)) hown (mvT hZ (own_w 91 hw rfl)) (mvT hZ (own_w 92 hw rfl)) (notFace_of_selects (args := #[]) (mvT hZ (own_w 94 hw rfl))) (mvT hZ (own_w 94 hw rfl)) (mvT hZ (own_w 93 hw rfl)) (by decide) (backOf (W := 0) (rmCo l Z a0 hw [] ss qq (2 : Int64) pp ha NN fH hK n0 ZK y4 y5 y6 y7 hq hNN hzK (by decide)) hZ (own_w 95 hw rfl) (own_w 17 hw rfl) (by decide) (by decide)) q1620a q1620c (g := (mkF m 307 #[.val (.int p0), .val (.int p1), .val (.int p2), .val (.int p3), .val (.int p4), .val (.int p5), .val (.int (Int32.ofNat ia)), .val (.int (Int32.ofNat ib)), .val (.int (Int32.ofNat ic)), .val (.int u9), .val (.int u10), .val (.int u11), s12, .val (.int (Int32.ofNat qq)), .val (.ref pp), .val (.ref rr), .val (.ref ss), .val (.int 0), .val (.int 1)] [(.int (Int32.ofNat qq)), (.ref ss)])) rfl (by rw [hml]; rfl) (Steps.refl _) (argsL := [(.int (Int32.ofNat qq))]) (rest := []) (lenOf pd__28_I_29_Z rfl) rfl (by show 2 * 0 + _ ≤ _; exact Nat.le_of_eq rfl) (hb hby at_307) (fun _ _ => ⟨rfl, e1619q, (by decide : 23 + 0 ≤ _), (by decide : 1005 + 0 ≤ _)⟩)
                dsimp only [Pt.U, Pt.locs, Pt.cells, Pt.slots] at X1620 l1620 y1620 z1620 st1620 hQ1620
                subst l1620 y1620 z1620
                obtain ⟨rfl, N1620q, e1620q⟩ := hQ1620
                have N1620 := Fr.app N1619 N1620q
                refine own_s 310 [(.int (own_con fH qq (2 : Int64)))] (fun _ k_ => st1620.trans k_) ?_
                refine own_iload 312 X1620.here hx (hb hby at_310) rfl rfl ?_
                refine own_s 315 [] (fun _ k_ => XS.icmpNo X1620.here hx rfl (hb hby at_312) rfl (teq (hS.trans (if_pos ⟨(own_inj hq (Nat.lt_trans lc (by decide))).mp hc276, hc281⟩))).2 k_) ?_
                refine own_s 316 [(.int 1)] (fun _ k_ => XS.iconst X1620.here hx rfl (hb hby at_315) k_) ?_
                refine own_s 320 [(.int 1)] (fun _ k_ => XS.goto X1620.here hx rfl (pc0 := 316) (pc' := 320) rfl (hb hby at_316) (by decide) (by decide) k_) ?_
                obtain ⟨fs, hr, hrun, hended, hW, hsame⟩ := X1620.leave (v := some (.int 1)) (fun h => by rw [Bd.returns] at h; cases h)
                refine own_at ?_ (hG _ _ ⟨hrun, hended, _, _, rfl, ?_, ⟨_, rfl⟩, hW, hsame.mono (by decide) (by decide)⟩)
                · show Steps p.tables e below (T1620.setTop (mkF m 320 #[.val (.int p0), .val (.int p1), .val (.int p2), .val (.int p3), .val (.int p4), .val (.int p5), .val (.int (Int32.ofNat ia)), .val (.int (Int32.ofNat ib)), .val (.int (Int32.ofNat ic)), .val (.int u9), .val (.int u10), .val (.int u11), s12, .val (.int (Int32.ofNat qq)), .val (.ref pp), .val (.ref rr), .val (.ref ss), .val (.int 0), .val (.int 1)] [(.int 1)])) _
                  exact retN X1620 hx (t := .boolean) Bd.returns (by simp) (hb hby at_320) hr
                · show Q0 Z p0 p1 p2 p3 p4 p5 h0 n0 _ T1620.heap _
                  rw [e1620q]
                  exact ⟨rfl, N1620⟩
              · refine own_s 288 [] (fun _ k_ => XS.ifYes XK.here hx rfl (pc0 := 281) (pc' := 288) rfl (hb hby at_281) rfl ((if0 _ _).trans (feq hc281).2) (by decide) (by decide) k_) ?_
                refine own_s 289 [(.int 0)] (fun _ k_ => XS.iconst XK.here hx rfl (hb hby at_288) k_) ?_
                refine own_istore 291 #[.val (.int p0), .val (.int p1), .val (.int p2), .val (.int p3), .val (.int p4), .val (.int p5), .val (.int (Int32.ofNat ia)), .val (.int (Int32.ofNat ib)), .val (.int (Int32.ofNat ic)), .val (.int u9), .val (.int u10), .val (.int u11), s12, .val (.int (Int32.ofNat qq)), .val (.ref pp), .val (.ref rr), .val (.ref ss), .val (.int 0), .val (.int 0)] XK.here hx (hb hby at_289) rfl rfl ?_
                refine own_aload 293 XK.here hx (hb hby at_291) rfl rfl rfl ?_
                refine own_iload 295 XK.here hx (hb hby at_293) rfl rfl ?_
                obtain ⟨cq1622, kq1622, q1622a, q1622b, q1622c⟩ := isOf hZ eK y0
                obtain ⟨vv1622, _, ⟨T1622, L1622, k1622, n1622⟩, -, X1622, ⟨Lc1622, hQ1622, l1622, y1622, z1622⟩, st1622⟩ := XK.virtualBack hx (y := (⟨"com/example/adfair/adfair/Ranking", "contains", "(I)Z"⟩ : MethodName)) (z := (⟨"com/example/adfair/adfair/Ranking", "contains", "(I)Z"⟩ : MethodName)) hown (mvT hZ (own_w 91 hw rfl)) (mvT hZ (own_w 92 hw rfl)) (notFace_of_selects (args := #[]) (mvT hZ (own_w 94 hw rfl))) (mvT hZ (own_w 94 hw rfl)) (mvT hZ (own_w 93 hw rfl)) (by decide) (backOf (W := 0) (rmCo l Z a0 hw [] rr qq (1 : Int64) pp ha NN fH hK n0 ZK y2 y3 y6 y7 hq hNN hzK (by decide)) hZ (own_w 95 hw rfl) (own_w 17 hw rfl) (by decide) (by decide)) q1622a q1622c (g := (mkF m 295 #[.val (.int p0), .val (.int p1), .val (.int p2), .val (.int p3), .val (.int p4), .val (.int p5), .val (.int (Int32.ofNat ia)), .val (.int (Int32.ofNat ib)), .val (.int (Int32.ofNat ic)), .val (.int u9), .val (.int u10), .val (.int u11), s12, .val (.int (Int32.ofNat qq)), .val (.ref pp), .val (.ref rr), .val (.ref ss), .val (.int 0), .val (.int 0)] [(.int (Int32.ofNat qq)), (.ref rr)])) rfl (by rw [hml]; rfl) (Steps.refl _) (argsL := [(.int (Int32.ofNat qq))]) (rest := []) (lenOf pd__28_I_29_Z rfl) rfl (by show 2 * 0 + _ ≤ _; exact Nat.le_of_eq rfl) (hb hby at_295) (fun _ _ => ⟨rfl, eK, (by decide : 23 + 0 ≤ _), (by decide : 1005 + 0 ≤ _)⟩)
                dsimp only [Pt.U, Pt.locs, Pt.cells, Pt.slots] at X1622 l1622 y1622 z1622 st1622 hQ1622
                subst l1622 y1622 z1622
                obtain ⟨rfl, N1622q, e1622q⟩ := hQ1622
                have N1622 := Fr.app NK N1622q
                refine own_s 298 [(.int (own_con fH qq (1 : Int64)))] (fun _ k_ => st1622.trans k_) ?_
                refine own_iload 300 X1622.here hx (hb hby at_298) rfl rfl ?_
                refine own_s 303 [] (fun _ k_ => XS.icmpNo X1622.here hx rfl (hb hby at_300) rfl (teq (hR.trans (if_neg (fun k => k.elim (fun k => hc250 k.2) (fun k => hc257 ((own_inj hq (Nat.lt_trans lb (by decide))).mpr k.1)))))).2 k_) ?_
                refine own_aload 305 X1622.here hx (hb hby at_303) rfl rfl rfl ?_
                refine own_iload 307 X1622.here hx (hb hby at_305) rfl rfl ?_
                obtain ⟨cq1623, kq1623, q1623a, q1623b, q1623c⟩ := isOf hZ e1622q y1
                obtain ⟨vv1623, _, ⟨T1623, L1623, k1623, n1623⟩, -, X1623, ⟨Lc1623, hQ1623, l1623, y1623, z1623⟩, st1623⟩ := X1622.virtualBack hx (y := (⟨"com/example/adfair/adfair/Ranking", "contains", "(I)Z"⟩ : MethodName)) (z := (⟨"com/example/adfair/adfair/Ranking", "contains", "(I)Z"⟩ : MethodName)) hown (mvT hZ (own_w 91 hw rfl)) (mvT hZ (own_w 92 hw rfl)) (notFace_of_selects (args := #[]) (mvT hZ (own_w 94 hw rfl))) (mvT hZ (own_w 94 hw rfl)) (mvT hZ (own_w 93 hw rfl)) (by decide) (backOf (W := 0) (rmCo l Z a0 hw [] ss qq (2 : Int64) pp ha NN fH hK n0 ZK y4 y5 y6 y7 hq hNN hzK (by decide)) hZ (own_w 95 hw rfl) (own_w 17 hw rfl) (by decide) (by decide)) q1623a q1623c (g := (mkF m 307 #[.val (.int p0), .val (.int p1), .val (.int p2), .val (.int p3), .val (.int p4), .val (.int p5), .val (.int (Int32.ofNat ia)), .val (.int (Int32.ofNat ib)), .val (.int (Int32.ofNat ic)), .val (.int u9), .val (.int u10), .val (.int u11), s12, .val (.int (Int32.ofNat qq)), .val (.ref pp), .val (.ref rr), .val (.ref ss), .val (.int 0), .val (.int 0)] [(.int (Int32.ofNat qq)), (.ref ss)])) rfl (by rw [hml]; rfl) (Steps.refl _) (argsL := [(.int (Int32.ofNat qq))]) (rest := []) (lenOf pd__28_I_29_Z rfl) rfl (by show 2 * 0 + _ ≤ _; exact Nat.le_of_eq rfl) (hb hby at_307) (fun _ _ => ⟨rfl, e1622q, (by decide : 23 + 0 ≤ _), (by decide : 1005 + 0 ≤ _)⟩)
                dsimp only [Pt.U, Pt.locs, Pt.cells, Pt.slots] at X1623 l1623 y1623 z1623 st1623 hQ1623
                subst l1623 y1623 z1623
                obtain ⟨rfl, N1623q, e1623q⟩ := hQ1623
                have N1623 := Fr.app N1622 N1623q
                refine own_s 310 [(.int (own_con fH qq (2 : Int64)))] (fun _ k_ => st1623.trans k_) ?_
                refine own_iload 312 X1623.here hx (hb hby at_310) rfl rfl ?_
                refine own_s 315 [] (fun _ k_ => XS.icmpNo X1623.here hx rfl (hb hby at_312) rfl (teq (hS.trans (if_neg (fun k => hc281 k.2)))).2 k_) ?_
                refine own_s 316 [(.int 1)] (fun _ k_ => XS.iconst X1623.here hx rfl (hb hby at_315) k_) ?_
                refine own_s 320 [(.int 1)] (fun _ k_ => XS.goto X1623.here hx rfl (pc0 := 316) (pc' := 320) rfl (hb hby at_316) (by decide) (by decide) k_) ?_
                obtain ⟨fs, hr, hrun, hended, hW, hsame⟩ := X1623.leave (v := some (.int 1)) (fun h => by rw [Bd.returns] at h; cases h)
                refine own_at ?_ (hG _ _ ⟨hrun, hended, _, _, rfl, ?_, ⟨_, rfl⟩, hW, hsame.mono (by decide) (by decide)⟩)
                · show Steps p.tables e below (T1623.setTop (mkF m 320 #[.val (.int p0), .val (.int p1), .val (.int p2), .val (.int p3), .val (.int p4), .val (.int p5), .val (.int (Int32.ofNat ia)), .val (.int (Int32.ofNat ib)), .val (.int (Int32.ofNat ic)), .val (.int u9), .val (.int u10), .val (.int u11), s12, .val (.int (Int32.ofNat qq)), .val (.ref pp), .val (.ref rr), .val (.ref ss), .val (.int 0), .val (.int 0)] [(.int 1)])) _
                  exact retN X1623 hx (t := .boolean) Bd.returns (by simp) (hb hby at_320) hr
                · show Q0 Z p0 p1 p2 p3 p4 p5 h0 n0 _ T1623.heap _
                  rw [e1623q]
                  exact ⟨rfl, N1623⟩
            · refine own_s 288 [] (fun _ k_ => XS.icmpYes XK.here hx rfl (pc0 := 276) (pc' := 288) rfl (hb hby at_276) rfl (feq hc276).2 (by decide) (by decide) k_) ?_
              refine own_s 289 [(.int 0)] (fun _ k_ => XS.iconst XK.here hx rfl (hb hby at_288) k_) ?_
              refine own_istore 291 #[.val (.int p0), .val (.int p1), .val (.int p2), .val (.int p3), .val (.int p4), .val (.int p5), .val (.int (Int32.ofNat ia)), .val (.int (Int32.ofNat ib)), .val (.int (Int32.ofNat ic)), .val (.int u9), .val (.int u10), .val (.int u11), s12, .val (.int (Int32.ofNat qq)), .val (.ref pp), .val (.ref rr), .val (.ref ss), .val (.int 0), .val (.int 0)] XK.here hx (hb hby at_289) rfl rfl ?_
              refine own_aload 293 XK.here hx (hb hby at_291) rfl rfl rfl ?_
              refine own_iload 295 XK.here hx (hb hby at_293) rfl rfl ?_
              obtain ⟨cq1625, kq1625, q1625a, q1625b, q1625c⟩ := isOf hZ eK y0
              obtain ⟨vv1625, _, ⟨T1625, L1625, k1625, n1625⟩, -, X1625, ⟨Lc1625, hQ1625, l1625, y1625, z1625⟩, st1625⟩ := XK.virtualBack hx (y := (⟨"com/example/adfair/adfair/Ranking", "contains", "(I)Z"⟩ : MethodName)) (z := (⟨"com/example/adfair/adfair/Ranking", "contains", "(I)Z"⟩ : MethodName)) hown (mvT hZ (own_w 91 hw rfl)) (mvT hZ (own_w 92 hw rfl)) (notFace_of_selects (args := #[]) (mvT hZ (own_w 94 hw rfl))) (mvT hZ (own_w 94 hw rfl)) (mvT hZ (own_w 93 hw rfl)) (by decide) (backOf (W := 0) (rmCo l Z a0 hw [] rr qq (1 : Int64) pp ha NN fH hK n0 ZK y2 y3 y6 y7 hq hNN hzK (by decide)) hZ (own_w 95 hw rfl) (own_w 17 hw rfl) (by decide) (by decide)) q1625a q1625c (g := (mkF m 295 #[.val (.int p0), .val (.int p1), .val (.int p2), .val (.int p3), .val (.int p4), .val (.int p5), .val (.int (Int32.ofNat ia)), .val (.int (Int32.ofNat ib)), .val (.int (Int32.ofNat ic)), .val (.int u9), .val (.int u10), .val (.int u11), s12, .val (.int (Int32.ofNat qq)), .val (.ref pp), .val (.ref rr), .val (.ref ss), .val (.int 0), .val (.int 0)] [(.int (Int32.ofNat qq)), (.ref rr)])) rfl (by rw [hml]; rfl) (Steps.refl _) (argsL := [(.int (Int32.ofNat qq))]) (rest := []) (lenOf pd__28_I_29_Z rfl) rfl (by show 2 * 0 + _ ≤ _; exact Nat.le_of_eq rfl) (hb hby at_295) (fun _ _ => ⟨rfl, eK, (by decide : 23 + 0 ≤ _), (by decide : 1005 + 0 ≤ _)⟩)
              dsimp only [Pt.U, Pt.locs, Pt.cells, Pt.slots] at X1625 l1625 y1625 z1625 st1625 hQ1625
              subst l1625 y1625 z1625
              obtain ⟨rfl, N1625q, e1625q⟩ := hQ1625
              have N1625 := Fr.app NK N1625q
              refine own_s 298 [(.int (own_con fH qq (1 : Int64)))] (fun _ k_ => st1625.trans k_) ?_
              refine own_iload 300 X1625.here hx (hb hby at_298) rfl rfl ?_
              refine own_s 303 [] (fun _ k_ => XS.icmpNo X1625.here hx rfl (hb hby at_300) rfl (teq (hR.trans (if_neg (fun k => k.elim (fun k => hc250 k.2) (fun k => hc257 ((own_inj hq (Nat.lt_trans lb (by decide))).mpr k.1)))))).2 k_) ?_
              refine own_aload 305 X1625.here hx (hb hby at_303) rfl rfl rfl ?_
              refine own_iload 307 X1625.here hx (hb hby at_305) rfl rfl ?_
              obtain ⟨cq1626, kq1626, q1626a, q1626b, q1626c⟩ := isOf hZ e1625q y1
              obtain ⟨vv1626, _, ⟨T1626, L1626, k1626, n1626⟩, -, X1626, ⟨Lc1626, hQ1626, l1626, y1626, z1626⟩, st1626⟩ := X1625.virtualBack hx (y := (⟨"com/example/adfair/adfair/Ranking", "contains", "(I)Z"⟩ : MethodName)) (z := (⟨"com/example/adfair/adfair/Ranking", "contains", "(I)Z"⟩ : MethodName)) hown (mvT hZ (own_w 91 hw rfl)) (mvT hZ (own_w 92 hw rfl)) (notFace_of_selects (args := #[]) (mvT hZ (own_w 94 hw rfl))) (mvT hZ (own_w 94 hw rfl)) (mvT hZ (own_w 93 hw rfl)) (by decide) (backOf (W := 0) (rmCo l Z a0 hw [] ss qq (2 : Int64) pp ha NN fH hK n0 ZK y4 y5 y6 y7 hq hNN hzK (by decide)) hZ (own_w 95 hw rfl) (own_w 17 hw rfl) (by decide) (by decide)) q1626a q1626c (g := (mkF m 307 #[.val (.int p0), .val (.int p1), .val (.int p2), .val (.int p3), .val (.int p4), .val (.int p5), .val (.int (Int32.ofNat ia)), .val (.int (Int32.ofNat ib)), .val (.int (Int32.ofNat ic)), .val (.int u9), .val (.int u10), .val (.int u11), s12, .val (.int (Int32.ofNat qq)), .val (.ref pp), .val (.ref rr), .val (.ref ss), .val (.int 0), .val (.int 0)] [(.int (Int32.ofNat qq)), (.ref ss)])) rfl (by rw [hml]; rfl) (Steps.refl _) (argsL := [(.int (Int32.ofNat qq))]) (rest := []) (lenOf pd__28_I_29_Z rfl) rfl (by show 2 * 0 + _ ≤ _; exact Nat.le_of_eq rfl) (hb hby at_307) (fun _ _ => ⟨rfl, e1625q, (by decide : 23 + 0 ≤ _), (by decide : 1005 + 0 ≤ _)⟩)
              dsimp only [Pt.U, Pt.locs, Pt.cells, Pt.slots] at X1626 l1626 y1626 z1626 st1626 hQ1626
              subst l1626 y1626 z1626
              obtain ⟨rfl, N1626q, e1626q⟩ := hQ1626
              have N1626 := Fr.app N1625 N1626q
              refine own_s 310 [(.int (own_con fH qq (2 : Int64)))] (fun _ k_ => st1626.trans k_) ?_
              refine own_iload 312 X1626.here hx (hb hby at_310) rfl rfl ?_
              refine own_s 315 [] (fun _ k_ => XS.icmpNo X1626.here hx rfl (hb hby at_312) rfl (teq (hS.trans (if_neg (fun k => hc276 ((own_inj hq (Nat.lt_trans lc (by decide))).mpr k.1))))).2 k_) ?_
              refine own_s 316 [(.int 1)] (fun _ k_ => XS.iconst X1626.here hx rfl (hb hby at_315) k_) ?_
              refine own_s 320 [(.int 1)] (fun _ k_ => XS.goto X1626.here hx rfl (pc0 := 316) (pc' := 320) rfl (hb hby at_316) (by decide) (by decide) k_) ?_
              obtain ⟨fs, hr, hrun, hended, hW, hsame⟩ := X1626.leave (v := some (.int 1)) (fun h => by rw [Bd.returns] at h; cases h)
              refine own_at ?_ (hG _ _ ⟨hrun, hended, _, _, rfl, ?_, ⟨_, rfl⟩, hW, hsame.mono (by decide) (by decide)⟩)
              · show Steps p.tables e below (T1626.setTop (mkF m 320 #[.val (.int p0), .val (.int p1), .val (.int p2), .val (.int p3), .val (.int p4), .val (.int p5), .val (.int (Int32.ofNat ia)), .val (.int (Int32.ofNat ib)), .val (.int (Int32.ofNat ic)), .val (.int u9), .val (.int u10), .val (.int u11), s12, .val (.int (Int32.ofNat qq)), .val (.ref pp), .val (.ref rr), .val (.ref ss), .val (.int 0), .val (.int 0)] [(.int 1)])) _
                exact retN X1626 hx (t := .boolean) Bd.returns (by simp) (hb hby at_320) hr
              · show Q0 Z p0 p1 p2 p3 p4 p5 h0 n0 _ T1626.heap _
                rw [e1626q]
                exact ⟨rfl, N1626⟩
      · refine own_s 253 [] (fun _ k_ => XS.icmpYes XK.here hx rfl (pc0 := 245) (pc' := 253) rfl (hb hby at_245) rfl (feq hc245).2 (by decide) (by decide) k_) ?_
        refine own_iload 255 XK.here hx (hb hby at_253) rfl rfl ?_
        refine own_iload 257 XK.here hx (hb hby at_255) rfl rfl ?_
        by_cases hc257 : (Int32.ofNat qq) = (Int32.ofNat ib)
        · refine own_s 260 [] (fun _ k_ => XS.icmpNo XK.here hx rfl (hb hby at_257) rfl (teq hc257).2 k_) ?_
          refine own_iload 262 XK.here hx (hb hby at_260) rfl rfl ?_
          by_cases hc262 : u10 = (0 : Int32)
          · refine own_s 265 [] (fun _ k_ => XS.ifNo XK.here hx rfl (hb hby at_262) rfl ((if0 _ _).trans (teq hc262).2) k_) ?_
            refine own_s 266 [(.int 1)] (fun _ k_ => XS.iconst XK.here hx rfl (hb hby at_265) k_) ?_
            refine own_s 270 [(.int 1)] (fun _ k_ => XS.goto XK.here hx rfl (pc0 := 266) (pc' := 270) rfl (hb hby at_266) (by decide) (by decide) k_) ?_
            refine own_istore 272 #[.val (.int p0), .val (.int p1), .val (.int p2), .val (.int p3), .val (.int p4), .val (.int p5), .val (.int (Int32.ofNat ia)), .val (.int (Int32.ofNat ib)), .val (.int (Int32.ofNat ic)), .val (.int u9), .val (.int u10), .val (.int u11), s12, .val (.int (Int32.ofNat qq)), .val (.ref pp), .val (.ref rr), .val (.ref ss), .val (.int 1), .unset] XK.here hx (hb hby at_270) rfl rfl ?_
            refine own_iload 274 XK.here hx (hb hby at_272) rfl rfl ?_
            refine own_iload 276 XK.here hx (hb hby at_274) rfl rfl ?_
            by_cases hc276 : (Int32.ofNat qq) = (Int32.ofNat ic)
            · refine own_s 279 [] (fun _ k_ => XS.icmpNo XK.here hx rfl (hb hby at_276) rfl (teq hc276).2 k_) ?_
              refine own_iload 281 XK.here hx (hb hby at_279) rfl rfl ?_
              by_cases hc281 : u11 = (0 : Int32)
              · refine own_s 284 [] (fun _ k_ => XS.ifNo XK.here hx rfl (hb hby at_281) rfl ((if0 _ _).trans (teq hc281).2) k_) ?_
                refine own_s 285 [(.int 1)] (fun _ k_ => XS.iconst XK.here hx rfl (hb hby at_284) k_) ?_
                refine own_s 289 [(.int 1)] (fun _ k_ => XS.goto XK.here hx rfl (pc0 := 285) (pc' := 289) rfl (hb hby at_285) (by decide) (by decide) k_) ?_
                refine own_istore 291 #[.val (.int p0), .val (.int p1), .val (.int p2), .val (.int p3), .val (.int p4), .val (.int p5), .val (.int (Int32.ofNat ia)), .val (.int (Int32.ofNat ib)), .val (.int (Int32.ofNat ic)), .val (.int u9), .val (.int u10), .val (.int u11), s12, .val (.int (Int32.ofNat qq)), .val (.ref pp), .val (.ref rr), .val (.ref ss), .val (.int 1), .val (.int 1)] XK.here hx (hb hby at_289) rfl rfl ?_
                refine own_aload 293 XK.here hx (hb hby at_291) rfl rfl rfl ?_
                refine own_iload 295 XK.here hx (hb hby at_293) rfl rfl ?_
                obtain ⟨cq1628, kq1628, q1628a, q1628b, q1628c⟩ := isOf hZ eK y0
                obtain ⟨vv1628, _, ⟨T1628, L1628, k1628, n1628⟩, -, X1628, ⟨Lc1628, hQ1628, l1628, y1628, z1628⟩, st1628⟩ := XK.virtualBack hx (y := (⟨"com/example/adfair/adfair/Ranking", "contains", "(I)Z"⟩ : MethodName)) (z := (⟨"com/example/adfair/adfair/Ranking", "contains", "(I)Z"⟩ : MethodName)) hown (mvT hZ (own_w 91 hw rfl)) (mvT hZ (own_w 92 hw rfl)) (notFace_of_selects (args := #[]) (mvT hZ (own_w 94 hw rfl))) (mvT hZ (own_w 94 hw rfl)) (mvT hZ (own_w 93 hw rfl)) (by decide) (backOf (W := 0) (rmCo l Z a0 hw [] rr qq (1 : Int64) pp ha NN fH hK n0 ZK y2 y3 y6 y7 hq hNN hzK (by decide)) hZ (own_w 95 hw rfl) (own_w 17 hw rfl) (by decide) (by decide)) q1628a q1628c (g := (mkF m 295 #[.val (.int p0), .val (.int p1), .val (.int p2), .val (.int p3), .val (.int p4), .val (.int p5), .val (.int (Int32.ofNat ia)), .val (.int (Int32.ofNat ib)), .val (.int (Int32.ofNat ic)), .val (.int u9), .val (.int u10), .val (.int u11), s12, .val (.int (Int32.ofNat qq)), .val (.ref pp), .val (.ref rr), .val (.ref ss), .val (.int 1), .val (.int 1)] [(.int (Int32.ofNat qq)), (.ref rr)])) rfl (by rw [hml]; rfl) (Steps.refl _) (argsL := [(.int (Int32.ofNat qq))]) (rest := []) (lenOf pd__28_I_29_Z rfl) rfl (by show 2 * 0 + _ ≤ _; exact Nat.le_of_eq rfl) (hb hby at_295) (fun _ _ => ⟨rfl, eK, (by decide : 23 + 0 ≤ _), (by decide : 1005 + 0 ≤ _)⟩)
                dsimp only [Pt.U, Pt.locs, Pt.cells, Pt.slots] at X1628 l1628 y1628 z1628 st1628 hQ1628
                subst l1628 y1628 z1628
                obtain ⟨rfl, N1628q, e1628q⟩ := hQ1628
                have N1628 := Fr.app NK N1628q
                refine own_s 298 [(.int (own_con fH qq (1 : Int64)))] (fun _ k_ => st1628.trans k_) ?_
                refine own_iload 300 X1628.here hx (hb hby at_298) rfl rfl ?_
                refine own_s 303 [] (fun _ k_ => XS.icmpNo X1628.here hx rfl (hb hby at_300) rfl (teq (hR.trans (if_pos (Or.inr ⟨(own_inj hq (Nat.lt_trans lb (by decide))).mp hc257, hc262⟩)))).2 k_) ?_
                refine own_aload 305 X1628.here hx (hb hby at_303) rfl rfl rfl ?_
                refine own_iload 307 X1628.here hx (hb hby at_305) rfl rfl ?_
                obtain ⟨cq1629, kq1629, q1629a, q1629b, q1629c⟩ := isOf hZ e1628q y1
                obtain ⟨vv1629, _, ⟨T1629, L1629, k1629, n1629⟩, -, X1629, ⟨Lc1629, hQ1629, l1629, y1629, z1629⟩, st1629⟩ := X1628.virtualBack hx (y := (⟨"com/example/adfair/adfair/Ranking", "contains", "(I)Z"⟩ : MethodName)) (z := (⟨"com/example/adfair/adfair/Ranking", "contains", "(I)Z"⟩ : MethodName)) hown (mvT hZ (own_w 91 hw rfl)) (mvT hZ (own_w 92 hw rfl)) (notFace_of_selects (args := #[]) (mvT hZ (own_w 94 hw rfl))) (mvT hZ (own_w 94 hw rfl)) (mvT hZ (own_w 93 hw rfl)) (by decide) (backOf (W := 0) (rmCo l Z a0 hw [] ss qq (2 : Int64) pp ha NN fH hK n0 ZK y4 y5 y6 y7 hq hNN hzK (by decide)) hZ (own_w 95 hw rfl) (own_w 17 hw rfl) (by decide) (by decide)) q1629a q1629c (g := (mkF m 307 #[.val (.int p0), .val (.int p1), .val (.int p2), .val (.int p3), .val (.int p4), .val (.int p5), .val (.int (Int32.ofNat ia)), .val (.int (Int32.ofNat ib)), .val (.int (Int32.ofNat ic)), .val (.int u9), .val (.int u10), .val (.int u11), s12, .val (.int (Int32.ofNat qq)), .val (.ref pp), .val (.ref rr), .val (.ref ss), .val (.int 1), .val (.int 1)] [(.int (Int32.ofNat qq)), (.ref ss)])) rfl (by rw [hml]; rfl) (Steps.refl _) (argsL := [(.int (Int32.ofNat qq))]) (rest := []) (lenOf pd__28_I_29_Z rfl) rfl (by show 2 * 0 + _ ≤ _; exact Nat.le_of_eq rfl) (hb hby at_307) (fun _ _ => ⟨rfl, e1628q, (by decide : 23 + 0 ≤ _), (by decide : 1005 + 0 ≤ _)⟩)
                dsimp only [Pt.U, Pt.locs, Pt.cells, Pt.slots] at X1629 l1629 y1629 z1629 st1629 hQ1629
                subst l1629 y1629 z1629
                obtain ⟨rfl, N1629q, e1629q⟩ := hQ1629
                have N1629 := Fr.app N1628 N1629q
                refine own_s 310 [(.int (own_con fH qq (2 : Int64)))] (fun _ k_ => st1629.trans k_) ?_
                refine own_iload 312 X1629.here hx (hb hby at_310) rfl rfl ?_
                refine own_s 315 [] (fun _ k_ => XS.icmpNo X1629.here hx rfl (hb hby at_312) rfl (teq (hS.trans (if_pos ⟨(own_inj hq (Nat.lt_trans lc (by decide))).mp hc276, hc281⟩))).2 k_) ?_
                refine own_s 316 [(.int 1)] (fun _ k_ => XS.iconst X1629.here hx rfl (hb hby at_315) k_) ?_
                refine own_s 320 [(.int 1)] (fun _ k_ => XS.goto X1629.here hx rfl (pc0 := 316) (pc' := 320) rfl (hb hby at_316) (by decide) (by decide) k_) ?_
                obtain ⟨fs, hr, hrun, hended, hW, hsame⟩ := X1629.leave (v := some (.int 1)) (fun h => by rw [Bd.returns] at h; cases h)
                refine own_at ?_ (hG _ _ ⟨hrun, hended, _, _, rfl, ?_, ⟨_, rfl⟩, hW, hsame.mono (by decide) (by decide)⟩)
                · show Steps p.tables e below (T1629.setTop (mkF m 320 #[.val (.int p0), .val (.int p1), .val (.int p2), .val (.int p3), .val (.int p4), .val (.int p5), .val (.int (Int32.ofNat ia)), .val (.int (Int32.ofNat ib)), .val (.int (Int32.ofNat ic)), .val (.int u9), .val (.int u10), .val (.int u11), s12, .val (.int (Int32.ofNat qq)), .val (.ref pp), .val (.ref rr), .val (.ref ss), .val (.int 1), .val (.int 1)] [(.int 1)])) _
                  exact retN X1629 hx (t := .boolean) Bd.returns (by simp) (hb hby at_320) hr
                · show Q0 Z p0 p1 p2 p3 p4 p5 h0 n0 _ T1629.heap _
                  rw [e1629q]
                  exact ⟨rfl, N1629⟩
              · refine own_s 288 [] (fun _ k_ => XS.ifYes XK.here hx rfl (pc0 := 281) (pc' := 288) rfl (hb hby at_281) rfl ((if0 _ _).trans (feq hc281).2) (by decide) (by decide) k_) ?_
                refine own_s 289 [(.int 0)] (fun _ k_ => XS.iconst XK.here hx rfl (hb hby at_288) k_) ?_
                refine own_istore 291 #[.val (.int p0), .val (.int p1), .val (.int p2), .val (.int p3), .val (.int p4), .val (.int p5), .val (.int (Int32.ofNat ia)), .val (.int (Int32.ofNat ib)), .val (.int (Int32.ofNat ic)), .val (.int u9), .val (.int u10), .val (.int u11), s12, .val (.int (Int32.ofNat qq)), .val (.ref pp), .val (.ref rr), .val (.ref ss), .val (.int 1), .val (.int 0)] XK.here hx (hb hby at_289) rfl rfl ?_
                refine own_aload 293 XK.here hx (hb hby at_291) rfl rfl rfl ?_
                refine own_iload 295 XK.here hx (hb hby at_293) rfl rfl ?_
                obtain ⟨cq1631, kq1631, q1631a, q1631b, q1631c⟩ := isOf hZ eK y0
                obtain ⟨vv1631, _, ⟨T1631, L1631, k1631, n1631⟩, -, X1631, ⟨Lc1631, hQ1631, l1631, y1631, z1631⟩, st1631⟩ := XK.virtualBack hx (y := (⟨"com/example/adfair/adfair/Ranking", "contains", "(I)Z"⟩ : MethodName)) (z := (⟨"com/example/adfair/adfair/Ranking", "contains", "(I)Z"⟩ : MethodName)) hown (mvT hZ (own_w 91 hw rfl)) (mvT hZ (own_w 92 hw rfl)) (notFace_of_selects (args := #[]) (mvT hZ (own_w 94 hw rfl))) (mvT hZ (own_w 94 hw rfl)) (mvT hZ (own_w 93 hw rfl)) (by decide) (backOf (W := 0) (rmCo l Z a0 hw [] rr qq (1 : Int64) pp ha NN fH hK n0 ZK y2 y3 y6 y7 hq hNN hzK (by decide)) hZ (own_w 95 hw rfl) (own_w 17 hw rfl) (by decide) (by decide)) q1631a q1631c (g := (mkF m 295 #[.val (.int p0), .val (.int p1), .val (.int p2), .val (.int p3), .val (.int p4), .val (.int p5), .val (.int (Int32.ofNat ia)), .val (.int (Int32.ofNat ib)), .val (.int (Int32.ofNat ic)), .val (.int u9), .val (.int u10), .val (.int u11), s12, .val (.int (Int32.ofNat qq)), .val (.ref pp), .val (.ref rr), .val (.ref ss), .val (.int 1), .val (.int 0)] [(.int (Int32.ofNat qq)), (.ref rr)])) rfl (by rw [hml]; rfl) (Steps.refl _) (argsL := [(.int (Int32.ofNat qq))]) (rest := []) (lenOf pd__28_I_29_Z rfl) rfl (by show 2 * 0 + _ ≤ _; exact Nat.le_of_eq rfl) (hb hby at_295) (fun _ _ => ⟨rfl, eK, (by decide : 23 + 0 ≤ _), (by decide : 1005 + 0 ≤ _)⟩)
                dsimp only [Pt.U, Pt.locs, Pt.cells, Pt.slots] at X1631 l1631 y1631 z1631 st1631 hQ1631
                subst l1631 y1631 z1631
                obtain ⟨rfl, N1631q, e1631q⟩ := hQ1631
                have N1631 := Fr.app NK N1631q
                refine own_s 298 [(.int (own_con fH qq (1 : Int64)))] (fun _ k_ => st1631.trans k_) ?_
                refine own_iload 300 X1631.here hx (hb hby at_298) rfl rfl ?_
                refine own_s 303 [] (fun _ k_ => XS.icmpNo X1631.here hx rfl (hb hby at_300) rfl (teq (hR.trans (if_pos (Or.inr ⟨(own_inj hq (Nat.lt_trans lb (by decide))).mp hc257, hc262⟩)))).2 k_) ?_
                refine own_aload 305 X1631.here hx (hb hby at_303) rfl rfl rfl ?_
                refine own_iload 307 X1631.here hx (hb hby at_305) rfl rfl ?_
                obtain ⟨cq1632, kq1632, q1632a, q1632b, q1632c⟩ := isOf hZ e1631q y1
                obtain ⟨vv1632, _, ⟨T1632, L1632, k1632, n1632⟩, -, X1632, ⟨Lc1632, hQ1632, l1632, y1632, z1632⟩, st1632⟩ := X1631.virtualBack hx (y := (⟨"com/example/adfair/adfair/Ranking", "contains", "(I)Z"⟩ : MethodName)) (z := (⟨"com/example/adfair/adfair/Ranking", "contains", "(I)Z"⟩ : MethodName)) hown (mvT hZ (own_w 91 hw rfl)) (mvT hZ (own_w 92 hw rfl)) (notFace_of_selects (args := #[]) (mvT hZ (own_w 94 hw rfl))) (mvT hZ (own_w 94 hw rfl)) (mvT hZ (own_w 93 hw rfl)) (by decide) (backOf (W := 0) (rmCo l Z a0 hw [] ss qq (2 : Int64) pp ha NN fH hK n0 ZK y4 y5 y6 y7 hq hNN hzK (by decide)) hZ (own_w 95 hw rfl) (own_w 17 hw rfl) (by decide) (by decide)) q1632a q1632c (g := (mkF m 307 #[.val (.int p0), .val (.int p1), .val (.int p2), .val (.int p3), .val (.int p4), .val (.int p5), .val (.int (Int32.ofNat ia)), .val (.int (Int32.ofNat ib)), .val (.int (Int32.ofNat ic)), .val (.int u9), .val (.int u10), .val (.int u11), s12, .val (.int (Int32.ofNat qq)), .val (.ref pp), .val (.ref rr), .val (.ref ss), .val (.int 1), .val (.int 0)] [(.int (Int32.ofNat qq)), (.ref ss)])) rfl (by rw [hml]; rfl) (Steps.refl _) (argsL := [(.int (Int32.ofNat qq))]) (rest := []) (lenOf pd__28_I_29_Z rfl) rfl (by show 2 * 0 + _ ≤ _; exact Nat.le_of_eq rfl) (hb hby at_307) (fun _ _ => ⟨rfl, e1631q, (by decide : 23 + 0 ≤ _), (by decide : 1005 + 0 ≤ _)⟩)
                dsimp only [Pt.U, Pt.locs, Pt.cells, Pt.slots] at X1632 l1632 y1632 z1632 st1632 hQ1632
                subst l1632 y1632 z1632
                obtain ⟨rfl, N1632q, e1632q⟩ := hQ1632
                have N1632 := Fr.app N1631 N1632q
                refine own_s 310 [(.int (own_con fH qq (2 : Int64)))] (fun _ k_ => st1632.trans k_) ?_
                refine own_iload 312 X1632.here hx (hb hby at_310) rfl rfl ?_
                refine own_s 315 [] (fun _ k_ => XS.icmpNo X1632.here hx rfl (hb hby at_312) rfl (teq (hS.trans (if_neg (fun k => hc281 k.2)))).2 k_) ?_
                refine own_s 316 [(.int 1)] (fun _ k_ => XS.iconst X1632.here hx rfl (hb hby at_315) k_) ?_
                refine own_s 320 [(.int 1)] (fun _ k_ => XS.goto X1632.here hx rfl (pc0 := 316) (pc' := 320) rfl (hb hby at_316) (by decide) (by decide) k_) ?_
                obtain ⟨fs, hr, hrun, hended, hW, hsame⟩ := X1632.leave (v := some (.int 1)) (fun h => by rw [Bd.returns] at h; cases h)
                refine own_at ?_ (hG _ _ ⟨hrun, hended, _, _, rfl, ?_, ⟨_, rfl⟩, hW, hsame.mono (by decide) (by decide)⟩)
                · show Steps p.tables e below (T1632.setTop (mkF m 320 #[.val (.int p0), .val (.int p1), .val (.int p2), .val (.int p3), .val (.int p4), .val (.int p5), .val (.int (Int32.ofNat ia)), .val (.int (Int32.ofNat ib)), .val (.int (Int32.ofNat ic)), .val (.int u9), .val (.int u10), .val (.int u11), s12, .val (.int (Int32.ofNat qq)), .val (.ref pp), .val (.ref rr), .val (.ref ss), .val (.int 1), .val (.int 0)] [(.int 1)])) _
                  exact retN X1632 hx (t := .boolean) Bd.returns (by simp) (hb hby at_320) hr
                · show Q0 Z p0 p1 p2 p3 p4 p5 h0 n0 _ T1632.heap _
                  rw [e1632q]
                  exact ⟨rfl, N1632⟩
            · refine own_s 288 [] (fun _ k_ => XS.icmpYes XK.here hx rfl (pc0 := 276) (pc' := 288) rfl (hb hby at_276) rfl (feq hc276).2 (by decide) (by decide) k_) ?_
              refine own_s 289 [(.int 0)] (fun _ k_ => XS.iconst XK.here hx rfl (hb hby at_288) k_) ?_
              refine own_istore 291 #[.val (.int p0), .val (.int p1), .val (.int p2), .val (.int p3), .val (.int p4), .val (.int p5), .val (.int (Int32.ofNat ia)), .val (.int (Int32.ofNat ib)), .val (.int (Int32.ofNat ic)), .val (.int u9), .val (.int u10), .val (.int u11), s12, .val (.int (Int32.ofNat qq)), .val (.ref pp), .val (.ref rr), .val (.ref ss), .val (.int 1), .val (.int 0)] XK.here hx (hb hby at_289) rfl rfl ?_
              refine own_aload 293 XK.here hx (hb hby at_291) rfl rfl rfl ?_
              refine own_iload 295 XK.here hx (hb hby at_293) rfl rfl ?_
              obtain ⟨cq1634, kq1634, q1634a, q1634b, q1634c⟩ := isOf hZ eK y0
              obtain ⟨vv1634, _, ⟨T1634, L1634, k1634, n1634⟩, -, X1634, ⟨Lc1634, hQ1634, l1634, y1634, z1634⟩, st1634⟩ := XK.virtualBack hx (y := (⟨"com/example/adfair/adfair/Ranking", "contains", "(I)Z"⟩ : MethodName)) (z := (⟨"com/example/adfair/adfair/Ranking", "contains", "(I)Z"⟩ : MethodName)) hown (mvT hZ (own_w 91 hw rfl)) (mvT hZ (own_w 92 hw rfl)) (notFace_of_selects (args := #[]) (mvT hZ (own_w 94 hw rfl))) (mvT hZ (own_w 94 hw rfl)) (mvT hZ (own_w 93 hw rfl)) (by decide) (backOf (W := 0) (rmCo l Z a0 hw [] rr qq (1 : Int64) pp ha NN fH hK n0 ZK y2 y3 y6 y7 hq hNN hzK (by decide)) hZ (own_w 95 hw rfl) (own_w 17 hw rfl) (by decide) (by decide)) q1634a q1634c (g := (mkF m 295 #[.val (.int p0), .val (.int p1), .val (.int p2), .val (.int p3), .val (.int p4), .val (.int p5), .val (.int (Int32.ofNat ia)), .val (.int (Int32.ofNat ib)), .val (.int (Int32.ofNat ic)), .val (.int u9), .val (.int u10), .val (.int u11), s12, .val (.int (Int32.ofNat qq)), .val (.ref pp), .val (.ref rr), .val (.ref ss), .val (.int 1), .val (.int 0)] [(.int (Int32.ofNat qq)), (.ref rr)])) rfl (by rw [hml]; rfl) (Steps.refl _) (argsL := [(.int (Int32.ofNat qq))]) (rest := []) (lenOf pd__28_I_29_Z rfl) rfl (by show 2 * 0 + _ ≤ _; exact Nat.le_of_eq rfl) (hb hby at_295) (fun _ _ => ⟨rfl, eK, (by decide : 23 + 0 ≤ _), (by decide : 1005 + 0 ≤ _)⟩)
              dsimp only [Pt.U, Pt.locs, Pt.cells, Pt.slots] at X1634 l1634 y1634 z1634 st1634 hQ1634
              subst l1634 y1634 z1634
              obtain ⟨rfl, N1634q, e1634q⟩ := hQ1634
              have N1634 := Fr.app NK N1634q
              refine own_s 298 [(.int (own_con fH qq (1 : Int64)))] (fun _ k_ => st1634.trans k_) ?_
              refine own_iload 300 X1634.here hx (hb hby at_298) rfl rfl ?_
              refine own_s 303 [] (fun _ k_ => XS.icmpNo X1634.here hx rfl (hb hby at_300) rfl (teq (hR.trans (if_pos (Or.inr ⟨(own_inj hq (Nat.lt_trans lb (by decide))).mp hc257, hc262⟩)))).2 k_) ?_
              refine own_aload 305 X1634.here hx (hb hby at_303) rfl rfl rfl ?_
              refine own_iload 307 X1634.here hx (hb hby at_305) rfl rfl ?_
              obtain ⟨cq1635, kq1635, q1635a, q1635b, q1635c⟩ := isOf hZ e1634q y1
              obtain ⟨vv1635, _, ⟨T1635, L1635, k1635, n1635⟩, -, X1635, ⟨Lc1635, hQ1635, l1635, y1635, z1635⟩, st1635⟩ := X1634.virtualBack hx (y := (⟨"com/example/adfair/adfair/Ranking", "contains", "(I)Z"⟩ : MethodName)) (z := (⟨"com/example/adfair/adfair/Ranking", "contains", "(I)Z"⟩ : MethodName)) hown (mvT hZ (own_w 91 hw rfl)) (mvT hZ (own_w 92 hw rfl)) (notFace_of_selects (args := #[]) (mvT hZ (own_w 94 hw rfl))) (mvT hZ (own_w 94 hw rfl)) (mvT hZ (own_w 93 hw rfl)) (by decide) (backOf (W := 0) (rmCo l Z a0 hw [] ss qq (2 : Int64) pp ha NN fH hK n0 ZK y4 y5 y6 y7 hq hNN hzK (by decide)) hZ (own_w 95 hw rfl) (own_w 17 hw rfl) (by decide) (by decide)) q1635a q1635c (g := (mkF m 307 #[.val (.int p0), .val (.int p1), .val (.int p2), .val (.int p3), .val (.int p4), .val (.int p5), .val (.int (Int32.ofNat ia)), .val (.int (Int32.ofNat ib)), .val (.int (Int32.ofNat ic)), .val (.int u9), .val (.int u10), .val (.int u11), s12, .val (.int (Int32.ofNat qq)), .val (.ref pp), .val (.ref rr), .val (.ref ss), .val (.int 1), .val (.int 0)] [(.int (Int32.ofNat qq)), (.ref ss)])) rfl (by rw [hml]; rfl) (Steps.refl _) (argsL := [(.int (Int32.ofNat qq))]) (rest := []) (lenOf pd__28_I_29_Z rfl) rfl (by show 2 * 0 + _ ≤ _; exact Nat.le_of_eq rfl) (hb hby at_307) (fun _ _ => ⟨rfl, e1634q, (by decide : 23 + 0 ≤ _), (by decide : 1005 + 0 ≤ _)⟩)
              dsimp only [Pt.U, Pt.locs, Pt.cells, Pt.slots] at X1635 l1635 y1635 z1635 st1635 hQ1635
              subst l1635 y1635 z1635
              obtain ⟨rfl, N1635q, e1635q⟩ := hQ1635
              have N1635 := Fr.app N1634 N1635q
              refine own_s 310 [(.int (own_con fH qq (2 : Int64)))] (fun _ k_ => st1635.trans k_) ?_
              refine own_iload 312 X1635.here hx (hb hby at_310) rfl rfl ?_
              refine own_s 315 [] (fun _ k_ => XS.icmpNo X1635.here hx rfl (hb hby at_312) rfl (teq (hS.trans (if_neg (fun k => hc276 ((own_inj hq (Nat.lt_trans lc (by decide))).mpr k.1))))).2 k_) ?_
              refine own_s 316 [(.int 1)] (fun _ k_ => XS.iconst X1635.here hx rfl (hb hby at_315) k_) ?_
              refine own_s 320 [(.int 1)] (fun _ k_ => XS.goto X1635.here hx rfl (pc0 := 316) (pc' := 320) rfl (hb hby at_316) (by decide) (by decide) k_) ?_
              obtain ⟨fs, hr, hrun, hended, hW, hsame⟩ := X1635.leave (v := some (.int 1)) (fun h => by rw [Bd.returns] at h; cases h)
              refine own_at ?_ (hG _ _ ⟨hrun, hended, _, _, rfl, ?_, ⟨_, rfl⟩, hW, hsame.mono (by decide) (by decide)⟩)
              · show Steps p.tables e below (T1635.setTop (mkF m 320 #[.val (.int p0), .val (.int p1), .val (.int p2), .val (.int p3), .val (.int p4), .val (.int p5), .val (.int (Int32.ofNat ia)), .val (.int (Int32.ofNat ib)), .val (.int (Int32.ofNat ic)), .val (.int u9), .val (.int u10), .val (.int u11), s12, .val (.int (Int32.ofNat qq)), .val (.ref pp), .val (.ref rr), .val (.ref ss), .val (.int 1), .val (.int 0)] [(.int 1)])) _
                exact retN X1635 hx (t := .boolean) Bd.returns (by simp) (hb hby at_320) hr
              · show Q0 Z p0 p1 p2 p3 p4 p5 h0 n0 _ T1635.heap _
                rw [e1635q]
                exact ⟨rfl, N1635⟩
          · refine own_s 269 [] (fun _ k_ => XS.ifYes XK.here hx rfl (pc0 := 262) (pc' := 269) rfl (hb hby at_262) rfl ((if0 _ _).trans (feq hc262).2) (by decide) (by decide) k_) ?_
            refine own_s 270 [(.int 0)] (fun _ k_ => XS.iconst XK.here hx rfl (hb hby at_269) k_) ?_
            refine own_istore 272 #[.val (.int p0), .val (.int p1), .val (.int p2), .val (.int p3), .val (.int p4), .val (.int p5), .val (.int (Int32.ofNat ia)), .val (.int (Int32.ofNat ib)), .val (.int (Int32.ofNat ic)), .val (.int u9), .val (.int u10), .val (.int u11), s12, .val (.int (Int32.ofNat qq)), .val (.ref pp), .val (.ref rr), .val (.ref ss), .val (.int 0), .unset] XK.here hx (hb hby at_270) rfl rfl ?_
            refine own_iload 274 XK.here hx (hb hby at_272) rfl rfl ?_
            refine own_iload 276 XK.here hx (hb hby at_274) rfl rfl ?_
            by_cases hc276 : (Int32.ofNat qq) = (Int32.ofNat ic)
            · refine own_s 279 [] (fun _ k_ => XS.icmpNo XK.here hx rfl (hb hby at_276) rfl (teq hc276).2 k_) ?_
              refine own_iload 281 XK.here hx (hb hby at_279) rfl rfl ?_
              by_cases hc281 : u11 = (0 : Int32)
              · refine own_s 284 [] (fun _ k_ => XS.ifNo XK.here hx rfl (hb hby at_281) rfl ((if0 _ _).trans (teq hc281).2) k_) ?_
                refine own_s 285 [(.int 1)] (fun _ k_ => XS.iconst XK.here hx rfl (hb hby at_284) k_) ?_
                refine own_s 289 [(.int 1)] (fun _ k_ => XS.goto XK.here hx rfl (pc0 := 285) (pc' := 289) rfl (hb hby at_285) (by decide) (by decide) k_) ?_
                refine own_istore 291 #[.val (.int p0), .val (.int p1), .val (.int p2), .val (.int p3), .val (.int p4), .val (.int p5), .val (.int (Int32.ofNat ia)), .val (.int (Int32.ofNat ib)), .val (.int (Int32.ofNat ic)), .val (.int u9), .val (.int u10), .val (.int u11), s12, .val (.int (Int32.ofNat qq)), .val (.ref pp), .val (.ref rr), .val (.ref ss), .val (.int 0), .val (.int 1)] XK.here hx (hb hby at_289) rfl rfl ?_
                refine own_aload 293 XK.here hx (hb hby at_291) rfl rfl rfl ?_
                refine own_iload 295 XK.here hx (hb hby at_293) rfl rfl ?_
                obtain ⟨cq1637, kq1637, q1637a, q1637b, q1637c⟩ := isOf hZ eK y0
                obtain ⟨vv1637, _, ⟨T1637, L1637, k1637, n1637⟩, -, X1637, ⟨Lc1637, hQ1637, l1637, y1637, z1637⟩, st1637⟩ := XK.virtualBack hx (y := (⟨"com/example/adfair/adfair/Ranking", "contains", "(I)Z"⟩ : MethodName)) (z := (⟨"com/example/adfair/adfair/Ranking", "contains", "(I)Z"⟩ : MethodName)) hown (mvT hZ (own_w 91 hw rfl)) (mvT hZ (own_w 92 hw rfl)) (notFace_of_selects (args := #[]) (mvT hZ (own_w 94 hw rfl))) (mvT hZ (own_w 94 hw rfl)) (mvT hZ (own_w 93 hw rfl)) (by decide) (backOf (W := 0) (rmCo l Z a0 hw [] rr qq (1 : Int64) pp ha NN fH hK n0 ZK y2 y3 y6 y7 hq hNN hzK (by decide)) hZ (own_w 95 hw rfl) (own_w 17 hw rfl) (by decide) (by decide)) q1637a q1637c (g := (mkF m 295 #[.val (.int p0), .val (.int p1), .val (.int p2), .val (.int p3), .val (.int p4), .val (.int p5), .val (.int (Int32.ofNat ia)), .val (.int (Int32.ofNat ib)), .val (.int (Int32.ofNat ic)), .val (.int u9), .val (.int u10), .val (.int u11), s12, .val (.int (Int32.ofNat qq)), .val (.ref pp), .val (.ref rr), .val (.ref ss), .val (.int 0), .val (.int 1)] [(.int (Int32.ofNat qq)), (.ref rr)])) rfl (by rw [hml]; rfl) (Steps.refl _) (argsL := [(.int (Int32.ofNat qq))]) (rest := []) (lenOf pd__28_I_29_Z rfl) rfl (by show 2 * 0 + _ ≤ _; exact Nat.le_of_eq rfl) (hb hby at_295) (fun _ _ => ⟨rfl, eK, (by decide : 23 + 0 ≤ _), (by decide : 1005 + 0 ≤ _)⟩)
                dsimp only [Pt.U, Pt.locs, Pt.cells, Pt.slots] at X1637 l1637 y1637 z1637 st1637 hQ1637
                subst l1637 y1637 z1637
                obtain ⟨rfl, N1637q, e1637q⟩ := hQ1637
                have N1637 := Fr.app NK N1637q
                refine own_s 298 [(.int (own_con fH qq (1 : Int64)))] (fun _ k_ => st1637.trans k_) ?_
                refine own_iload 300 X1637.here hx (hb hby at_298) rfl rfl ?_
                refine own_s 303 [] (fun _ k_ => XS.icmpNo X1637.here hx rfl (hb hby at_300) rfl (teq (hR.trans (if_neg (fun k => k.elim (fun k => hc245 ((own_inj hq (Nat.lt_trans la (by decide))).mpr k.1)) (fun k => hc262 k.2))))).2 k_) ?_
                refine own_aload 305 X1637.here hx (hb hby at_303) rfl rfl rfl ?_
                refine own_iload 307 X1637.here hx (hb hby at_305) rfl rfl ?_
                obtain ⟨cq1638, kq1638, q1638a, q1638b, q1638c⟩ := isOf hZ e1637q y1
                obtain ⟨vv1638, _, ⟨T1638, L1638, k1638, n1638⟩, -, X1638, ⟨Lc1638, hQ1638, l1638, y1638, z1638⟩, st1638⟩ := X1637.virtualBack hx (y := (⟨"com/example/adfair/adfair/Ranking", "contains", "(I)Z"⟩ : MethodName)) (z := (⟨"com/example/adfair/adfair/Ranking", "contains", "(I)Z"⟩ : MethodName)) hown (mvT hZ (own_w 91 hw rfl)) (mvT hZ (own_w 92 hw rfl)) (notFace_of_selects (args := #[]) (mvT hZ (own_w 94 hw rfl))) (mvT hZ (own_w 94 hw rfl)) (mvT hZ (own_w 93 hw rfl)) (by decide) (backOf (W := 0) (rmCo l Z a0 hw [] ss qq (2 : Int64) pp ha NN fH hK n0 ZK y4 y5 y6 y7 hq hNN hzK (by decide)) hZ (own_w 95 hw rfl) (own_w 17 hw rfl) (by decide) (by decide)) q1638a q1638c (g := (mkF m 307 #[.val (.int p0), .val (.int p1), .val (.int p2), .val (.int p3), .val (.int p4), .val (.int p5), .val (.int (Int32.ofNat ia)), .val (.int (Int32.ofNat ib)), .val (.int (Int32.ofNat ic)), .val (.int u9), .val (.int u10), .val (.int u11), s12, .val (.int (Int32.ofNat qq)), .val (.ref pp), .val (.ref rr), .val (.ref ss), .val (.int 0), .val (.int 1)] [(.int (Int32.ofNat qq)), (.ref ss)])) rfl (by rw [hml]; rfl) (Steps.refl _) (argsL := [(.int (Int32.ofNat qq))]) (rest := []) (lenOf pd__28_I_29_Z rfl) rfl (by show 2 * 0 + _ ≤ _; exact Nat.le_of_eq rfl) (hb hby at_307) (fun _ _ => ⟨rfl, e1637q, (by decide : 23 + 0 ≤ _), (by decide : 1005 + 0 ≤ _)⟩)
                dsimp only [Pt.U, Pt.locs, Pt.cells, Pt.slots] at X1638 l1638 y1638 z1638 st1638 hQ1638
                subst l1638 y1638 z1638
                obtain ⟨rfl, N1638q, e1638q⟩ := hQ1638
                have N1638 := Fr.app N1637 N1638q
                refine own_s 310 [(.int (own_con fH qq (2 : Int64)))] (fun _ k_ => st1638.trans k_) ?_
                refine own_iload 312 X1638.here hx (hb hby at_310) rfl rfl ?_
                refine own_s 315 [] (fun _ k_ => XS.icmpNo X1638.here hx rfl (hb hby at_312) rfl (teq (hS.trans (if_pos ⟨(own_inj hq (Nat.lt_trans lc (by decide))).mp hc276, hc281⟩))).2 k_) ?_
                refine own_s 316 [(.int 1)] (fun _ k_ => XS.iconst X1638.here hx rfl (hb hby at_315) k_) ?_
                refine own_s 320 [(.int 1)] (fun _ k_ => XS.goto X1638.here hx rfl (pc0 := 316) (pc' := 320) rfl (hb hby at_316) (by decide) (by decide) k_) ?_
                obtain ⟨fs, hr, hrun, hended, hW, hsame⟩ := X1638.leave (v := some (.int 1)) (fun h => by rw [Bd.returns] at h; cases h)
                refine own_at ?_ (hG _ _ ⟨hrun, hended, _, _, rfl, ?_, ⟨_, rfl⟩, hW, hsame.mono (by decide) (by decide)⟩)
                · show Steps p.tables e below (T1638.setTop (mkF m 320 #[.val (.int p0), .val (.int p1), .val (.int p2), .val (.int p3), .val (.int p4), .val (.int p5), .val (.int (Int32.ofNat ia)), .val (.int (Int32.ofNat ib)), .val (.int (Int32.ofNat ic)), .val (.int u9), .val (.int u10), .val (.int u11), s12, .val (.int (Int32.ofNat qq)), .val (.ref pp), .val (.ref rr), .val (.ref ss), .val (.int 0), .val (.int 1)] [(.int 1)])) _
                  exact retN X1638 hx (t := .boolean) Bd.returns (by simp) (hb hby at_320) hr
                · show Q0 Z p0 p1 p2 p3 p4 p5 h0 n0 _ T1638.heap _
                  rw [e1638q]
                  exact ⟨rfl, N1638⟩
              · refine own_s 288 [] (fun _ k_ => XS.ifYes XK.here hx rfl (pc0 := 281) (pc' := 288) rfl (hb hby at_281) rfl ((if0 _ _).trans (feq hc281).2) (by decide) (by decide) k_) ?_
                refine own_s 289 [(.int 0)] (fun _ k_ => XS.iconst XK.here hx rfl (hb hby at_288) k_) ?_
                refine own_istore 291 #[.val (.int p0), .val (.int p1), .val (.int p2), .val (.int p3), .val (.int p4), .val (.int p5), .val (.int (Int32.ofNat ia)), .val (.int (Int32.ofNat ib)), .val (.int (Int32.ofNat ic)), .val (.int u9), .val (.int u10), .val (.int u11), s12, .val (.int (Int32.ofNat qq)), .val (.ref pp), .val (.ref rr), .val (.ref ss), .val (.int 0), .val (.int 0)] XK.here hx (hb hby at_289) rfl rfl ?_
                refine own_aload 293 XK.here hx (hb hby at_291) rfl rfl rfl ?_
                refine own_iload 295 XK.here hx (hb hby at_293) rfl rfl ?_
                obtain ⟨cq1640, kq1640, q1640a, q1640b, q1640c⟩ := isOf hZ eK y0
                obtain ⟨vv1640, _, ⟨T1640, L1640, k1640, n1640⟩, -, X1640, ⟨Lc1640, hQ1640, l1640, y1640, z1640⟩, st1640⟩ := XK.virtualBack hx (y := (⟨"com/example/adfair/adfair/Ranking", "contains", "(I)Z"⟩ : MethodName)) (z := (⟨"com/example/adfair/adfair/Ranking", "contains", "(I)Z"⟩ : MethodName)) hown (mvT hZ (own_w 91 hw rfl)) (mvT hZ (own_w 92 hw rfl)) (notFace_of_selects (args := #[]) (mvT hZ (own_w 94 hw rfl))) (mvT hZ (own_w 94 hw rfl)) (mvT hZ (own_w 93 hw rfl)) (by decide) (backOf (W := 0) (rmCo l Z a0 hw [] rr qq (1 : Int64) pp ha NN fH hK n0 ZK y2 y3 y6 y7 hq hNN hzK (by decide)) hZ (own_w 95 hw rfl) (own_w 17 hw rfl) (by decide) (by decide)) q1640a q1640c (g := (mkF m 295 #[.val (.int p0), .val (.int p1), .val (.int p2), .val (.int p3), .val (.int p4), .val (.int p5), .val (.int (Int32.ofNat ia)), .val (.int (Int32.ofNat ib)), .val (.int (Int32.ofNat ic)), .val (.int u9), .val (.int u10), .val (.int u11), s12, .val (.int (Int32.ofNat qq)), .val (.ref pp), .val (.ref rr), .val (.ref ss), .val (.int 0), .val (.int 0)] [(.int (Int32.ofNat qq)), (.ref rr)])) rfl (by rw [hml]; rfl) (Steps.refl _) (argsL := [(.int (Int32.ofNat qq))]) (rest := []) (lenOf pd__28_I_29_Z rfl) rfl (by show 2 * 0 + _ ≤ _; exact Nat.le_of_eq rfl) (hb hby at_295) (fun _ _ => ⟨rfl, eK, (by decide : 23 + 0 ≤ _), (by decide : 1005 + 0 ≤ _)⟩)
                dsimp only [Pt.U, Pt.locs, Pt.cells, Pt.slots] at X1640 l1640 y1640 z1640 st1640 hQ1640
                subst l1640 y1640 z1640
                obtain ⟨rfl, N1640q, e1640q⟩ := hQ1640
                have N1640 := Fr.app NK N1640q
                refine own_s 298 [(.int (own_con fH qq (1 : Int64)))] (fun _ k_ => st1640.trans k_) ?_
                refine own_iload 300 X1640.here hx (hb hby at_298) rfl rfl ?_
                refine own_s 303 [] (fun _ k_ => XS.icmpNo X1640.here hx rfl (hb hby at_300) rfl (teq (hR.trans (if_neg (fun k => k.elim (fun k => hc245 ((own_inj hq (Nat.lt_trans la (by decide))).mpr k.1)) (fun k => hc262 k.2))))).2 k_) ?_
                refine own_aload 305 X1640.here hx (hb hby at_303) rfl rfl rfl ?_
                refine own_iload 307 X1640.here hx (hb hby at_305) rfl rfl ?_
                obtain ⟨cq1641, kq1641, q1641a, q1641b, q1641c⟩ := isOf hZ e1640q y1
                obtain ⟨vv1641, _, ⟨T1641, L1641, k1641, n1641⟩, -, X1641, ⟨Lc1641, hQ1641, l1641, y1641, z1641⟩, st1641⟩ := X1640.virtualBack hx (y := (⟨"com/example/adfair/adfair/Ranking", "contains", "(I)Z"⟩ : MethodName)) (z := (⟨"com/example/adfair/adfair/Ranking", "contains", "(I)Z"⟩ : MethodName)) hown (mvT hZ (own_w 91 hw rfl)) (mvT hZ (own_w 92 hw rfl)) (notFace_of_selects (args := #[]) (mvT hZ (own_w 94 hw rfl))) (mvT hZ (own_w 94 hw rfl)) (mvT hZ (own_w 93 hw rfl)) (by decide) (backOf (W := 0) (rmCo l Z a0 hw [] ss qq (2 : Int64) pp ha NN fH hK n0 ZK y4 y5 y6 y7 hq hNN hzK (by decide)) hZ (own_w 95 hw rfl) (own_w 17 hw rfl) (by decide) (by decide)) q1641a q1641c (g := (mkF m 307 #[.val (.int p0), .val (.int p1), .val (.int p2), .val (.int p3), .val (.int p4), .val (.int p5), .val (.int (Int32.ofNat ia)), .val (.int (Int32.ofNat ib)), .val (.int (Int32.ofNat ic)), .val (.int u9), .val (.int u10), .val (.int u11), s12, .val (.int (Int32.ofNat qq)), .val (.ref pp), .val (.ref rr), .val (.ref ss), .val (.int 0), .val (.int 0)] [(.int (Int32.ofNat qq)), (.ref ss)])) rfl (by rw [hml]; rfl) (Steps.refl _) (argsL := [(.int (Int32.ofNat qq))]) (rest := []) (lenOf pd__28_I_29_Z rfl) rfl (by show 2 * 0 + _ ≤ _; exact Nat.le_of_eq rfl) (hb hby at_307) (fun _ _ => ⟨rfl, e1640q, (by decide : 23 + 0 ≤ _), (by decide : 1005 + 0 ≤ _)⟩)
                dsimp only [Pt.U, Pt.locs, Pt.cells, Pt.slots] at X1641 l1641 y1641 z1641 st1641 hQ1641
                subst l1641 y1641 z1641
                obtain ⟨rfl, N1641q, e1641q⟩ := hQ1641
                have N1641 := Fr.app N1640 N1641q
                refine own_s 310 [(.int (own_con fH qq (2 : Int64)))] (fun _ k_ => st1641.trans k_) ?_
                refine own_iload 312 X1641.here hx (hb hby at_310) rfl rfl ?_
                refine own_s 315 [] (fun _ k_ => XS.icmpNo X1641.here hx rfl (hb hby at_312) rfl (teq (hS.trans (if_neg (fun k => hc281 k.2)))).2 k_) ?_
                refine own_s 316 [(.int 1)] (fun _ k_ => XS.iconst X1641.here hx rfl (hb hby at_315) k_) ?_
                refine own_s 320 [(.int 1)] (fun _ k_ => XS.goto X1641.here hx rfl (pc0 := 316) (pc' := 320) rfl (hb hby at_316) (by decide) (by decide) k_) ?_
                obtain ⟨fs, hr, hrun, hended, hW, hsame⟩ := X1641.leave (v := some (.int 1)) (fun h => by rw [Bd.returns] at h; cases h)
                refine own_at ?_ (hG _ _ ⟨hrun, hended, _, _, rfl, ?_, ⟨_, rfl⟩, hW, hsame.mono (by decide) (by decide)⟩)
                · show Steps p.tables e below (T1641.setTop (mkF m 320 #[.val (.int p0), .val (.int p1), .val (.int p2), .val (.int p3), .val (.int p4), .val (.int p5), .val (.int (Int32.ofNat ia)), .val (.int (Int32.ofNat ib)), .val (.int (Int32.ofNat ic)), .val (.int u9), .val (.int u10), .val (.int u11), s12, .val (.int (Int32.ofNat qq)), .val (.ref pp), .val (.ref rr), .val (.ref ss), .val (.int 0), .val (.int 0)] [(.int 1)])) _
                  exact retN X1641 hx (t := .boolean) Bd.returns (by simp) (hb hby at_320) hr
                · show Q0 Z p0 p1 p2 p3 p4 p5 h0 n0 _ T1641.heap _
                  rw [e1641q]
                  exact ⟨rfl, N1641⟩
            · refine own_s 288 [] (fun _ k_ => XS.icmpYes XK.here hx rfl (pc0 := 276) (pc' := 288) rfl (hb hby at_276) rfl (feq hc276).2 (by decide) (by decide) k_) ?_
              refine own_s 289 [(.int 0)] (fun _ k_ => XS.iconst XK.here hx rfl (hb hby at_288) k_) ?_
              refine own_istore 291 #[.val (.int p0), .val (.int p1), .val (.int p2), .val (.int p3), .val (.int p4), .val (.int p5), .val (.int (Int32.ofNat ia)), .val (.int (Int32.ofNat ib)), .val (.int (Int32.ofNat ic)), .val (.int u9), .val (.int u10), .val (.int u11), s12, .val (.int (Int32.ofNat qq)), .val (.ref pp), .val (.ref rr), .val (.ref ss), .val (.int 0), .val (.int 0)] XK.here hx (hb hby at_289) rfl rfl ?_
              refine own_aload 293 XK.here hx (hb hby at_291) rfl rfl rfl ?_
              refine own_iload 295 XK.here hx (hb hby at_293) rfl rfl ?_
              obtain ⟨cq1643, kq1643, q1643a, q1643b, q1643c⟩ := isOf hZ eK y0
              obtain ⟨vv1643, _, ⟨T1643, L1643, k1643, n1643⟩, -, X1643, ⟨Lc1643, hQ1643, l1643, y1643, z1643⟩, st1643⟩ := XK.virtualBack hx (y := (⟨"com/example/adfair/adfair/Ranking", "contains", "(I)Z"⟩ : MethodName)) (z := (⟨"com/example/adfair/adfair/Ranking", "contains", "(I)Z"⟩ : MethodName)) hown (mvT hZ (own_w 91 hw rfl)) (mvT hZ (own_w 92 hw rfl)) (notFace_of_selects (args := #[]) (mvT hZ (own_w 94 hw rfl))) (mvT hZ (own_w 94 hw rfl)) (mvT hZ (own_w 93 hw rfl)) (by decide) (backOf (W := 0) (rmCo l Z a0 hw [] rr qq (1 : Int64) pp ha NN fH hK n0 ZK y2 y3 y6 y7 hq hNN hzK (by decide)) hZ (own_w 95 hw rfl) (own_w 17 hw rfl) (by decide) (by decide)) q1643a q1643c (g := (mkF m 295 #[.val (.int p0), .val (.int p1), .val (.int p2), .val (.int p3), .val (.int p4), .val (.int p5), .val (.int (Int32.ofNat ia)), .val (.int (Int32.ofNat ib)), .val (.int (Int32.ofNat ic)), .val (.int u9), .val (.int u10), .val (.int u11), s12, .val (.int (Int32.ofNat qq)), .val (.ref pp), .val (.ref rr), .val (.ref ss), .val (.int 0), .val (.int 0)] [(.int (Int32.ofNat qq)), (.ref rr)])) rfl (by rw [hml]; rfl) (Steps.refl _) (argsL := [(.int (Int32.ofNat qq))]) (rest := []) (lenOf pd__28_I_29_Z rfl) rfl (by show 2 * 0 + _ ≤ _; exact Nat.le_of_eq rfl) (hb hby at_295) (fun _ _ => ⟨rfl, eK, (by decide : 23 + 0 ≤ _), (by decide : 1005 + 0 ≤ _)⟩)
              dsimp only [Pt.U, Pt.locs, Pt.cells, Pt.slots] at X1643 l1643 y1643 z1643 st1643 hQ1643
              subst l1643 y1643 z1643
              obtain ⟨rfl, N1643q, e1643q⟩ := hQ1643
              have N1643 := Fr.app NK N1643q
              refine own_s 298 [(.int (own_con fH qq (1 : Int64)))] (fun _ k_ => st1643.trans k_) ?_
              refine own_iload 300 X1643.here hx (hb hby at_298) rfl rfl ?_
              refine own_s 303 [] (fun _ k_ => XS.icmpNo X1643.here hx rfl (hb hby at_300) rfl (teq (hR.trans (if_neg (fun k => k.elim (fun k => hc245 ((own_inj hq (Nat.lt_trans la (by decide))).mpr k.1)) (fun k => hc262 k.2))))).2 k_) ?_
              refine own_aload 305 X1643.here hx (hb hby at_303) rfl rfl rfl ?_
              refine own_iload 307 X1643.here hx (hb hby at_305) rfl rfl ?_
              obtain ⟨cq1644, kq1644, q1644a, q1644b, q1644c⟩ := isOf hZ e1643q y1
              obtain ⟨vv1644, _, ⟨T1644, L1644, k1644, n1644⟩, -, X1644, ⟨Lc1644, hQ1644, l1644, y1644, z1644⟩, st1644⟩ := X1643.virtualBack hx (y := (⟨"com/example/adfair/adfair/Ranking", "contains", "(I)Z"⟩ : MethodName)) (z := (⟨"com/example/adfair/adfair/Ranking", "contains", "(I)Z"⟩ : MethodName)) hown (mvT hZ (own_w 91 hw rfl)) (mvT hZ (own_w 92 hw rfl)) (notFace_of_selects (args := #[]) (mvT hZ (own_w 94 hw rfl))) (mvT hZ (own_w 94 hw rfl)) (mvT hZ (own_w 93 hw rfl)) (by decide) (backOf (W := 0) (rmCo l Z a0 hw [] ss qq (2 : Int64) pp ha NN fH hK n0 ZK y4 y5 y6 y7 hq hNN hzK (by decide)) hZ (own_w 95 hw rfl) (own_w 17 hw rfl) (by decide) (by decide)) q1644a q1644c (g := (mkF m 307 #[.val (.int p0), .val (.int p1), .val (.int p2), .val (.int p3), .val (.int p4), .val (.int p5), .val (.int (Int32.ofNat ia)), .val (.int (Int32.ofNat ib)), .val (.int (Int32.ofNat ic)), .val (.int u9), .val (.int u10), .val (.int u11), s12, .val (.int (Int32.ofNat qq)), .val (.ref pp), .val (.ref rr), .val (.ref ss), .val (.int 0), .val (.int 0)] [(.int (Int32.ofNat qq)), (.ref ss)])) rfl (by rw [hml]; rfl) (Steps.refl _) (argsL := [(.int (Int32.ofNat qq))]) (rest := []) (lenOf pd__28_I_29_Z rfl) rfl (by show 2 * 0 + _ ≤ _; exact Nat.le_of_eq rfl) (hb hby at_307) (fun _ _ => ⟨rfl, e1643q, (by decide : 23 + 0 ≤ _), (by decide : 1005 + 0 ≤ _)⟩)
              dsimp only [Pt.U, Pt.locs, Pt.cells, Pt.slots] at X1644 l1644 y1644 z1644 st1644 hQ1644
              subst l1644 y1644 z1644
              obtain ⟨rfl, N1644q, e1644q⟩ := hQ1644
              have N1644 := Fr.app N1643 N1644q
              refine own_s 310 [(.int (own_con fH qq (2 : Int64)))] (fun _ k_ => st1644.trans k_) ?_
              refine own_iload 312 X1644.here hx (hb hby at_310) rfl rfl ?_
              refine own_s 315 [] (fun _ k_ => XS.icmpNo X1644.here hx rfl (hb hby at_312) rfl (teq (hS.trans (if_neg (fun k => hc276 ((own_inj hq (Nat.lt_trans lc (by decide))).mpr k.1))))).2 k_) ?_
              refine own_s 316 [(.int 1)] (fun _ k_ => XS.iconst X1644.here hx rfl (hb hby at_315) k_) ?_
              refine own_s 320 [(.int 1)] (fun _ k_ => XS.goto X1644.here hx rfl (pc0 := 316) (pc' := 320) rfl (hb hby at_316) (by decide) (by decide) k_) ?_
              obtain ⟨fs, hr, hrun, hended, hW, hsame⟩ := X1644.leave (v := some (.int 1)) (fun h => by rw [Bd.returns] at h; cases h)
              refine own_at ?_ (hG _ _ ⟨hrun, hended, _, _, rfl, ?_, ⟨_, rfl⟩, hW, hsame.mono (by decide) (by decide)⟩)
              · show Steps p.tables e below (T1644.setTop (mkF m 320 #[.val (.int p0), .val (.int p1), .val (.int p2), .val (.int p3), .val (.int p4), .val (.int p5), .val (.int (Int32.ofNat ia)), .val (.int (Int32.ofNat ib)), .val (.int (Int32.ofNat ic)), .val (.int u9), .val (.int u10), .val (.int u11), s12, .val (.int (Int32.ofNat qq)), .val (.ref pp), .val (.ref rr), .val (.ref ss), .val (.int 0), .val (.int 0)] [(.int 1)])) _
                exact retN X1644 hx (t := .boolean) Bd.returns (by simp) (hb hby at_320) hr
              · show Q0 Z p0 p1 p2 p3 p4 p5 h0 n0 _ T1644.heap _
                rw [e1644q]
                exact ⟨rfl, N1644⟩
        · refine own_s 269 [] (fun _ k_ => XS.icmpYes XK.here hx rfl (pc0 := 257) (pc' := 269) rfl (hb hby at_257) rfl (feq hc257).2 (by decide) (by decide) k_) ?_
          refine own_s 270 [(.int 0)] (fun _ k_ => XS.iconst XK.here hx rfl (hb hby at_269) k_) ?_
          refine own_istore 272 #[.val (.int p0), .val (.int p1), .val (.int p2), .val (.int p3), .val (.int p4), .val (.int p5), .val (.int (Int32.ofNat ia)), .val (.int (Int32.ofNat ib)), .val (.int (Int32.ofNat ic)), .val (.int u9), .val (.int u10), .val (.int u11), s12, .val (.int (Int32.ofNat qq)), .val (.ref pp), .val (.ref rr), .val (.ref ss), .val (.int 0), .unset] XK.here hx (hb hby at_270) rfl rfl ?_
          refine own_iload 274 XK.here hx (hb hby at_272) rfl rfl ?_
          refine own_iload 276 XK.here hx (hb hby at_274) rfl rfl ?_
          by_cases hc276 : (Int32.ofNat qq) = (Int32.ofNat ic)
          · refine own_s 279 [] (fun _ k_ => XS.icmpNo XK.here hx rfl (hb hby at_276) rfl (teq hc276).2 k_) ?_
            refine own_iload 281 XK.here hx (hb hby at_279) rfl rfl ?_
            by_cases hc281 : u11 = (0 : Int32)
            · refine own_s 284 [] (fun _ k_ => XS.ifNo XK.here hx rfl (hb hby at_281) rfl ((if0 _ _).trans (teq hc281).2) k_) ?_
              refine own_s 285 [(.int 1)] (fun _ k_ => XS.iconst XK.here hx rfl (hb hby at_284) k_) ?_
              refine own_s 289 [(.int 1)] (fun _ k_ => XS.goto XK.here hx rfl (pc0 := 285) (pc' := 289) rfl (hb hby at_285) (by decide) (by decide) k_) ?_
              refine own_istore 291 #[.val (.int p0), .val (.int p1), .val (.int p2), .val (.int p3), .val (.int p4), .val (.int p5), .val (.int (Int32.ofNat ia)), .val (.int (Int32.ofNat ib)), .val (.int (Int32.ofNat ic)), .val (.int u9), .val (.int u10), .val (.int u11), s12, .val (.int (Int32.ofNat qq)), .val (.ref pp), .val (.ref rr), .val (.ref ss), .val (.int 0), .val (.int 1)] XK.here hx (hb hby at_289) rfl rfl ?_
              refine own_aload 293 XK.here hx (hb hby at_291) rfl rfl rfl ?_
              refine own_iload 295 XK.here hx (hb hby at_293) rfl rfl ?_
              obtain ⟨cq1646, kq1646, q1646a, q1646b, q1646c⟩ := isOf hZ eK y0
              obtain ⟨vv1646, _, ⟨T1646, L1646, k1646, n1646⟩, -, X1646, ⟨Lc1646, hQ1646, l1646, y1646, z1646⟩, st1646⟩ := XK.virtualBack hx (y := (⟨"com/example/adfair/adfair/Ranking", "contains", "(I)Z"⟩ : MethodName)) (z := (⟨"com/example/adfair/adfair/Ranking", "contains", "(I)Z"⟩ : MethodName)) hown (mvT hZ (own_w 91 hw rfl)) (mvT hZ (own_w 92 hw rfl)) (notFace_of_selects (args := #[]) (mvT hZ (own_w 94 hw rfl))) (mvT hZ (own_w 94 hw rfl)) (mvT hZ (own_w 93 hw rfl)) (by decide) (backOf (W := 0) (rmCo l Z a0 hw [] rr qq (1 : Int64) pp ha NN fH hK n0 ZK y2 y3 y6 y7 hq hNN hzK (by decide)) hZ (own_w 95 hw rfl) (own_w 17 hw rfl) (by decide) (by decide)) q1646a q1646c (g := (mkF m 295 #[.val (.int p0), .val (.int p1), .val (.int p2), .val (.int p3), .val (.int p4), .val (.int p5), .val (.int (Int32.ofNat ia)), .val (.int (Int32.ofNat ib)), .val (.int (Int32.ofNat ic)), .val (.int u9), .val (.int u10), .val (.int u11), s12, .val (.int (Int32.ofNat qq)), .val (.ref pp), .val (.ref rr), .val (.ref ss), .val (.int 0), .val (.int 1)] [(.int (Int32.ofNat qq)), (.ref rr)])) rfl (by rw [hml]; rfl) (Steps.refl _) (argsL := [(.int (Int32.ofNat qq))]) (rest := []) (lenOf pd__28_I_29_Z rfl) rfl (by show 2 * 0 + _ ≤ _; exact Nat.le_of_eq rfl) (hb hby at_295) (fun _ _ => ⟨rfl, eK, (by decide : 23 + 0 ≤ _), (by decide : 1005 + 0 ≤ _)⟩)
              dsimp only [Pt.U, Pt.locs, Pt.cells, Pt.slots] at X1646 l1646 y1646 z1646 st1646 hQ1646
              subst l1646 y1646 z1646
              obtain ⟨rfl, N1646q, e1646q⟩ := hQ1646
              have N1646 := Fr.app NK N1646q
              refine own_s 298 [(.int (own_con fH qq (1 : Int64)))] (fun _ k_ => st1646.trans k_) ?_
              refine own_iload 300 X1646.here hx (hb hby at_298) rfl rfl ?_
              refine own_s 303 [] (fun _ k_ => XS.icmpNo X1646.here hx rfl (hb hby at_300) rfl (teq (hR.trans (if_neg (fun k => k.elim (fun k => hc245 ((own_inj hq (Nat.lt_trans la (by decide))).mpr k.1)) (fun k => hc257 ((own_inj hq (Nat.lt_trans lb (by decide))).mpr k.1)))))).2 k_) ?_
              refine own_aload 305 X1646.here hx (hb hby at_303) rfl rfl rfl ?_
              refine own_iload 307 X1646.here hx (hb hby at_305) rfl rfl ?_
              obtain ⟨cq1647, kq1647, q1647a, q1647b, q1647c⟩ := isOf hZ e1646q y1
              obtain ⟨vv1647, _, ⟨T1647, L1647, k1647, n1647⟩, -, X1647, ⟨Lc1647, hQ1647, l1647, y1647, z1647⟩, st1647⟩ := X1646.virtualBack hx (y := (⟨"com/example/adfair/adfair/Ranking", "contains", "(I)Z"⟩ : MethodName)) (z := (⟨"com/example/adfair/adfair/Ranking", "contains", "(I)Z"⟩ : MethodName)) hown (mvT hZ (own_w 91 hw rfl)) (mvT hZ (own_w 92 hw rfl)) (notFace_of_selects (args := #[]) (mvT hZ (own_w 94 hw rfl))) (mvT hZ (own_w 94 hw rfl)) (mvT hZ (own_w 93 hw rfl)) (by decide) (backOf (W := 0) (rmCo l Z a0 hw [] ss qq (2 : Int64) pp ha NN fH hK n0 ZK y4 y5 y6 y7 hq hNN hzK (by decide)) hZ (own_w 95 hw rfl) (own_w 17 hw rfl) (by decide) (by decide)) q1647a q1647c (g := (mkF m 307 #[.val (.int p0), .val (.int p1), .val (.int p2), .val (.int p3), .val (.int p4), .val (.int p5), .val (.int (Int32.ofNat ia)), .val (.int (Int32.ofNat ib)), .val (.int (Int32.ofNat ic)), .val (.int u9), .val (.int u10), .val (.int u11), s12, .val (.int (Int32.ofNat qq)), .val (.ref pp), .val (.ref rr), .val (.ref ss), .val (.int 0), .val (.int 1)] [(.int (Int32.ofNat qq)), (.ref ss)])) rfl (by rw [hml]; rfl) (Steps.refl _) (argsL := [(.int (Int32.ofNat qq))]) (rest := []) (lenOf pd__28_I_29_Z rfl) rfl (by show 2 * 0 + _ ≤ _; exact Nat.le_of_eq rfl) (hb hby at_307) (fun _ _ => ⟨rfl, e1646q, (by decide : 23 + 0 ≤ _), (by decide : 1005 + 0 ≤ _)⟩)
              dsimp only [Pt.U, Pt.locs, Pt.cells, Pt.slots] at X1647 l1647 y1647 z1647 st1647 hQ1647
              subst l1647 y1647 z1647
              obtain ⟨rfl, N1647q, e1647q⟩ := hQ1647
              have N1647 := Fr.app N1646 N1647q
              refine own_s 310 [(.int (own_con fH qq (2 : Int64)))] (fun _ k_ => st1647.trans k_) ?_
              refine own_iload 312 X1647.here hx (hb hby at_310) rfl rfl ?_
              refine own_s 315 [] (fun _ k_ => XS.icmpNo X1647.here hx rfl (hb hby at_312) rfl (teq (hS.trans (if_pos ⟨(own_inj hq (Nat.lt_trans lc (by decide))).mp hc276, hc281⟩))).2 k_) ?_
              refine own_s 316 [(.int 1)] (fun _ k_ => XS.iconst X1647.here hx rfl (hb hby at_315) k_) ?_
              refine own_s 320 [(.int 1)] (fun _ k_ => XS.goto X1647.here hx rfl (pc0 := 316) (pc' := 320) rfl (hb hby at_316) (by decide) (by decide) k_) ?_
              obtain ⟨fs, hr, hrun, hended, hW, hsame⟩ := X1647.leave (v := some (.int 1)) (fun h => by rw [Bd.returns] at h; cases h)
              refine own_at ?_ (hG _ _ ⟨hrun, hended, _, _, rfl, ?_, ⟨_, rfl⟩, hW, hsame.mono (by decide) (by decide)⟩)
              · show Steps p.tables e below (T1647.setTop (mkF m 320 #[.val (.int p0), .val (.int p1), .val (.int p2), .val (.int p3), .val (.int p4), .val (.int p5), .val (.int (Int32.ofNat ia)), .val (.int (Int32.ofNat ib)), .val (.int (Int32.ofNat ic)), .val (.int u9), .val (.int u10), .val (.int u11), s12, .val (.int (Int32.ofNat qq)), .val (.ref pp), .val (.ref rr), .val (.ref ss), .val (.int 0), .val (.int 1)] [(.int 1)])) _
                exact retN X1647 hx (t := .boolean) Bd.returns (by simp) (hb hby at_320) hr
              · show Q0 Z p0 p1 p2 p3 p4 p5 h0 n0 _ T1647.heap _
                rw [e1647q]
                exact ⟨rfl, N1647⟩
            · refine own_s 288 [] (fun _ k_ => XS.ifYes XK.here hx rfl (pc0 := 281) (pc' := 288) rfl (hb hby at_281) rfl ((if0 _ _).trans (feq hc281).2) (by decide) (by decide) k_) ?_
              refine own_s 289 [(.int 0)] (fun _ k_ => XS.iconst XK.here hx rfl (hb hby at_288) k_) ?_
              refine own_istore 291 #[.val (.int p0), .val (.int p1), .val (.int p2), .val (.int p3), .val (.int p4), .val (.int p5), .val (.int (Int32.ofNat ia)), .val (.int (Int32.ofNat ib)), .val (.int (Int32.ofNat ic)), .val (.int u9), .val (.int u10), .val (.int u11), s12, .val (.int (Int32.ofNat qq)), .val (.ref pp), .val (.ref rr), .val (.ref ss), .val (.int 0), .val (.int 0)] XK.here hx (hb hby at_289) rfl rfl ?_
              refine own_aload 293 XK.here hx (hb hby at_291) rfl rfl rfl ?_
              refine own_iload 295 XK.here hx (hb hby at_293) rfl rfl ?_
              obtain ⟨cq1649, kq1649, q1649a, q1649b, q1649c⟩ := isOf hZ eK y0
              obtain ⟨vv1649, _, ⟨T1649, L1649, k1649, n1649⟩, -, X1649, ⟨Lc1649, hQ1649, l1649, y1649, z1649⟩, st1649⟩ := XK.virtualBack hx (y := (⟨"com/example/adfair/adfair/Ranking", "contains", "(I)Z"⟩ : MethodName)) (z := (⟨"com/example/adfair/adfair/Ranking", "contains", "(I)Z"⟩ : MethodName)) hown (mvT hZ (own_w 91 hw rfl)) (mvT hZ (own_w 92 hw rfl)) (notFace_of_selects (args := #[]) (mvT hZ (own_w 94 hw rfl))) (mvT hZ (own_w 94 hw rfl)) (mvT hZ (own_w 93 hw rfl)) (by decide) (backOf (W := 0) (rmCo l Z a0 hw [] rr qq (1 : Int64) pp ha NN fH hK n0 ZK y2 y3 y6 y7 hq hNN hzK (by decide)) hZ (own_w 95 hw rfl) (own_w 17 hw rfl) (by decide) (by decide)) q1649a q1649c (g := (mkF m 295 #[.val (.int p0), .val (.int p1), .val (.int p2), .val (.int p3), .val (.int p4), .val (.int p5), .val (.int (Int32.ofNat ia)), .val (.int (Int32.ofNat ib)), .val (.int (Int32.ofNat ic)), .val (.int u9), .val (.int u10), .val (.int u11), s12, .val (.int (Int32.ofNat qq)), .val (.ref pp), .val (.ref rr), .val (.ref ss), .val (.int 0), .val (.int 0)] [(.int (Int32.ofNat qq)), (.ref rr)])) rfl (by rw [hml]; rfl) (Steps.refl _) (argsL := [(.int (Int32.ofNat qq))]) (rest := []) (lenOf pd__28_I_29_Z rfl) rfl (by show 2 * 0 + _ ≤ _; exact Nat.le_of_eq rfl) (hb hby at_295) (fun _ _ => ⟨rfl, eK, (by decide : 23 + 0 ≤ _), (by decide : 1005 + 0 ≤ _)⟩)
              dsimp only [Pt.U, Pt.locs, Pt.cells, Pt.slots] at X1649 l1649 y1649 z1649 st1649 hQ1649
              subst l1649 y1649 z1649
              obtain ⟨rfl, N1649q, e1649q⟩ := hQ1649
              have N1649 := Fr.app NK N1649q
              refine own_s 298 [(.int (own_con fH qq (1 : Int64)))] (fun _ k_ => st1649.trans k_) ?_
              refine own_iload 300 X1649.here hx (hb hby at_298) rfl rfl ?_
              refine own_s 303 [] (fun _ k_ => XS.icmpNo X1649.here hx rfl (hb hby at_300) rfl (teq (hR.trans (if_neg (fun k => k.elim (fun k => hc245 ((own_inj hq (Nat.lt_trans la (by decide))).mpr k.1)) (fun k => hc257 ((own_inj hq (Nat.lt_trans lb (by decide))).mpr k.1)))))).2 k_) ?_
              refine own_aload 305 X1649.here hx (hb hby at_303) rfl rfl rfl ?_
              refine own_iload 307 X1649.here hx (hb hby at_305) rfl rfl ?_
              obtain ⟨cq1650, kq1650, q1650a, q1650b, q1650c⟩ := isOf hZ e1649q y1
              obtain ⟨vv1650, _, ⟨T1650, L1650, k1650, n1650⟩, -, X1650, ⟨Lc1650, hQ1650, l1650, y1650, z1650⟩, st1650⟩ := X1649.virtualBack hx (y := (⟨"com/example/adfair/adfair/Ranking", "contains", "(I)Z"⟩ : MethodName)) (z := (⟨"com/example/adfair/adfair/Ranking", "contains", "(I)Z"⟩ : MethodName)) hown (mvT hZ (own_w 91 hw rfl)) (mvT hZ (own_w 92 hw rfl)) (notFace_of_selects (args := #[]) (mvT hZ (own_w 94 hw rfl))) (mvT hZ (own_w 94 hw rfl)) (mvT hZ (own_w 93 hw rfl)) (by decide) (backOf (W := 0) (rmCo l Z a0 hw [] ss qq (2 : Int64) pp ha NN fH hK n0 ZK y4 y5 y6 y7 hq hNN hzK (by decide)) hZ (own_w 95 hw rfl) (own_w 17 hw rfl) (by decide) (by decide)) q1650a q1650c (g := (mkF m 307 #[.val (.int p0), .val (.int p1), .val (.int p2), .val (.int p3), .val (.int p4), .val (.int p5), .val (.int (Int32.ofNat ia)), .val (.int (Int32.ofNat ib)), .val (.int (Int32.ofNat ic)), .val (.int u9), .val (.int u10), .val (.int u11), s12, .val (.int (Int32.ofNat qq)), .val (.ref pp), .val (.ref rr), .val (.ref ss), .val (.int 0), .val (.int 0)] [(.int (Int32.ofNat qq)), (.ref ss)])) rfl (by rw [hml]; rfl) (Steps.refl _) (argsL := [(.int (Int32.ofNat qq))]) (rest := []) (lenOf pd__28_I_29_Z rfl) rfl (by show 2 * 0 + _ ≤ _; exact Nat.le_of_eq rfl) (hb hby at_307) (fun _ _ => ⟨rfl, e1649q, (by decide : 23 + 0 ≤ _), (by decide : 1005 + 0 ≤ _)⟩)
              dsimp only [Pt.U, Pt.locs, Pt.cells, Pt.slots] at X1650 l1650 y1650 z1650 st1650 hQ1650
              subst l1650 y1650 z1650
              obtain ⟨rfl, N1650q, e1650q⟩ := hQ1650
              have N1650 := Fr.app N1649 N1650q
              refine own_s 310 [(.int (own_con fH qq (2 : Int64)))] (fun _ k_ => st1650.trans k_) ?_
              refine own_iload 312 X1650.here hx (hb hby at_310) rfl rfl ?_
              refine own_s 315 [] (fun _ k_ => XS.icmpNo X1650.here hx rfl (hb hby at_312) rfl (teq (hS.trans (if_neg (fun k => hc281 k.2)))).2 k_) ?_
              refine own_s 316 [(.int 1)] (fun _ k_ => XS.iconst X1650.here hx rfl (hb hby at_315) k_) ?_
              refine own_s 320 [(.int 1)] (fun _ k_ => XS.goto X1650.here hx rfl (pc0 := 316) (pc' := 320) rfl (hb hby at_316) (by decide) (by decide) k_) ?_
              obtain ⟨fs, hr, hrun, hended, hW, hsame⟩ := X1650.leave (v := some (.int 1)) (fun h => by rw [Bd.returns] at h; cases h)
              refine own_at ?_ (hG _ _ ⟨hrun, hended, _, _, rfl, ?_, ⟨_, rfl⟩, hW, hsame.mono (by decide) (by decide)⟩)
              · show Steps p.tables e below (T1650.setTop (mkF m 320 #[.val (.int p0), .val (.int p1), .val (.int p2), .val (.int p3), .val (.int p4), .val (.int p5), .val (.int (Int32.ofNat ia)), .val (.int (Int32.ofNat ib)), .val (.int (Int32.ofNat ic)), .val (.int u9), .val (.int u10), .val (.int u11), s12, .val (.int (Int32.ofNat qq)), .val (.ref pp), .val (.ref rr), .val (.ref ss), .val (.int 0), .val (.int 0)] [(.int 1)])) _
                exact retN X1650 hx (t := .boolean) Bd.returns (by simp) (hb hby at_320) hr
              · show Q0 Z p0 p1 p2 p3 p4 p5 h0 n0 _ T1650.heap _
                rw [e1650q]
                exact ⟨rfl, N1650⟩
          · refine own_s 288 [] (fun _ k_ => XS.icmpYes XK.here hx rfl (pc0 := 276) (pc' := 288) rfl (hb hby at_276) rfl (feq hc276).2 (by decide) (by decide) k_) ?_
            refine own_s 289 [(.int 0)] (fun _ k_ => XS.iconst XK.here hx rfl (hb hby at_288) k_) ?_
            refine own_istore 291 #[.val (.int p0), .val (.int p1), .val (.int p2), .val (.int p3), .val (.int p4), .val (.int p5), .val (.int (Int32.ofNat ia)), .val (.int (Int32.ofNat ib)), .val (.int (Int32.ofNat ic)), .val (.int u9), .val (.int u10), .val (.int u11), s12, .val (.int (Int32.ofNat qq)), .val (.ref pp), .val (.ref rr), .val (.ref ss), .val (.int 0), .val (.int 0)] XK.here hx (hb hby at_289) rfl rfl ?_
            refine own_aload 293 XK.here hx (hb hby at_291) rfl rfl rfl ?_
            refine own_iload 295 XK.here hx (hb hby at_293) rfl rfl ?_
            obtain ⟨cq1652, kq1652, q1652a, q1652b, q1652c⟩ := isOf hZ eK y0
            obtain ⟨vv1652, _, ⟨T1652, L1652, k1652, n1652⟩, -, X1652, ⟨Lc1652, hQ1652, l1652, y1652, z1652⟩, st1652⟩ := XK.virtualBack hx (y := (⟨"com/example/adfair/adfair/Ranking", "contains", "(I)Z"⟩ : MethodName)) (z := (⟨"com/example/adfair/adfair/Ranking", "contains", "(I)Z"⟩ : MethodName)) hown (mvT hZ (own_w 91 hw rfl)) (mvT hZ (own_w 92 hw rfl)) (notFace_of_selects (args := #[]) (mvT hZ (own_w 94 hw rfl))) (mvT hZ (own_w 94 hw rfl)) (mvT hZ (own_w 93 hw rfl)) (by decide) (backOf (W := 0) (rmCo l Z a0 hw [] rr qq (1 : Int64) pp ha NN fH hK n0 ZK y2 y3 y6 y7 hq hNN hzK (by decide)) hZ (own_w 95 hw rfl) (own_w 17 hw rfl) (by decide) (by decide)) q1652a q1652c (g := (mkF m 295 #[.val (.int p0), .val (.int p1), .val (.int p2), .val (.int p3), .val (.int p4), .val (.int p5), .val (.int (Int32.ofNat ia)), .val (.int (Int32.ofNat ib)), .val (.int (Int32.ofNat ic)), .val (.int u9), .val (.int u10), .val (.int u11), s12, .val (.int (Int32.ofNat qq)), .val (.ref pp), .val (.ref rr), .val (.ref ss), .val (.int 0), .val (.int 0)] [(.int (Int32.ofNat qq)), (.ref rr)])) rfl (by rw [hml]; rfl) (Steps.refl _) (argsL := [(.int (Int32.ofNat qq))]) (rest := []) (lenOf pd__28_I_29_Z rfl) rfl (by show 2 * 0 + _ ≤ _; exact Nat.le_of_eq rfl) (hb hby at_295) (fun _ _ => ⟨rfl, eK, (by decide : 23 + 0 ≤ _), (by decide : 1005 + 0 ≤ _)⟩)
            dsimp only [Pt.U, Pt.locs, Pt.cells, Pt.slots] at X1652 l1652 y1652 z1652 st1652 hQ1652
            subst l1652 y1652 z1652
            obtain ⟨rfl, N1652q, e1652q⟩ := hQ1652
            have N1652 := Fr.app NK N1652q
            refine own_s 298 [(.int (own_con fH qq (1 : Int64)))] (fun _ k_ => st1652.trans k_) ?_
            refine own_iload 300 X1652.here hx (hb hby at_298) rfl rfl ?_
            refine own_s 303 [] (fun _ k_ => XS.icmpNo X1652.here hx rfl (hb hby at_300) rfl (teq (hR.trans (if_neg (fun k => k.elim (fun k => hc245 ((own_inj hq (Nat.lt_trans la (by decide))).mpr k.1)) (fun k => hc257 ((own_inj hq (Nat.lt_trans lb (by decide))).mpr k.1)))))).2 k_) ?_
            refine own_aload 305 X1652.here hx (hb hby at_303) rfl rfl rfl ?_
            refine own_iload 307 X1652.here hx (hb hby at_305) rfl rfl ?_
            obtain ⟨cq1653, kq1653, q1653a, q1653b, q1653c⟩ := isOf hZ e1652q y1
            obtain ⟨vv1653, _, ⟨T1653, L1653, k1653, n1653⟩, -, X1653, ⟨Lc1653, hQ1653, l1653, y1653, z1653⟩, st1653⟩ := X1652.virtualBack hx (y := (⟨"com/example/adfair/adfair/Ranking", "contains", "(I)Z"⟩ : MethodName)) (z := (⟨"com/example/adfair/adfair/Ranking", "contains", "(I)Z"⟩ : MethodName)) hown (mvT hZ (own_w 91 hw rfl)) (mvT hZ (own_w 92 hw rfl)) (notFace_of_selects (args := #[]) (mvT hZ (own_w 94 hw rfl))) (mvT hZ (own_w 94 hw rfl)) (mvT hZ (own_w 93 hw rfl)) (by decide) (backOf (W := 0) (rmCo l Z a0 hw [] ss qq (2 : Int64) pp ha NN fH hK n0 ZK y4 y5 y6 y7 hq hNN hzK (by decide)) hZ (own_w 95 hw rfl) (own_w 17 hw rfl) (by decide) (by decide)) q1653a q1653c (g := (mkF m 307 #[.val (.int p0), .val (.int p1), .val (.int p2), .val (.int p3), .val (.int p4), .val (.int p5), .val (.int (Int32.ofNat ia)), .val (.int (Int32.ofNat ib)), .val (.int (Int32.ofNat ic)), .val (.int u9), .val (.int u10), .val (.int u11), s12, .val (.int (Int32.ofNat qq)), .val (.ref pp), .val (.ref rr), .val (.ref ss), .val (.int 0), .val (.int 0)] [(.int (Int32.ofNat qq)), (.ref ss)])) rfl (by rw [hml]; rfl) (Steps.refl _) (argsL := [(.int (Int32.ofNat qq))]) (rest := []) (lenOf pd__28_I_29_Z rfl) rfl (by show 2 * 0 + _ ≤ _; exact Nat.le_of_eq rfl) (hb hby at_307) (fun _ _ => ⟨rfl, e1652q, (by decide : 23 + 0 ≤ _), (by decide : 1005 + 0 ≤ _)⟩)
            dsimp only [Pt.U, Pt.locs, Pt.cells, Pt.slots] at X1653 l1653 y1653 z1653 st1653 hQ1653
            subst l1653 y1653 z1653
            obtain ⟨rfl, N1653q, e1653q⟩ := hQ1653
            have N1653 := Fr.app N1652 N1653q
            refine own_s 310 [(.int (own_con fH qq (2 : Int64)))] (fun _ k_ => st1653.trans k_) ?_
            refine own_iload 312 X1653.here hx (hb hby at_310) rfl rfl ?_
            refine own_s 315 [] (fun _ k_ => XS.icmpNo X1653.here hx rfl (hb hby at_312) rfl (teq (hS.trans (if_neg (fun k => hc276 ((own_inj hq (Nat.lt_trans lc (by decide))).mpr k.1))))).2 k_) ?_
            refine own_s 316 [(.int 1)] (fun _ k_ => XS.iconst X1653.here hx rfl (hb hby at_315) k_) ?_
            refine own_s 320 [(.int 1)] (fun _ k_ => XS.goto X1653.here hx rfl (pc0 := 316) (pc' := 320) rfl (hb hby at_316) (by decide) (by decide) k_) ?_
            obtain ⟨fs, hr, hrun, hended, hW, hsame⟩ := X1653.leave (v := some (.int 1)) (fun h => by rw [Bd.returns] at h; cases h)
            refine own_at ?_ (hG _ _ ⟨hrun, hended, _, _, rfl, ?_, ⟨_, rfl⟩, hW, hsame.mono (by decide) (by decide)⟩)
            · show Steps p.tables e below (T1653.setTop (mkF m 320 #[.val (.int p0), .val (.int p1), .val (.int p2), .val (.int p3), .val (.int p4), .val (.int p5), .val (.int (Int32.ofNat ia)), .val (.int (Int32.ofNat ib)), .val (.int (Int32.ofNat ic)), .val (.int u9), .val (.int u10), .val (.int u11), s12, .val (.int (Int32.ofNat qq)), .val (.ref pp), .val (.ref rr), .val (.ref ss), .val (.int 0), .val (.int 0)] [(.int 1)])) _
              exact retN X1653 hx (t := .boolean) Bd.returns (by simp) (hb hby at_320) hr
            · show Q0 Z p0 p1 p2 p3 p4 p5 h0 n0 _ T1653.heap _
              rw [e1653q]
              exact ⟨rfl, N1653⟩
    have K205_0 : ∀ (TK : State) (LK : List Loc) (hK : Heap) (rr ss pp pa ha qr qs : Addr) (cr cs : ClassId) (NN : Nat), Stand p l e room_1 s m #[(.int p0), (.int p1), (.int p2), (.int p3), (.int p4), (.int p5)] below meth c TK LK 23 1005 → TK.heap = hK → Fr n0 LK → n0 ≤ hK.size → Exa Z hK rr "com/example/adfair/adfair/Ranking" → Exa Z hK ss "com/example/adfair/adfair/Ranking" → Fld Z hK rr "com/example/adfair/adfair/Ranking" "places" "Lcom/example/adfair/adfair/Ranking$Places;" (.ref pp) → Fld Z hK rr "com/example/adfair/adfair/Ranking" "number" "J" (.long 1) → Fld Z hK rr "com/example/adfair/adfair/Ranking" "queued" "[I" (.ref qr) → Fld Z hK rr "com/example/adfair/adfair/Ranking" "queueFirst" "I" (.int 0) → Fld Z hK rr "com/example/adfair/adfair/Ranking" "queueSize" "I" (.int 2) → Arv Z hK qr cr .int (16 : Int32) [(.int (Int32.ofNat ia)), (.int (Int32.ofNat ib)), (.int 0), (.int 0), (.int 0), (.int 0), (.int 0), (.int 0), (.int 0), (.int 0), (.int 0), (.int 0), (.int 0), (.int 0), (.int 0), (.int 0)] (.int 0) → Fld Z hK ss "com/example/adfair/adfair/Ranking" "places" "Lcom/example/adfair/adfair/Ranking$Places;" (.ref pp) → Fld Z hK ss "com/example/adfair/adfair/Ranking" "number" "J" (.long 2) → Fld Z hK ss "com/example/adfair/adfair/Ranking" "queued" "[I" (.ref qs) → Fld Z hK ss "com/example/adfair/adfair/Ranking" "queueFirst" "I" (.int 0) → Fld Z hK ss "com/example/adfair/adfair/Ranking" "queueSize" "I" (.int 1) → Arv Z hK qs cs .int (16 : Int32) [(.int (Int32.ofNat ic)), (.int 0), (.int 0), (.int 0), (.int 0), (.int 0), (.int 0), (.int 0), (.int 0), (.int 0), (.int 0), (.int 0), (.int 0), (.int 0), (.int 0), (.int 0)] (.int 0) → Fld Z hK pp "com/example/adfair/adfair/Ranking$Places" "holder" "[J" (.ref ha) → Fld Z hK pp "com/example/adfair/adfair/Ranking$Places" "place" "[I" (.ref pa) → own_LN Z hK ha NN (own_upd (own_upd (own_upd (fun _ => 0) ia (1 : Int64)) ib (1 : Int64)) ic (2 : Int64)) → own_IN Z hK pa NN (own_updI (own_updI (own_updI (fun _ => 0) ia (-2 : Int32)) ib (-2 : Int32)) ic (-2 : Int32)) → rr ≠ ss → rr ≠ pp → rr ≠ pa → rr ≠ ha → rr ≠ qr → rr ≠ qs → ss ≠ pp → ss ≠ pa → ss ≠ ha → ss ≠ qr → ss ≠ qs → pp ≠ pa → pp ≠ ha → pp ≠ qr → pp ≠ qs → pa ≠ ha → pa ≠ qr → pa ≠ qs → ha ≠ qr → ha ≠ qs → qr ≠ qs → n0 ≤ rr → n0 ≤ ss → n0 ≤ ha → n0 ≤ qr → n0 ≤ qs → ia < NN → ib < NN → ic < NN → NN ≤ 126 → own_z (own_upd (own_upd (own_upd (fun _ => 0) ia (1 : Int64)) ib (1 : Int64)) ic (2 : Int64)) NN → own_R p.tables e below G (TK.setTop (mkF m 205 #[.val (.int p0), .val (.int p1), .val (.int p2), .val (.int p3), .val (.int p4), .val (.int p5), .val (.int (Int32.ofNat ia)), .val (.int (Int32.ofNat ib)), .val (.int (Int32.ofNat ic)), .val (.int u9), .val (.int u10), .val (.int u11), s12, .val (.int (Int32.ofNat qq)), .val (.ref pp), .val (.ref rr), .val (.ref ss), .unset, .unset] [])) := by
      intro TK LK hK rr ss pp pa ha qr qs cr cs NN XK eK NK ZK y0 y1 y2 y3 y4 y5 y6 y7 y8 y9 y10 y11 y12 y13 y14 y15 y16 y17 ne_rr_ss ne_rr_pp ne_rr_pa ne_rr_ha ne_rr_qr ne_rr_qs ne_ss_pp ne_ss_pa ne_ss_ha ne_ss_qr ne_ss_qs ne_pp_pa ne_pp_ha ne_pp_qr ne_pp_qs ne_pa_ha ne_pa_qr ne_pa_qs ne_ha_qr ne_ha_qs ne_qr_qs g_rr g_ss g_ha g_qr g_qs hlt_ia hlt_ib hlt_ic hNN hz1b
      refine own_iload 207 XK.here hx (hb hby at_205) rfl rfl ?_
      by_cases hc207 : u9 = (0 : Int32)
      · refine own_s 217 [] (fun _ k_ => XS.ifYes XK.here hx rfl (pc0 := 207) (pc' := 217) rfl (hb hby at_207) rfl ((if0 _ _).trans (teq hc207).1) (by decide) (by decide) k_) ?_
        refine own_iload 219 XK.here hx (hb hby at_217) rfl rfl ?_
        by_cases hc219 : u10 = (0 : Int32)
        · refine own_s 229 [] (fun _ k_ => XS.ifYes XK.here hx rfl (pc0 := 219) (pc' := 229) rfl (hb hby at_219) rfl ((if0 _ _).trans (teq hc219).1) (by decide) (by decide) k_) ?_
          refine own_iload 231 XK.here hx (hb hby at_229) rfl rfl ?_
          by_cases hc231 : u11 = (0 : Int32)
          · refine own_s 241 [] (fun _ k_ => XS.ifYes XK.here hx rfl (pc0 := 231) (pc' := 241) rfl (hb hby at_231) rfl ((if0 _ _).trans (teq hc231).1) (by decide) (by decide) k_) ?_
            exact K241 _ _ _ _ _ _ _ _ _ XK eK NK ZK y0 y1 y2 y3 y8 y9 y14 y16 hNN hz1b (own_fin_000 hab hac hbc hc207 hc219 hc231)
          · refine own_s 234 [] (fun _ k_ => XS.ifNo XK.here hx rfl (hb hby at_231) rfl ((if0 _ _).trans (feq hc231).1) k_) ?_
            refine own_aload 236 XK.here hx (hb hby at_234) rfl rfl rfl ?_
            refine own_iload 238 XK.here hx (hb hby at_236) rfl rfl ?_
            obtain ⟨cq1655, kq1655, q1655a, q1655b, q1655c⟩ := isOf hZ eK y1
            obtain ⟨vv1655, _, ⟨T1655, L1655, k1655, n1655⟩, -, X1655, ⟨Lc1655, hQ1655, l1655, y1655, z1655⟩, st1655⟩ := XK.virtualBack hx (y := (⟨"com/example/adfair/adfair/Ranking", "remove", "(I)V"⟩ : MethodName)) (z := (⟨"com/example/adfair/adfair/Ranking", "remove", "(I)V"⟩ : MethodName)) hown (mvT hZ (own_w 96 hw rfl)) (mvT hZ (own_w 97 hw rfl)) (notFace_of_selects (args := #[]) (mvT hZ (own_w 99 hw rfl))) (mvT hZ (own_w 99 hw rfl)) (mvT hZ (own_w 98 hw rfl)) (by decide) (backOf (W := 0) (rmReC l Z a0 hw [] ss ic (2 : Int64) pp pa ha qs cs NN (own_upd (own_upd (own_upd (fun _ => 0) ia (1 : Int64)) ib (1 : Int64)) ic (2 : Int64)) (own_updI (own_updI (own_updI (fun _ => 0) ia (-2 : Int32)) ib (-2 : Int32)) ic (-2 : Int32)) hK n0 ZK y1 y8 y9 y10 y11 y12 y14 y15 y16 y17 y13 ne_ss_pp ne_ss_pa ne_ss_ha ne_ss_qs ne_pp_pa ne_pp_ha ne_pp_qs ne_pa_ha ne_pa_qs ne_ha_qs g_ss g_ha g_qs hlt_ic hNN hz1b (by decide) (by simp [own_upd, own_updI, hab, hac, hbc, hab.symm, hac.symm, hbc.symm]) (by simp [own_upd, own_updI, hab, hac, hbc, hab.symm, hac.symm, hbc.symm])) hZ (own_w 100 hw rfl) (own_w 17 hw rfl) (by decide) (by decide)) q1655a q1655c (g := (mkF m 238 #[.val (.int p0), .val (.int p1), .val (.int p2), .val (.int p3), .val (.int p4), .val (.int p5), .val (.int (Int32.ofNat ia)), .val (.int (Int32.ofNat ib)), .val (.int (Int32.ofNat ic)), .val (.int u9), .val (.int u10), .val (.int u11), s12, .val (.int (Int32.ofNat qq)), .val (.ref pp), .val (.ref rr), .val (.ref ss), .unset, .unset] [(.int (Int32.ofNat ic)), (.ref ss)])) rfl (by rw [hml]; rfl) (Steps.refl _) (argsL := [(.int (Int32.ofNat ic))]) (rest := []) (lenOf pd__28_I_29_V rfl) rfl (by show 2 * 0 + _ ≤ _; exact Nat.le_of_eq rfl) (hb hby at_238) (fun _ _ => ⟨rfl, eK, (by decide : 23 + 0 ≤ _), (by decide : 1005 + 0 ≤ _)⟩)
            dsimp only [Pt.U, Pt.locs, Pt.cells, Pt.slots] at X1655 l1655 y1655 z1655 st1655 hQ1655
            subst l1655 y1655 z1655
            obtain ⟨rfl, N1655q, K1655, v1655_0, v1655_1, v1655_2, v1655_3, v1655_4, v1655_5, v1655_6⟩ := hQ1655
            have N1655 := Fr.app NK N1655q
            have f1656 := y0.keep K1655
            have f1657 := y1.keep K1655
            have f1658 := y2.keep K1655 (ninS ne_rr_ss (ninS ne_rr_qs (ninS ne_rr_ha nin0)))
            have f1659 := y3.keep K1655 (ninS ne_rr_ss (ninS ne_rr_qs (ninS ne_rr_ha nin0)))
            have f1664 := y14.keep K1655 (ninS (Ne.symm ne_ss_pp) (ninS ne_pp_qs (ninS ne_pp_ha nin0)))
            have Z1655 : n0 ≤ T1655.heap.size := Nat.le_trans ZK K1655.1
            refine own_s 241 [] (fun _ k_ => st1655.trans k_) ?_
            have hz1_1667 : own_z (own_upd (own_upd (own_upd (own_upd (fun _ => 0) ia (1 : Int64)) ib (1 : Int64)) ic (2 : Int64)) ic (0 : Int64)) NN := own_z.upd hz1b hlt_ic
            exact K241 _ _ _ _ _ _ _ _ _ X1655 rfl N1655 Z1655 f1656 f1657 f1658 f1659 v1655_0 v1655_1 f1664 v1655_5 hNN hz1_1667 (own_fin_001 hab hac hbc hc207 hc219 hc231)
        · refine own_s 222 [] (fun _ k_ => XS.ifNo XK.here hx rfl (hb hby at_219) rfl ((if0 _ _).trans (feq hc219).1) k_) ?_
          refine own_aload 224 XK.here hx (hb hby at_222) rfl rfl rfl ?_
          refine own_iload 226 XK.here hx (hb hby at_224) rfl rfl ?_
          obtain ⟨cq1668, kq1668, q1668a, q1668b, q1668c⟩ := isOf hZ eK y0
          obtain ⟨vv1668, _, ⟨T1668, L1668, k1668, n1668⟩, -, X1668, ⟨Lc1668, hQ1668, l1668, y1668, z1668⟩, st1668⟩ := XK.virtualBack hx (y := (⟨"com/example/adfair/adfair/Ranking", "remove", "(I)V"⟩ : MethodName)) (z := (⟨"com/example/adfair/adfair/Ranking", "remove", "(I)V"⟩ : MethodName)) hown (mvT hZ (own_w 96 hw rfl)) (mvT hZ (own_w 97 hw rfl)) (notFace_of_selects (args := #[]) (mvT hZ (own_w 99 hw rfl))) (mvT hZ (own_w 99 hw rfl)) (mvT hZ (own_w 98 hw rfl)) (by decide) (backOf (W := 0) (rmReBE l Z a0 hw [] rr ib (1 : Int64) pp pa ha qr cr NN (own_upd (own_upd (own_upd (fun _ => 0) ia (1 : Int64)) ib (1 : Int64)) ic (2 : Int64)) (own_updI (own_updI (own_updI (fun _ => 0) ia (-2 : Int32)) ib (-2 : Int32)) ic (-2 : Int32)) ia hK n0 ZK y0 y2 y3 y4 y5 y6 y14 y15 y16 y17 y7 ne_rr_pp ne_rr_pa ne_rr_ha ne_rr_qr ne_pp_pa ne_pp_ha ne_pp_qr ne_pa_ha ne_pa_qr ne_ha_qr g_rr g_ha g_qr hlt_ib hNN hz1b (by decide) (by simp [own_upd, own_updI, hab, hac, hbc, hab.symm, hac.symm, hbc.symm]) (by simp [own_upd, own_updI, hab, hac, hbc, hab.symm, hac.symm, hbc.symm]) hab la) hZ (own_w 100 hw rfl) (own_w 17 hw rfl) (by decide) (by decide)) q1668a q1668c (g := (mkF m 226 #[.val (.int p0), .val (.int p1), .val (.int p2), .val (.int p3), .val (.int p4), .val (.int p5), .val (.int (Int32.ofNat ia)), .val (.int (Int32.ofNat ib)), .val (.int (Int32.ofNat ic)), .val (.int u9), .val (.int u10), .val (.int u11), s12, .val (.int (Int32.ofNat qq)), .val (.ref pp), .val (.ref rr), .val (.ref ss), .unset, .unset] [(.int (Int32.ofNat ib)), (.ref rr)])) rfl (by rw [hml]; rfl) (Steps.refl _) (argsL := [(.int (Int32.ofNat ib))]) (rest := []) (lenOf pd__28_I_29_V rfl) rfl (by show 2 * 0 + _ ≤ _; exact Nat.le_of_eq rfl) (hb hby at_226) (fun _ _ => ⟨rfl, eK, (by decide : 23 + 0 ≤ _), (by decide : 1005 + 0 ≤ _)⟩)
          dsimp only [Pt.U, Pt.locs, Pt.cells, Pt.slots] at X1668 l1668 y1668 z1668 st1668 hQ1668
          subst l1668 y1668 z1668
          obtain ⟨rfl, N1668q, K1668, v1668_0, v1668_1, v1668_2, v1668_3, v1668_4, v1668_5, v1668_6⟩ := hQ1668
          have N1668 := Fr.app NK N1668q
          have f1669 := y0.keep K1668
          have f1670 := y1.keep K1668
          have f1671 := y8.keep K1668 (ninS (Ne.symm ne_rr_ss) (ninS ne_ss_qr (ninS ne_ss_ha nin0)))
          have f1672 := y9.keep K1668 (ninS (Ne.symm ne_rr_ss) (ninS ne_ss_qr (ninS ne_ss_ha nin0)))
          have f1673 := y10.keep K1668 (ninS (Ne.symm ne_rr_ss) (ninS ne_ss_qr (ninS ne_ss_ha nin0)))
          have f1674 := y11.keep K1668 (ninS (Ne.symm ne_rr_ss) (ninS ne_ss_qr (ninS ne_ss_ha nin0)))
          have f1675 := y12.keep K1668 (ninS (Ne.symm ne_rr_ss) (ninS ne_ss_qr (ninS ne_ss_ha nin0)))
          have f1676 := y13.keep K1668 (ninS (Ne.symm ne_rr_qs) (ninS (Ne.symm ne_qr_qs) (ninS (Ne.symm ne_ha_qs) nin0)))
          have f1677 := y14.keep K1668 (ninS (Ne.symm ne_rr_pp) (ninS ne_pp_qr (ninS ne_pp_ha nin0)))
          have f1678 := y15.keep K1668 (ninS (Ne.symm ne_rr_pp) (ninS ne_pp_qr (ninS ne_pp_ha nin0)))
          have f1679 := y17.keep K1668 (ninS (Ne.symm ne_rr_pa) (ninS ne_pa_qr (ninS ne_pa_ha nin0)))
          have Z1668 : n0 ≤ T1668.heap.size := Nat.le_trans ZK K1668.1
          refine own_s 229 [] (fun _ k_ => st1668.trans k_) ?_
          have hz1_1680 : own_z (own_upd (own_upd (own_upd (own_upd (fun _ => 0) ia (1 : Int64)) ib (1 : Int64)) ic (2 : Int64)) ib (0 : Int64)) NN := own_z.upd hz1b hlt_ib
          refine own_iload 231 X1668.here hx (hb hby at_229) rfl rfl ?_
          by_cases hc231 : u11 = (0 : Int32)
          · refine own_s 241 [] (fun _ k_ => XS.ifYes X1668.here hx rfl (pc0 := 231) (pc' := 241) rfl (hb hby at_231) rfl ((if0 _ _).trans (teq hc231).1) (by decide) (by decide) k_) ?_
            exact K241 _ _ _ _ _ _ _ _ _ X1668 rfl N1668 Z1668 f1669 f1670 v1668_0 v1668_1 f1671 f1672 f1677 v1668_5 hNN hz1_1680 (own_fin_010 hab hac hbc hc207 hc219 hc231)
          · refine own_s 234 [] (fun _ k_ => XS.ifNo X1668.here hx rfl (hb hby at_231) rfl ((if0 _ _).trans (feq hc231).1) k_) ?_
            refine own_aload 236 X1668.here hx (hb hby at_234) rfl rfl rfl ?_
            refine own_iload 238 X1668.here hx (hb hby at_236) rfl rfl ?_
            obtain ⟨cq1681, kq1681, q1681a, q1681b, q1681c⟩ := isOf hZ rfl f1670
            obtain ⟨vv1681, _, ⟨T1681, L1681, k1681, n1681⟩, -, X1681, ⟨Lc1681, hQ1681, l1681, y1681, z1681⟩, st1681⟩ := X1668.virtualBack hx (y := (⟨"com/example/adfair/adfair/Ranking", "remove", "(I)V"⟩ : MethodName)) (z := (⟨"com/example/adfair/adfair/Ranking", "remove", "(I)V"⟩ : MethodName)) hown (mvT hZ (own_w 96 hw rfl)) (mvT hZ (own_w 97 hw rfl)) (notFace_of_selects (args := #[]) (mvT hZ (own_w 99 hw rfl))) (mvT hZ (own_w 99 hw rfl)) (mvT hZ (own_w 98 hw rfl)) (by decide) (backOf (W := 0) (rmReC l Z a0 hw [] ss ic (2 : Int64) pp pa ha qs cs NN (own_upd (own_upd (own_upd (own_upd (fun _ => 0) ia (1 : Int64)) ib (1 : Int64)) ic (2 : Int64)) ib (0 : Int64)) (own_updI (own_updI (own_updI (fun _ => 0) ia (-2 : Int32)) ib (-2 : Int32)) ic (-2 : Int32)) (T1668.heap) n0 Z1668 f1670 f1671 f1672 f1673 f1674 f1675 f1677 f1678 v1668_5 f1679 f1676 ne_ss_pp ne_ss_pa ne_ss_ha ne_ss_qs ne_pp_pa ne_pp_ha ne_pp_qs ne_pa_ha ne_pa_qs ne_ha_qs g_ss g_ha g_qs hlt_ic hNN hz1_1680 (by decide) (by simp [own_upd, own_updI, hab, hac, hbc, hab.symm, hac.symm, hbc.symm]) (by simp [own_upd, own_updI, hab, hac, hbc, hab.symm, hac.symm, hbc.symm])) hZ (own_w 100 hw rfl) (own_w 17 hw rfl) (by decide) (by decide)) q1681a q1681c (g := (mkF m 238 #[.val (.int p0), .val (.int p1), .val (.int p2), .val (.int p3), .val (.int p4), .val (.int p5), .val (.int (Int32.ofNat ia)), .val (.int (Int32.ofNat ib)), .val (.int (Int32.ofNat ic)), .val (.int u9), .val (.int u10), .val (.int u11), s12, .val (.int (Int32.ofNat qq)), .val (.ref pp), .val (.ref rr), .val (.ref ss), .unset, .unset] [(.int (Int32.ofNat ic)), (.ref ss)])) rfl (by rw [hml]; rfl) (Steps.refl _) (argsL := [(.int (Int32.ofNat ic))]) (rest := []) (lenOf pd__28_I_29_V rfl) rfl (by show 2 * 0 + _ ≤ _; exact Nat.le_of_eq rfl) (hb hby at_238) (fun _ _ => ⟨rfl, rfl, (by decide : 23 + 0 ≤ _), (by decide : 1005 + 0 ≤ _)⟩)
            dsimp only [Pt.U, Pt.locs, Pt.cells, Pt.slots] at X1681 l1681 y1681 z1681 st1681 hQ1681
            subst l1681 y1681 z1681
            obtain ⟨rfl, N1681q, K1681, v1681_0, v1681_1, v1681_2, v1681_3, v1681_4, v1681_5, v1681_6⟩ := hQ1681
            have N1681 := Fr.app N1668 N1681q
            have f1682 := f1669.keep K1681
            have f1683 := f1670.keep K1681
            have f1684 := f1677.keep K1681 (ninS (Ne.symm ne_ss_pp) (ninS ne_pp_qs (ninS ne_pp_ha nin0)))
            have f1687 := v1668_0.keep K1681 (ninS ne_rr_ss (ninS ne_rr_qs (ninS ne_rr_ha nin0)))
            have f1688 := v1668_1.keep K1681 (ninS ne_rr_ss (ninS ne_rr_qs (ninS ne_rr_ha nin0)))
            have Z1681 : n0 ≤ T1681.heap.size := Nat.le_trans Z1668 K1681.1
            refine own_s 241 [] (fun _ k_ => st1681.trans k_) ?_
            have hz1_1693 : own_z (own_upd (own_upd (own_upd (own_upd (own_upd (fun _ => 0) ia (1 : Int64)) ib (1 : Int64)) ic (2 : Int64)) ib (0 : Int64)) ic (0 : Int64)) NN := own_z.upd hz1_1680 hlt_ic
            exact K241 _ _ _ _ _ _ _ _ _ X1681 rfl N1681 Z1681 f1682 f1683 f1687 f1688 v1681_0 v1681_1 f1684 v1681_5 hNN hz1_1693 (own_fin_011 hab hac hbc hc207 hc219 hc231)
      · refine own_s 210 [] (fun _ k_ => XS.ifNo XK.here hx rfl (hb hby at_207) rfl ((if0 _ _).trans (feq hc207).1) k_) ?_
        refine own_aload 212 XK.here hx (hb hby at_210) rfl rfl rfl ?_
        refine own_iload 214 XK.here hx (hb hby at_212) rfl rfl ?_
        obtain ⟨cq1694, kq1694, q1694a, q1694b, q1694c⟩ := isOf hZ eK y0
        obtain ⟨vv1694, _, ⟨T1694, L1694, k1694, n1694⟩, -, X1694, ⟨Lc1694, hQ1694, l1694, y1694, z1694⟩, st1694⟩ := XK.virtualBack hx (y := (⟨"com/example/adfair/adfair/Ranking", "remove", "(I)V"⟩ : MethodName)) (z := (⟨"com/example/adfair/adfair/Ranking", "remove", "(I)V"⟩ : MethodName)) hown (mvT hZ (own_w 96 hw rfl)) (mvT hZ (own_w 97 hw rfl)) (notFace_of_selects (args := #[]) (mvT hZ (own_w 99 hw rfl))) (mvT hZ (own_w 99 hw rfl)) (mvT hZ (own_w 98 hw rfl)) (by decide) (backOf (W := 0) (rmReAE l Z a0 hw [] rr ia (1 : Int64) pp pa ha qr cr NN (own_upd (own_upd (own_upd (fun _ => 0) ia (1 : Int64)) ib (1 : Int64)) ic (2 : Int64)) (own_updI (own_updI (own_updI (fun _ => 0) ia (-2 : Int32)) ib (-2 : Int32)) ic (-2 : Int32)) ib hK n0 ZK y0 y2 y3 y4 y5 y6 y14 y15 y16 y17 y7 ne_rr_pp ne_rr_pa ne_rr_ha ne_rr_qr ne_pp_pa ne_pp_ha ne_pp_qr ne_pa_ha ne_pa_qr ne_ha_qr g_rr g_ha g_qr hlt_ia hNN hz1b (by decide) (by simp [own_upd, own_updI, hab, hac, hbc, hab.symm, hac.symm, hbc.symm]) (by simp [own_upd, own_updI, hab, hac, hbc, hab.symm, hac.symm, hbc.symm]) (hab.symm) lb) hZ (own_w 100 hw rfl) (own_w 17 hw rfl) (by decide) (by decide)) q1694a q1694c (g := (mkF m 214 #[.val (.int p0), .val (.int p1), .val (.int p2), .val (.int p3), .val (.int p4), .val (.int p5), .val (.int (Int32.ofNat ia)), .val (.int (Int32.ofNat ib)), .val (.int (Int32.ofNat ic)), .val (.int u9), .val (.int u10), .val (.int u11), s12, .val (.int (Int32.ofNat qq)), .val (.ref pp), .val (.ref rr), .val (.ref ss), .unset, .unset] [(.int (Int32.ofNat ia)), (.ref rr)])) rfl (by rw [hml]; rfl) (Steps.refl _) (argsL := [(.int (Int32.ofNat ia))]) (rest := []) (lenOf pd__28_I_29_V rfl) rfl (by show 2 * 0 + _ ≤ _; exact Nat.le_of_eq rfl) (hb hby at_214) (fun _ _ => ⟨rfl, eK, (by decide : 23 + 0 ≤ _), (by decide : 1005 + 0 ≤ _)⟩)
        dsimp only [Pt.U, Pt.locs, Pt.cells, Pt.slots] at X1694 l1694 y1694 z1694 st1694 hQ1694
        subst l1694 y1694 z1694
        obtain ⟨rfl, N1694q, K1694, v1694_0, v1694_1, v1694_2, v1694_3, v1694_4, v1694_5, v1694_6⟩ := hQ1694
        have N1694 := Fr.app NK N1694q
        have f1695 := y0.keep K1694
        have f1696 := y1.keep K1694
        have f1697 := y8.keep K1694 (ninS (Ne.symm ne_rr_ss) (ninS ne_ss_qr (ninS ne_ss_ha nin0)))
        have f1698 := y9.keep K1694 (ninS (Ne.symm ne_rr_ss) (ninS ne_ss_qr (ninS ne_ss_ha nin0)))
        have f1699 := y10.keep K1694 (ninS (Ne.symm ne_rr_ss) (ninS ne_ss_qr (ninS ne_ss_ha nin0)))
        have f1700 := y11.keep K1694 (ninS (Ne.symm ne_rr_ss) (ninS ne_ss_qr (ninS ne_ss_ha nin0)))
        have f1701 := y12.keep K1694 (ninS (Ne.symm ne_rr_ss) (ninS ne_ss_qr (ninS ne_ss_ha nin0)))
        have f1702 := y13.keep K1694 (ninS (Ne.symm ne_rr_qs) (ninS (Ne.symm ne_qr_qs) (ninS (Ne.symm ne_ha_qs) nin0)))
        have f1703 := y14.keep K1694 (ninS (Ne.symm ne_rr_pp) (ninS ne_pp_qr (ninS ne_pp_ha nin0)))
        have f1704 := y15.keep K1694 (ninS (Ne.symm ne_rr_pp) (ninS ne_pp_qr (ninS ne_pp_ha nin0)))
        have f1705 := y17.keep K1694 (ninS (Ne.symm ne_rr_pa) (ninS ne_pa_qr (ninS ne_pa_ha nin0)))
        have Z1694 : n0 ≤ T1694.heap.size := Nat.le_trans ZK K1694.1
        refine own_s 217 [] (fun _ k_ => st1694.trans k_) ?_
        have hz1_1706 : own_z (own_upd (own_upd (own_upd (own_upd (fun _ => 0) ia (1 : Int64)) ib (1 : Int64)) ic (2 : Int64)) ia (0 : Int64)) NN := own_z.upd hz1b hlt_ia
        refine own_iload 219 X1694.here hx (hb hby at_217) rfl rfl ?_
        by_cases hc219 : u10 = (0 : Int32)
        · refine own_s 229 [] (fun _ k_ => XS.ifYes X1694.here hx rfl (pc0 := 219) (pc' := 229) rfl (hb hby at_219) rfl ((if0 _ _).trans (teq hc219).1) (by decide) (by decide) k_) ?_
          refine own_iload 231 X1694.here hx (hb hby at_229) rfl rfl ?_
          by_cases hc231 : u11 = (0 : Int32)
          · refine own_s 241 [] (fun _ k_ => XS.ifYes X1694.here hx rfl (pc0 := 231) (pc' := 241) rfl (hb hby at_231) rfl ((if0 _ _).trans (teq hc231).1) (by decide) (by decide) k_) ?_
            exact K241 _ _ _ _ _ _ _ _ _ X1694 rfl N1694 Z1694 f1695 f1696 v1694_0 v1694_1 f1697 f1698 f1703 v1694_5 hNN hz1_1706 (own_fin_100 hab hac hbc hc207 hc219 hc231)
          · refine own_s 234 [] (fun _ k_ => XS.ifNo X1694.here hx rfl (hb hby at_231) rfl ((if0 _ _).trans (feq hc231).1) k_) ?_
            refine own_aload 236 X1694.here hx (hb hby at_234) rfl rfl rfl ?_
            refine own_iload 238 X1694.here hx (hb hby at_236) rfl rfl ?_
            obtain ⟨cq1707, kq1707, q1707a, q1707b, q1707c⟩ := isOf hZ rfl f1696
            obtain ⟨vv1707, _, ⟨T1707, L1707, k1707, n1707⟩, -, X1707, ⟨Lc1707, hQ1707, l1707, y1707, z1707⟩, st1707⟩ := X1694.virtualBack hx (y := (⟨"com/example/adfair/adfair/Ranking", "remove", "(I)V"⟩ : MethodName)) (z := (⟨"com/example/adfair/adfair/Ranking", "remove", "(I)V"⟩ : MethodName)) hown (mvT hZ (own_w 96 hw rfl)) (mvT hZ (own_w 97 hw rfl)) (notFace_of_selects (args := #[]) (mvT hZ (own_w 99 hw rfl))) (mvT hZ (own_w 99 hw rfl)) (mvT hZ (own_w 98 hw rfl)) (by decide) (backOf (W := 0) (rmReC l Z a0 hw [] ss ic (2 : Int64) pp pa ha qs cs NN (own_upd (own_upd (own_upd (own_upd (fun _ => 0) ia (1 : Int64)) ib (1 : Int64)) ic (2 : Int64)) ia (0 : Int64)) (own_updI (own_updI (own_updI (fun _ => 0) ia (-2 : Int32)) ib (-2 : Int32)) ic (-2 : Int32)) (T1694.heap) n0 Z1694 f1696 f1697 f1698 f1699 f1700 f1701 f1703 f1704 v1694_5 f1705 f1702 ne_ss_pp ne_ss_pa ne_ss_ha ne_ss_qs ne_pp_pa ne_pp_ha ne_pp_qs ne_pa_ha ne_pa_qs ne_ha_qs g_ss g_ha g_qs hlt_ic hNN hz1_1706 (by decide) (by simp [own_upd, own_updI, hab, hac, hbc, hab.symm, hac.symm, hbc.symm]) (by simp [own_upd, own_updI, hab, hac, hbc, hab.symm, hac.symm, hbc.symm])) hZ (own_w 100 hw rfl) (own_w 17 hw rfl) (by decide) (by decide)) q1707a q1707c (g := (mkF m 238 #[.val (.int p0), .val (.int p1), .val (.int p2), .val (.int p3), .val (.int p4), .val (.int p5), .val (.int (Int32.ofNat ia)), .val (.int (Int32.ofNat ib)), .val (.int (Int32.ofNat ic)), .val (.int u9), .val (.int u10), .val (.int u11), s12, .val (.int (Int32.ofNat qq)), .val (.ref pp), .val (.ref rr), .val (.ref ss), .unset, .unset] [(.int (Int32.ofNat ic)), (.ref ss)])) rfl (by rw [hml]; rfl) (Steps.refl _) (argsL := [(.int (Int32.ofNat ic))]) (rest := []) (lenOf pd__28_I_29_V rfl) rfl (by show 2 * 0 + _ ≤ _; exact Nat.le_of_eq rfl) (hb hby at_238) (fun _ _ => ⟨rfl, rfl, (by decide : 23 + 0 ≤ _), (by decide : 1005 + 0 ≤ _)⟩)
            dsimp only [Pt.U, Pt.locs, Pt.cells, Pt.slots] at X1707 l1707 y1707 z1707 st1707 hQ1707
            subst l1707 y1707 z1707
            obtain ⟨rfl, N1707q, K1707, v1707_0, v1707_1, v1707_2, v1707_3, v1707_4, v1707_5, v1707_6⟩ := hQ1707
            have N1707 := Fr.app N1694 N1707q
            have f1708 := f1695.keep K1707
            have f1709 := f1696.keep K1707
            have f1710 := f1703.keep K1707 (ninS (Ne.symm ne_ss_pp) (ninS ne_pp_qs (ninS ne_pp_ha nin0)))
            have f1713 := v1694_0.keep K1707 (ninS ne_rr_ss (ninS ne_rr_qs (ninS ne_rr_ha nin0)))
            have f1714 := v1694_1.keep K1707 (ninS ne_rr_ss (ninS ne_rr_qs (ninS ne_rr_ha nin0)))
            have Z1707 : n0 ≤ T1707.heap.size := Nat.le_trans Z1694 K1707.1
            refine own_s 241 [] (fun _ k_ => st1707.trans k_) ?_
            have hz1_1719 : own_z (own_upd (own_upd (own_upd (own_upd (own_upd (fun _ => 0) ia (1 : Int64)) ib (1 : Int64)) ic (2 : Int64)) ia (0 : Int64)) ic (0 : Int64)) NN := own_z.upd hz1_1706 hlt_ic
            exact K241 _ _ _ _ _ _ _ _ _ X1707 rfl N1707 Z1707 f1708 f1709 f1713 f1714 v1707_0 v1707_1 f1710 v1707_5 hNN hz1_1719 (own_fin_101 hab hac hbc hc207 hc219 hc231)
        · refine own_s 222 [] (fun _ k_ => XS.ifNo X1694.here hx rfl (hb hby at_219) rfl ((if0 _ _).trans (feq hc219).1) k_) ?_
          refine own_aload 224 X1694.here hx (hb hby at_222) rfl rfl rfl ?_
          refine own_iload 226 X1694.here hx (hb hby at_224) rfl rfl ?_
          obtain ⟨cq1720, kq1720, q1720a, q1720b, q1720c⟩ := isOf hZ rfl f1695
          obtain ⟨vv1720, _, ⟨T1720, L1720, k1720, n1720⟩, -, X1720, ⟨Lc1720, hQ1720, l1720, y1720, z1720⟩, st1720⟩ := X1694.virtualBack hx (y := (⟨"com/example/adfair/adfair/Ranking", "remove", "(I)V"⟩ : MethodName)) (z := (⟨"com/example/adfair/adfair/Ranking", "remove", "(I)V"⟩ : MethodName)) hown (mvT hZ (own_w 96 hw rfl)) (mvT hZ (own_w 97 hw rfl)) (notFace_of_selects (args := #[]) (mvT hZ (own_w 99 hw rfl))) (mvT hZ (own_w 99 hw rfl)) (mvT hZ (own_w 98 hw rfl)) (by decide) (backOf (W := 0) (rmReB2E l Z a0 hw [] rr ib (1 : Int64) pp pa ha qr cr NN (own_upd (own_upd (own_upd (own_upd (fun _ => 0) ia (1 : Int64)) ib (1 : Int64)) ic (2 : Int64)) ia (0 : Int64)) (own_updI (own_updI (own_updI (fun _ => 0) ia (-2 : Int32)) ib (-2 : Int32)) ic (-2 : Int32)) (T1694.heap) n0 Z1694 f1695 v1694_0 v1694_1 v1694_2 v1694_3 v1694_4 f1703 f1704 v1694_5 f1705 v1694_6 ne_rr_pp ne_rr_pa ne_rr_ha ne_rr_qr ne_pp_pa ne_pp_ha ne_pp_qr ne_pa_ha ne_pa_qr ne_ha_qr g_rr g_ha g_qr hlt_ib hNN hz1_1706 (by decide) (by simp [own_upd, own_updI, hab, hac, hbc, hab.symm, hac.symm, hbc.symm]) (by simp [own_upd, own_updI, hab, hac, hbc, hab.symm, hac.symm, hbc.symm])) hZ (own_w 100 hw rfl) (own_w 17 hw rfl) (by decide) (by decide)) q1720a q1720c (g := (mkF m 226 #[.val (.int p0), .val (.int p1), .val (.int p2), .val (.int p3), .val (.int p4), .val (.int p5), .val (.int (Int32.ofNat ia)), .val (.int (Int32.ofNat ib)), .val (.int (Int32.ofNat ic)), .val (.int u9), .val (.int u10), .val (.int u11), s12, .val (.int (Int32.ofNat qq)), .val (.ref pp), .val (.ref rr), .val (.ref ss), .unset, .unset] [(.int (Int32.ofNat ib)), (.ref rr)])) rfl (by rw [hml]; rfl) (Steps.refl _) (argsL := [(.int (Int32.ofNat ib))]) (rest := []) (lenOf pd__28_I_29_V rfl) rfl (by show 2 * 0 + _ ≤ _; exact Nat.le_of_eq rfl) (hb hby at_226) (fun _ _ => ⟨rfl, rfl, (by decide : 23 + 0 ≤ _), (by decide : 1005 + 0 ≤ _)⟩)
          dsimp only [Pt.U, Pt.locs, Pt.cells, Pt.slots] at X1720 l1720 y1720 z1720 st1720 hQ1720
          subst l1720 y1720 z1720
          obtain ⟨rfl, N1720q, K1720, v1720_0, v1720_1, v1720_2, v1720_3, v1720_4, v1720_5, v1720_6⟩ := hQ1720
          have N1720 := Fr.app N1694 N1720q
          have f1721 := f1695.keep K1720
          have f1722 := f1696.keep K1720
          have f1723 := f1697.keep K1720 (ninS (Ne.symm ne_rr_ss) (ninS ne_ss_qr (ninS ne_ss_ha nin0)))
          have f1724 := f1698.keep K1720 (ninS (Ne.symm ne_rr_ss) (ninS ne_ss_qr (ninS ne_ss_ha nin0)))
          have f1725 := f1699.keep K1720 (ninS (Ne.symm ne_rr_ss) (ninS ne_ss_qr (ninS ne_ss_ha nin0)))
          have f1726 := f1700.keep K1720 (ninS (Ne.symm ne_rr_ss) (ninS ne_ss_qr (ninS ne_ss_ha nin0)))
          have f1727 := f1701.keep K1720 (ninS (Ne.symm ne_rr_ss) (ninS ne_ss_qr (ninS ne_ss_ha nin0)))
          have f1728 := f1702.keep K1720 (ninS (Ne.symm ne_rr_qs) (ninS (Ne.symm ne_qr_qs) (ninS (Ne.symm ne_ha_qs) nin0)))
          have f1729 := f1703.keep K1720 (ninS (Ne.symm ne_rr_pp) (ninS ne_pp_qr (ninS ne_pp_ha nin0)))
          have f1730 := f1704.keep K1720 (ninS (Ne.symm ne_rr_pp) (ninS ne_pp_qr (ninS ne_pp_ha nin0)))
          have f1731 := f1705.keep K1720 (ninS (Ne.symm ne_rr_pa) (ninS ne_pa_qr (ninS ne_pa_ha nin0)))
          have Z1720 : n0 ≤ T1720.heap.size := Nat.le_trans Z1694 K1720.1
          refine own_s 229 [] (fun _ k_ => st1720.trans k_) ?_
          have hz1_1732 : own_z (own_upd (own_upd (own_upd (own_upd (own_upd (fun _ => 0) ia (1 : Int64)) ib (1 : Int64)) ic (2 : Int64)) ia (0 : Int64)) ib (0 : Int64)) NN := own_z.upd hz1_1706 hlt_ib
          refine own_iload 231 X1720.here hx (hb hby at_229) rfl rfl ?_
          by_cases hc231 : u11 = (0 : Int32)
          · refine own_s 241 [] (fun _ k_ => XS.ifYes X1720.here hx rfl (pc0 := 231) (pc' := 241) rfl (hb hby at_231) rfl ((if0 _ _).trans (teq hc231).1) (by decide) (by decide) k_) ?_
            exact K241 _ _ _ _ _ _ _ _ _ X1720 rfl N1720 Z1720 f1721 f1722 v1720_0 v1720_1 f1723 f1724 f1729 v1720_5 hNN hz1_1732 (own_fin_110 hab hac hbc hc207 hc219 hc231)
          · refine own_s 234 [] (fun _ k_ => XS.ifNo X1720.here hx rfl (hb hby at_231) rfl ((if0 _ _).trans (feq hc231).1) k_) ?_
            refine own_aload 236 X1720.here hx (hb hby at_234) rfl rfl rfl ?_
            refine own_iload 238 X1720.here hx (hb hby at_236) rfl rfl ?_
            obtain ⟨cq1733, kq1733, q1733a, q1733b, q1733c⟩ := isOf hZ rfl f1722
            obtain ⟨vv1733, _, ⟨T1733, L1733, k1733, n1733⟩, -, X1733, ⟨Lc1733, hQ1733, l1733, y1733, z1733⟩, st1733⟩ := X1720.virtualBack hx (y := (⟨"com/example/adfair/adfair/Ranking", "remove", "(I)V"⟩ : MethodName)) (z := (⟨"com/example/adfair/adfair/Ranking", "remove", "(I)V"⟩ : MethodName)) hown (mvT hZ (own_w 96 hw rfl)) (mvT hZ (own_w 97 hw rfl)) (notFace_of_selects (args := #[]) (mvT hZ (own_w 99 hw rfl))) (mvT hZ (own_w 99 hw rfl)) (mvT hZ (own_w 98 hw rfl)) (by decide) (backOf (W := 0) (rmReC l Z a0 hw [] ss ic (2 : Int64) pp pa ha qs cs NN (own_upd (own_upd (own_upd (own_upd (own_upd (fun _ => 0) ia (1 : Int64)) ib (1 : Int64)) ic (2 : Int64)) ia (0 : Int64)) ib (0 : Int64)) (own_updI (own_updI (own_updI (fun _ => 0) ia (-2 : Int32)) ib (-2 : Int32)) ic (-2 : Int32)) (T1720.heap) n0 Z1720 f1722 f1723 f1724 f1725 f1726 f1727 f1729 f1730 v1720_5 f1731 f1728 ne_ss_pp ne_ss_pa ne_ss_ha ne_ss_qs ne_pp_pa ne_pp_ha ne_pp_qs ne_pa_ha ne_pa_qs ne_ha_qs g_ss g_ha g_qs hlt_ic hNN hz1_1732 (by decide) (by simp [own_upd, own_updI, hab, hac, hbc, hab.symm, hac.symm, hbc.symm]) (by simp [own_upd, own_updI, hab, hac, hbc, hab.symm, hac.symm, hbc.symm])) hZ (own_w 100 hw rfl) (own_w 17 hw rfl) (by decide) (by decide)) q1733a q1733c (g := (mkF m 238 #[.val (.int p0), .val (.int p1), .val (.int p2), .val (.int p3), .val (.int p4), .val (.int p5), .val (.int (Int32.ofNat ia)), .val (.int (Int32.ofNat ib)), .val (.int (Int32.ofNat ic)), .val (.int u9), .val (.int u10), .val (.int u11), s12, .val (.int (Int32.ofNat qq)), .val (.ref pp), .val (.ref rr), .val (.ref ss), .unset, .unset] [(.int (Int32.ofNat ic)), (.ref ss)])) rfl (by rw [hml]; rfl) (Steps.refl _) (argsL := [(.int (Int32.ofNat ic))]) (rest := []) (lenOf pd__28_I_29_V rfl) rfl (by show 2 * 0 + _ ≤ _; exact Nat.le_of_eq rfl) (hb hby at_238) (fun _ _ => ⟨rfl, rfl, (by decide : 23 + 0 ≤ _), (by decide : 1005 + 0 ≤ _)⟩)
            dsimp only [Pt.U, Pt.locs, Pt.cells, Pt.slots] at X1733 l1733 y1733 z1733 st1733 hQ1733
            subst l1733 y1733 z1733
            obtain ⟨rfl, N1733q, K1733, v1733_0, v1733_1, v1733_2, v1733_3, v1733_4, v1733_5, v1733_6⟩ := hQ1733
            have N1733 := Fr.app N1720 N1733q
            have f1734 := f1721.keep K1733
            have f1735 := f1722.keep K1733
            have f1736 := f1729.keep K1733 (ninS (Ne.symm ne_ss_pp) (ninS ne_pp_qs (ninS ne_pp_ha nin0)))
            have f1739 := v1720_0.keep K1733 (ninS ne_rr_ss (ninS ne_rr_qs (ninS ne_rr_ha nin0)))
            have f1740 := v1720_1.keep K1733 (ninS ne_rr_ss (ninS ne_rr_qs (ninS ne_rr_ha nin0)))
            have Z1733 : n0 ≤ T1733.heap.size := Nat.le_trans Z1720 K1733.1
            refine own_s 241 [] (fun _ k_ => st1733.trans k_) ?_
            have hz1_1745 : own_z (own_upd (own_upd (own_upd (own_upd (own_upd (own_upd (fun _ => 0) ia (1 : Int64)) ib (1 : Int64)) ic (2 : Int64)) ia (0 : Int64)) ib (0 : Int64)) ic (0 : Int64)) NN := own_z.upd hz1_1732 hlt_ic
            exact K241 _ _ _ _ _ _ _ _ _ X1733 rfl N1733 Z1733 f1734 f1735 f1739 f1740 v1733_0 v1733_1 f1736 v1733_5 hNN hz1_1745 (own_fin_111 hab hac hbc hc207 hc219 hc231)
    have K205_15 : ∀ (TK : State) (LK : List Loc) (hK : Heap) (rr ss pp pa ha qr qs : Addr) (cr cs : ClassId) (NN : Nat), Stand p l e room_1 s m #[(.int p0), (.int p1), (.int p2), (.int p3), (.int p4), (.int p5)] below meth c TK LK 23 1005 → TK.heap = hK → Fr n0 LK → n0 ≤ hK.size → Exa Z hK rr "com/example/adfair/adfair/Ranking" → Exa Z hK ss "com/example/adfair/adfair/Ranking" → Fld Z hK rr "com/example/adfair/adfair/Ranking" "places" "Lcom/example/adfair/adfair/Ranking$Places;" (.ref pp) → Fld Z hK rr "com/example/adfair/adfair/Ranking" "number" "J" (.long 1) → Fld Z hK rr "com/example/adfair/adfair/Ranking" "queued" "[I" (.ref qr) → Fld Z hK rr "com/example/adfair/adfair/Ranking" "queueFirst" "I" (.int 15) → Fld Z hK rr "com/example/adfair/adfair/Ranking" "queueSize" "I" (.int 2) → Arv Z hK qr cr .int (16 : Int32) [(.int (Int32.ofNat ia)), (.int 0), (.int 0), (.int 0), (.int 0), (.int 0), (.int 0), (.int 0), (.int 0), (.int 0), (.int 0), (.int 0), (.int 0), (.int 0), (.int 0), (.int (Int32.ofNat ib))] (.int 0) → Fld Z hK ss "com/example/adfair/adfair/Ranking" "places" "Lcom/example/adfair/adfair/Ranking$Places;" (.ref pp) → Fld Z hK ss "com/example/adfair/adfair/Ranking" "number" "J" (.long 2) → Fld Z hK ss "com/example/adfair/adfair/Ranking" "queued" "[I" (.ref qs) → Fld Z hK ss "com/example/adfair/adfair/Ranking" "queueFirst" "I" (.int 0) → Fld Z hK ss "com/example/adfair/adfair/Ranking" "queueSize" "I" (.int 1) → Arv Z hK qs cs .int (16 : Int32) [(.int (Int32.ofNat ic)), (.int 0), (.int 0), (.int 0), (.int 0), (.int 0), (.int 0), (.int 0), (.int 0), (.int 0), (.int 0), (.int 0), (.int 0), (.int 0), (.int 0), (.int 0)] (.int 0) → Fld Z hK pp "com/example/adfair/adfair/Ranking$Places" "holder" "[J" (.ref ha) → Fld Z hK pp "com/example/adfair/adfair/Ranking$Places" "place" "[I" (.ref pa) → own_LN Z hK ha NN (own_upd (own_upd (own_upd (fun _ => 0) ia (1 : Int64)) ib (1 : Int64)) ic (2 : Int64)) → own_IN Z hK pa NN (own_updI (own_updI (own_updI (fun _ => 0) ia (-2 : Int32)) ib (-2 : Int32)) ic (-2 : Int32)) → rr ≠ ss → rr ≠ pp → rr ≠ pa → rr ≠ ha → rr ≠ qr → rr ≠ qs → ss ≠ pp → ss ≠ pa → ss ≠ ha → ss ≠ qr → ss ≠ qs → pp ≠ pa → pp ≠ ha → pp ≠ qr → pp ≠ qs → pa ≠ ha → pa ≠ qr → pa ≠ qs → ha ≠ qr → ha ≠ qs → qr ≠ qs → n0 ≤ rr → n0 ≤ ss → n0 ≤ ha → n0 ≤ qr → n0 ≤ qs → ia < NN → ib < NN → ic < NN → NN ≤ 126 → own_z (own_upd (own_upd (own_upd (fun _ => 0) ia (1 : Int64)) ib (1 : Int64)) ic (2 : Int64)) NN → own_R p.tables e below G (TK.setTop (mkF m 205 #[.val (.int p0), .val (.int p1), .val (.int p2), .val (.int p3), .val (.int p4), .val (.int p5), .val (.int (Int32.ofNat ia)), .val (.int (Int32.ofNat ib)), .val (.int (Int32.ofNat ic)), .val (.int u9), .val (.int u10), .val (.int u11), s12, .val (.int (Int32.ofNat qq)), .val (.ref pp), .val (.ref rr), .val (.ref ss), .unset, .unset] [])) := by
      intro TK LK hK rr ss pp pa ha qr qs cr cs NN XK eK NK ZK y0 y1 y2 y3 y4 y5 y6 y7 y8 y9 y10 y11 y12 y13 y14 y15 y16 y17 ne_rr_ss ne_rr_pp ne_rr_pa ne_rr_ha ne_rr_qr ne_rr_qs ne_ss_pp ne_ss_pa ne_ss_ha ne_ss_qr ne_ss_qs ne_pp_pa ne_pp_ha ne_pp_qr ne_pp_qs ne_pa_ha ne_pa_qr ne_pa_qs ne_ha_qr ne_ha_qs ne_qr_qs g_rr g_ss g_ha g_qr g_qs hlt_ia hlt_ib hlt_ic hNN hz1b
      refine own_iload 207 XK.here hx (hb hby at_205) rfl rfl ?_
      by_cases hc207 : u9 = (0 : Int32)
      · refine own_s 217 [] (fun _ k_ => XS.ifYes XK.here hx rfl (pc0 := 207) (pc' := 217) rfl (hb hby at_207) rfl ((if0 _ _).trans (teq hc207).1) (by decide) (by decide) k_) ?_
        refine own_iload 219 XK.here hx (hb hby at_217) rfl rfl ?_
        by_cases hc219 : u10 = (0 : Int32)
        · refine own_s 229 [] (fun _ k_ => XS.ifYes XK.here hx rfl (pc0 := 219) (pc' := 229) rfl (hb hby at_219) rfl ((if0 _ _).trans (teq hc219).1) (by decide) (by decide) k_) ?_
          refine own_iload 231 XK.here hx (hb hby at_229) rfl rfl ?_
          by_cases hc231 : u11 = (0 : Int32)
          · refine own_s 241 [] (fun _ k_ => XS.ifYes XK.here hx rfl (pc0 := 231) (pc' := 241) rfl (hb hby at_231) rfl ((if0 _ _).trans (teq hc231).1) (by decide) (by decide) k_) ?_
            exact K241 _ _ _ _ _ _ _ _ _ XK eK NK ZK y0 y1 y2 y3 y8 y9 y14 y16 hNN hz1b (own_fin_000 hab hac hbc hc207 hc219 hc231)
          · refine own_s 234 [] (fun _ k_ => XS.ifNo XK.here hx rfl (hb hby at_231) rfl ((if0 _ _).trans (feq hc231).1) k_) ?_
            refine own_aload 236 XK.here hx (hb hby at_234) rfl rfl rfl ?_
            refine own_iload 238 XK.here hx (hb hby at_236) rfl rfl ?_
            obtain ⟨cq1746, kq1746, q1746a, q1746b, q1746c⟩ := isOf hZ eK y1
            obtain ⟨vv1746, _, ⟨T1746, L1746, k1746, n1746⟩, -, X1746, ⟨Lc1746, hQ1746, l1746, y1746, z1746⟩, st1746⟩ := XK.virtualBack hx (y := (⟨"com/example/adfair/adfair/Ranking", "remove", "(I)V"⟩ : MethodName)) (z := (⟨"com/example/adfair/adfair/Ranking", "remove", "(I)V"⟩ : MethodName)) hown (mvT hZ (own_w 96 hw rfl)) (mvT hZ (own_w 97 hw rfl)) (notFace_of_selects (args := #[]) (mvT hZ (own_w 99 hw rfl))) (mvT hZ (own_w 99 hw rfl)) (mvT hZ (own_w 98 hw rfl)) (by decide) (backOf (W := 0) (rmReC l Z a0 hw [] ss ic (2 : Int64) pp pa ha qs cs NN (own_upd (own_upd (own_upd (fun _ => 0) ia (1 : Int64)) ib (1 : Int64)) ic (2 : Int64)) (own_updI (own_updI (own_updI (fun _ => 0) ia (-2 : Int32)) ib (-2 : Int32)) ic (-2 : Int32)) hK n0 ZK y1 y8 y9 y10 y11 y12 y14 y15 y16 y17 y13 ne_ss_pp ne_ss_pa ne_ss_ha ne_ss_qs ne_pp_pa ne_pp_ha ne_pp_qs ne_pa_ha ne_pa_qs ne_ha_qs g_ss g_ha g_qs hlt_ic hNN hz1b (by decide) (by simp [own_upd, own_updI, hab, hac, hbc, hab.symm, hac.symm, hbc.symm]) (by simp [own_upd, own_updI, hab, hac, hbc, hab.symm, hac.symm, hbc.symm])) hZ (own_w 100 hw rfl) (own_w 17 hw rfl) (by decide) (by decide)) q1746a q1746c (g := (mkF m 238 #[.val (.int p0), .val (.int p1), .val (.int p2), .val (.int p3), .val (.int p4), .val (.int p5), .val (.int (Int32.ofNat ia)), .val (.int (Int32.ofNat ib)), .val (.int (Int32.ofNat ic)), .val (.int u9), .val (.int u10), .val (.int u11), s12, .val (.int (Int32.ofNat qq)), .val (.ref pp), .val (.ref rr), .val (.ref ss), .unset, .unset] [(.int (Int32.ofNat ic)), (.ref ss)])) rfl (by rw [hml]; rfl) (Steps.refl _) (argsL := [(.int (Int32.ofNat ic))]) (rest := []) (lenOf pd__28_I_29_V rfl) rfl (by show 2 * 0 + _ ≤ _; exact Nat.le_of_eq rfl) (hb hby at_238) (fun _ _ => ⟨rfl, eK, (by decide : 23 + 0 ≤ _), (by decide : 1005 + 0 ≤ _)⟩)
            dsimp only [Pt.U, Pt.locs, Pt.cells, Pt.slots] at X1746 l1746 y1746 z1746 st1746 hQ1746
            subst l1746 y1746 z1746
            obtain ⟨rfl, N1746q, K1746, v1746_0, v1746_1, v1746_2, v1746_3, v1746_4, v1746_5, v1746_6⟩ := hQ1746
            have N1746 := Fr.app NK N1746q
            have f1747 := y0.keep K1746
            have f1748 := y1.keep K1746
            have f1749 := y2.keep K1746 (ninS ne_rr_ss (ninS ne_rr_qs (ninS ne_rr_ha nin0)))
            have f1750 := y3.keep K1746 (ninS ne_rr_ss (ninS ne_rr_qs (ninS ne_rr_ha nin0)))
            have f1755 := y14.keep K1746 (ninS (Ne.symm ne_ss_pp) (ninS ne_pp_qs (ninS ne_pp_ha nin0)))
            have Z1746 : n0 ≤ T1746.heap.size := Nat.le_trans ZK K1746.1
            refine own_s 241 [] (fun _ k_ => st1746.trans k_) ?_
            have hz1_1758 : own_z (own_upd (own_upd (own_upd (own_upd (fun _ => 0) ia (1 : Int64)) ib (1 : Int64)) ic (2 : Int64)) ic (0 : Int64)) NN := own_z.upd hz1b hlt_ic
            exact K241 _ _ _ _ _ _ _ _ _ X1746 rfl N1746 Z1746 f1747 f1748 f1749 f1750 v1746_0 v1746_1 f1755 v1746_5 hNN hz1_1758 (own_fin_001 hab hac hbc hc207 hc219 hc231)
        · refine own_s 222 [] (fun _ k_ => XS.ifNo XK.here hx rfl (hb hby at_219) rfl ((if0 _ _).trans (feq hc219).1) k_) ?_
          refine own_aload 224 XK.here hx (hb hby at_222) rfl rfl rfl ?_
          refine own_iload 226 XK.here hx (hb hby at_224) rfl rfl ?_
          obtain ⟨cq1759, kq1759, q1759a, q1759b, q1759c⟩ := isOf hZ eK y0
          obtain ⟨vv1759, _, ⟨T1759, L1759, k1759, n1759⟩, -, X1759, ⟨Lc1759, hQ1759, l1759, y1759, z1759⟩, st1759⟩ := XK.virtualBack hx (y := (⟨"com/example/adfair/adfair/Ranking", "remove", "(I)V"⟩ : MethodName)) (z := (⟨"com/example/adfair/adfair/Ranking", "remove", "(I)V"⟩ : MethodName)) hown (mvT hZ (own_w 96 hw rfl)) (mvT hZ (own_w 97 hw rfl)) (notFace_of_selects (args := #[]) (mvT hZ (own_w 99 hw rfl))) (mvT hZ (own_w 99 hw rfl)) (mvT hZ (own_w 98 hw rfl)) (by decide) (backOf (W := 0) (rmReBF l Z a0 hw [] rr ib (1 : Int64) pp pa ha qr cr NN (own_upd (own_upd (own_upd (fun _ => 0) ia (1 : Int64)) ib (1 : Int64)) ic (2 : Int64)) (own_updI (own_updI (own_updI (fun _ => 0) ia (-2 : Int32)) ib (-2 : Int32)) ic (-2 : Int32)) ia hK n0 ZK y0 y2 y3 y4 y5 y6 y14 y15 y16 y17 y7 ne_rr_pp ne_rr_pa ne_rr_ha ne_rr_qr ne_pp_pa ne_pp_ha ne_pp_qr ne_pa_ha ne_pa_qr ne_ha_qr g_rr g_ha g_qr hlt_ib hNN hz1b (by decide) (by simp [own_upd, own_updI, hab, hac, hbc, hab.symm, hac.symm, hbc.symm]) (by simp [own_upd, own_updI, hab, hac, hbc, hab.symm, hac.symm, hbc.symm]) hab la) hZ (own_w 100 hw rfl) (own_w 17 hw rfl) (by decide) (by decide)) q1759a q1759c (g := (mkF m 226 #[.val (.int p0), .val (.int p1), .val (.int p2), .val (.int p3), .val (.int p4), .val (.int p5), .val (.int (Int32.ofNat ia)), .val (.int (Int32.ofNat ib)), .val (.int (Int32.ofNat ic)), .val (.int u9), .val (.int u10), .val (.int u11), s12, .val (.int (Int32.ofNat qq)), .val (.ref pp), .val (.ref rr), .val (.ref ss), .unset, .unset] [(.int (Int32.ofNat ib)), (.ref rr)])) rfl (by rw [hml]; rfl) (Steps.refl _) (argsL := [(.int (Int32.ofNat ib))]) (rest := []) (lenOf pd__28_I_29_V rfl) rfl (by show 2 * 0 + _ ≤ _; exact Nat.le_of_eq rfl) (hb hby at_226) (fun _ _ => ⟨rfl, eK, (by decide : 23 + 0 ≤ _), (by decide : 1005 + 0 ≤ _)⟩)
          dsimp only [Pt.U, Pt.locs, Pt.cells, Pt.slots] at X1759 l1759 y1759 z1759 st1759 hQ1759
          subst l1759 y1759 z1759
          obtain ⟨rfl, N1759q, K1759, v1759_0, v1759_1, v1759_2, v1759_3, v1759_4, v1759_5, v1759_6⟩ := hQ1759
          have N1759 := Fr.app NK N1759q
          have f1760 := y0.keep K1759
          have f1761 := y1.keep K1759
          have f1762 := y8.keep K1759 (ninS (Ne.symm ne_rr_ss) (ninS ne_ss_qr (ninS ne_ss_ha nin0)))
          have f1763 := y9.keep K1759 (ninS (Ne.symm ne_rr_ss) (ninS ne_ss_qr (ninS ne_ss_ha nin0)))
          have f1764 := y10.keep K1759 (ninS (Ne.symm ne_rr_ss) (ninS ne_ss_qr (ninS ne_ss_ha nin0)))
          have f1765 := y11.keep K1759 (ninS (Ne.symm ne_rr_ss) (ninS ne_ss_qr (ninS ne_ss_ha nin0)))
          have f1766 := y12.keep K1759 (ninS (Ne.symm ne_rr_ss) (ninS ne_ss_qr (ninS ne_ss_ha nin0)))
          have f1767 := y13.keep K1759 (ninS (Ne.symm ne_rr_qs) (ninS (Ne.symm ne_qr_qs) (ninS (Ne.symm ne_ha_qs) nin0)))
          have f1768 := y14.keep K1759 (ninS (Ne.symm ne_rr_pp) (ninS ne_pp_qr (ninS ne_pp_ha nin0)))
          have f1769 := y15.keep K1759 (ninS (Ne.symm ne_rr_pp) (ninS ne_pp_qr (ninS ne_pp_ha nin0)))
          have f1770 := y17.keep K1759 (ninS (Ne.symm ne_rr_pa) (ninS ne_pa_qr (ninS ne_pa_ha nin0)))
          have Z1759 : n0 ≤ T1759.heap.size := Nat.le_trans ZK K1759.1
          refine own_s 229 [] (fun _ k_ => st1759.trans k_) ?_
          have hz1_1771 : own_z (own_upd (own_upd (own_upd (own_upd (fun _ => 0) ia (1 : Int64)) ib (1 : Int64)) ic (2 : Int64)) ib (0 : Int64)) NN := own_z.upd hz1b hlt_ib
          refine own_iload 231 X1759.here hx (hb hby at_229) rfl rfl ?_
          by_cases hc231 : u11 = (0 : Int32)
          · refine own_s 241 [] (fun _ k_ => XS.ifYes X1759.here hx rfl (pc0 := 231) (pc' := 241) rfl (hb hby at_231) rfl ((if0 _ _).trans (teq hc231).1) (by decide) (by decide) k_) ?_
            exact K241 _ _ _ _ _ _ _ _ _ X1759 rfl N1759 Z1759 f1760 f1761 v1759_0 v1759_1 f1762 f1763 f1768 v1759_5 hNN hz1_1771 (own_fin_010 hab hac hbc hc207 hc219 hc231)
          · refine own_s 234 [] (fun _ k_ => XS.ifNo X1759.here hx rfl (hb hby at_231) rfl ((if0 _ _).trans (feq hc231).1) k_) ?_
            refine own_aload 236 X1759.here hx (hb hby at_234) rfl rfl rfl ?_
            refine own_iload 238 X1759.here hx (hb hby at_236) rfl rfl ?_
            obtain ⟨cq1772, kq1772, q1772a, q1772b, q1772c⟩ := isOf hZ rfl f1761
            obtain ⟨vv1772, _, ⟨T1772, L1772, k1772, n1772⟩, -, X1772, ⟨Lc1772, hQ1772, l1772, y1772, z1772⟩, st1772⟩ := X1759.virtualBack hx (y := (⟨"com/example/adfair/adfair/Ranking", "remove", "(I)V"⟩ : MethodName)) (z := (⟨"com/example/adfair/adfair/Ranking", "remove", "(I)V"⟩ : MethodName)) hown (mvT hZ (own_w 96 hw rfl)) (mvT hZ (own_w 97 hw rfl)) (notFace_of_selects (args := #[]) (mvT hZ (own_w 99 hw rfl))) (mvT hZ (own_w 99 hw rfl)) (mvT hZ (own_w 98 hw rfl)) (by decide) (backOf (W := 0) (rmReC l Z a0 hw [] ss ic (2 : Int64) pp pa ha qs cs NN (own_upd (own_upd (own_upd (own_upd (fun _ => 0) ia (1 : Int64)) ib (1 : Int64)) ic (2 : Int64)) ib (0 : Int64)) (own_updI (own_updI (own_updI (fun _ => 0) ia (-2 : Int32)) ib (-2 : Int32)) ic (-2 : Int32)) (T1759.heap) n0 Z1759 f1761 f1762 f1763 f1764 f1765 f1766 f1768 f1769 v1759_5 f1770 f1767 ne_ss_pp ne_ss_pa ne_ss_ha ne_ss_qs ne_pp_pa ne_pp_ha ne_pp_qs ne_pa_ha ne_pa_qs ne_ha_qs g_ss g_ha g_qs hlt_ic hNN hz1_1771 (by decide) (by simp [own_upd, own_updI, hab, hac, hbc, hab.symm, hac.symm, hbc.symm]) (by simp [own_upd, own_updI, hab, hac, hbc, hab.symm, hac.symm, hbc.symm])) hZ (own_w 100 hw rfl) (own_w 17 hw rfl) (by decide) (by decide)) q1772a q1772c (g := (mkF m 238 #[.val (.int p0), .val (.int p1), .val (.int p2), .val (.int p3), .val (.int p4), .val (.int p5), .val (.int (Int32.ofNat ia)), .val (.int (Int32.ofNat ib)), .val (.int (Int32.ofNat ic)), .val (.int u9), .val (.int u10), .val (.int u11), s12, .val (.int (Int32.ofNat qq)), .val (.ref pp), .val (.ref rr), .val (.ref ss), .unset, .unset] [(.int (Int32.ofNat ic)), (.ref ss)])) rfl (by rw [hml]; rfl) (Steps.refl _) (argsL := [(.int (Int32.ofNat ic))]) (rest := []) (lenOf pd__28_I_29_V rfl) rfl (by show 2 * 0 + _ ≤ _; exact Nat.le_of_eq rfl) (hb hby at_238) (fun _ _ => ⟨rfl, rfl, (by decide : 23 + 0 ≤ _), (by decide : 1005 + 0 ≤ _)⟩)
            dsimp only [Pt.U, Pt.locs, Pt.cells, Pt.slots] at X1772 l1772 y1772 z1772 st1772 hQ1772
            subst l1772 y1772 z1772
            obtain ⟨rfl, N1772q, K1772, v1772_0, v1772_1, v1772_2, v1772_3, v1772_4, v1772_5, v1772_6⟩ := hQ1772
            have N1772 := Fr.app N1759 N1772q
            have f1773 := f1760.keep K1772
            have f1774 := f1761.keep K1772
            have f1775 := f1768.keep K1772 (ninS (Ne.symm ne_ss_pp) (ninS ne_pp_qs (ninS ne_pp_ha nin0)))
            have f1778 := v1759_0.keep K1772 (ninS ne_rr_ss (ninS ne_rr_qs (ninS ne_rr_ha nin0)))
            have f1779 := v1759_1.keep K1772 (ninS ne_rr_ss (ninS ne_rr_qs (ninS ne_rr_ha nin0)))
            have Z1772 : n0 ≤ T1772.heap.size := Nat.le_trans Z1759 K1772.1
            refine own_s 241 [] (fun _ k_ => st1772.trans k_) ?_
            have hz1_1784 : own_z (own_upd (own_upd (own_upd (own_upd (own_upd (fun _ => 0) ia (1 : Int64)) ib (1 : Int64)) ic (2 : Int64)) ib (0 : Int64)) ic (0 : Int64)) NN := own_z.upd hz1_1771 hlt_ic
            exact K241 _ _ _ _ _ _ _ _ _ X1772 rfl N1772 Z1772 f1773 f1774 f1778 f1779 v1772_0 v1772_1 f1775 v1772_5 hNN hz1_1784 (own_fin_011 hab hac hbc hc207 hc219 hc231)
      · refine own_s 210 [] (fun _ k_ => XS.ifNo XK.here hx rfl (hb hby at_207) rfl ((if0 _ _).trans (feq hc207).1) k_) ?_
        refine own_aload 212 XK.here hx (hb hby at_210) rfl rfl rfl ?_
        refine own_iload 214 XK.here hx (hb hby at_212) rfl rfl ?_
        obtain ⟨cq1785, kq1785, q1785a, q1785b, q1785c⟩ := isOf hZ eK y0
        obtain ⟨vv1785, _, ⟨T1785, L1785, k1785, n1785⟩, -, X1785, ⟨Lc1785, hQ1785, l1785, y1785, z1785⟩, st1785⟩ := XK.virtualBack hx (y := (⟨"com/example/adfair/adfair/Ranking", "remove", "(I)V"⟩ : MethodName)) (z := (⟨"com/example/adfair/adfair/Ranking", "remove", "(I)V"⟩ : MethodName)) hown (mvT hZ (own_w 96 hw rfl)) (mvT hZ (own_w 97 hw rfl)) (notFace_of_selects (args := #[]) (mvT hZ (own_w 99 hw rfl))) (mvT hZ (own_w 99 hw rfl)) (mvT hZ (own_w 98 hw rfl)) (by decide) (backOf (W := 0) (rmReAF l Z a0 hw [] rr ia (1 : Int64) pp pa ha qr cr NN (own_upd (own_upd (own_upd (fun _ => 0) ia (1 : Int64)) ib (1 : Int64)) ic (2 : Int64)) (own_updI (own_updI (own_updI (fun _ => 0) ia (-2 : Int32)) ib (-2 : Int32)) ic (-2 : Int32)) ib hK n0 ZK y0 y2 y3 y4 y5 y6 y14 y15 y16 y17 y7 ne_rr_pp ne_rr_pa ne_rr_ha ne_rr_qr ne_pp_pa ne_pp_ha ne_pp_qr ne_pa_ha ne_pa_qr ne_ha_qr g_rr g_ha g_qr hlt_ia hNN hz1b (by decide) (by simp [own_upd, own_updI, hab, hac, hbc, hab.symm, hac.symm, hbc.symm]) (by simp [own_upd, own_updI, hab, hac, hbc, hab.symm, hac.symm, hbc.symm]) (hab.symm) lb) hZ (own_w 100 hw rfl) (own_w 17 hw rfl) (by decide) (by decide)) q1785a q1785c (g := (mkF m 214 #[.val (.int p0), .val (.int p1), .val (.int p2), .val (.int p3), .val (.int p4), .val (.int p5), .val (.int (Int32.ofNat ia)), .val (.int (Int32.ofNat ib)), .val (.int (Int32.ofNat ic)), .val (.int u9), .val (.int u10), .val (.int u11), s12, .val (.int (Int32.ofNat qq)), .val (.ref pp), .val (.ref rr), .val (.ref ss), .unset, .unset] [(.int (Int32.ofNat ia)), (.ref rr)])) rfl (by rw [hml]; rfl) (Steps.refl _) (argsL := [(.int (Int32.ofNat ia))]) (rest := []) (lenOf pd__28_I_29_V rfl) rfl (by show 2 * 0 + _ ≤ _; exact Nat.le_of_eq rfl) (hb hby at_214) (fun _ _ => ⟨rfl, eK, (by decide : 23 + 0 ≤ _), (by decide : 1005 + 0 ≤ _)⟩)
        dsimp only [Pt.U, Pt.locs, Pt.cells, Pt.slots] at X1785 l1785 y1785 z1785 st1785 hQ1785
        subst l1785 y1785 z1785
        obtain ⟨rfl, N1785q, K1785, v1785_0, v1785_1, v1785_2, v1785_3, v1785_4, v1785_5, v1785_6⟩ := hQ1785
        have N1785 := Fr.app NK N1785q
        have f1786 := y0.keep K1785
        have f1787 := y1.keep K1785
        have f1788 := y8.keep K1785 (ninS (Ne.symm ne_rr_ss) (ninS ne_ss_qr (ninS ne_ss_ha nin0)))
        have f1789 := y9.keep K1785 (ninS (Ne.symm ne_rr_ss) (ninS ne_ss_qr (ninS ne_ss_ha nin0)))
        have f1790 := y10.keep K1785 (ninS (Ne.symm ne_rr_ss) (ninS ne_ss_qr (ninS ne_ss_ha nin0)))
        have f1791 := y11.keep K1785 (ninS (Ne.symm ne_rr_ss) (ninS ne_ss_qr (ninS ne_ss_ha nin0)))
        have f1792 := y12.keep K1785 (ninS (Ne.symm ne_rr_ss) (ninS ne_ss_qr (ninS ne_ss_ha nin0)))
        have f1793 := y13.keep K1785 (ninS (Ne.symm ne_rr_qs) (ninS (Ne.symm ne_qr_qs) (ninS (Ne.symm ne_ha_qs) nin0)))
        have f1794 := y14.keep K1785 (ninS (Ne.symm ne_rr_pp) (ninS ne_pp_qr (ninS ne_pp_ha nin0)))
        have f1795 := y15.keep K1785 (ninS (Ne.symm ne_rr_pp) (ninS ne_pp_qr (ninS ne_pp_ha nin0)))
        have f1796 := y17.keep K1785 (ninS (Ne.symm ne_rr_pa) (ninS ne_pa_qr (ninS ne_pa_ha nin0)))
        have Z1785 : n0 ≤ T1785.heap.size := Nat.le_trans ZK K1785.1
        refine own_s 217 [] (fun _ k_ => st1785.trans k_) ?_
        have hz1_1797 : own_z (own_upd (own_upd (own_upd (own_upd (fun _ => 0) ia (1 : Int64)) ib (1 : Int64)) ic (2 : Int64)) ia (0 : Int64)) NN := own_z.upd hz1b hlt_ia
        refine own_iload 219 X1785.here hx (hb hby at_217) rfl rfl ?_
        by_cases hc219 : u10 = (0 : Int32)
        · refine own_s 229 [] (fun _ k_ => XS.ifYes X1785.here hx rfl (pc0 := 219) (pc' := 229) rfl (hb hby at_219) rfl ((if0 _ _).trans (teq hc219).1) (by decide) (by decide) k_) ?_
          refine own_iload 231 X1785.here hx (hb hby at_229) rfl rfl ?_
          by_cases hc231 : u11 = (0 : Int32)
          · refine own_s 241 [] (fun _ k_ => XS.ifYes X1785.here hx rfl (pc0 := 231) (pc' := 241) rfl (hb hby at_231) rfl ((if0 _ _).trans (teq hc231).1) (by decide) (by decide) k_) ?_
            exact K241 _ _ _ _ _ _ _ _ _ X1785 rfl N1785 Z1785 f1786 f1787 v1785_0 v1785_1 f1788 f1789 f1794 v1785_5 hNN hz1_1797 (own_fin_100 hab hac hbc hc207 hc219 hc231)
          · refine own_s 234 [] (fun _ k_ => XS.ifNo X1785.here hx rfl (hb hby at_231) rfl ((if0 _ _).trans (feq hc231).1) k_) ?_
            refine own_aload 236 X1785.here hx (hb hby at_234) rfl rfl rfl ?_
            refine own_iload 238 X1785.here hx (hb hby at_236) rfl rfl ?_
            obtain ⟨cq1798, kq1798, q1798a, q1798b, q1798c⟩ := isOf hZ rfl f1787
            obtain ⟨vv1798, _, ⟨T1798, L1798, k1798, n1798⟩, -, X1798, ⟨Lc1798, hQ1798, l1798, y1798, z1798⟩, st1798⟩ := X1785.virtualBack hx (y := (⟨"com/example/adfair/adfair/Ranking", "remove", "(I)V"⟩ : MethodName)) (z := (⟨"com/example/adfair/adfair/Ranking", "remove", "(I)V"⟩ : MethodName)) hown (mvT hZ (own_w 96 hw rfl)) (mvT hZ (own_w 97 hw rfl)) (notFace_of_selects (args := #[]) (mvT hZ (own_w 99 hw rfl))) (mvT hZ (own_w 99 hw rfl)) (mvT hZ (own_w 98 hw rfl)) (by decide) (backOf (W := 0) (rmReC l Z a0 hw [] ss ic (2 : Int64) pp pa ha qs cs NN (own_upd (own_upd (own_upd (own_upd (fun _ => 0) ia (1 : Int64)) ib (1 : Int64)) ic (2 : Int64)) ia (0 : Int64)) (own_updI (own_updI (own_updI (fun _ => 0) ia (-2 : Int32)) ib (-2 : Int32)) ic (-2 : Int32)) (T1785.heap) n0 Z1785 f1787 f1788 f1789 f1790 f1791 f1792 f1794 f1795 v1785_5 f1796 f1793 ne_ss_pp ne_ss_pa ne_ss_ha ne_ss_qs ne_pp_pa ne_pp_ha ne_pp_qs ne_pa_ha ne_pa_qs ne_ha_qs g_ss g_ha g_qs hlt_ic hNN hz1_1797 (by decide) (by simp [own_upd, own_updI, hab, hac, hbc, hab.symm, hac.symm, hbc.symm]) (by simp [own_upd, own_updI, hab, hac, hbc, hab.symm, hac.symm, hbc.symm])) hZ (own_w 100 hw rfl) (own_w 17 hw rfl) (by decide) (by decide)) q1798a q1798c (g := (mkF m 238 #[.val (.int p0), .val (.int p1), .val (.int p2), .val (.int p3), .val (.int p4), .val (.int p5), .val (.int (Int32.ofNat ia)), .val (.int (Int32.ofNat ib)), .val (.int (Int32.ofNat ic)), .val (.int u9), .val (.int u10), .val (.int u11), s12, .val (.int (Int32.ofNat qq)), .val (.ref pp), .val (.ref rr), .val (.ref ss), .unset, .unset] [(.int (Int32.ofNat ic)), (.ref ss)])) rfl (by rw [hml]; rfl) (Steps.refl _) (argsL := [(.int (Int32.ofNat ic))]) (rest := []) (lenOf pd__28_I_29_V rfl) rfl (by show 2 * 0 + _ ≤ _; exact Nat.le_of_eq rfl) (hb hby at_238) (fun _ _ => ⟨rfl, rfl, (by decide : 23 + 0 ≤ _), (by decide : 1005 + 0 ≤ _)⟩)
            dsimp only [Pt.U, Pt.locs, Pt.cells, Pt.slots] at X1798 l1798 y1798 z1798 st1798 hQ1798
            subst l1798 y1798 z1798
            obtain ⟨rfl, N1798q, K1798, v1798_0, v1798_1, v1798_2, v1798_3, v1798_4, v1798_5, v1798_6⟩ := hQ1798
            have N1798 := Fr.app N1785 N1798q
            have f1799 := f1786.keep K1798
            have f1800 := f1787.keep K1798
            have f1801 := f1794.keep K1798 (ninS (Ne.symm ne_ss_pp) (ninS ne_pp_qs (ninS ne_pp_ha nin0)))
            have f1804 := v1785_0.keep K1798 (ninS ne_rr_ss (ninS ne_rr_qs (ninS ne_rr_ha nin0)))
            have f1805 := v1785_1.keep K1798 (ninS ne_rr_ss (ninS ne_rr_qs (ninS ne_rr_ha nin0)))
            have Z1798 : n0 ≤ T1798.heap.size := Nat.le_trans Z1785 K1798.1
            refine own_s 241 [] (fun _ k_ => st1798.trans k_) ?_
            have hz1_1810 : own_z (own_upd (own_upd (own_upd (own_upd (own_upd (fun _ => 0) ia (1 : Int64)) ib (1 : Int64)) ic (2 : Int64)) ia (0 : Int64)) ic (0 : Int64)) NN := own_z.upd hz1_1797 hlt_ic
            exact K241 _ _ _ _ _ _ _ _ _ X1798 rfl N1798 Z1798 f1799 f1800 f1804 f1805 v1798_0 v1798_1 f1801 v1798_5 hNN hz1_1810 (own_fin_101 hab hac hbc hc207 hc219 hc231)
        · refine own_s 222 [] (fun _ k_ => XS.ifNo X1785.here hx rfl (hb hby at_219) rfl ((if0 _ _).trans (feq hc219).1) k_) ?_
          refine own_aload 224 X1785.here hx (hb hby at_222) rfl rfl rfl ?_
          refine own_iload 226 X1785.here hx (hb hby at_224) rfl rfl ?_
          obtain ⟨cq1811, kq1811, q1811a, q1811b, q1811c⟩ := isOf hZ rfl f1786
          obtain ⟨vv1811, _, ⟨T1811, L1811, k1811, n1811⟩, -, X1811, ⟨Lc1811, hQ1811, l1811, y1811, z1811⟩, st1811⟩ := X1785.virtualBack hx (y := (⟨"com/example/adfair/adfair/Ranking", "remove", "(I)V"⟩ : MethodName)) (z := (⟨"com/example/adfair/adfair/Ranking", "remove", "(I)V"⟩ : MethodName)) hown (mvT hZ (own_w 96 hw rfl)) (mvT hZ (own_w 97 hw rfl)) (notFace_of_selects (args := #[]) (mvT hZ (own_w 99 hw rfl))) (mvT hZ (own_w 99 hw rfl)) (mvT hZ (own_w 98 hw rfl)) (by decide) (backOf (W := 0) (rmReB2F l Z a0 hw [] rr ib (1 : Int64) pp pa ha qr cr NN (own_upd (own_upd (own_upd (own_upd (fun _ => 0) ia (1 : Int64)) ib (1 : Int64)) ic (2 : Int64)) ia (0 : Int64)) (own_updI (own_updI (own_updI (fun _ => 0) ia (-2 : Int32)) ib (-2 : Int32)) ic (-2 : Int32)) (T1785.heap) n0 Z1785 f1786 v1785_0 v1785_1 v1785_2 v1785_3 v1785_4 f1794 f1795 v1785_5 f1796 v1785_6 ne_rr_pp ne_rr_pa ne_rr_ha ne_rr_qr ne_pp_pa ne_pp_ha ne_pp_qr ne_pa_ha ne_pa_qr ne_ha_qr g_rr g_ha g_qr hlt_ib hNN hz1_1797 (by decide) (by simp [own_upd, own_updI, hab, hac, hbc, hab.symm, hac.symm, hbc.symm]) (by simp [own_upd, own_updI, hab, hac, hbc, hab.symm, hac.symm, hbc.symm])) hZ (own_w 100 hw rfl) (own_w 17 hw rfl) (by decide) (by decide)) q1811a q1811c (g := (mkF m 226 #[.val (.int p0), .val (.int p1), .val (.int p2), .val (.int p3), .val (.int p4), .val (.int p5), .val (.int (Int32.ofNat ia)), .val (.int (Int32.ofNat ib)), .val (.int (Int32.ofNat ic)), .val (.int u9), .val (.int u10), .val (.int u11), s12, .val (.int (Int32.ofNat qq)), .val (.ref pp), .val (.ref rr), .val (.ref ss), .unset, .unset] [(.int (Int32.ofNat ib)), (.ref rr)])) rfl (by rw [hml]; rfl) (Steps.refl _) (argsL := [(.int (Int32.ofNat ib))]) (rest := []) (lenOf pd__28_I_29_V rfl) rfl (by show 2 * 0 + _ ≤ _; exact Nat.le_of_eq rfl) (hb hby at_226) (fun _ _ => ⟨rfl, rfl, (by decide : 23 + 0 ≤ _), (by decide : 1005 + 0 ≤ _)⟩)
          dsimp only [Pt.U, Pt.locs, Pt.cells, Pt.slots] at X1811 l1811 y1811 z1811 st1811 hQ1811
          subst l1811 y1811 z1811
          obtain ⟨rfl, N1811q, K1811, v1811_0, v1811_1, v1811_2, v1811_3, v1811_4, v1811_5, v1811_6⟩ := hQ1811
          have N1811 := Fr.app N1785 N1811q
          have f1812 := f1786.keep K1811
          have f1813 := f1787.keep K1811
          have f1814 := f1788.keep K1811 (ninS (Ne.symm ne_rr_ss) (ninS ne_ss_qr (ninS ne_ss_ha nin0)))
          have f1815 := f1789.keep K1811 (ninS (Ne.symm ne_rr_ss) (ninS ne_ss_qr (ninS ne_ss_ha nin0)))
          have f1816 := f1790.keep K1811 (ninS (Ne.symm ne_rr_ss) (ninS ne_ss_qr (ninS ne_ss_ha nin0)))
          have f1817 := f1791.keep K1811 (ninS (Ne.symm ne_rr_ss) (ninS ne_ss_qr (ninS ne_ss_ha nin0)))
          have f1818 := f1792.keep K1811 (ninS (Ne.symm ne_rr_ss) (ninS ne_ss_qr (ninS ne_ss_ha nin0)))
          have f1819 := f1793.keep K1811 (ninS (Ne.symm ne_rr_qs) (ninS (Ne.symm ne_qr_qs) (ninS (Ne.symm ne_ha_qs) nin0)))
          have f1820 := f1794.keep K1811 (ninS (Ne.symm ne_rr_pp) (ninS ne_pp_qr (ninS ne_pp_ha nin0)))
          have f1821 := f1795.keep K1811 (ninS (Ne.symm ne_rr_pp) (ninS ne_pp_qr (ninS ne_pp_ha nin0)))
          have f1822 := f1796.keep K1811 (ninS (Ne.symm ne_rr_pa) (ninS ne_pa_qr (ninS ne_pa_ha nin0)))
          have Z1811 : n0 ≤ T1811.heap.size := Nat.le_trans Z1785 K1811.1
          refine own_s 229 [] (fun _ k_ => st1811.trans k_) ?_
          have hz1_1823 : own_z (own_upd (own_upd (own_upd (own_upd (own_upd (fun _ => 0) ia (1 : Int64)) ib (1 : Int64)) ic (2 : Int64)) ia (0 : Int64)) ib (0 : Int64)) NN := own_z.upd hz1_1797 hlt_ib
          refine own_iload 231 X1811.here hx (hb hby at_229) rfl rfl ?_
          by_cases hc231 : u11 = (0 : Int32)
          · refine own_s 241 [] (fun _ k_ => XS.ifYes X1811.here hx rfl (pc0 := 231) (pc' := 241) rfl (hb hby at_231) rfl ((if0 _ _).trans (teq hc231).1) (by decide) (by decide) k_) ?_
            exact K241 _ _ _ _ _ _ _ _ _ X1811 rfl N1811 Z1811 f1812 f1813 v1811_0 v1811_1 f1814 f1815 f1820 v1811_5 hNN hz1_1823 (own_fin_110 hab hac hbc hc207 hc219 hc231)
          · refine own_s 234 [] (fun _ k_ => XS.ifNo X1811.here hx rfl (hb hby at_231) rfl ((if0 _ _).trans (feq hc231).1) k_) ?_
            refine own_aload 236 X1811.here hx (hb hby at_234) rfl rfl rfl ?_
            refine own_iload 238 X1811.here hx (hb hby at_236) rfl rfl ?_
            obtain ⟨cq1824, kq1824, q1824a, q1824b, q1824c⟩ := isOf hZ rfl f1813
            obtain ⟨vv1824, _, ⟨T1824, L1824, k1824, n1824⟩, -, X1824, ⟨Lc1824, hQ1824, l1824, y1824, z1824⟩, st1824⟩ := X1811.virtualBack hx (y := (⟨"com/example/adfair/adfair/Ranking", "remove", "(I)V"⟩ : MethodName)) (z := (⟨"com/example/adfair/adfair/Ranking", "remove", "(I)V"⟩ : MethodName)) hown (mvT hZ (own_w 96 hw rfl)) (mvT hZ (own_w 97 hw rfl)) (notFace_of_selects (args := #[]) (mvT hZ (own_w 99 hw rfl))) (mvT hZ (own_w 99 hw rfl)) (mvT hZ (own_w 98 hw rfl)) (by decide) (backOf (W := 0) (rmReC l Z a0 hw [] ss ic (2 : Int64) pp pa ha qs cs NN (own_upd (own_upd (own_upd (own_upd (own_upd (fun _ => 0) ia (1 : Int64)) ib (1 : Int64)) ic (2 : Int64)) ia (0 : Int64)) ib (0 : Int64)) (own_updI (own_updI (own_updI (fun _ => 0) ia (-2 : Int32)) ib (-2 : Int32)) ic (-2 : Int32)) (T1811.heap) n0 Z1811 f1813 f1814 f1815 f1816 f1817 f1818 f1820 f1821 v1811_5 f1822 f1819 ne_ss_pp ne_ss_pa ne_ss_ha ne_ss_qs ne_pp_pa ne_pp_ha ne_pp_qs ne_pa_ha ne_pa_qs ne_ha_qs g_ss g_ha g_qs hlt_ic hNN hz1_1823 (by decide) (by simp [own_upd, own_updI, hab, hac, hbc, hab.symm, hac.symm, hbc.symm]) (by simp [own_upd, own_updI, hab, hac, hbc, hab.symm, hac.symm, hbc.symm])) hZ (own_w 100 hw rfl) (own_w 17 hw rfl) (by decide) (by decide)) q1824a q1824c (g := (mkF m 238 #[.val (.int p0), .val (.int p1), .val (.int p2), .val (.int p3), .val (.int p4), .val (.int p5), .val (.int (Int32.ofNat ia)), .val (.int (Int32.ofNat ib)), .val (.int (Int32.ofNat ic)), .val (.int u9), .val (.int u10), .val (.int u11), s12, .val (.int (Int32.ofNat qq)), .val (.ref pp), .val (.ref rr), .val (.ref ss), .unset, .unset] [(.int (Int32.ofNat ic)), (.ref ss)])) rfl (by rw [hml]; rfl) (Steps.refl _) (argsL := [(.int (Int32.ofNat ic))]) (rest := []) (lenOf pd__28_I_29_V rfl) rfl (by show 2 * 0 + _ ≤ _; exact Nat.le_of_eq rfl) (hb hby at_238) (fun _ _ => ⟨rfl, rfl, (by decide : 23 + 0 ≤ _), (by decide : 1005 + 0 ≤ _)⟩)
            dsimp only [Pt.U, Pt.locs, Pt.cells, Pt.slots] at X1824 l1824 y1824 z1824 st1824 hQ1824
            subst l1824 y1824 z1824
            obtain ⟨rfl, N1824q, K1824, v1824_0, v1824_1, v1824_2, v1824_3, v1824_4, v1824_5, v1824_6⟩ := hQ1824
            have N1824 := Fr.app N1811 N1824q
            have f1825 := f1812.keep K1824
            have f1826 := f1813.keep K1824
            have f1827 := f1820.keep K1824 (ninS (Ne.symm ne_ss_pp) (ninS ne_pp_qs (ninS ne_pp_ha nin0)))
            have f1830 := v1811_0.keep K1824 (ninS ne_rr_ss (ninS ne_rr_qs (ninS ne_rr_ha nin0)))
            have f1831 := v1811_1.keep K1824 (ninS ne_rr_ss (ninS ne_rr_qs (ninS ne_rr_ha nin0)))
            have Z1824 : n0 ≤ T1824.heap.size := Nat.le_trans Z1811 K1824.1
            refine own_s 241 [] (fun _ k_ => st1824.trans k_) ?_
            have hz1_1836 : own_z (own_upd (own_upd (own_upd (own_upd (own_upd (own_upd (fun _ => 0) ia (1 : Int64)) ib (1 : Int64)) ic (2 : Int64)) ia (0 : Int64)) ib (0 : Int64)) ic (0 : Int64)) NN := own_z.upd hz1_1823 hlt_ic
            exact K241 _ _ _ _ _ _ _ _ _ X1824 rfl N1824 Z1824 f1825 f1826 f1830 f1831 v1824_0 v1824_1 f1827 v1824_5 hNN hz1_1836 (own_fin_111 hab hac hbc hc207 hc219 hc231)
    obtain ⟨T1837, h1837, X1837, e1837, E1837, A1837, D1837, U1837, st1837⟩ := newO X0 hx hZ hown (own_w 0 hw rfl) (own_w 1 hw rfl) (own_w 2 hw rfl) e0 (g := (mkF m 130 #[.val (.int p0), .val (.int p1), .val (.int p2), .val (.int p3), .val (.int p4), .val (.int p5), .val (.int (Int32.ofNat ia)), .val (.int (Int32.ofNat ib)), .val (.int (Int32.ofNat ic)), .val (.int u9), .val (.int u10), .val (.int u11), s12, .val (.int (Int32.ofNat qq)), .unset, .unset, .unset, .unset, .unset] [])) rfl (hb hby at_130) (by decide) (by decide)
    obtain ⟨b1837, g1837⟩ : ∃ z, z = h0.size := ⟨_, rfl⟩
    rw [← g1837] at A1837 D1837 U1837 st1837
    have g_b1837 : n0 ≤ b1837 := Nat.le_trans Z0 (Nat.le_of_eq g1837.symm)
    have Z1837 : n0 ≤ h1837.size := Nat.le_trans Z0 E1837.1
    have f1838 : Fld Z h1837 b1837 "com/example/adfair/adfair/Ranking$Places" "place" "[I" .null := D1837 (Or.inl (own_w 11 hw rfl)) (ty := (.array .int)) (by decide)
    have f1839 : Fld Z h1837 b1837 "com/example/adfair/adfair/Ranking$Places" "holder" "[J" .null := D1837 (Or.inl (own_w 14 hw rfl)) (ty := (.array .long)) (by decide)
    have f1840 : Fld Z h1837 b1837 "com/example/adfair/adfair/Ranking$Places" "rankings" "J" (.long 0) := D1837 (Or.inl (own_w 38 hw rfl)) (ty := .long) (by decide)
    refine own_s 133 [(.ref b1837)] (fun _ k_ => st1837 _ k_) ?_
    refine own_s 134 [(.ref b1837), (.ref b1837)] (fun _ k_ => XS.dup X1837.here hx rfl (hb hby at_133) rfl rfl k_) ?_
    obtain ⟨vv1841, _, ⟨T1841, L1841, k1841, n1841⟩, -, X1841, ⟨Lc1841, hQ1841, l1841, y1841, z1841⟩, st1841⟩ := X1837.specialBack hx (y := (⟨"com/example/adfair/adfair/Ranking$Places", "<init>", "()V"⟩ : MethodName)) rfl hown (mvT hZ (own_w 3 hw rfl)) (mvT hZ (own_w 4 hw rfl)) (mvT hZ (own_w 5 hw rfl)) (by decide) (backOf (W := 1) (rmPI l Z a0 hw [] b1837 h1837 n0 Z1837 A1837 f1838 f1839 f1840 g_b1837) hZ (own_w 5 hw rfl) (own_w 2 hw rfl) (by decide) (by decide)) (g := (mkF m 134 #[.val (.int p0), .val (.int p1), .val (.int p2), .val (.int p3), .val (.int p4), .val (.int p5), .val (.int (Int32.ofNat ia)), .val (.int (Int32.ofNat ib)), .val (.int (Int32.ofNat ic)), .val (.int u9), .val (.int u10), .val (.int u11), s12, .val (.int (Int32.ofNat qq)), .unset, .unset, .unset, .unset, .unset] [(.ref b1837), (.ref b1837)])) rfl (by rw [hml]; rfl) (Steps.refl _) (a := b1837) (argsL := []) (rest := [(.ref b1837)]) (lenOf pd__28__29_V rfl) rfl (by show 2 * 0 + _ ≤ _; exact Nat.le_of_eq rfl) (hb hby at_134) (fun _ _ => ⟨rfl, e1837, (by decide : 1 + 2 ≤ _), (by decide : 3 + 32 ≤ _)⟩)
    dsimp only [Pt.U, Pt.locs, Pt.cells, Pt.slots] at X1841 l1841 y1841 z1841 st1841 hQ1841
    subst l1841 y1841 z1841
    obtain ⟨pa_1841, ha_1841, rfl, N1841q, K1841, g_pa_1841, g_ha_1841, s_pa_1841, s_ha_1841, ne_pa_1841_ha_1841, v1841_0, v1841_1, v1841_2, v1841_3, v1841_4⟩ := hQ1841
    have N1841 := Fr.app N0 N1841q
    have ne_b1837_pa_1841 : b1837 ≠ pa_1841 := Nat.ne_of_lt (Nat.lt_of_lt_of_le A1837.lt s_pa_1841)
    have ne_b1837_ha_1841 : b1837 ≠ ha_1841 := Nat.ne_of_lt (Nat.lt_of_lt_of_le A1837.lt s_ha_1841)
    have f1842 := A1837.keep K1841
    have Z1841 : n0 ≤ T1841.heap.size := Nat.le_trans Z1837 K1841.1
    refine own_s 137 [(.ref b1837)] (fun _ k_ => st1841.trans k_) ?_
    refine own_go (B := T1841.setTop (mkF m 139 #[.val (.int p0), .val (.int p1), .val (.int p2), .val (.int p3), .val (.int p4), .val (.int p5), .val (.int (Int32.ofNat ia)), .val (.int (Int32.ofNat ib)), .val (.int (Int32.ofNat ic)), .val (.int u9), .val (.int u10), .val (.int u11), s12, .val (.int (Int32.ofNat qq)), .val (.ref b1837), .unset, .unset, .unset, .unset] [])) (fun _ k_ => XS.astore X1841.here hx rfl (hb hby at_137) rfl rfl (l' := #[.val (.int p0), .val (.int p1), .val (.int p2), .val (.int p3), .val (.int p4), .val (.int p5), .val (.int (Int32.ofNat ia)), .val (.int (Int32.ofNat ib)), .val (.int (Int32.ofNat ic)), .val (.int u9), .val (.int u10), .val (.int u11), s12, .val (.int (Int32.ofNat qq)), .val (.ref b1837), .unset, .unset, .unset, .unset]) rfl k_) ?_
    obtain ⟨T1843, h1843, X1843, e1843, E1843, A1843, D1843, U1843, st1843⟩ := newO X1841 hx hZ hown (own_w 15 hw rfl) (own_w 16 hw rfl) (own_w 17 hw rfl) rfl (g := (mkF m 139 #[.val (.int p0), .val (.int p1), .val (.int p2), .val (.int p3), .val (.int p4), .val (.int p5), .val (.int (Int32.ofNat ia)), .val (.int (Int32.ofNat ib)), .val (.int (Int32.ofNat ic)), .val (.int u9), .val (.int u10), .val (.int u11), s12, .val (.int (Int32.ofNat qq)), .val (.ref b1837), .unset, .unset, .unset, .unset] [])) rfl (hb hby at_139) (by decide) (by decide)
    obtain ⟨b1843, g1843⟩ : ∃ z, z = T1841.heap.size := ⟨_, rfl⟩
    rw [← g1843] at A1843 D1843 U1843 st1843
    have g_b1843 : n0 ≤ b1843 := Nat.le_trans Z1841 (Nat.le_of_eq g1843.symm)
    have ne_b1837_b1843 : b1837 ≠ b1843 := Nat.ne_of_lt (Nat.lt_of_lt_of_le f1842.lt (Nat.le_of_eq g1843.symm))
    have ne_pa_1841_b1843 : pa_1841 ≠ b1843 := Nat.ne_of_lt (Nat.lt_of_lt_of_le v1841_3.lt (Nat.le_of_eq g1843.symm))
    have ne_ha_1841_b1843 : ha_1841 ≠ b1843 := Nat.ne_of_lt (Nat.lt_of_lt_of_le v1841_4.lt (Nat.le_of_eq g1843.symm))
    have f1844 := f1842.ext E1843
    have f1845 := v1841_0.ext E1843
    have f1846 := v1841_1.ext E1843
    have f1847 := v1841_2.ext E1843
    have f1848 := v1841_3.ext E1843
    have f1849 := v1841_4.ext E1843
    have Z1843 : n0 ≤ h1843.size := Nat.le_trans Z1841 E1843.1
    have f1850 : Fld Z h1843 b1843 "com/example/adfair/adfair/Ranking" "members" "[I" .null := D1843 (Or.inl (own_w 23 hw rfl)) (ty := (.array .int)) (by decide)
    have f1851 : Fld Z h1843 b1843 "com/example/adfair/adfair/Ranking" "keys" "[D" .null := D1843 (Or.inl (own_w 26 hw rfl)) (ty := (.array .double)) (by decide)
    have f1852 : Fld Z h1843 b1843 "com/example/adfair/adfair/Ranking" "orders" "[J" .null := D1843 (Or.inl (own_w 28 hw rfl)) (ty := (.array .long)) (by decide)
    have f1853 : Fld Z h1843 b1843 "com/example/adfair/adfair/Ranking" "queued" "[I" .null := D1843 (Or.inl (own_w 30 hw rfl)) (ty := (.array .int)) (by decide)
    have f1854 : Fld Z h1843 b1843 "com/example/adfair/adfair/Ranking" "queuedKeys" "[D" .null := D1843 (Or.inl (own_w 32 hw rfl)) (ty := (.array .double)) (by decide)
    have f1855 : Fld Z h1843 b1843 "com/example/adfair/adfair/Ranking" "queuedOrders" "[J" .null := D1843 (Or.inl (own_w 34 hw rfl)) (ty := (.array .long)) (by decide)
    have f1856 : Fld Z h1843 b1843 "com/example/adfair/adfair/Ranking" "places" "Lcom/example/adfair/adfair/Ranking$Places;" .null := D1843 (Or.inr (own_w 36 hw rfl)) (ty := (.object "com/example/adfair/adfair/Ranking$Places")) (by decide)
    have f1857 : Fld Z h1843 b1843 "com/example/adfair/adfair/Ranking" "number" "J" (.long 0) := D1843 (Or.inr (own_w 40 hw rfl)) (ty := .long) (by decide)
    have f1858 : Fld Z h1843 b1843 "com/example/adfair/adfair/Ranking" "queueFirst" "I" (.int 0) := D1843 (Or.inl (own_w 56 hw rfl)) (ty := .int) (by decide)
    have f1859 : Fld Z h1843 b1843 "com/example/adfair/adfair/Ranking" "queueSize" "I" (.int 0) := D1843 (Or.inl (own_w 58 hw rfl)) (ty := .int) (by decide)
    refine own_s 142 [(.ref b1843)] (fun _ k_ => st1843 _ k_) ?_
    refine own_s 143 [(.ref b1843), (.ref b1843)] (fun _ k_ => XS.dup X1843.here hx rfl (hb hby at_142) rfl rfl k_) ?_
    refine own_aload 145 X1843.here hx (hb hby at_143) rfl rfl rfl ?_
    obtain ⟨vv1860, _, ⟨T1860, L1860, k1860, n1860⟩, -, X1860, ⟨Lc1860, hQ1860, l1860, y1860, z1860⟩, st1860⟩ := X1843.specialBack hx (y := (⟨"com/example/adfair/adfair/Ranking", "<init>", "(Lcom/example/adfair/adfair/Ranking$Places;)V"⟩ : MethodName)) rfl hown (mvT hZ (own_w 18 hw rfl)) (mvT hZ (own_w 19 hw rfl)) (mvT hZ (own_w 20 hw rfl)) (by decide) (backOf (W := 1) (rmRI0 l Z a0 hw [] b1843 b1837 pa_1841 ha_1841 h1843 n0 Z1843 A1843 f1844 f1850 f1851 f1852 f1853 f1854 f1855 f1856 f1857 f1858 f1859 f1847 f1845 f1846 (Ne.symm ne_b1837_b1843) g_b1843 g_b1837) hZ (own_w 20 hw rfl) (own_w 17 hw rfl) (by decide) (by decide)) (g := (mkF m 145 #[.val (.int p0), .val (.int p1), .val (.int p2), .val (.int p3), .val (.int p4), .val (.int p5), .val (.int (Int32.ofNat ia)), .val (.int (Int32.ofNat ib)), .val (.int (Int32.ofNat ic)), .val (.int u9), .val (.int u10), .val (.int u11), s12, .val (.int (Int32.ofNat qq)), .val (.ref b1837), .unset, .unset, .unset, .unset] [(.ref b1837), (.ref b1843), (.ref b1843)])) rfl (by rw [hml]; rfl) (Steps.refl _) (a := b1843) (argsL := [(.ref b1837)]) (rest := [(.ref b1843)]) (lenOf pd__28_Lcom_2f_example_2f_adfair_2f_adfair_2f_Ranking_24_Places_3b__29_V rfl) rfl (by show 2 * 0 + _ ≤ _; exact Nat.le_of_eq rfl) (hb hby at_145) (fun _ _ => ⟨rfl, e1843, (by decide : 4 + 6 ≤ _), (by decide : 46 + 96 ≤ _)⟩)
    dsimp only [Pt.U, Pt.locs, Pt.cells, Pt.slots] at X1860 l1860 y1860 z1860 st1860 hQ1860
    subst l1860 y1860 z1860
    obtain ⟨qa_1860, ka_1860, oa_1860, cq_1860, ck_1860, co_1860, rfl, N1860q, K1860, g_qa_1860, g_ka_1860, g_oa_1860, s_qa_1860, s_ka_1860, s_oa_1860, ne_qa_1860_ka_1860, ne_qa_1860_oa_1860, ne_ka_1860_oa_1860, v1860_0, v1860_1, v1860_2, v1860_3, v1860_4, v1860_5, v1860_6, v1860_7, v1860_8, v1860_9, v1860_10, v1860_11, v1860_12⟩ := hQ1860
    have N1860 := Fr.app N1841 N1860q
    have ne_b1837_qa_1860 : b1837 ≠ qa_1860 := Nat.ne_of_lt (Nat.lt_of_lt_of_le f1844.lt s_qa_1860)
    have ne_pa_1841_qa_1860 : pa_1841 ≠ qa_1860 := Nat.ne_of_lt (Nat.lt_of_lt_of_le f1848.lt s_qa_1860)
    have ne_ha_1841_qa_1860 : ha_1841 ≠ qa_1860 := Nat.ne_of_lt (Nat.lt_of_lt_of_le f1849.lt s_qa_1860)
    have ne_b1843_qa_1860 : b1843 ≠ qa_1860 := Nat.ne_of_lt (Nat.lt_of_lt_of_le A1843.lt s_qa_1860)
    have ne_b1837_ka_1860 : b1837 ≠ ka_1860 := Nat.ne_of_lt (Nat.lt_of_lt_of_le f1844.lt s_ka_1860)
    have ne_pa_1841_ka_1860 : pa_1841 ≠ ka_1860 := Nat.ne_of_lt (Nat.lt_of_lt_of_le f1848.lt s_ka_1860)
    have ne_ha_1841_ka_1860 : ha_1841 ≠ ka_1860 := Nat.ne_of_lt (Nat.lt_of_lt_of_le f1849.lt s_ka_1860)
    have ne_b1843_ka_1860 : b1843 ≠ ka_1860 := Nat.ne_of_lt (Nat.lt_of_lt_of_le A1843.lt s_ka_1860)
    have ne_b1837_oa_1860 : b1837 ≠ oa_1860 := Nat.ne_of_lt (Nat.lt_of_lt_of_le f1844.lt s_oa_1860)
    have ne_pa_1841_oa_1860 : pa_1841 ≠ oa_1860 := Nat.ne_of_lt (Nat.lt_of_lt_of_le f1848.lt s_oa_1860)
    have ne_ha_1841_oa_1860 : ha_1841 ≠ oa_1860 := Nat.ne_of_lt (Nat.lt_of_lt_of_le f1849.lt s_oa_1860)
    have ne_b1843_oa_1860 : b1843 ≠ oa_1860 := Nat.ne_of_lt (Nat.lt_of_lt_of_le A1843.lt s_oa_1860)
    have f1861 := f1844.keep K1860
    have f1862 := f1848.keep K1860 (ninS ne_pa_1841_b1843 (ninS (Ne.symm ne_b1837_pa_1841) nin0))
    have f1863 := f1849.keep K1860 (ninS ne_ha_1841_b1843 (ninS (Ne.symm ne_b1837_ha_1841) nin0))
    have f1864 := A1843.keep K1860
    have Z1860 : n0 ≤ T1860.heap.size := Nat.le_trans Z1843 K1860.1
    refine own_s 148 [(.ref b1843)] (fun _ k_ => st1860.trans k_) ?_
    refine own_go (B := T1860.setTop (mkF m 150 #[.val (.int p0), .val (.int p1), .val (.int p2), .val (.int p3), .val (.int p4), .val (.int p5), .val (.int (Int32.ofNat ia)), .val (.int (Int32.ofNat ib)), .val (.int (Int32.ofNat ic)), .val (.int u9), .val (.int u10), .val (.int u11), s12, .val (.int (Int32.ofNat qq)), .val (.ref b1837), .val (.ref b1843), .unset, .unset, .unset] [])) (fun _ k_ => XS.astore X1860.here hx rfl (hb hby at_148) rfl rfl (l' := #[.val (.int p0), .val (.int p1), .val (.int p2), .val (.int p3), .val (.int p4), .val (.int p5), .val (.int (Int32.ofNat ia)), .val (.int (Int32.ofNat ib)), .val (.int (Int32.ofNat ic)), .val (.int u9), .val (.int u10), .val (.int u11), s12, .val (.int (Int32.ofNat qq)), .val (.ref b1837), .val (.ref b1843), .unset, .unset, .unset]) rfl k_) ?_
    obtain ⟨T1865, h1865, X1865, e1865, E1865, A1865, D1865, U1865, st1865⟩ := newO X1860 hx hZ hown (own_w 15 hw rfl) (own_w 16 hw rfl) (own_w 17 hw rfl) rfl (g := (mkF m 150 #[.val (.int p0), .val (.int p1), .val (.int p2), .val (.int p3), .val (.int p4), .val (.int p5), .val (.int (Int32.ofNat ia)), .val (.int (Int32.ofNat ib)), .val (.int (Int32.ofNat ic)), .val (.int u9), .val (.int u10), .val (.int u11), s12, .val (.int (Int32.ofNat qq)), .val (.ref b1837), .val (.ref b1843), .unset, .unset, .unset] [])) rfl (hb hby at_150) (by decide) (by decide)
    obtain ⟨b1865, g1865⟩ : ∃ z, z = T1860.heap.size := ⟨_, rfl⟩
    rw [← g1865] at A1865 D1865 U1865 st1865
    have g_b1865 : n0 ≤ b1865 := Nat.le_trans Z1860 (Nat.le_of_eq g1865.symm)
    have ne_b1837_b1865 : b1837 ≠ b1865 := Nat.ne_of_lt (Nat.lt_of_lt_of_le f1861.lt (Nat.le_of_eq g1865.symm))
    have ne_pa_1841_b1865 : pa_1841 ≠ b1865 := Nat.ne_of_lt (Nat.lt_of_lt_of_le f1862.lt (Nat.le_of_eq g1865.symm))
    have ne_ha_1841_b1865 : ha_1841 ≠ b1865 := Nat.ne_of_lt (Nat.lt_of_lt_of_le f1863.lt (Nat.le_of_eq g1865.symm))
    have ne_b1843_b1865 : b1843 ≠ b1865 := Nat.ne_of_lt (Nat.lt_of_lt_of_le f1864.lt (Nat.le_of_eq g1865.symm))
    have ne_qa_1860_b1865 : qa_1860 ≠ b1865 := Nat.ne_of_lt (Nat.lt_of_lt_of_le v1860_10.lt (Nat.le_of_eq g1865.symm))
    have ne_ka_1860_b1865 : ka_1860 ≠ b1865 := Nat.ne_of_lt (Nat.lt_of_lt_of_le v1860_11.lt (Nat.le_of_eq g1865.symm))
    have ne_oa_1860_b1865 : oa_1860 ≠ b1865 := Nat.ne_of_lt (Nat.lt_of_lt_of_le v1860_12.lt (Nat.le_of_eq g1865.symm))
    have f1866 := f1861.ext E1865
    have f1867 := f1862.ext E1865
    have f1868 := f1863.ext E1865
    have f1869 := f1864.ext E1865
    have f1870 := v1860_0.ext E1865
    have f1871 := v1860_1.ext E1865
    have f1872 := v1860_2.ext E1865
    have f1873 := v1860_3.ext E1865
    have f1874 := v1860_4.ext E1865
    have f1875 := v1860_5.ext E1865
    have f1876 := v1860_6.ext E1865
    have f1877 := v1860_7.ext E1865
    have f1878 := v1860_8.ext E1865
    have f1879 := v1860_9.ext E1865
    have f1880 := v1860_10.ext E1865
    have f1881 := v1860_11.ext E1865
    have f1882 := v1860_12.ext E1865
    have Z1865 : n0 ≤ h1865.size := Nat.le_trans Z1860 E1865.1
    have f1883 : Fld Z h1865 b1865 "com/example/adfair/adfair/Ranking" "members" "[I" .null := D1865 (Or.inl (own_w 23 hw rfl)) (ty := (.array .int)) (by decide)
    have f1884 : Fld Z h1865 b1865 "com/example/adfair/adfair/Ranking" "keys" "[D" .null := D1865 (Or.inl (own_w 26 hw rfl)) (ty := (.array .double)) (by decide)
    have f1885 : Fld Z h1865 b1865 "com/example/adfair/adfair/Ranking" "orders" "[J" .null := D1865 (Or.inl (own_w 28 hw rfl)) (ty := (.array .long)) (by decide)
    have f1886 : Fld Z h1865 b1865 "com/example/adfair/adfair/Ranking" "queued" "[I" .null := D1865 (Or.inl (own_w 30 hw rfl)) (ty := (.array .int)) (by decide)
    have f1887 : Fld Z h1865 b1865 "com/example/adfair/adfair/Ranking" "queuedKeys" "[D" .null := D1865 (Or.inl (own_w 32 hw rfl)) (ty := (.array .double)) (by decide)
    have f1888 : Fld Z h1865 b1865 "com/example/adfair/adfair/Ranking" "queuedOrders" "[J" .null := D1865 (Or.inl (own_w 34 hw rfl)) (ty := (.array .long)) (by decide)
    have f1889 : Fld Z h1865 b1865 "com/example/adfair/adfair/Ranking" "places" "Lcom/example/adfair/adfair/Ranking$Places;" .null := D1865 (Or.inr (own_w 36 hw rfl)) (ty := (.object "com/example/adfair/adfair/Ranking$Places")) (by decide)
    have f1890 : Fld Z h1865 b1865 "com/example/adfair/adfair/Ranking" "number" "J" (.long 0) := D1865 (Or.inr (own_w 40 hw rfl)) (ty := .long) (by decide)
    have f1891 : Fld Z h1865 b1865 "com/example/adfair/adfair/Ranking" "queueFirst" "I" (.int 0) := D1865 (Or.inl (own_w 56 hw rfl)) (ty := .int) (by decide)
    have f1892 : Fld Z h1865 b1865 "com/example/adfair/adfair/Ranking" "queueSize" "I" (.int 0) := D1865 (Or.inl (own_w 58 hw rfl)) (ty := .int) (by decide)
    refine own_s 153 [(.ref b1865)] (fun _ k_ => st1865 _ k_) ?_
    refine own_s 154 [(.ref b1865), (.ref b1865)] (fun _ k_ => XS.dup X1865.here hx rfl (hb hby at_153) rfl rfl k_) ?_
    refine own_aload 156 X1865.here hx (hb hby at_154) rfl rfl rfl ?_
    obtain ⟨vv1893, _, ⟨T1893, L1893, k1893, n1893⟩, -, X1893, ⟨Lc1893, hQ1893, l1893, y1893, z1893⟩, st1893⟩ := X1865.specialBack hx (y := (⟨"com/example/adfair/adfair/Ranking", "<init>", "(Lcom/example/adfair/adfair/Ranking$Places;)V"⟩ : MethodName)) rfl hown (mvT hZ (own_w 18 hw rfl)) (mvT hZ (own_w 19 hw rfl)) (mvT hZ (own_w 20 hw rfl)) (by decide) (backOf (W := 1) (rmRI1 l Z a0 hw [] b1865 b1837 pa_1841 ha_1841 h1865 n0 Z1865 A1865 f1866 f1883 f1884 f1885 f1886 f1887 f1888 f1889 f1890 f1891 f1892 f1877 f1878 f1879 (Ne.symm ne_b1837_b1865) g_b1865 g_b1837) hZ (own_w 20 hw rfl) (own_w 17 hw rfl) (by decide) (by decide)) (g := (mkF m 156 #[.val (.int p0), .val (.int p1), .val (.int p2), .val (.int p3), .val (.int p4), .val (.int p5), .val (.int (Int32.ofNat ia)), .val (.int (Int32.ofNat ib)), .val (.int (Int32.ofNat ic)), .val (.int u9), .val (.int u10), .val (.int u11), s12, .val (.int (Int32.ofNat qq)), .val (.ref b1837), .val (.ref b1843), .unset, .unset, .unset] [(.ref b1837), (.ref b1865), (.ref b1865)])) rfl (by rw [hml]; rfl) (Steps.refl _) (a := b1865) (argsL := [(.ref b1837)]) (rest := [(.ref b1865)]) (lenOf pd__28_Lcom_2f_example_2f_adfair_2f_adfair_2f_Ranking_24_Places_3b__29_V rfl) rfl (by show 2 * 0 + _ ≤ _; exact Nat.le_of_eq rfl) (hb hby at_156) (fun _ _ => ⟨rfl, e1865, (by decide : 11 + 6 ≤ _), (by decide : 153 + 96 ≤ _)⟩)
    dsimp only [Pt.U, Pt.locs, Pt.cells, Pt.slots] at X1893 l1893 y1893 z1893 st1893 hQ1893
    subst l1893 y1893 z1893
    obtain ⟨qa_1893, ka_1893, oa_1893, cq_1893, ck_1893, co_1893, rfl, N1893q, K1893, g_qa_1893, g_ka_1893, g_oa_1893, s_qa_1893, s_ka_1893, s_oa_1893, ne_qa_1893_ka_1893, ne_qa_1893_oa_1893, ne_ka_1893_oa_1893, v1893_0, v1893_1, v1893_2, v1893_3, v1893_4, v1893_5, v1893_6, v1893_7, v1893_8, v1893_9, v1893_10, v1893_11, v1893_12⟩ := hQ1893
    have N1893 := Fr.app N1860 N1893q
    have ne_b1837_qa_1893 : b1837 ≠ qa_1893 := Nat.ne_of_lt (Nat.lt_of_lt_of_le f1866.lt s_qa_1893)
    have ne_pa_1841_qa_1893 : pa_1841 ≠ qa_1893 := Nat.ne_of_lt (Nat.lt_of_lt_of_le f1867.lt s_qa_1893)
    have ne_ha_1841_qa_1893 : ha_1841 ≠ qa_1893 := Nat.ne_of_lt (Nat.lt_of_lt_of_le f1868.lt s_qa_1893)
    have ne_b1843_qa_1893 : b1843 ≠ qa_1893 := Nat.ne_of_lt (Nat.lt_of_lt_of_le f1869.lt s_qa_1893)
    have ne_qa_1860_qa_1893 : qa_1860 ≠ qa_1893 := Nat.ne_of_lt (Nat.lt_of_lt_of_le f1880.lt s_qa_1893)
    have ne_ka_1860_qa_1893 : ka_1860 ≠ qa_1893 := Nat.ne_of_lt (Nat.lt_of_lt_of_le f1881.lt s_qa_1893)
    have ne_oa_1860_qa_1893 : oa_1860 ≠ qa_1893 := Nat.ne_of_lt (Nat.lt_of_lt_of_le f1882.lt s_qa_1893)
    have ne_b1865_qa_1893 : b1865 ≠ qa_1893 := Nat.ne_of_lt (Nat.lt_of_lt_of_le A1865.lt s_qa_1893)
    have ne_b1837_ka_1893 : b1837 ≠ ka_1893 := Nat.ne_of_lt (Nat.lt_of_lt_of_le f1866.lt s_ka_1893)
    have ne_pa_1841_ka_1893 : pa_1841 ≠ ka_1893 := Nat.ne_of_lt (Nat.lt_of_lt_of_le f1867.lt s_ka_1893)
    have ne_ha_1841_ka_1893 : ha_1841 ≠ ka_1893 := Nat.ne_of_lt (Nat.lt_of_lt_of_le f1868.lt s_ka_1893)
    have ne_b1843_ka_1893 : b1843 ≠ ka_1893 := Nat.ne_of_lt (Nat.lt_of_lt_of_le f1869.lt s_ka_1893)
    have ne_qa_1860_ka_1893 : qa_1860 ≠ ka_1893 := Nat.ne_of_lt (Nat.lt_of_lt_of_le f1880.lt s_ka_1893)
    have ne_ka_1860_ka_1893 : ka_1860 ≠ ka_1893 := Nat.ne_of_lt (Nat.lt_of_lt_of_le f1881.lt s_ka_1893)
    have ne_oa_1860_ka_1893 : oa_1860 ≠ ka_1893 := Nat.ne_of_lt (Nat.lt_of_lt_of_le f1882.lt s_ka_1893)
    have ne_b1865_ka_1893 : b1865 ≠ ka_1893 := Nat.ne_of_lt (Nat.lt_of_lt_of_le A1865.lt s_ka_1893)
    have ne_b1837_oa_1893 : b1837 ≠ oa_1893 := Nat.ne_of_lt (Nat.lt_of_lt_of_le f1866.lt s_oa_1893)
    have ne_pa_1841_oa_1893 : pa_1841 ≠ oa_1893 := Nat.ne_of_lt (Nat.lt_of_lt_of_le f1867.lt s_oa_1893)
    have ne_ha_1841_oa_1893 : ha_1841 ≠ oa_1893 := Nat.ne_of_lt (Nat.lt_of_lt_of_le f1868.lt s_oa_1893)
    have ne_b1843_oa_1893 : b1843 ≠ oa_1893 := Nat.ne_of_lt (Nat.lt_of_lt_of_le f1869.lt s_oa_1893)
    have ne_qa_1860_oa_1893 : qa_1860 ≠ oa_1893 := Nat.ne_of_lt (Nat.lt_of_lt_of_le f1880.lt s_oa_1893)
    have ne_ka_1860_oa_1893 : ka_1860 ≠ oa_1893 := Nat.ne_of_lt (Nat.lt_of_lt_of_le f1881.lt s_oa_1893)
    have ne_oa_1860_oa_1893 : oa_1860 ≠ oa_1893 := Nat.ne_of_lt (Nat.lt_of_lt_of_le f1882.lt s_oa_1893)
    have ne_b1865_oa_1893 : b1865 ≠ oa_1893 := Nat.ne_of_lt (Nat.lt_of_lt_of_le A1865.lt s_oa_1893)
    have f1894 := f1866.keep K1893
    have f1895 := f1867.keep K1893 (ninS ne_pa_1841_b1865 (ninS (Ne.symm ne_b1837_pa_1841) nin0))
    have f1896 := f1868.keep K1893 (ninS ne_ha_1841_b1865 (ninS (Ne.symm ne_b1837_ha_1841) nin0))
    have f1897 := f1869.keep K1893
    have f1898 := f1870.keep K1893 (ninS ne_b1843_b1865 (ninS (Ne.symm ne_b1837_b1843) nin0))
    have f1899 := f1871.keep K1893 (ninS ne_b1843_b1865 (ninS (Ne.symm ne_b1837_b1843) nin0))
    have f1900 := f1872.keep K1893 (ninS ne_b1843_b1865 (ninS (Ne.symm ne_b1837_b1843) nin0))
    have f1901 := f1873.keep K1893 (ninS ne_b1843_b1865 (ninS (Ne.symm ne_b1837_b1843) nin0))
    have f1902 := f1874.keep K1893 (ninS ne_b1843_b1865 (ninS (Ne.symm ne_b1837_b1843) nin0))
    have f1903 := f1875.keep K1893 (ninS ne_b1843_b1865 (ninS (Ne.symm ne_b1837_b1843) nin0))
    have f1904 := f1876.keep K1893 (ninS ne_b1843_b1865 (ninS (Ne.symm ne_b1837_b1843) nin0))
    have f1905 := f1880.keep K1893 (ninS ne_qa_1860_b1865 (ninS (Ne.symm ne_b1837_qa_1860) nin0))
    have f1906 := f1881.keep K1893 (ninS ne_ka_1860_b1865 (ninS (Ne.symm ne_b1837_ka_1860) nin0))
    have f1907 := f1882.keep K1893 (ninS ne_oa_1860_b1865 (ninS (Ne.symm ne_b1837_oa_1860) nin0))
    have f1908 := A1865.keep K1893
    have Z1893 : n0 ≤ T1893.heap.size := Nat.le_trans Z1865 K1893.1
    refine own_s 159 [(.ref b1865)] (fun _ k_ => st1893.trans k_) ?_
    have hz1_0 : own_z (fun _ => 0) 16 := fun _ _ => rfl
    have hz2_0 : own_zI (fun _ => 0) 16 := fun _ _ => rfl
    have hf_ia : ((fun _ => 0) : Nat → Int64) ia = (0 : Int64) := by simp [own_upd, own_updI, hab, hac, hbc, hab.symm, hac.symm, hbc.symm]
    refine own_go (B := T1893.setTop (mkF m 161 #[.val (.int p0), .val (.int p1), .val (.int p2), .val (.int p3), .val (.int p4), .val (.int p5), .val (.int (Int32.ofNat ia)), .val (.int (Int32.ofNat ib)), .val (.int (Int32.ofNat ic)), .val (.int u9), .val (.int u10), .val (.int u11), s12, .val (.int (Int32.ofNat qq)), .val (.ref b1837), .val (.ref b1843), .val (.ref b1865), .unset, .unset] [])) (fun _ k_ => XS.astore X1893.here hx rfl (hb hby at_159) rfl rfl (l' := #[.val (.int p0), .val (.int p1), .val (.int p2), .val (.int p3), .val (.int p4), .val (.int p5), .val (.int (Int32.ofNat ia)), .val (.int (Int32.ofNat ib)), .val (.int (Int32.ofNat ic)), .val (.int u9), .val (.int u10), .val (.int u11), s12, .val (.int (Int32.ofNat qq)), .val (.ref b1837), .val (.ref b1843), .val (.ref b1865), .unset, .unset]) rfl k_) ?_
    refine own_aload 163 X1893.here hx (hb hby at_161) rfl rfl rfl ?_
    refine own_iload 165 X1893.here hx (hb hby at_163) rfl rfl ?_
    refine own_iloadN 166 X1893.here hx (hb hby at_165) rfl rfl ?_
    refine own_s 167 [(.int 3), (.int p3), (.int (Int32.ofNat ia)), (.ref b1843)] (fun _ k_ => XS.iconst X1893.here hx rfl (hb hby at_166) k_) ?_
    refine own_s 168 [(.int (p3 &&& (3 : Int32))), (.int (Int32.ofNat ia)), (.ref b1843)] (fun _ k_ => XS.iand X1893.here hx rfl (hb hby at_167) rfl k_) ?_
    refine own_s 169 [(.double (FP.l2d ((p3 &&& (3 : Int32)).toInt64))), (.int (Int32.ofNat ia)), (.ref b1843)] (fun _ k_ => XS.i2dS X1893.here hx rfl (hb hby at_168) rfl (i2d_w _) k_) ?_
    refine own_s 170 [(.long 1), (.double (FP.l2d ((p3 &&& (3 : Int32)).toInt64))), (.int (Int32.ofNat ia)), (.ref b1843)] (fun _ k_ => XS.lconst X1893.here hx rfl (hb hby at_169) k_) ?_
    obtain ⟨cq1909, kq1909, q1909a, q1909b, q1909c⟩ := isOf hZ rfl f1897
    obtain ⟨vv1909, _, ⟨T1909, L1909, k1909, n1909⟩, -, X1909, ⟨Lc1909, hQ1909, l1909, y1909, z1909⟩, st1909⟩ := X1893.virtualBack hx (y := (⟨"com/example/adfair/adfair/Ranking", "add", "(IDJ)V"⟩ : MethodName)) (z := (⟨"com/example/adfair/adfair/Ranking", "add", "(IDJ)V"⟩ : MethodName)) hown (mvT hZ (own_w 41 hw rfl)) (mvT hZ (own_w 42 hw rfl)) (notFace_of_selects (args := #[]) (mvT hZ (own_w 44 hw rfl))) (mvT hZ (own_w 44 hw rfl)) (mvT hZ (own_w 43 hw rfl)) (by decide) (backOf (W := 0) (rmAd0 l Z a0 hw [] b1843 ia ((p3 &&& (3 : Int32)).toInt64) (1 : Int64) b1837 pa_1841 ha_1841 qa_1860 ka_1860 oa_1860 cq_1860 ck_1860 co_1860 16 (fun _ => 0) (fun _ => 0) (1 : Int64) (T1893.heap) n0 Z1893 f1897 f1901 f1898 f1899 f1900 f1894 f1902 f1903 f1904 v1893_9 v1893_8 f1896 f1895 f1905 f1906 f1907 (Ne.symm ne_b1837_b1843) (Ne.symm ne_pa_1841_b1843) (Ne.symm ne_ha_1841_b1843) ne_b1843_qa_1860 ne_b1843_ka_1860 ne_b1843_oa_1860 ne_b1837_pa_1841 ne_b1837_ha_1841 ne_b1837_qa_1860 ne_b1837_ka_1860 ne_b1837_oa_1860 ne_pa_1841_ha_1841 ne_pa_1841_qa_1860 ne_pa_1841_ka_1860 ne_pa_1841_oa_1860 ne_ha_1841_qa_1860 ne_ha_1841_ka_1860 ne_ha_1841_oa_1860 ne_qa_1860_ka_1860 ne_qa_1860_oa_1860 ne_ka_1860_oa_1860 g_b1843 g_b1837 g_pa_1841 g_ha_1841 g_qa_1860 g_ka_1860 g_oa_1860 (Nat.le_refl 16) (by decide) la hf_ia hz1_0 hz2_0) hZ (own_w 45 hw rfl) (own_w 17 hw rfl) (by decide) (by decide)) q1909a q1909c (g := (mkF m 170 #[.val (.int p0), .val (.int p1), .val (.int p2), .val (.int p3), .val (.int p4), .val (.int p5), .val (.int (Int32.ofNat ia)), .val (.int (Int32.ofNat ib)), .val (.int (Int32.ofNat ic)), .val (.int u9), .val (.int u10), .val (.int u11), s12, .val (.int (Int32.ofNat qq)), .val (.ref b1837), .val (.ref b1843), .val (.ref b1865), .unset, .unset] [(.long 1), (.double (FP.l2d ((p3 &&& (3 : Int32)).toInt64))), (.int (Int32.ofNat ia)), (.ref b1843)])) rfl (by rw [hml]; rfl) (Steps.refl _) (argsL := [(.int (Int32.ofNat ia)), (.double (FP.l2d ((p3 &&& (3 : Int32)).toInt64))), (.long 1)]) (rest := []) (lenOf pd__28_IDJ_29_V rfl) rfl (by show 2 * 0 + _ ≤ _; exact Nat.le_of_eq rfl) (hb hby at_170) (fun _ _ => ⟨rfl, rfl, (by decide : 17 + 2 ≤ _), (by decide : 249 + 252 ≤ _)⟩)
    dsimp only [Pt.U, Pt.locs, Pt.cells, Pt.slots] at X1909 l1909 y1909 z1909 st1909 hQ1909
    subst l1909 y1909 z1909
    obtain ⟨N2_1909, p2_1909, h2_1909, rfl, N1909q, K1909, g_p2_1909, g_h2_1909, fr_p2_1909, fr_h2_1909, ne_p2_1909_h2_1909, hM_1909, hy1_1909, hy2_1909, v1909_0, v1909_1, v1909_2, v1909_3, v1909_4, v1909_5, v1909_6, v1909_7, v1909_8, v1909_9, v1909_10, v1909_11, v1909_12, v1909_13⟩ := hQ1909
    have N1909 := Fr.app N1893 N1909q
    have ne_b1837_p2_1909 : b1837 ≠ p2_1909 := fr_p2_1909 _ f1894.lt ne_b1837_pa_1841
    have ne_ha_1841_p2_1909 : ha_1841 ≠ p2_1909 := fr_p2_1909 _ f1896.lt (Ne.symm ne_pa_1841_ha_1841)
    have ne_b1843_p2_1909 : b1843 ≠ p2_1909 := fr_p2_1909 _ f1897.lt (Ne.symm ne_pa_1841_b1843)
    have ne_qa_1860_p2_1909 : qa_1860 ≠ p2_1909 := fr_p2_1909 _ f1905.lt (Ne.symm ne_pa_1841_qa_1860)
    have ne_ka_1860_p2_1909 : ka_1860 ≠ p2_1909 := fr_p2_1909 _ f1906.lt (Ne.symm ne_pa_1841_ka_1860)
    have ne_oa_1860_p2_1909 : oa_1860 ≠ p2_1909 := fr_p2_1909 _ f1907.lt (Ne.symm ne_pa_1841_oa_1860)
    have ne_b1865_p2_1909 : b1865 ≠ p2_1909 := fr_p2_1909 _ f1908.lt (Ne.symm ne_pa_1841_b1865)
    have ne_qa_1893_p2_1909 : qa_1893 ≠ p2_1909 := fr_p2_1909 _ v1893_10.lt (Ne.symm ne_pa_1841_qa_1893)
    have ne_ka_1893_p2_1909 : ka_1893 ≠ p2_1909 := fr_p2_1909 _ v1893_11.lt (Ne.symm ne_pa_1841_ka_1893)
    have ne_oa_1893_p2_1909 : oa_1893 ≠ p2_1909 := fr_p2_1909 _ v1893_12.lt (Ne.symm ne_pa_1841_oa_1893)
    have ne_b1837_h2_1909 : b1837 ≠ h2_1909 := fr_h2_1909 _ f1894.lt ne_b1837_ha_1841
    have ne_pa_1841_h2_1909 : pa_1841 ≠ h2_1909 := fr_h2_1909 _ f1895.lt ne_pa_1841_ha_1841
    have ne_b1843_h2_1909 : b1843 ≠ h2_1909 := fr_h2_1909 _ f1897.lt (Ne.symm ne_ha_1841_b1843)
    have ne_qa_1860_h2_1909 : qa_1860 ≠ h2_1909 := fr_h2_1909 _ f1905.lt (Ne.symm ne_ha_1841_qa_1860)
    have ne_ka_1860_h2_1909 : ka_1860 ≠ h2_1909 := fr_h2_1909 _ f1906.lt (Ne.symm ne_ha_1841_ka_1860)
    have ne_oa_1860_h2_1909 : oa_1860 ≠ h2_1909 := fr_h2_1909 _ f1907.lt (Ne.symm ne_ha_1841_oa_1860)
    have ne_b1865_h2_1909 : b1865 ≠ h2_1909 := fr_h2_1909 _ f1908.lt (Ne.symm ne_ha_1841_b1865)
    have ne_qa_1893_h2_1909 : qa_1893 ≠ h2_1909 := fr_h2_1909 _ v1893_10.lt (Ne.symm ne_ha_1841_qa_1893)
    have ne_ka_1893_h2_1909 : ka_1893 ≠ h2_1909 := fr_h2_1909 _ v1893_11.lt (Ne.symm ne_ha_1841_ka_1893)
    have ne_oa_1893_h2_1909 : oa_1893 ≠ h2_1909 := fr_h2_1909 _ v1893_12.lt (Ne.symm ne_ha_1841_oa_1893)
    have f1910 := f1894.keep K1909
    have f1911 := f1897.keep K1909
    have f1912 := f1908.keep K1909
    have f1913 := v1893_0.keep K1909 (ninS (Ne.symm ne_b1843_b1865) (ninS (Ne.symm ne_b1837_b1865) (ninS (Ne.symm ne_pa_1841_b1865) (ninS (Ne.symm ne_ha_1841_b1865) (ninS (Ne.symm ne_qa_1860_b1865) (ninS (Ne.symm ne_ka_1860_b1865) (ninS (Ne.symm ne_oa_1860_b1865) nin0)))))))
    have f1914 := v1893_1.keep K1909 (ninS (Ne.symm ne_b1843_b1865) (ninS (Ne.symm ne_b1837_b1865) (ninS (Ne.symm ne_pa_1841_b1865) (ninS (Ne.symm ne_ha_1841_b1865) (ninS (Ne.symm ne_qa_1860_b1865) (ninS (Ne.symm ne_ka_1860_b1865) (ninS (Ne.symm ne_oa_1860_b1865) nin0)))))))
    have f1915 := v1893_2.keep K1909 (ninS (Ne.symm ne_b1843_b1865) (ninS (Ne.symm ne_b1837_b1865) (ninS (Ne.symm ne_pa_1841_b1865) (ninS (Ne.symm ne_ha_1841_b1865) (ninS (Ne.symm ne_qa_1860_b1865) (ninS (Ne.symm ne_ka_1860_b1865) (ninS (Ne.symm ne_oa_1860_b1865) nin0)))))))
    have f1916 := v1893_3.keep K1909 (ninS (Ne.symm ne_b1843_b1865) (ninS (Ne.symm ne_b1837_b1865) (ninS (Ne.symm ne_pa_1841_b1865) (ninS (Ne.symm ne_ha_1841_b1865) (ninS (Ne.symm ne_qa_1860_b1865) (ninS (Ne.symm ne_ka_1860_b1865) (ninS (Ne.symm ne_oa_1860_b1865) nin0)))))))
    have f1917 := v1893_4.keep K1909 (ninS (Ne.symm ne_b1843_b1865) (ninS (Ne.symm ne_b1837_b1865) (ninS (Ne.symm ne_pa_1841_b1865) (ninS (Ne.symm ne_ha_1841_b1865) (ninS (Ne.symm ne_qa_1860_b1865) (ninS (Ne.symm ne_ka_1860_b1865) (ninS (Ne.symm ne_oa_1860_b1865) nin0)))))))
    have f1918 := v1893_5.keep K1909 (ninS (Ne.symm ne_b1843_b1865) (ninS (Ne.symm ne_b1837_b1865) (ninS (Ne.symm ne_pa_1841_b1865) (ninS (Ne.symm ne_ha_1841_b1865) (ninS (Ne.symm ne_qa_1860_b1865) (ninS (Ne.symm ne_ka_1860_b1865) (ninS (Ne.symm ne_oa_1860_b1865) nin0)))))))
    have f1919 := v1893_6.keep K1909 (ninS (Ne.symm ne_b1843_b1865) (ninS (Ne.symm ne_b1837_b1865) (ninS (Ne.symm ne_pa_1841_b1865) (ninS (Ne.symm ne_ha_1841_b1865) (ninS (Ne.symm ne_qa_1860_b1865) (ninS (Ne.symm ne_ka_1860_b1865) (ninS (Ne.symm ne_oa_1860_b1865) nin0)))))))
    have f1920 := v1893_10.keep K1909 (ninS (Ne.symm ne_b1843_qa_1893) (ninS (Ne.symm ne_b1837_qa_1893) (ninS (Ne.symm ne_pa_1841_qa_1893) (ninS (Ne.symm ne_ha_1841_qa_1893) (ninS (Ne.symm ne_qa_1860_qa_1893) (ninS (Ne.symm ne_ka_1860_qa_1893) (ninS (Ne.symm ne_oa_1860_qa_1893) nin0)))))))
    have f1921 := v1893_11.keep K1909 (ninS (Ne.symm ne_b1843_ka_1893) (ninS (Ne.symm ne_b1837_ka_1893) (ninS (Ne.symm ne_pa_1841_ka_1893) (ninS (Ne.symm ne_ha_1841_ka_1893) (ninS (Ne.symm ne_qa_1860_ka_1893) (ninS (Ne.symm ne_ka_1860_ka_1893) (ninS (Ne.symm ne_oa_1860_ka_1893) nin0)))))))
    have f1922 := v1893_12.keep K1909 (ninS (Ne.symm ne_b1843_oa_1893) (ninS (Ne.symm ne_b1837_oa_1893) (ninS (Ne.symm ne_pa_1841_oa_1893) (ninS (Ne.symm ne_ha_1841_oa_1893) (ninS (Ne.symm ne_qa_1860_oa_1893) (ninS (Ne.symm ne_ka_1860_oa_1893) (ninS (Ne.symm ne_oa_1860_oa_1893) nin0)))))))
    have Z1909 : n0 ≤ T1909.heap.size := Nat.le_trans Z1893 K1909.1
    refine own_s 173 [] (fun _ k_ => st1909.trans k_) ?_
    have hf_ib : ((own_upd (fun _ => 0) ia (1 : Int64)) : Nat → Int64) ib = (0 : Int64) := by simp [own_upd, own_updI, hab, hac, hbc, hab.symm, hac.symm, hbc.symm]
    refine own_aload 175 X1909.here hx (hb hby at_173) rfl rfl rfl ?_
    refine own_iload 177 X1909.here hx (hb hby at_175) rfl rfl ?_
    refine own_iloadN 178 X1909.here hx (hb hby at_177) rfl rfl ?_
    refine own_s 179 [(.int 2), (.int p3), (.int (Int32.ofNat ib)), (.ref b1843)] (fun _ k_ => XS.iconst X1909.here hx rfl (hb hby at_178) k_) ?_
    refine own_s 180 [(.int ((p3.toUInt32 >>> ((2 : Int32) &&& 31).toUInt32).toInt32)), (.int (Int32.ofNat ib)), (.ref b1843)] (fun _ k_ => XS.iushr X1909.here hx rfl (hb hby at_179) rfl k_) ?_
    refine own_s 181 [(.int 3), (.int ((p3.toUInt32 >>> ((2 : Int32) &&& 31).toUInt32).toInt32)), (.int (Int32.ofNat ib)), (.ref b1843)] (fun _ k_ => XS.iconst X1909.here hx rfl (hb hby at_180) k_) ?_
    refine own_s 182 [(.int (((p3.toUInt32 >>> ((2 : Int32) &&& 31).toUInt32).toInt32) &&& (3 : Int32))), (.int (Int32.ofNat ib)), (.ref b1843)] (fun _ k_ => XS.iand X1909.here hx rfl (hb hby at_181) rfl k_) ?_
    refine own_s 183 [(.double (FP.l2d ((((p3.toUInt32 >>> ((2 : Int32) &&& 31).toUInt32).toInt32) &&& (3 : Int32)).toInt64))), (.int (Int32.ofNat ib)), (.ref b1843)] (fun _ k_ => XS.i2dS X1909.here hx rfl (hb hby at_182) rfl (i2d_w _) k_) ?_
    refine own_go (B := T1909.setTop (mkF m 186 #[.val (.int p0), .val (.int p1), .val (.int p2), .val (.int p3), .val (.int p4), .val (.int p5), .val (.int (Int32.ofNat ia)), .val (.int (Int32.ofNat ib)), .val (.int (Int32.ofNat ic)), .val (.int u9), .val (.int u10), .val (.int u11), s12, .val (.int (Int32.ofNat qq)), .val (.ref b1837), .val (.ref b1843), .val (.ref b1865), .unset, .unset] [(.long 2), (.double (FP.l2d ((((p3.toUInt32 >>> ((2 : Int32) &&& 31).toUInt32).toInt32) &&& (3 : Int32)).toInt64))), (.int (Int32.ofNat ib)), (.ref b1843)])) (fun _ k_ => X1909.ldc2Long hx hown (mvT hZ (own_w 64 hw rfl)) (g := (mkF m 183 #[.val (.int p0), .val (.int p1), .val (.int p2), .val (.int p3), .val (.int p4), .val (.int p5), .val (.int (Int32.ofNat ia)), .val (.int (Int32.ofNat ib)), .val (.int (Int32.ofNat ic)), .val (.int u9), .val (.int u10), .val (.int u11), s12, .val (.int (Int32.ofNat qq)), .val (.ref b1837), .val (.ref b1843), .val (.ref b1865), .unset, .unset] [(.double (FP.l2d ((((p3.toUInt32 >>> ((2 : Int32) &&& 31).toUInt32).toInt32) &&& (3 : Int32)).toInt64))), (.int (Int32.ofNat ib)), (.ref b1843)])) rfl (hb hby at_183) _ k_) ?_
    obtain ⟨cq1923, kq1923, q1923a, q1923b, q1923c⟩ := isOf hZ rfl f1911
    obtain ⟨vv1923, _, ⟨T1923, L1923, k1923, n1923⟩, -, X1923, ⟨Lc1923, hQ1923, l1923, y1923, z1923⟩, st1923⟩ := X1909.virtualBack hx (y := (⟨"com/example/adfair/adfair/Ranking", "add", "(IDJ)V"⟩ : MethodName)) (z := (⟨"com/example/adfair/adfair/Ranking", "add", "(IDJ)V"⟩ : MethodName)) hown (mvT hZ (own_w 41 hw rfl)) (mvT hZ (own_w 42 hw rfl)) (notFace_of_selects (args := #[]) (mvT hZ (own_w 44 hw rfl))) (mvT hZ (own_w 44 hw rfl)) (mvT hZ (own_w 43 hw rfl)) (by decide) (backOf (W := 0) (rmAd1 l Z a0 hw [] b1843 ib ((((p3.toUInt32 >>> ((2 : Int32) &&& 31).toUInt32).toInt32) &&& (3 : Int32)).toInt64) (1 : Int64) b1837 p2_1909 h2_1909 qa_1860 ka_1860 oa_1860 cq_1860 ck_1860 co_1860 N2_1909 (own_upd (fun _ => 0) ia (1 : Int64)) (own_updI (fun _ => 0) ia (-2 : Int32)) ia ((p3 &&& (3 : Int32)).toInt64) (T1909.heap) n0 Z1909 f1911 v1909_0 v1909_1 v1909_12 v1909_13 f1910 v1909_2 v1909_8 v1909_7 v1909_3 v1909_4 v1909_5 v1909_6 v1909_9 v1909_10 v1909_11 (Ne.symm ne_b1837_b1843) ne_b1843_p2_1909 ne_b1843_h2_1909 ne_b1843_qa_1860 ne_b1843_ka_1860 ne_b1843_oa_1860 ne_b1837_p2_1909 ne_b1837_h2_1909 ne_b1837_qa_1860 ne_b1837_ka_1860 ne_b1837_oa_1860 ne_p2_1909_h2_1909 (Ne.symm ne_qa_1860_p2_1909) (Ne.symm ne_ka_1860_p2_1909) (Ne.symm ne_oa_1860_p2_1909) (Ne.symm ne_qa_1860_h2_1909) (Ne.symm ne_ka_1860_h2_1909) (Ne.symm ne_oa_1860_h2_1909) ne_qa_1860_ka_1860 ne_qa_1860_oa_1860 ne_ka_1860_oa_1860 g_b1843 g_b1837 g_p2_1909 g_h2_1909 g_qa_1860 g_ka_1860 g_oa_1860 (Nat.le_trans (Nat.le_refl 16) hM_1909.2.1) (hM_1909.2.2) lb hf_ib hy1_1909 hy2_1909 (own_b53 _) (own_b53 _)) hZ (own_w 45 hw rfl) (own_w 17 hw rfl) (by decide) (by decide)) q1923a q1923c (g := (mkF m 186 #[.val (.int p0), .val (.int p1), .val (.int p2), .val (.int p3), .val (.int p4), .val (.int p5), .val (.int (Int32.ofNat ia)), .val (.int (Int32.ofNat ib)), .val (.int (Int32.ofNat ic)), .val (.int u9), .val (.int u10), .val (.int u11), s12, .val (.int (Int32.ofNat qq)), .val (.ref b1837), .val (.ref b1843), .val (.ref b1865), .unset, .unset] [(.long 2), (.double (FP.l2d ((((p3.toUInt32 >>> ((2 : Int32) &&& 31).toUInt32).toInt32) &&& (3 : Int32)).toInt64))), (.int (Int32.ofNat ib)), (.ref b1843)])) rfl (by rw [hml]; rfl) (Steps.refl _) (argsL := [(.int (Int32.ofNat ib)), (.double (FP.l2d ((((p3.toUInt32 >>> ((2 : Int32) &&& 31).toUInt32).toInt32) &&& (3 : Int32)).toInt64))), (.long 2)]) (rest := []) (lenOf pd__28_IDJ_29_V rfl) rfl (by show 2 * 0 + _ ≤ _; exact Nat.le_of_eq rfl) (hb hby at_186) (fun _ _ => ⟨rfl, rfl, (by decide : 19 + 2 ≤ _), (by decide : 501 + 252 ≤ _)⟩)
    dsimp only [Pt.U, Pt.locs, Pt.cells, Pt.slots] at X1923 l1923 y1923 z1923 st1923 hQ1923
    subst l1923 y1923 z1923
    obtain ⟨N2_1923, p2_1923, h2_1923, F2_1923, vq_1923, rfl, N1923q, K1923, g_p2_1923, g_h2_1923, fr_p2_1923, fr_h2_1923, ne_p2_1923_h2_1923, hM_1923, hy1_1923, hy2_1923, hd_1923, v1923_0, v1923_1, v1923_2, v1923_3, v1923_4, v1923_5, v1923_6, v1923_7, v1923_8, v1923_9⟩ := hQ1923
    have N1923 := Fr.app N1909 N1923q
    have ne_b1837_p2_1923 : b1837 ≠ p2_1923 := fr_p2_1923 _ f1910.lt ne_b1837_p2_1909
    have ne_b1843_p2_1923 : b1843 ≠ p2_1923 := fr_p2_1923 _ f1911.lt ne_b1843_p2_1909
    have ne_b1865_p2_1923 : b1865 ≠ p2_1923 := fr_p2_1923 _ f1912.lt ne_b1865_p2_1909
    have ne_qa_1893_p2_1923 : qa_1893 ≠ p2_1923 := fr_p2_1923 _ f1920.lt ne_qa_1893_p2_1909
    have ne_ka_1893_p2_1923 : ka_1893 ≠ p2_1923 := fr_p2_1923 _ f1921.lt ne_ka_1893_p2_1909
    have ne_oa_1893_p2_1923 : oa_1893 ≠ p2_1923 := fr_p2_1923 _ f1922.lt ne_oa_1893_p2_1909
    have ne_h2_1909_p2_1923 : h2_1909 ≠ p2_1923 := fr_p2_1923 _ v1909_5.lt (Ne.symm ne_p2_1909_h2_1909)
    have ne_qa_1860_p2_1923 : qa_1860 ≠ p2_1923 := fr_p2_1923 _ v1909_9.lt ne_qa_1860_p2_1909
    have ne_ka_1860_p2_1923 : ka_1860 ≠ p2_1923 := fr_p2_1923 _ v1909_10.lt ne_ka_1860_p2_1909
    have ne_oa_1860_p2_1923 : oa_1860 ≠ p2_1923 := fr_p2_1923 _ v1909_11.lt ne_oa_1860_p2_1909
    have ne_b1837_h2_1923 : b1837 ≠ h2_1923 := fr_h2_1923 _ f1910.lt ne_b1837_h2_1909
    have ne_b1843_h2_1923 : b1843 ≠ h2_1923 := fr_h2_1923 _ f1911.lt ne_b1843_h2_1909
    have ne_b1865_h2_1923 : b1865 ≠ h2_1923 := fr_h2_1923 _ f1912.lt ne_b1865_h2_1909
    have ne_qa_1893_h2_1923 : qa_1893 ≠ h2_1923 := fr_h2_1923 _ f1920.lt ne_qa_1893_h2_1909
    have ne_ka_1893_h2_1923 : ka_1893 ≠ h2_1923 := fr_h2_1923 _ f1921.lt ne_ka_1893_h2_1909
    have ne_oa_1893_h2_1923 : oa_1893 ≠ h2_1923 := fr_h2_1923 _ f1922.lt ne_oa_1893_h2_1909
    have ne_p2_1909_h2_1923 : p2_1909 ≠ h2_1923 := fr_h2_1923 _ v1909_6.lt ne_p2_1909_h2_1909
    have ne_qa_1860_h2_1923 : qa_1860 ≠ h2_1923 := fr_h2_1923 _ v1909_9.lt ne_qa_1860_h2_1909
    have ne_ka_1860_h2_1923 : ka_1860 ≠ h2_1923 := fr_h2_1923 _ v1909_10.lt ne_ka_1860_h2_1909
    have ne_oa_1860_h2_1923 : oa_1860 ≠ h2_1923 := fr_h2_1923 _ v1909_11.lt ne_oa_1860_h2_1909
    have f1924 := f1910.keep K1923
    have f1925 := f1911.keep K1923
    have f1926 := f1912.keep K1923
    have f1927 := f1913.keep K1923 (ninS (Ne.symm ne_b1843_b1865) (ninS (Ne.symm ne_b1837_b1865) (ninS ne_b1865_p2_1909 (ninS ne_b1865_h2_1909 (ninS (Ne.symm ne_qa_1860_b1865) (ninS (Ne.symm ne_ka_1860_b1865) (ninS (Ne.symm ne_oa_1860_b1865) nin0)))))))
    have f1928 := f1914.keep K1923 (ninS (Ne.symm ne_b1843_b1865) (ninS (Ne.symm ne_b1837_b1865) (ninS ne_b1865_p2_1909 (ninS ne_b1865_h2_1909 (ninS (Ne.symm ne_qa_1860_b1865) (ninS (Ne.symm ne_ka_1860_b1865) (ninS (Ne.symm ne_oa_1860_b1865) nin0)))))))
    have f1929 := f1915.keep K1923 (ninS (Ne.symm ne_b1843_b1865) (ninS (Ne.symm ne_b1837_b1865) (ninS ne_b1865_p2_1909 (ninS ne_b1865_h2_1909 (ninS (Ne.symm ne_qa_1860_b1865) (ninS (Ne.symm ne_ka_1860_b1865) (ninS (Ne.symm ne_oa_1860_b1865) nin0)))))))
    have f1930 := f1916.keep K1923 (ninS (Ne.symm ne_b1843_b1865) (ninS (Ne.symm ne_b1837_b1865) (ninS ne_b1865_p2_1909 (ninS ne_b1865_h2_1909 (ninS (Ne.symm ne_qa_1860_b1865) (ninS (Ne.symm ne_ka_1860_b1865) (ninS (Ne.symm ne_oa_1860_b1865) nin0)))))))
    have f1931 := f1917.keep K1923 (ninS (Ne.symm ne_b1843_b1865) (ninS (Ne.symm ne_b1837_b1865) (ninS ne_b1865_p2_1909 (ninS ne_b1865_h2_1909 (ninS (Ne.symm ne_qa_1860_b1865) (ninS (Ne.symm ne_ka_1860_b1865) (ninS (Ne.symm ne_oa_1860_b1865) nin0)))))))
    have f1932 := f1918.keep K1923 (ninS (Ne.symm ne_b1843_b1865) (ninS (Ne.symm ne_b1837_b1865) (ninS ne_b1865_p2_1909 (ninS ne_b1865_h2_1909 (ninS (Ne.symm ne_qa_1860_b1865) (ninS (Ne.symm ne_ka_1860_b1865) (ninS (Ne.symm ne_oa_1860_b1865) nin0)))))))
    have f1933 := f1919.keep K1923 (ninS (Ne.symm ne_b1843_b1865) (ninS (Ne.symm ne_b1837_b1865) (ninS ne_b1865_p2_1909 (ninS ne_b1865_h2_1909 (ninS (Ne.symm ne_qa_1860_b1865) (ninS (Ne.symm ne_ka_1860_b1865) (ninS (Ne.symm ne_oa_1860_b1865) nin0)))))))
    have f1934 := f1920.keep K1923 (ninS (Ne.symm ne_b1843_qa_1893) (ninS (Ne.symm ne_b1837_qa_1893) (ninS ne_qa_1893_p2_1909 (ninS ne_qa_1893_h2_1909 (ninS (Ne.symm ne_qa_1860_qa_1893) (ninS (Ne.symm ne_ka_1860_qa_1893) (ninS (Ne.symm ne_oa_1860_qa_1893) nin0)))))))
    have f1935 := f1921.keep K1923 (ninS (Ne.symm ne_b1843_ka_1893) (ninS (Ne.symm ne_b1837_ka_1893) (ninS ne_ka_1893_p2_1909 (ninS ne_ka_1893_h2_1909 (ninS (Ne.symm ne_qa_1860_ka_1893) (ninS (Ne.symm ne_ka_1860_ka_1893) (ninS (Ne.symm ne_oa_1860_ka_1893) nin0)))))))
    have f1936 := f1922.keep K1923 (ninS (Ne.symm ne_b1843_oa_1893) (ninS (Ne.symm ne_b1837_oa_1893) (ninS ne_oa_1893_p2_1909 (ninS ne_oa_1893_h2_1909 (ninS (Ne.symm ne_qa_1860_oa_1893) (ninS (Ne.symm ne_ka_1860_oa_1893) (ninS (Ne.symm ne_oa_1860_oa_1893) nin0)))))))
    have Z1923 : n0 ≤ T1923.heap.size := Nat.le_trans Z1909 K1923.1
    refine own_s 189 [] (fun _ k_ => st1923.trans k_) ?_
    rcases hd_1923 with ⟨rfl, rfl⟩ | ⟨rfl, rfl⟩
    · have hf_ic : ((own_upd (own_upd (fun _ => 0) ia (1 : Int64)) ib (1 : Int64)) : Nat → Int64) ic = (0 : Int64) := by simp [own_upd, own_updI, hab, hac, hbc, hab.symm, hac.symm, hbc.symm]
      refine own_aload 191 X1923.here hx (hb hby at_189) rfl rfl rfl ?_
      refine own_iload 193 X1923.here hx (hb hby at_191) rfl rfl ?_
      refine own_iloadN 194 X1923.here hx (hb hby at_193) rfl rfl ?_
      refine own_s 195 [(.int 4), (.int p3), (.int (Int32.ofNat ic)), (.ref b1865)] (fun _ k_ => XS.iconst X1923.here hx rfl (hb hby at_194) k_) ?_
      refine own_s 196 [(.int ((p3.toUInt32 >>> ((4 : Int32) &&& 31).toUInt32).toInt32)), (.int (Int32.ofNat ic)), (.ref b1865)] (fun _ k_ => XS.iushr X1923.here hx rfl (hb hby at_195) rfl k_) ?_
      refine own_s 197 [(.int 3), (.int ((p3.toUInt32 >>> ((4 : Int32) &&& 31).toUInt32).toInt32)), (.int (Int32.ofNat ic)), (.ref b1865)] (fun _ k_ => XS.iconst X1923.here hx rfl (hb hby at_196) k_) ?_
      refine own_s 198 [(.int (((p3.toUInt32 >>> ((4 : Int32) &&& 31).toUInt32).toInt32) &&& (3 : Int32))), (.int (Int32.ofNat ic)), (.ref b1865)] (fun _ k_ => XS.iand X1923.here hx rfl (hb hby at_197) rfl k_) ?_
      refine own_s 199 [(.double (FP.l2d ((((p3.toUInt32 >>> ((4 : Int32) &&& 31).toUInt32).toInt32) &&& (3 : Int32)).toInt64))), (.int (Int32.ofNat ic)), (.ref b1865)] (fun _ k_ => XS.i2dS X1923.here hx rfl (hb hby at_198) rfl (i2d_w _) k_) ?_
      refine own_go (B := T1923.setTop (mkF m 202 #[.val (.int p0), .val (.int p1), .val (.int p2), .val (.int p3), .val (.int p4), .val (.int p5), .val (.int (Int32.ofNat ia)), .val (.int (Int32.ofNat ib)), .val (.int (Int32.ofNat ic)), .val (.int u9), .val (.int u10), .val (.int u11), s12, .val (.int (Int32.ofNat qq)), .val (.ref b1837), .val (.ref b1843), .val (.ref b1865), .unset, .unset] [(.long 3), (.double (FP.l2d ((((p3.toUInt32 >>> ((4 : Int32) &&& 31).toUInt32).toInt32) &&& (3 : Int32)).toInt64))), (.int (Int32.ofNat ic)), (.ref b1865)])) (fun _ k_ => X1923.ldc2Long hx hown (mvT hZ (own_w 68 hw rfl)) (g := (mkF m 199 #[.val (.int p0), .val (.int p1), .val (.int p2), .val (.int p3), .val (.int p4), .val (.int p5), .val (.int (Int32.ofNat ia)), .val (.int (Int32.ofNat ib)), .val (.int (Int32.ofNat ic)), .val (.int u9), .val (.int u10), .val (.int u11), s12, .val (.int (Int32.ofNat qq)), .val (.ref b1837), .val (.ref b1843), .val (.ref b1865), .unset, .unset] [(.double (FP.l2d ((((p3.toUInt32 >>> ((4 : Int32) &&& 31).toUInt32).toInt32) &&& (3 : Int32)).toInt64))), (.int (Int32.ofNat ic)), (.ref b1865)])) rfl (hb hby at_199) _ k_) ?_
      obtain ⟨cq1937, kq1937, q1937a, q1937b, q1937c⟩ := isOf hZ rfl f1926
      obtain ⟨vv1937, _, ⟨T1937, L1937, k1937, n1937⟩, -, X1937, ⟨Lc1937, hQ1937, l1937, y1937, z1937⟩, st1937⟩ := X1923.virtualBack hx (y := (⟨"com/example/adfair/adfair/Ranking", "add", "(IDJ)V"⟩ : MethodName)) (z := (⟨"com/example/adfair/adfair/Ranking", "add", "(IDJ)V"⟩ : MethodName)) hown (mvT hZ (own_w 41 hw rfl)) (mvT hZ (own_w 42 hw rfl)) (notFace_of_selects (args := #[]) (mvT hZ (own_w 44 hw rfl))) (mvT hZ (own_w 44 hw rfl)) (mvT hZ (own_w 43 hw rfl)) (by decide) (backOf (W := 0) (rmAd0 l Z a0 hw [] b1865 ic ((((p3.toUInt32 >>> ((4 : Int32) &&& 31).toUInt32).toInt32) &&& (3 : Int32)).toInt64) (2 : Int64) b1837 p2_1923 h2_1923 qa_1893 ka_1893 oa_1893 cq_1893 ck_1893 co_1893 N2_1923 (own_upd (own_upd (fun _ => 0) ia (1 : Int64)) ib (1 : Int64)) (own_updI (own_updI (fun _ => 0) ia (-2 : Int32)) ib (-2 : Int32)) (3 : Int64) (T1923.heap) n0 Z1923 f1926 f1930 f1927 f1928 f1929 f1924 f1931 f1932 f1933 v1923_3 v1923_4 v1923_5 v1923_6 f1934 f1935 f1936 (Ne.symm ne_b1837_b1865) ne_b1865_p2_1923 ne_b1865_h2_1923 ne_b1865_qa_1893 ne_b1865_ka_1893 ne_b1865_oa_1893 ne_b1837_p2_1923 ne_b1837_h2_1923 ne_b1837_qa_1893 ne_b1837_ka_1893 ne_b1837_oa_1893 ne_p2_1923_h2_1923 (Ne.symm ne_qa_1893_p2_1923) (Ne.symm ne_ka_1893_p2_1923) (Ne.symm ne_oa_1893_p2_1923) (Ne.symm ne_qa_1893_h2_1923) (Ne.symm ne_ka_1893_h2_1923) (Ne.symm ne_oa_1893_h2_1923) ne_qa_1893_ka_1893 ne_qa_1893_oa_1893 ne_ka_1893_oa_1893 g_b1865 g_b1837 g_p2_1923 g_h2_1923 g_qa_1893 g_ka_1893 g_oa_1893 (Nat.le_trans (Nat.le_trans (Nat.le_refl 16) hM_1909.2.1) hM_1923.2.1) (hM_1923.2.2) lc hf_ic hy1_1923 hy2_1923) hZ (own_w 45 hw rfl) (own_w 17 hw rfl) (by decide) (by decide)) q1937a q1937c (g := (mkF m 202 #[.val (.int p0), .val (.int p1), .val (.int p2), .val (.int p3), .val (.int p4), .val (.int p5), .val (.int (Int32.ofNat ia)), .val (.int (Int32.ofNat ib)), .val (.int (Int32.ofNat ic)), .val (.int u9), .val (.int u10), .val (.int u11), s12, .val (.int (Int32.ofNat qq)), .val (.ref b1837), .val (.ref b1843), .val (.ref b1865), .unset, .unset] [(.long 3), (.double (FP.l2d ((((p3.toUInt32 >>> ((4 : Int32) &&& 31).toUInt32).toInt32) &&& (3 : Int32)).toInt64))), (.int (Int32.ofNat ic)), (.ref b1865)])) rfl (by rw [hml]; rfl) (Steps.refl _) (argsL := [(.int (Int32.ofNat ic)), (.double (FP.l2d ((((p3.toUInt32 >>> ((4 : Int32) &&& 31).toUInt32).toInt32) &&& (3 : Int32)).toInt64))), (.long 3)]) (rest := []) (lenOf pd__28_IDJ_29_V rfl) rfl (by show 2 * 0 + _ ≤ _; exact Nat.le_of_eq rfl) (hb hby at_202) (fun _ _ => ⟨rfl, rfl, (by decide : 21 + 2 ≤ _), (by decide : 753 + 252 ≤ _)⟩)
      dsimp only [Pt.U, Pt.locs, Pt.cells, Pt.slots] at X1937 l1937 y1937 z1937 st1937 hQ1937
      subst l1937 y1937 z1937
      obtain ⟨N2_1937, p2_1937, h2_1937, rfl, N1937q, K1937, g_p2_1937, g_h2_1937, fr_p2_1937, fr_h2_1937, ne_p2_1937_h2_1937, hM_1937, hy1_1937, hy2_1937, v1937_0, v1937_1, v1937_2, v1937_3, v1937_4, v1937_5, v1937_6, v1937_7, v1937_8, v1937_9, v1937_10, v1937_11, v1937_12, v1937_13⟩ := hQ1937
      have N1937 := Fr.app N1923 N1937q
      have ne_b1837_p2_1937 : b1837 ≠ p2_1937 := fr_p2_1937 _ f1924.lt ne_b1837_p2_1923
      have ne_b1843_p2_1937 : b1843 ≠ p2_1937 := fr_p2_1937 _ f1925.lt ne_b1843_p2_1923
      have ne_b1865_p2_1937 : b1865 ≠ p2_1937 := fr_p2_1937 _ f1926.lt ne_b1865_p2_1923
      have ne_qa_1893_p2_1937 : qa_1893 ≠ p2_1937 := fr_p2_1937 _ f1934.lt ne_qa_1893_p2_1923
      have ne_ka_1893_p2_1937 : ka_1893 ≠ p2_1937 := fr_p2_1937 _ f1935.lt ne_ka_1893_p2_1923
      have ne_oa_1893_p2_1937 : oa_1893 ≠ p2_1937 := fr_p2_1937 _ f1936.lt ne_oa_1893_p2_1923
      have ne_h2_1923_p2_1937 : h2_1923 ≠ p2_1937 := fr_p2_1937 _ v1923_5.lt (Ne.symm ne_p2_1923_h2_1923)
      have ne_qa_1860_p2_1937 : qa_1860 ≠ p2_1937 := fr_p2_1937 _ v1923_9.lt ne_qa_1860_p2_1923
      have ne_b1837_h2_1937 : b1837 ≠ h2_1937 := fr_h2_1937 _ f1924.lt ne_b1837_h2_1923
      have ne_b1843_h2_1937 : b1843 ≠ h2_1937 := fr_h2_1937 _ f1925.lt ne_b1843_h2_1923
      have ne_b1865_h2_1937 : b1865 ≠ h2_1937 := fr_h2_1937 _ f1926.lt ne_b1865_h2_1923
      have ne_qa_1893_h2_1937 : qa_1893 ≠ h2_1937 := fr_h2_1937 _ f1934.lt ne_qa_1893_h2_1923
      have ne_ka_1893_h2_1937 : ka_1893 ≠ h2_1937 := fr_h2_1937 _ f1935.lt ne_ka_1893_h2_1923
      have ne_oa_1893_h2_1937 : oa_1893 ≠ h2_1937 := fr_h2_1937 _ f1936.lt ne_oa_1893_h2_1923
      have ne_p2_1923_h2_1937 : p2_1923 ≠ h2_1937 := fr_h2_1937 _ v1923_6.lt ne_p2_1923_h2_1923
      have ne_qa_1860_h2_1937 : qa_1860 ≠ h2_1937 := fr_h2_1937 _ v1923_9.lt ne_qa_1860_h2_1923
      have f1939 := f1925.keep K1937
      have f1940 := f1926.keep K1937
      have f1941 := v1923_0.keep K1937 (ninS ne_b1843_b1865 (ninS (Ne.symm ne_b1837_b1843) (ninS ne_b1843_p2_1923 (ninS ne_b1843_h2_1923 (ninS ne_b1843_qa_1893 (ninS ne_b1843_ka_1893 (ninS ne_b1843_oa_1893 nin0)))))))
      have f1942 := v1923_1.keep K1937 (ninS ne_b1843_b1865 (ninS (Ne.symm ne_b1837_b1843) (ninS ne_b1843_p2_1923 (ninS ne_b1843_h2_1923 (ninS ne_b1843_qa_1893 (ninS ne_b1843_ka_1893 (ninS ne_b1843_oa_1893 nin0)))))))
      have f1943 := v1923_2.keep K1937 (ninS ne_b1843_b1865 (ninS (Ne.symm ne_b1837_b1843) (ninS ne_b1843_p2_1923 (ninS ne_b1843_h2_1923 (ninS ne_b1843_qa_1893 (ninS ne_b1843_ka_1893 (ninS ne_b1843_oa_1893 nin0)))))))
      have f1944 := v1923_7.keep K1937 (ninS ne_b1843_b1865 (ninS (Ne.symm ne_b1837_b1843) (ninS ne_b1843_p2_1923 (ninS ne_b1843_h2_1923 (ninS ne_b1843_qa_1893 (ninS ne_b1843_ka_1893 (ninS ne_b1843_oa_1893 nin0)))))))
      have f1945 := v1923_8.keep K1937 (ninS ne_b1843_b1865 (ninS (Ne.symm ne_b1837_b1843) (ninS ne_b1843_p2_1923 (ninS ne_b1843_h2_1923 (ninS ne_b1843_qa_1893 (ninS ne_b1843_ka_1893 (ninS ne_b1843_oa_1893 nin0)))))))
      have f1946 := v1923_9.keep K1937 (ninS ne_qa_1860_b1865 (ninS (Ne.symm ne_b1837_qa_1860) (ninS ne_qa_1860_p2_1923 (ninS ne_qa_1860_h2_1923 (ninS ne_qa_1860_qa_1893 (ninS ne_qa_1860_ka_1893 (ninS ne_qa_1860_oa_1893 nin0)))))))
      have Z1937 : n0 ≤ T1937.heap.size := Nat.le_trans Z1923 K1937.1
      refine own_s 205 [] (fun _ k_ => st1937.trans k_) ?_
      exact K205_0 _ _ _ b1843 b1865 b1837 p2_1937 h2_1937 qa_1860 qa_1893 _ _ _ X1937 rfl N1937 Z1937 f1939 f1940 f1941 f1943 f1942 f1945 f1944 f1946 v1937_0 v1937_2 v1937_1 v1937_8 v1937_7 v1937_9 v1937_3 v1937_4 v1937_5 v1937_6 ne_b1843_b1865 (Ne.symm ne_b1837_b1843) ne_b1843_p2_1937 ne_b1843_h2_1937 ne_b1843_qa_1860 ne_b1843_qa_1893 (Ne.symm ne_b1837_b1865) ne_b1865_p2_1937 ne_b1865_h2_1937 (Ne.symm ne_qa_1860_b1865) ne_b1865_qa_1893 ne_b1837_p2_1937 ne_b1837_h2_1937 ne_b1837_qa_1860 ne_b1837_qa_1893 ne_p2_1937_h2_1937 (Ne.symm ne_qa_1860_p2_1937) (Ne.symm ne_qa_1893_p2_1937) (Ne.symm ne_qa_1860_h2_1937) (Ne.symm ne_qa_1893_h2_1937) ne_qa_1860_qa_1893 g_b1843 g_b1865 g_h2_1937 g_qa_1860 g_qa_1893 (Nat.lt_of_lt_of_le hM_1909.1 (Nat.le_trans hM_1923.2.1 hM_1937.2.1)) (Nat.lt_of_lt_of_le hM_1923.1 hM_1937.2.1) hM_1937.1 hM_1937.2.2 hy1_1937
    · have hf_ic : ((own_upd (own_upd (fun _ => 0) ia (1 : Int64)) ib (1 : Int64)) : Nat → Int64) ic = (0 : Int64) := by simp [own_upd, own_updI, hab, hac, hbc, hab.symm, hac.symm, hbc.symm]
      refine own_aload 191 X1923.here hx (hb hby at_189) rfl rfl rfl ?_
      refine own_iload 193 X1923.here hx (hb hby at_191) rfl rfl ?_
      refine own_iloadN 194 X1923.here hx (hb hby at_193) rfl rfl ?_
      refine own_s 195 [(.int 4), (.int p3), (.int (Int32.ofNat ic)), (.ref b1865)] (fun _ k_ => XS.iconst X1923.here hx rfl (hb hby at_194) k_) ?_
      refine own_s 196 [(.int ((p3.toUInt32 >>> ((4 : Int32) &&& 31).toUInt32).toInt32)), (.int (Int32.ofNat ic)), (.ref b1865)] (fun _ k_ => XS.iushr X1923.here hx rfl (hb hby at_195) rfl k_) ?_
      refine own_s 197 [(.int 3), (.int ((p3.toUInt32 >>> ((4 : Int32) &&& 31).toUInt32).toInt32)), (.int (Int32.ofNat ic)), (.ref b1865)] (fun _ k_ => XS.iconst X1923.here hx rfl (hb hby at_196) k_) ?_
      refine own_s 198 [(.int (((p3.toUInt32 >>> ((4 : Int32) &&& 31).toUInt32).toInt32) &&& (3 : Int32))), (.int (Int32.ofNat ic)), (.ref b1865)] (fun _ k_ => XS.iand X1923.here hx rfl (hb hby at_197) rfl k_) ?_
      refine own_s 199 [(.double (FP.l2d ((((p3.toUInt32 >>> ((4 : Int32) &&& 31).toUInt32).toInt32) &&& (3 : Int32)).toInt64))), (.int (Int32.ofNat ic)), (.ref b1865)] (fun _ k_ => XS.i2dS X1923.here hx rfl (hb hby at_198) rfl (i2d_w _) k_) ?_
      refine own_go (B := T1923.setTop (mkF m 202 #[.val (.int p0), .val (.int p1), .val (.int p2), .val (.int p3), .val (.int p4), .val (.int p5), .val (.int (Int32.ofNat ia)), .val (.int (Int32.ofNat ib)), .val (.int (Int32.ofNat ic)), .val (.int u9), .val (.int u10), .val (.int u11), s12, .val (.int (Int32.ofNat qq)), .val (.ref b1837), .val (.ref b1843), .val (.ref b1865), .unset, .unset] [(.long 3), (.double (FP.l2d ((((p3.toUInt32 >>> ((4 : Int32) &&& 31).toUInt32).toInt32) &&& (3 : Int32)).toInt64))), (.int (Int32.ofNat ic)), (.ref b1865)])) (fun _ k_ => X1923.ldc2Long hx hown (mvT hZ (own_w 68 hw rfl)) (g := (mkF m 199 #[.val (.int p0), .val (.int p1), .val (.int p2), .val (.int p3), .val (.int p4), .val (.int p5), .val (.int (Int32.ofNat ia)), .val (.int (Int32.ofNat ib)), .val (.int (Int32.ofNat ic)), .val (.int u9), .val (.int u10), .val (.int u11), s12, .val (.int (Int32.ofNat qq)), .val (.ref b1837), .val (.ref b1843), .val (.ref b1865), .unset, .unset] [(.double (FP.l2d ((((p3.toUInt32 >>> ((4 : Int32) &&& 31).toUInt32).toInt32) &&& (3 : Int32)).toInt64))), (.int (Int32.ofNat ic)), (.ref b1865)])) rfl (hb hby at_199) _ k_) ?_
      obtain ⟨cq1947, kq1947, q1947a, q1947b, q1947c⟩ := isOf hZ rfl f1926
      obtain ⟨vv1947, _, ⟨T1947, L1947, k1947, n1947⟩, -, X1947, ⟨Lc1947, hQ1947, l1947, y1947, z1947⟩, st1947⟩ := X1923.virtualBack hx (y := (⟨"com/example/adfair/adfair/Ranking", "add", "(IDJ)V"⟩ : MethodName)) (z := (⟨"com/example/adfair/adfair/Ranking", "add", "(IDJ)V"⟩ : MethodName)) hown (mvT hZ (own_w 41 hw rfl)) (mvT hZ (own_w 42 hw rfl)) (notFace_of_selects (args := #[]) (mvT hZ (own_w 44 hw rfl))) (mvT hZ (own_w 44 hw rfl)) (mvT hZ (own_w 43 hw rfl)) (by decide) (backOf (W := 0) (rmAd0 l Z a0 hw [] b1865 ic ((((p3.toUInt32 >>> ((4 : Int32) &&& 31).toUInt32).toInt32) &&& (3 : Int32)).toInt64) (2 : Int64) b1837 p2_1923 h2_1923 qa_1893 ka_1893 oa_1893 cq_1893 ck_1893 co_1893 N2_1923 (own_upd (own_upd (fun _ => 0) ia (1 : Int64)) ib (1 : Int64)) (own_updI (own_updI (fun _ => 0) ia (-2 : Int32)) ib (-2 : Int32)) (3 : Int64) (T1923.heap) n0 Z1923 f1926 f1930 f1927 f1928 f1929 f1924 f1931 f1932 f1933 v1923_3 v1923_4 v1923_5 v1923_6 f1934 f1935 f1936 (Ne.symm ne_b1837_b1865) ne_b1865_p2_1923 ne_b1865_h2_1923 ne_b1865_qa_1893 ne_b1865_ka_1893 ne_b1865_oa_1893 ne_b1837_p2_1923 ne_b1837_h2_1923 ne_b1837_qa_1893 ne_b1837_ka_1893 ne_b1837_oa_1893 ne_p2_1923_h2_1923 (Ne.symm ne_qa_1893_p2_1923) (Ne.symm ne_ka_1893_p2_1923) (Ne.symm ne_oa_1893_p2_1923) (Ne.symm ne_qa_1893_h2_1923) (Ne.symm ne_ka_1893_h2_1923) (Ne.symm ne_oa_1893_h2_1923) ne_qa_1893_ka_1893 ne_qa_1893_oa_1893 ne_ka_1893_oa_1893 g_b1865 g_b1837 g_p2_1923 g_h2_1923 g_qa_1893 g_ka_1893 g_oa_1893 (Nat.le_trans (Nat.le_trans (Nat.le_refl 16) hM_1909.2.1) hM_1923.2.1) (hM_1923.2.2) lc hf_ic hy1_1923 hy2_1923) hZ (own_w 45 hw rfl) (own_w 17 hw rfl) (by decide) (by decide)) q1947a q1947c (g := (mkF m 202 #[.val (.int p0), .val (.int p1), .val (.int p2), .val (.int p3), .val (.int p4), .val (.int p5), .val (.int (Int32.ofNat ia)), .val (.int (Int32.ofNat ib)), .val (.int (Int32.ofNat ic)), .val (.int u9), .val (.int u10), .val (.int u11), s12, .val (.int (Int32.ofNat qq)), .val (.ref b1837), .val (.ref b1843), .val (.ref b1865), .unset, .unset] [(.long 3), (.double (FP.l2d ((((p3.toUInt32 >>> ((4 : Int32) &&& 31).toUInt32).toInt32) &&& (3 : Int32)).toInt64))), (.int (Int32.ofNat ic)), (.ref b1865)])) rfl (by rw [hml]; rfl) (Steps.refl _) (argsL := [(.int (Int32.ofNat ic)), (.double (FP.l2d ((((p3.toUInt32 >>> ((4 : Int32) &&& 31).toUInt32).toInt32) &&& (3 : Int32)).toInt64))), (.long 3)]) (rest := []) (lenOf pd__28_IDJ_29_V rfl) rfl (by show 2 * 0 + _ ≤ _; exact Nat.le_of_eq rfl) (hb hby at_202) (fun _ _ => ⟨rfl, rfl, (by decide : 21 + 2 ≤ _), (by decide : 753 + 252 ≤ _)⟩)
      dsimp only [Pt.U, Pt.locs, Pt.cells, Pt.slots] at X1947 l1947 y1947 z1947 st1947 hQ1947
      subst l1947 y1947 z1947
      obtain ⟨N2_1947, p2_1947, h2_1947, rfl, N1947q, K1947, g_p2_1947, g_h2_1947, fr_p2_1947, fr_h2_1947, ne_p2_1947_h2_1947, hM_1947, hy1_1947, hy2_1947, v1947_0, v1947_1, v1947_2, v1947_3, v1947_4, v1947_5, v1947_6, v1947_7, v1947_8, v1947_9, v1947_10, v1947_11, v1947_12, v1947_13⟩ := hQ1947
      have N1947 := Fr.app N1923 N1947q
      have ne_b1837_p2_1947 : b1837 ≠ p2_1947 := fr_p2_1947 _ f1924.lt ne_b1837_p2_1923
      have ne_b1843_p2_1947 : b1843 ≠ p2_1947 := fr_p2_1947 _ f1925.lt ne_b1843_p2_1923
      have ne_b1865_p2_1947 : b1865 ≠ p2_1947 := fr_p2_1947 _ f1926.lt ne_b1865_p2_1923
      have ne_qa_1893_p2_1947 : qa_1893 ≠ p2_1947 := fr_p2_1947 _ f1934.lt ne_qa_1893_p2_1923
      have ne_ka_1893_p2_1947 : ka_1893 ≠ p2_1947 := fr_p2_1947 _ f1935.lt ne_ka_1893_p2_1923
      have ne_oa_1893_p2_1947 : oa_1893 ≠ p2_1947 := fr_p2_1947 _ f1936.lt ne_oa_1893_p2_1923
      have ne_h2_1923_p2_1947 : h2_1923 ≠ p2_1947 := fr_p2_1947 _ v1923_5.lt (Ne.symm ne_p2_1923_h2_1923)
      have ne_qa_1860_p2_1947 : qa_1860 ≠ p2_1947 := fr_p2_1947 _ v1923_9.lt ne_qa_1860_p2_1923
      have ne_b1837_h2_1947 : b1837 ≠ h2_1947 := fr_h2_1947 _ f1924.lt ne_b1837_h2_1923
      have ne_b1843_h2_1947 : b1843 ≠ h2_1947 := fr_h2_1947 _ f1925.lt ne_b1843_h2_1923
      have ne_b1865_h2_1947 : b1865 ≠ h2_1947 := fr_h2_1947 _ f1926.lt ne_b1865_h2_1923
      have ne_qa_1893_h2_1947 : qa_1893 ≠ h2_1947 := fr_h2_1947 _ f1934.lt ne_qa_1893_h2_1923
      have ne_ka_1893_h2_1947 : ka_1893 ≠ h2_1947 := fr_h2_1947 _ f1935.lt ne_ka_1893_h2_1923
      have ne_oa_1893_h2_1947 : oa_1893 ≠ h2_1947 := fr_h2_1947 _ f1936.lt ne_oa_1893_h2_1923
      have ne_p2_1923_h2_1947 : p2_1923 ≠ h2_1947 := fr_h2_1947 _ v1923_6.lt ne_p2_1923_h2_1923
      have ne_qa_1860_h2_1947 : qa_1860 ≠ h2_1947 := fr_h2_1947 _ v1923_9.lt ne_qa_1860_h2_1923
      have f1949 := f1925.keep K1947
      have f1950 := f1926.keep K1947
      have f1951 := v1923_0.keep K1947 (ninS ne_b1843_b1865 (ninS (Ne.symm ne_b1837_b1843) (ninS ne_b1843_p2_1923 (ninS ne_b1843_h2_1923 (ninS ne_b1843_qa_1893 (ninS ne_b1843_ka_1893 (ninS ne_b1843_oa_1893 nin0)))))))
      have f1952 := v1923_1.keep K1947 (ninS ne_b1843_b1865 (ninS (Ne.symm ne_b1837_b1843) (ninS ne_b1843_p2_1923 (ninS ne_b1843_h2_1923 (ninS ne_b1843_qa_1893 (ninS ne_b1843_ka_1893 (ninS ne_b1843_oa_1893 nin0)))))))
      have f1953 := v1923_2.keep K1947 (ninS ne_b1843_b1865 (ninS (Ne.symm ne_b1837_b1843) (ninS ne_b1843_p2_1923 (ninS ne_b1843_h2_1923 (ninS ne_b1843_qa_1893 (ninS ne_b1843_ka_1893 (ninS ne_b1843_oa_1893 nin0)))))))
      have f1954 := v1923_7.keep K1947 (ninS ne_b1843_b1865 (ninS (Ne.symm ne_b1837_b1843) (ninS ne_b1843_p2_1923 (ninS ne_b1843_h2_1923 (ninS ne_b1843_qa_1893 (ninS ne_b1843_ka_1893 (ninS ne_b1843_oa_1893 nin0)))))))
      have f1955 := v1923_8.keep K1947 (ninS ne_b1843_b1865 (ninS (Ne.symm ne_b1837_b1843) (ninS ne_b1843_p2_1923 (ninS ne_b1843_h2_1923 (ninS ne_b1843_qa_1893 (ninS ne_b1843_ka_1893 (ninS ne_b1843_oa_1893 nin0)))))))
      have f1956 := v1923_9.keep K1947 (ninS ne_qa_1860_b1865 (ninS (Ne.symm ne_b1837_qa_1860) (ninS ne_qa_1860_p2_1923 (ninS ne_qa_1860_h2_1923 (ninS ne_qa_1860_qa_1893 (ninS ne_qa_1860_ka_1893 (ninS ne_qa_1860_oa_1893 nin0)))))))
      have Z1947 : n0 ≤ T1947.heap.size := Nat.le_trans Z1923 K1947.1
      refine own_s 205 [] (fun _ k_ => st1947.trans k_) ?_
      exact K205_15 _ _ _ b1843 b1865 b1837 p2_1947 h2_1947 qa_1860 qa_1893 _ _ _ X1947 rfl N1947 Z1947 f1949 f1950 f1951 f1953 f1952 f1955 f1954 f1956 v1947_0 v1947_2 v1947_1 v1947_8 v1947_7 v1947_9 v1947_3 v1947_4 v1947_5 v1947_6 ne_b1843_b1865 (Ne.symm ne_b1837_b1843) ne_b1843_p2_1947 ne_b1843_h2_1947 ne_b1843_qa_1860 ne_b1843_qa_1893 (Ne.symm ne_b1837_b1865) ne_b1865_p2_1947 ne_b1865_h2_1947 (Ne.symm ne_qa_1860_b1865) ne_b1865_qa_1893 ne_b1837_p2_1947 ne_b1837_h2_1947 ne_b1837_qa_1860 ne_b1837_qa_1893 ne_p2_1947_h2_1947 (Ne.symm ne_qa_1860_p2_1947) (Ne.symm ne_qa_1893_p2_1947) (Ne.symm ne_qa_1860_h2_1947) (Ne.symm ne_qa_1893_h2_1947) ne_qa_1860_qa_1893 g_b1843 g_b1865 g_h2_1947 g_qa_1860 g_qa_1893 (Nat.lt_of_lt_of_le hM_1909.1 (Nat.le_trans hM_1923.2.1 hM_1947.2.1)) (Nat.lt_of_lt_of_le hM_1923.1 hM_1947.2.1) hM_1947.1 hM_1947.2.2 hy1_1947
  refine own_iload 37 X0.here hx (hb hby at_35) rfl rfl ?_
  refine own_s 38 [(.int 1), (.int p4)] (fun _ k_ => XS.iconst X0.here hx rfl (hb hby at_37) k_) ?_
  refine own_s 39 [(.int (p4 &&& (1 : Int32)))] (fun _ k_ => XS.iand X0.here hx rfl (hb hby at_38) rfl k_) ?_
  by_cases hc39 : (p4 &&& (1 : Int32)) = (0 : Int32)
  · refine own_s 46 [] (fun _ k_ => XS.ifYes X0.here hx rfl (pc0 := 39) (pc' := 46) rfl (hb hby at_39) rfl ((if0 _ _).trans (teq hc39).1) (by decide) (by decide) k_) ?_
    refine own_s 47 [(.int 0)] (fun _ k_ => XS.iconst X0.here hx rfl (hb hby at_46) k_) ?_
    refine own_istore 49 #[.val (.int p0), .val (.int p1), .val (.int p2), .val (.int p3), .val (.int p4), .val (.int p5), .val (.int (Int32.ofNat ia)), .val (.int (Int32.ofNat ib)), .val (.int (Int32.ofNat ic)), .val (.int 0), .unset, .unset, .unset, .unset, .unset, .unset, .unset, .unset, .unset] X0.here hx (hb hby at_47) rfl rfl ?_
    refine own_iload 51 X0.here hx (hb hby at_49) rfl rfl ?_
    refine own_s 52 [(.int 2), (.int p4)] (fun _ k_ => XS.iconst X0.here hx rfl (hb hby at_51) k_) ?_
    refine own_s 53 [(.int (p4 &&& (2 : Int32)))] (fun _ k_ => XS.iand X0.here hx rfl (hb hby at_52) rfl k_) ?_
    by_cases hc53 : (p4 &&& (2 : Int32)) = (0 : Int32)
    · refine own_s 60 [] (fun _ k_ => XS.ifYes X0.here hx rfl (pc0 := 53) (pc' := 60) rfl (hb hby at_53) rfl ((if0 _ _).trans (teq hc53).1) (by decide) (by decide) k_) ?_
      refine own_s 61 [(.int 0)] (fun _ k_ => XS.iconst X0.here hx rfl (hb hby at_60) k_) ?_
      refine own_istore 63 #[.val (.int p0), .val (.int p1), .val (.int p2), .val (.int p3), .val (.int p4), .val (.int p5), .val (.int (Int32.ofNat ia)), .val (.int (Int32.ofNat ib)), .val (.int (Int32.ofNat ic)), .val (.int 0), .val (.int 0), .unset, .unset, .unset, .unset, .unset, .unset, .unset, .unset] X0.here hx (hb hby at_61) rfl rfl ?_
      refine own_iload 65 X0.here hx (hb hby at_63) rfl rfl ?_
      refine own_s 66 [(.int 4), (.int p4)] (fun _ k_ => XS.iconst X0.here hx rfl (hb hby at_65) k_) ?_
      refine own_s 67 [(.int (p4 &&& (4 : Int32)))] (fun _ k_ => XS.iand X0.here hx rfl (hb hby at_66) rfl k_) ?_
      by_cases hc67 : (p4 &&& (4 : Int32)) = (0 : Int32)
      · refine own_s 74 [] (fun _ k_ => XS.ifYes X0.here hx rfl (pc0 := 67) (pc' := 74) rfl (hb hby at_67) rfl ((if0 _ _).trans (teq hc67).1) (by decide) (by decide) k_) ?_
        refine own_s 75 [(.int 0)] (fun _ k_ => XS.iconst X0.here hx rfl (hb hby at_74) k_) ?_
        refine own_istore 77 #[.val (.int p0), .val (.int p1), .val (.int p2), .val (.int p3), .val (.int p4), .val (.int p5), .val (.int (Int32.ofNat ia)), .val (.int (Int32.ofNat ib)), .val (.int (Int32.ofNat ic)), .val (.int 0), .val (.int 0), .val (.int 0), .unset, .unset, .unset, .unset, .unset, .unset, .unset] X0.here hx (hb hby at_75) rfl rfl ?_
        refine own_iload 79 X0.here hx (hb hby at_77) rfl rfl ?_
        refine own_s 80 [(.int 3), (.int p4)] (fun _ k_ => XS.iconst X0.here hx rfl (hb hby at_79) k_) ?_
        refine own_s 81 [(.int ((p4.toUInt32 >>> ((3 : Int32) &&& 31).toUInt32).toInt32))] (fun _ k_ => XS.iushr X0.here hx rfl (hb hby at_80) rfl k_) ?_
        refine own_s 82 [(.int 3), (.int ((p4.toUInt32 >>> ((3 : Int32) &&& 31).toUInt32).toInt32))] (fun _ k_ => XS.iconst X0.here hx rfl (hb hby at_81) k_) ?_
        refine own_s 83 [(.int (((p4.toUInt32 >>> ((3 : Int32) &&& 31).toUInt32).toInt32) &&& (3 : Int32)))] (fun _ k_ => XS.iand X0.here hx rfl (hb hby at_82) rfl k_) ?_
        refine own_istore 85 #[.val (.int p0), .val (.int p1), .val (.int p2), .val (.int p3), .val (.int p4), .val (.int p5), .val (.int (Int32.ofNat ia)), .val (.int (Int32.ofNat ib)), .val (.int (Int32.ofNat ic)), .val (.int 0), .val (.int 0), .val (.int 0), .val (.int (((p4.toUInt32 >>> ((3 : Int32) &&& 31).toUInt32).toInt32) &&& (3 : Int32))), .unset, .unset, .unset, .unset, .unset, .unset] X0.here hx (hb hby at_83) rfl rfl ?_
        refine own_iload 87 X0.here hx (hb hby at_85) rfl rfl ?_
        by_cases hc87 : (((p4.toUInt32 >>> ((3 : Int32) &&& 31).toUInt32).toInt32) &&& (3 : Int32)) = (0 : Int32)
        · refine own_s 90 [] (fun _ k_ => XS.ifNo X0.here hx rfl (hb hby at_87) rfl ((if0 _ _).trans (teq hc87).2) k_) ?_
          refine own_iload 92 X0.here hx (hb hby at_90) rfl rfl ?_
          refine own_istore 94 #[.val (.int p0), .val (.int p1), .val (.int p2), .val (.int p3), .val (.int p4), .val (.int p5), .val (.int (Int32.ofNat ia)), .val (.int (Int32.ofNat ib)), .val (.int (Int32.ofNat ic)), .val (.int 0), .val (.int 0), .val (.int 0), .val (.int (((p4.toUInt32 >>> ((3 : Int32) &&& 31).toUInt32).toInt32) &&& (3 : Int32))), .val (.int (Int32.ofNat ia)), .unset, .unset, .unset, .unset, .unset] X0.here hx (hb hby at_92) rfl rfl ?_
          refine own_s 130 [] (fun _ k_ => XS.goto X0.here hx rfl (pc0 := 94) (pc' := 130) rfl (hb hby at_94) (by decide) (by decide) k_) ?_
          exact K130 ia (0 : Int32) (0 : Int32) (0 : Int32) _ (Nat.lt_trans la (by decide))
        · refine own_s 97 [] (fun _ k_ => XS.ifYes X0.here hx rfl (pc0 := 87) (pc' := 97) rfl (hb hby at_87) rfl ((if0 _ _).trans (feq hc87).2) (by decide) (by decide) k_) ?_
          refine own_iload 99 X0.here hx (hb hby at_97) rfl rfl ?_
          refine own_s 100 [(.int 1), (.int (((p4.toUInt32 >>> ((3 : Int32) &&& 31).toUInt32).toInt32) &&& (3 : Int32)))] (fun _ k_ => XS.iconst X0.here hx rfl (hb hby at_99) k_) ?_
          by_cases hc100 : (((p4.toUInt32 >>> ((3 : Int32) &&& 31).toUInt32).toInt32) &&& (3 : Int32)) = (1 : Int32)
          · refine own_s 103 [] (fun _ k_ => XS.icmpNo X0.here hx rfl (hb hby at_100) rfl (teq hc100).2 k_) ?_
            refine own_iload 105 X0.here hx (hb hby at_103) rfl rfl ?_
            refine own_istore 107 #[.val (.int p0), .val (.int p1), .val (.int p2), .val (.int p3), .val (.int p4), .val (.int p5), .val (.int (Int32.ofNat ia)), .val (.int (Int32.ofNat ib)), .val (.int (Int32.ofNat ic)), .val (.int 0), .val (.int 0), .val (.int 0), .val (.int (((p4.toUInt32 >>> ((3 : Int32) &&& 31).toUInt32).toInt32) &&& (3 : Int32))), .val (.int (Int32.ofNat ib)), .unset, .unset, .unset, .unset, .unset] X0.here hx (hb hby at_105) rfl rfl ?_
            refine own_s 130 [] (fun _ k_ => XS.goto X0.here hx rfl (pc0 := 107) (pc' := 130) rfl (hb hby at_107) (by decide) (by decide) k_) ?_
            exact K130 ib (0 : Int32) (0 : Int32) (0 : Int32) _ (Nat.lt_trans lb (by decide))
          · refine own_s 110 [] (fun _ k_ => XS.icmpYes X0.here hx rfl (pc0 := 100) (pc' := 110) rfl (hb hby at_100) rfl (feq hc100).2 (by decide) (by decide) k_) ?_
            refine own_iload 112 X0.here hx (hb hby at_110) rfl rfl ?_
            refine own_s 113 [(.int 2), (.int (((p4.toUInt32 >>> ((3 : Int32) &&& 31).toUInt32).toInt32) &&& (3 : Int32)))] (fun _ k_ => XS.iconst X0.here hx rfl (hb hby at_112) k_) ?_
            by_cases hc113 : (((p4.toUInt32 >>> ((3 : Int32) &&& 31).toUInt32).toInt32) &&& (3 : Int32)) = (2 : Int32)
            · refine own_s 116 [] (fun _ k_ => XS.icmpNo X0.here hx rfl (hb hby at_113) rfl (teq hc113).2 k_) ?_
              refine own_iload 118 X0.here hx (hb hby at_116) rfl rfl ?_
              refine own_istore 120 #[.val (.int p0), .val (.int p1), .val (.int p2), .val (.int p3), .val (.int p4), .val (.int p5), .val (.int (Int32.ofNat ia)), .val (.int (Int32.ofNat ib)), .val (.int (Int32.ofNat ic)), .val (.int 0), .val (.int 0), .val (.int 0), .val (.int (((p4.toUInt32 >>> ((3 : Int32) &&& 31).toUInt32).toInt32) &&& (3 : Int32))), .val (.int (Int32.ofNat ic)), .unset, .unset, .unset, .unset, .unset] X0.here hx (hb hby at_118) rfl rfl ?_
              refine own_s 130 [] (fun _ k_ => XS.goto X0.here hx rfl (pc0 := 120) (pc' := 130) rfl (hb hby at_120) (by decide) (by decide) k_) ?_
              exact K130 ic (0 : Int32) (0 : Int32) (0 : Int32) _ (Nat.lt_trans lc (by decide))
            · refine own_s 123 [] (fun _ k_ => XS.icmpYes X0.here hx rfl (pc0 := 113) (pc' := 123) rfl (hb hby at_113) rfl (feq hc113).2 (by decide) (by decide) k_) ?_
              refine own_iload 125 X0.here hx (hb hby at_123) rfl rfl ?_
              refine own_go (B := s₁.setTop (mkF m 127 #[.val (.int p0), .val (.int p1), .val (.int p2), .val (.int p3), .val (.int p4), .val (.int p5), .val (.int (Int32.ofNat ia)), .val (.int (Int32.ofNat ib)), .val (.int (Int32.ofNat ic)), .val (.int 0), .val (.int 0), .val (.int 0), .val (.int (((p4.toUInt32 >>> ((3 : Int32) &&& 31).toUInt32).toInt32) &&& (3 : Int32))), .unset, .unset, .unset, .unset, .unset, .unset] [(.int 2147483647), (.int p5)])) (fun _ k_ => X0.ldcInt hx hown (mvT hZ (own_w 102 hw rfl)) (g := (mkF m 125 #[.val (.int p0), .val (.int p1), .val (.int p2), .val (.int p3), .val (.int p4), .val (.int p5), .val (.int (Int32.ofNat ia)), .val (.int (Int32.ofNat ib)), .val (.int (Int32.ofNat ic)), .val (.int 0), .val (.int 0), .val (.int 0), .val (.int (((p4.toUInt32 >>> ((3 : Int32) &&& 31).toUInt32).toInt32) &&& (3 : Int32))), .unset, .unset, .unset, .unset, .unset, .unset] [(.int p5)])) rfl (hb hby at_125) _ k_) ?_
              refine own_s 128 [(.int (p5 &&& (2147483647 : Int32)))] (fun _ k_ => XS.iand X0.here hx rfl (hb hby at_127) rfl k_) ?_
              refine own_istore 130 #[.val (.int p0), .val (.int p1), .val (.int p2), .val (.int p3), .val (.int p4), .val (.int p5), .val (.int (Int32.ofNat ia)), .val (.int (Int32.ofNat ib)), .val (.int (Int32.ofNat ic)), .val (.int 0), .val (.int 0), .val (.int 0), .val (.int (((p4.toUInt32 >>> ((3 : Int32) &&& 31).toUInt32).toInt32) &&& (3 : Int32))), .val (.int (p5 &&& (2147483647 : Int32))), .unset, .unset, .unset, .unset, .unset] X0.here hx (hb hby at_128) rfl rfl ?_
              obtain ⟨iv, lv, ev⟩ := own_pos p5
              rw [ev]
              exact K130 iv (0 : Int32) (0 : Int32) (0 : Int32) _ lv
      · refine own_s 70 [] (fun _ k_ => XS.ifNo X0.here hx rfl (hb hby at_67) rfl ((if0 _ _).trans (feq hc67).1) k_) ?_
        refine own_s 71 [(.int 1)] (fun _ k_ => XS.iconst X0.here hx rfl (hb hby at_70) k_) ?_
        refine own_s 75 [(.int 1)] (fun _ k_ => XS.goto X0.here hx rfl (pc0 := 71) (pc' := 75) rfl (hb hby at_71) (by decide) (by decide) k_) ?_
        refine own_istore 77 #[.val (.int p0), .val (.int p1), .val (.int p2), .val (.int p3), .val (.int p4), .val (.int p5), .val (.int (Int32.ofNat ia)), .val (.int (Int32.ofNat ib)), .val (.int (Int32.ofNat ic)), .val (.int 0), .val (.int 0), .val (.int 1), .unset, .unset, .unset, .unset, .unset, .unset, .unset] X0.here hx (hb hby at_75) rfl rfl ?_
        refine own_iload 79 X0.here hx (hb hby at_77) rfl rfl ?_
        refine own_s 80 [(.int 3), (.int p4)] (fun _ k_ => XS.iconst X0.here hx rfl (hb hby at_79) k_) ?_
        refine own_s 81 [(.int ((p4.toUInt32 >>> ((3 : Int32) &&& 31).toUInt32).toInt32))] (fun _ k_ => XS.iushr X0.here hx rfl (hb hby at_80) rfl k_) ?_
        refine own_s 82 [(.int 3), (.int ((p4.toUInt32 >>> ((3 : Int32) &&& 31).toUInt32).toInt32))] (fun _ k_ => XS.iconst X0.here hx rfl (hb hby at_81) k_) ?_
        refine own_s 83 [(.int (((p4.toUInt32 >>> ((3 : Int32) &&& 31).toUInt32).toInt32) &&& (3 : Int32)))] (fun _ k_ => XS.iand X0.here hx rfl (hb hby at_82) rfl k_) ?_
        refine own_istore 85 #[.val (.int p0), .val (.int p1), .val (.int p2), .val (.int p3), .val (.int p4), .val (.int p5), .val (.int (Int32.ofNat ia)), .val (.int (Int32.ofNat ib)), .val (.int (Int32.ofNat ic)), .val (.int 0), .val (.int 0), .val (.int 1), .val (.int (((p4.toUInt32 >>> ((3 : Int32) &&& 31).toUInt32).toInt32) &&& (3 : Int32))), .unset, .unset, .unset, .unset, .unset, .unset] X0.here hx (hb hby at_83) rfl rfl ?_
        refine own_iload 87 X0.here hx (hb hby at_85) rfl rfl ?_
        by_cases hc87 : (((p4.toUInt32 >>> ((3 : Int32) &&& 31).toUInt32).toInt32) &&& (3 : Int32)) = (0 : Int32)
        · refine own_s 90 [] (fun _ k_ => XS.ifNo X0.here hx rfl (hb hby at_87) rfl ((if0 _ _).trans (teq hc87).2) k_) ?_
          refine own_iload 92 X0.here hx (hb hby at_90) rfl rfl ?_
          refine own_istore 94 #[.val (.int p0), .val (.int p1), .val (.int p2), .val (.int p3), .val (.int p4), .val (.int p5), .val (.int (Int32.ofNat ia)), .val (.int (Int32.ofNat ib)), .val (.int (Int32.ofNat ic)), .val (.int 0), .val (.int 0), .val (.int 1), .val (.int (((p4.toUInt32 >>> ((3 : Int32) &&& 31).toUInt32).toInt32) &&& (3 : Int32))), .val (.int (Int32.ofNat ia)), .unset, .unset, .unset, .unset, .unset] X0.here hx (hb hby at_92) rfl rfl ?_
          refine own_s 130 [] (fun _ k_ => XS.goto X0.here hx rfl (pc0 := 94) (pc' := 130) rfl (hb hby at_94) (by decide) (by decide) k_) ?_
          exact K130 ia (0 : Int32) (0 : Int32) (1 : Int32) _ (Nat.lt_trans la (by decide))
        · refine own_s 97 [] (fun _ k_ => XS.ifYes X0.here hx rfl (pc0 := 87) (pc' := 97) rfl (hb hby at_87) rfl ((if0 _ _).trans (feq hc87).2) (by decide) (by decide) k_) ?_
          refine own_iload 99 X0.here hx (hb hby at_97) rfl rfl ?_
          refine own_s 100 [(.int 1), (.int (((p4.toUInt32 >>> ((3 : Int32) &&& 31).toUInt32).toInt32) &&& (3 : Int32)))] (fun _ k_ => XS.iconst X0.here hx rfl (hb hby at_99) k_) ?_
          by_cases hc100 : (((p4.toUInt32 >>> ((3 : Int32) &&& 31).toUInt32).toInt32) &&& (3 : Int32)) = (1 : Int32)
          · refine own_s 103 [] (fun _ k_ => XS.icmpNo X0.here hx rfl (hb hby at_100) rfl (teq hc100).2 k_) ?_
            refine own_iload 105 X0.here hx (hb hby at_103) rfl rfl ?_
            refine own_istore 107 #[.val (.int p0), .val (.int p1), .val (.int p2), .val (.int p3), .val (.int p4), .val (.int p5), .val (.int (Int32.ofNat ia)), .val (.int (Int32.ofNat ib)), .val (.int (Int32.ofNat ic)), .val (.int 0), .val (.int 0), .val (.int 1), .val (.int (((p4.toUInt32 >>> ((3 : Int32) &&& 31).toUInt32).toInt32) &&& (3 : Int32))), .val (.int (Int32.ofNat ib)), .unset, .unset, .unset, .unset, .unset] X0.here hx (hb hby at_105) rfl rfl ?_
            refine own_s 130 [] (fun _ k_ => XS.goto X0.here hx rfl (pc0 := 107) (pc' := 130) rfl (hb hby at_107) (by decide) (by decide) k_) ?_
            exact K130 ib (0 : Int32) (0 : Int32) (1 : Int32) _ (Nat.lt_trans lb (by decide))
          · refine own_s 110 [] (fun _ k_ => XS.icmpYes X0.here hx rfl (pc0 := 100) (pc' := 110) rfl (hb hby at_100) rfl (feq hc100).2 (by decide) (by decide) k_) ?_
            refine own_iload 112 X0.here hx (hb hby at_110) rfl rfl ?_
            refine own_s 113 [(.int 2), (.int (((p4.toUInt32 >>> ((3 : Int32) &&& 31).toUInt32).toInt32) &&& (3 : Int32)))] (fun _ k_ => XS.iconst X0.here hx rfl (hb hby at_112) k_) ?_
            by_cases hc113 : (((p4.toUInt32 >>> ((3 : Int32) &&& 31).toUInt32).toInt32) &&& (3 : Int32)) = (2 : Int32)
            · refine own_s 116 [] (fun _ k_ => XS.icmpNo X0.here hx rfl (hb hby at_113) rfl (teq hc113).2 k_) ?_
              refine own_iload 118 X0.here hx (hb hby at_116) rfl rfl ?_
              refine own_istore 120 #[.val (.int p0), .val (.int p1), .val (.int p2), .val (.int p3), .val (.int p4), .val (.int p5), .val (.int (Int32.ofNat ia)), .val (.int (Int32.ofNat ib)), .val (.int (Int32.ofNat ic)), .val (.int 0), .val (.int 0), .val (.int 1), .val (.int (((p4.toUInt32 >>> ((3 : Int32) &&& 31).toUInt32).toInt32) &&& (3 : Int32))), .val (.int (Int32.ofNat ic)), .unset, .unset, .unset, .unset, .unset] X0.here hx (hb hby at_118) rfl rfl ?_
              refine own_s 130 [] (fun _ k_ => XS.goto X0.here hx rfl (pc0 := 120) (pc' := 130) rfl (hb hby at_120) (by decide) (by decide) k_) ?_
              exact K130 ic (0 : Int32) (0 : Int32) (1 : Int32) _ (Nat.lt_trans lc (by decide))
            · refine own_s 123 [] (fun _ k_ => XS.icmpYes X0.here hx rfl (pc0 := 113) (pc' := 123) rfl (hb hby at_113) rfl (feq hc113).2 (by decide) (by decide) k_) ?_
              refine own_iload 125 X0.here hx (hb hby at_123) rfl rfl ?_
              refine own_go (B := s₁.setTop (mkF m 127 #[.val (.int p0), .val (.int p1), .val (.int p2), .val (.int p3), .val (.int p4), .val (.int p5), .val (.int (Int32.ofNat ia)), .val (.int (Int32.ofNat ib)), .val (.int (Int32.ofNat ic)), .val (.int 0), .val (.int 0), .val (.int 1), .val (.int (((p4.toUInt32 >>> ((3 : Int32) &&& 31).toUInt32).toInt32) &&& (3 : Int32))), .unset, .unset, .unset, .unset, .unset, .unset] [(.int 2147483647), (.int p5)])) (fun _ k_ => X0.ldcInt hx hown (mvT hZ (own_w 102 hw rfl)) (g := (mkF m 125 #[.val (.int p0), .val (.int p1), .val (.int p2), .val (.int p3), .val (.int p4), .val (.int p5), .val (.int (Int32.ofNat ia)), .val (.int (Int32.ofNat ib)), .val (.int (Int32.ofNat ic)), .val (.int 0), .val (.int 0), .val (.int 1), .val (.int (((p4.toUInt32 >>> ((3 : Int32) &&& 31).toUInt32).toInt32) &&& (3 : Int32))), .unset, .unset, .unset, .unset, .unset, .unset] [(.int p5)])) rfl (hb hby at_125) _ k_) ?_
              refine own_s 128 [(.int (p5 &&& (2147483647 : Int32)))] (fun _ k_ => XS.iand X0.here hx rfl (hb hby at_127) rfl k_) ?_
              refine own_istore 130 #[.val (.int p0), .val (.int p1), .val (.int p2), .val (.int p3), .val (.int p4), .val (.int p5), .val (.int (Int32.ofNat ia)), .val (.int (Int32.ofNat ib)), .val (.int (Int32.ofNat ic)), .val (.int 0), .val (.int 0), .val (.int 1), .val (.int (((p4.toUInt32 >>> ((3 : Int32) &&& 31).toUInt32).toInt32) &&& (3 : Int32))), .val (.int (p5 &&& (2147483647 : Int32))), .unset, .unset, .unset, .unset, .unset] X0.here hx (hb hby at_128) rfl rfl ?_
              obtain ⟨iv, lv, ev⟩ := own_pos p5
              rw [ev]
              exact K130 iv (0 : Int32) (0 : Int32) (1 : Int32) _ lv
    · refine own_s 56 [] (fun _ k_ => XS.ifNo X0.here hx rfl (hb hby at_53) rfl ((if0 _ _).trans (feq hc53).1) k_) ?_
      refine own_s 57 [(.int 1)] (fun _ k_ => XS.iconst X0.here hx rfl (hb hby at_56) k_) ?_
      refine own_s 61 [(.int 1)] (fun _ k_ => XS.goto X0.here hx rfl (pc0 := 57) (pc' := 61) rfl (hb hby at_57) (by decide) (by decide) k_) ?_
      refine own_istore 63 #[.val (.int p0), .val (.int p1), .val (.int p2), .val (.int p3), .val (.int p4), .val (.int p5), .val (.int (Int32.ofNat ia)), .val (.int (Int32.ofNat ib)), .val (.int (Int32.ofNat ic)), .val (.int 0), .val (.int 1), .unset, .unset, .unset, .unset, .unset, .unset, .unset, .unset] X0.here hx (hb hby at_61) rfl rfl ?_
      refine own_iload 65 X0.here hx (hb hby at_63) rfl rfl ?_
      refine own_s 66 [(.int 4), (.int p4)] (fun _ k_ => XS.iconst X0.here hx rfl (hb hby at_65) k_) ?_
      refine own_s 67 [(.int (p4 &&& (4 : Int32)))] (fun _ k_ => XS.iand X0.here hx rfl (hb hby at_66) rfl k_) ?_
      by_cases hc67 : (p4 &&& (4 : Int32)) = (0 : Int32)
      · refine own_s 74 [] (fun _ k_ => XS.ifYes X0.here hx rfl (pc0 := 67) (pc' := 74) rfl (hb hby at_67) rfl ((if0 _ _).trans (teq hc67).1) (by decide) (by decide) k_) ?_
        refine own_s 75 [(.int 0)] (fun _ k_ => XS.iconst X0.here hx rfl (hb hby at_74) k_) ?_
        refine own_istore 77 #[.val (.int p0), .val (.int p1), .val (.int p2), .val (.int p3), .val (.int p4), .val (.int p5), .val (.int (Int32.ofNat ia)), .val (.int (Int32.ofNat ib)), .val (.int (Int32.ofNat ic)), .val (.int 0), .val (.int 1), .val (.int 0), .unset, .unset, .unset, .unset, .unset, .unset, .unset] X0.here hx (hb hby at_75) rfl rfl ?_
        refine own_iload 79 X0.here hx (hb hby at_77) rfl rfl ?_
        refine own_s 80 [(.int 3), (.int p4)] (fun _ k_ => XS.iconst X0.here hx rfl (hb hby at_79) k_) ?_
        refine own_s 81 [(.int ((p4.toUInt32 >>> ((3 : Int32) &&& 31).toUInt32).toInt32))] (fun _ k_ => XS.iushr X0.here hx rfl (hb hby at_80) rfl k_) ?_
        refine own_s 82 [(.int 3), (.int ((p4.toUInt32 >>> ((3 : Int32) &&& 31).toUInt32).toInt32))] (fun _ k_ => XS.iconst X0.here hx rfl (hb hby at_81) k_) ?_
        refine own_s 83 [(.int (((p4.toUInt32 >>> ((3 : Int32) &&& 31).toUInt32).toInt32) &&& (3 : Int32)))] (fun _ k_ => XS.iand X0.here hx rfl (hb hby at_82) rfl k_) ?_
        refine own_istore 85 #[.val (.int p0), .val (.int p1), .val (.int p2), .val (.int p3), .val (.int p4), .val (.int p5), .val (.int (Int32.ofNat ia)), .val (.int (Int32.ofNat ib)), .val (.int (Int32.ofNat ic)), .val (.int 0), .val (.int 1), .val (.int 0), .val (.int (((p4.toUInt32 >>> ((3 : Int32) &&& 31).toUInt32).toInt32) &&& (3 : Int32))), .unset, .unset, .unset, .unset, .unset, .unset] X0.here hx (hb hby at_83) rfl rfl ?_
        refine own_iload 87 X0.here hx (hb hby at_85) rfl rfl ?_
        by_cases hc87 : (((p4.toUInt32 >>> ((3 : Int32) &&& 31).toUInt32).toInt32) &&& (3 : Int32)) = (0 : Int32)
        · refine own_s 90 [] (fun _ k_ => XS.ifNo X0.here hx rfl (hb hby at_87) rfl ((if0 _ _).trans (teq hc87).2) k_) ?_
          refine own_iload 92 X0.here hx (hb hby at_90) rfl rfl ?_
          refine own_istore 94 #[.val (.int p0), .val (.int p1), .val (.int p2), .val (.int p3), .val (.int p4), .val (.int p5), .val (.int (Int32.ofNat ia)), .val (.int (Int32.ofNat ib)), .val (.int (Int32.ofNat ic)), .val (.int 0), .val (.int 1), .val (.int 0), .val (.int (((p4.toUInt32 >>> ((3 : Int32) &&& 31).toUInt32).toInt32) &&& (3 : Int32))), .val (.int (Int32.ofNat ia)), .unset, .unset, .unset, .unset, .unset] X0.here hx (hb hby at_92) rfl rfl ?_
          refine own_s 130 [] (fun _ k_ => XS.goto X0.here hx rfl (pc0 := 94) (pc' := 130) rfl (hb hby at_94) (by decide) (by decide) k_) ?_
          exact K130 ia (0 : Int32) (1 : Int32) (0 : Int32) _ (Nat.lt_trans la (by decide))
        · refine own_s 97 [] (fun _ k_ => XS.ifYes X0.here hx rfl (pc0 := 87) (pc' := 97) rfl (hb hby at_87) rfl ((if0 _ _).trans (feq hc87).2) (by decide) (by decide) k_) ?_
          refine own_iload 99 X0.here hx (hb hby at_97) rfl rfl ?_
          refine own_s 100 [(.int 1), (.int (((p4.toUInt32 >>> ((3 : Int32) &&& 31).toUInt32).toInt32) &&& (3 : Int32)))] (fun _ k_ => XS.iconst X0.here hx rfl (hb hby at_99) k_) ?_
          by_cases hc100 : (((p4.toUInt32 >>> ((3 : Int32) &&& 31).toUInt32).toInt32) &&& (3 : Int32)) = (1 : Int32)
          · refine own_s 103 [] (fun _ k_ => XS.icmpNo X0.here hx rfl (hb hby at_100) rfl (teq hc100).2 k_) ?_
            refine own_iload 105 X0.here hx (hb hby at_103) rfl rfl ?_
            refine own_istore 107 #[.val (.int p0), .val (.int p1), .val (.int p2), .val (.int p3), .val (.int p4), .val (.int p5), .val (.int (Int32.ofNat ia)), .val (.int (Int32.ofNat ib)), .val (.int (Int32.ofNat ic)), .val (.int 0), .val (.int 1), .val (.int 0), .val (.int (((p4.toUInt32 >>> ((3 : Int32) &&& 31).toUInt32).toInt32) &&& (3 : Int32))), .val (.int (Int32.ofNat ib)), .unset, .unset, .unset, .unset, .unset] X0.here hx (hb hby at_105) rfl rfl ?_
            refine own_s 130 [] (fun _ k_ => XS.goto X0.here hx rfl (pc0 := 107) (pc' := 130) rfl (hb hby at_107) (by decide) (by decide) k_) ?_
            exact K130 ib (0 : Int32) (1 : Int32) (0 : Int32) _ (Nat.lt_trans lb (by decide))
          · refine own_s 110 [] (fun _ k_ => XS.icmpYes X0.here hx rfl (pc0 := 100) (pc' := 110) rfl (hb hby at_100) rfl (feq hc100).2 (by decide) (by decide) k_) ?_
            refine own_iload 112 X0.here hx (hb hby at_110) rfl rfl ?_
            refine own_s 113 [(.int 2), (.int (((p4.toUInt32 >>> ((3 : Int32) &&& 31).toUInt32).toInt32) &&& (3 : Int32)))] (fun _ k_ => XS.iconst X0.here hx rfl (hb hby at_112) k_) ?_
            by_cases hc113 : (((p4.toUInt32 >>> ((3 : Int32) &&& 31).toUInt32).toInt32) &&& (3 : Int32)) = (2 : Int32)
            · refine own_s 116 [] (fun _ k_ => XS.icmpNo X0.here hx rfl (hb hby at_113) rfl (teq hc113).2 k_) ?_
              refine own_iload 118 X0.here hx (hb hby at_116) rfl rfl ?_
              refine own_istore 120 #[.val (.int p0), .val (.int p1), .val (.int p2), .val (.int p3), .val (.int p4), .val (.int p5), .val (.int (Int32.ofNat ia)), .val (.int (Int32.ofNat ib)), .val (.int (Int32.ofNat ic)), .val (.int 0), .val (.int 1), .val (.int 0), .val (.int (((p4.toUInt32 >>> ((3 : Int32) &&& 31).toUInt32).toInt32) &&& (3 : Int32))), .val (.int (Int32.ofNat ic)), .unset, .unset, .unset, .unset, .unset] X0.here hx (hb hby at_118) rfl rfl ?_
              refine own_s 130 [] (fun _ k_ => XS.goto X0.here hx rfl (pc0 := 120) (pc' := 130) rfl (hb hby at_120) (by decide) (by decide) k_) ?_
              exact K130 ic (0 : Int32) (1 : Int32) (0 : Int32) _ (Nat.lt_trans lc (by decide))
            · refine own_s 123 [] (fun _ k_ => XS.icmpYes X0.here hx rfl (pc0 := 113) (pc' := 123) rfl (hb hby at_113) rfl (feq hc113).2 (by decide) (by decide) k_) ?_
              refine own_iload 125 X0.here hx (hb hby at_123) rfl rfl ?_
              refine own_go (B := s₁.setTop (mkF m 127 #[.val (.int p0), .val (.int p1), .val (.int p2), .val (.int p3), .val (.int p4), .val (.int p5), .val (.int (Int32.ofNat ia)), .val (.int (Int32.ofNat ib)), .val (.int (Int32.ofNat ic)), .val (.int 0), .val (.int 1), .val (.int 0), .val (.int (((p4.toUInt32 >>> ((3 : Int32) &&& 31).toUInt32).toInt32) &&& (3 : Int32))), .unset, .unset, .unset, .unset, .unset, .unset] [(.int 2147483647), (.int p5)])) (fun _ k_ => X0.ldcInt hx hown (mvT hZ (own_w 102 hw rfl)) (g := (mkF m 125 #[.val (.int p0), .val (.int p1), .val (.int p2), .val (.int p3), .val (.int p4), .val (.int p5), .val (.int (Int32.ofNat ia)), .val (.int (Int32.ofNat ib)), .val (.int (Int32.ofNat ic)), .val (.int 0), .val (.int 1), .val (.int 0), .val (.int (((p4.toUInt32 >>> ((3 : Int32) &&& 31).toUInt32).toInt32) &&& (3 : Int32))), .unset, .unset, .unset, .unset, .unset, .unset] [(.int p5)])) rfl (hb hby at_125) _ k_) ?_
              refine own_s 128 [(.int (p5 &&& (2147483647 : Int32)))] (fun _ k_ => XS.iand X0.here hx rfl (hb hby at_127) rfl k_) ?_
              refine own_istore 130 #[.val (.int p0), .val (.int p1), .val (.int p2), .val (.int p3), .val (.int p4), .val (.int p5), .val (.int (Int32.ofNat ia)), .val (.int (Int32.ofNat ib)), .val (.int (Int32.ofNat ic)), .val (.int 0), .val (.int 1), .val (.int 0), .val (.int (((p4.toUInt32 >>> ((3 : Int32) &&& 31).toUInt32).toInt32) &&& (3 : Int32))), .val (.int (p5 &&& (2147483647 : Int32))), .unset, .unset, .unset, .unset, .unset] X0.here hx (hb hby at_128) rfl rfl ?_
              obtain ⟨iv, lv, ev⟩ := own_pos p5
              rw [ev]
              exact K130 iv (0 : Int32) (1 : Int32) (0 : Int32) _ lv
      · refine own_s 70 [] (fun _ k_ => XS.ifNo X0.here hx rfl (hb hby at_67) rfl ((if0 _ _).trans (feq hc67).1) k_) ?_
        refine own_s 71 [(.int 1)] (fun _ k_ => XS.iconst X0.here hx rfl (hb hby at_70) k_) ?_
        refine own_s 75 [(.int 1)] (fun _ k_ => XS.goto X0.here hx rfl (pc0 := 71) (pc' := 75) rfl (hb hby at_71) (by decide) (by decide) k_) ?_
        refine own_istore 77 #[.val (.int p0), .val (.int p1), .val (.int p2), .val (.int p3), .val (.int p4), .val (.int p5), .val (.int (Int32.ofNat ia)), .val (.int (Int32.ofNat ib)), .val (.int (Int32.ofNat ic)), .val (.int 0), .val (.int 1), .val (.int 1), .unset, .unset, .unset, .unset, .unset, .unset, .unset] X0.here hx (hb hby at_75) rfl rfl ?_
        refine own_iload 79 X0.here hx (hb hby at_77) rfl rfl ?_
        refine own_s 80 [(.int 3), (.int p4)] (fun _ k_ => XS.iconst X0.here hx rfl (hb hby at_79) k_) ?_
        refine own_s 81 [(.int ((p4.toUInt32 >>> ((3 : Int32) &&& 31).toUInt32).toInt32))] (fun _ k_ => XS.iushr X0.here hx rfl (hb hby at_80) rfl k_) ?_
        refine own_s 82 [(.int 3), (.int ((p4.toUInt32 >>> ((3 : Int32) &&& 31).toUInt32).toInt32))] (fun _ k_ => XS.iconst X0.here hx rfl (hb hby at_81) k_) ?_
        refine own_s 83 [(.int (((p4.toUInt32 >>> ((3 : Int32) &&& 31).toUInt32).toInt32) &&& (3 : Int32)))] (fun _ k_ => XS.iand X0.here hx rfl (hb hby at_82) rfl k_) ?_
        refine own_istore 85 #[.val (.int p0), .val (.int p1), .val (.int p2), .val (.int p3), .val (.int p4), .val (.int p5), .val (.int (Int32.ofNat ia)), .val (.int (Int32.ofNat ib)), .val (.int (Int32.ofNat ic)), .val (.int 0), .val (.int 1), .val (.int 1), .val (.int (((p4.toUInt32 >>> ((3 : Int32) &&& 31).toUInt32).toInt32) &&& (3 : Int32))), .unset, .unset, .unset, .unset, .unset, .unset] X0.here hx (hb hby at_83) rfl rfl ?_
        refine own_iload 87 X0.here hx (hb hby at_85) rfl rfl ?_
        by_cases hc87 : (((p4.toUInt32 >>> ((3 : Int32) &&& 31).toUInt32).toInt32) &&& (3 : Int32)) = (0 : Int32)
        · refine own_s 90 [] (fun _ k_ => XS.ifNo X0.here hx rfl (hb hby at_87) rfl ((if0 _ _).trans (teq hc87).2) k_) ?_
          refine own_iload 92 X0.here hx (hb hby at_90) rfl rfl ?_
          refine own_istore 94 #[.val (.int p0), .val (.int p1), .val (.int p2), .val (.int p3), .val (.int p4), .val (.int p5), .val (.int (Int32.ofNat ia)), .val (.int (Int32.ofNat ib)), .val (.int (Int32.ofNat ic)), .val (.int 0), .val (.int 1), .val (.int 1), .val (.int (((p4.toUInt32 >>> ((3 : Int32) &&& 31).toUInt32).toInt32) &&& (3 : Int32))), .val (.int (Int32.ofNat ia)), .unset, .unset, .unset, .unset, .unset] X0.here hx (hb hby at_92) rfl rfl ?_
          refine own_s 130 [] (fun _ k_ => XS.goto X0.here hx rfl (pc0 := 94) (pc' := 130) rfl (hb hby at_94) (by decide) (by decide) k_) ?_
          exact K130 ia (0 : Int32) (1 : Int32) (1 : Int32) _ (Nat.lt_trans la (by decide))
        · refine own_s 97 [] (fun _ k_ => XS.ifYes X0.here hx rfl (pc0 := 87) (pc' := 97) rfl (hb hby at_87) rfl ((if0 _ _).trans (feq hc87).2) (by decide) (by decide) k_) ?_
          refine own_iload 99 X0.here hx (hb hby at_97) rfl rfl ?_
          refine own_s 100 [(.int 1), (.int (((p4.toUInt32 >>> ((3 : Int32) &&& 31).toUInt32).toInt32) &&& (3 : Int32)))] (fun _ k_ => XS.iconst X0.here hx rfl (hb hby at_99) k_) ?_
          by_cases hc100 : (((p4.toUInt32 >>> ((3 : Int32) &&& 31).toUInt32).toInt32) &&& (3 : Int32)) = (1 : Int32)
          · refine own_s 103 [] (fun _ k_ => XS.icmpNo X0.here hx rfl (hb hby at_100) rfl (teq hc100).2 k_) ?_
            refine own_iload 105 X0.here hx (hb hby at_103) rfl rfl ?_
            refine own_istore 107 #[.val (.int p0), .val (.int p1), .val (.int p2), .val (.int p3), .val (.int p4), .val (.int p5), .val (.int (Int32.ofNat ia)), .val (.int (Int32.ofNat ib)), .val (.int (Int32.ofNat ic)), .val (.int 0), .val (.int 1), .val (.int 1), .val (.int (((p4.toUInt32 >>> ((3 : Int32) &&& 31).toUInt32).toInt32) &&& (3 : Int32))), .val (.int (Int32.ofNat ib)), .unset, .unset, .unset, .unset, .unset] X0.here hx (hb hby at_105) rfl rfl ?_
            refine own_s 130 [] (fun _ k_ => XS.goto X0.here hx rfl (pc0 := 107) (pc' := 130) rfl (hb hby at_107) (by decide) (by decide) k_) ?_
            exact K130 ib (0 : Int32) (1 : Int32) (1 : Int32) _ (Nat.lt_trans lb (by decide))
          · refine own_s 110 [] (fun _ k_ => XS.icmpYes X0.here hx rfl (pc0 := 100) (pc' := 110) rfl (hb hby at_100) rfl (feq hc100).2 (by decide) (by decide) k_) ?_
            refine own_iload 112 X0.here hx (hb hby at_110) rfl rfl ?_
            refine own_s 113 [(.int 2), (.int (((p4.toUInt32 >>> ((3 : Int32) &&& 31).toUInt32).toInt32) &&& (3 : Int32)))] (fun _ k_ => XS.iconst X0.here hx rfl (hb hby at_112) k_) ?_
            by_cases hc113 : (((p4.toUInt32 >>> ((3 : Int32) &&& 31).toUInt32).toInt32) &&& (3 : Int32)) = (2 : Int32)
            · refine own_s 116 [] (fun _ k_ => XS.icmpNo X0.here hx rfl (hb hby at_113) rfl (teq hc113).2 k_) ?_
              refine own_iload 118 X0.here hx (hb hby at_116) rfl rfl ?_
              refine own_istore 120 #[.val (.int p0), .val (.int p1), .val (.int p2), .val (.int p3), .val (.int p4), .val (.int p5), .val (.int (Int32.ofNat ia)), .val (.int (Int32.ofNat ib)), .val (.int (Int32.ofNat ic)), .val (.int 0), .val (.int 1), .val (.int 1), .val (.int (((p4.toUInt32 >>> ((3 : Int32) &&& 31).toUInt32).toInt32) &&& (3 : Int32))), .val (.int (Int32.ofNat ic)), .unset, .unset, .unset, .unset, .unset] X0.here hx (hb hby at_118) rfl rfl ?_
              refine own_s 130 [] (fun _ k_ => XS.goto X0.here hx rfl (pc0 := 120) (pc' := 130) rfl (hb hby at_120) (by decide) (by decide) k_) ?_
              exact K130 ic (0 : Int32) (1 : Int32) (1 : Int32) _ (Nat.lt_trans lc (by decide))
            · refine own_s 123 [] (fun _ k_ => XS.icmpYes X0.here hx rfl (pc0 := 113) (pc' := 123) rfl (hb hby at_113) rfl (feq hc113).2 (by decide) (by decide) k_) ?_
              refine own_iload 125 X0.here hx (hb hby at_123) rfl rfl ?_
              refine own_go (B := s₁.setTop (mkF m 127 #[.val (.int p0), .val (.int p1), .val (.int p2), .val (.int p3), .val (.int p4), .val (.int p5), .val (.int (Int32.ofNat ia)), .val (.int (Int32.ofNat ib)), .val (.int (Int32.ofNat ic)), .val (.int 0), .val (.int 1), .val (.int 1), .val (.int (((p4.toUInt32 >>> ((3 : Int32) &&& 31).toUInt32).toInt32) &&& (3 : Int32))), .unset, .unset, .unset, .unset, .unset, .unset] [(.int 2147483647), (.int p5)])) (fun _ k_ => X0.ldcInt hx hown (mvT hZ (own_w 102 hw rfl)) (g := (mkF m 125 #[.val (.int p0), .val (.int p1), .val (.int p2), .val (.int p3), .val (.int p4), .val (.int p5), .val (.int (Int32.ofNat ia)), .val (.int (Int32.ofNat ib)), .val (.int (Int32.ofNat ic)), .val (.int 0), .val (.int 1), .val (.int 1), .val (.int (((p4.toUInt32 >>> ((3 : Int32) &&& 31).toUInt32).toInt32) &&& (3 : Int32))), .unset, .unset, .unset, .unset, .unset, .unset] [(.int p5)])) rfl (hb hby at_125) _ k_) ?_
              refine own_s 128 [(.int (p5 &&& (2147483647 : Int32)))] (fun _ k_ => XS.iand X0.here hx rfl (hb hby at_127) rfl k_) ?_
              refine own_istore 130 #[.val (.int p0), .val (.int p1), .val (.int p2), .val (.int p3), .val (.int p4), .val (.int p5), .val (.int (Int32.ofNat ia)), .val (.int (Int32.ofNat ib)), .val (.int (Int32.ofNat ic)), .val (.int 0), .val (.int 1), .val (.int 1), .val (.int (((p4.toUInt32 >>> ((3 : Int32) &&& 31).toUInt32).toInt32) &&& (3 : Int32))), .val (.int (p5 &&& (2147483647 : Int32))), .unset, .unset, .unset, .unset, .unset] X0.here hx (hb hby at_128) rfl rfl ?_
              obtain ⟨iv, lv, ev⟩ := own_pos p5
              rw [ev]
              exact K130 iv (0 : Int32) (1 : Int32) (1 : Int32) _ lv
  · refine own_s 42 [] (fun _ k_ => XS.ifNo X0.here hx rfl (hb hby at_39) rfl ((if0 _ _).trans (feq hc39).1) k_) ?_
    refine own_s 43 [(.int 1)] (fun _ k_ => XS.iconst X0.here hx rfl (hb hby at_42) k_) ?_
    refine own_s 47 [(.int 1)] (fun _ k_ => XS.goto X0.here hx rfl (pc0 := 43) (pc' := 47) rfl (hb hby at_43) (by decide) (by decide) k_) ?_
    refine own_istore 49 #[.val (.int p0), .val (.int p1), .val (.int p2), .val (.int p3), .val (.int p4), .val (.int p5), .val (.int (Int32.ofNat ia)), .val (.int (Int32.ofNat ib)), .val (.int (Int32.ofNat ic)), .val (.int 1), .unset, .unset, .unset, .unset, .unset, .unset, .unset, .unset, .unset] X0.here hx (hb hby at_47) rfl rfl ?_
    refine own_iload 51 X0.here hx (hb hby at_49) rfl rfl ?_
    refine own_s 52 [(.int 2), (.int p4)] (fun _ k_ => XS.iconst X0.here hx rfl (hb hby at_51) k_) ?_
    refine own_s 53 [(.int (p4 &&& (2 : Int32)))] (fun _ k_ => XS.iand X0.here hx rfl (hb hby at_52) rfl k_) ?_
    by_cases hc53 : (p4 &&& (2 : Int32)) = (0 : Int32)
    · refine own_s 60 [] (fun _ k_ => XS.ifYes X0.here hx rfl (pc0 := 53) (pc' := 60) rfl (hb hby at_53) rfl ((if0 _ _).trans (teq hc53).1) (by decide) (by decide) k_) ?_
      refine own_s 61 [(.int 0)] (fun _ k_ => XS.iconst X0.here hx rfl (hb hby at_60) k_) ?_
      refine own_istore 63 #[.val (.int p0), .val (.int p1), .val (.int p2), .val (.int p3), .val (.int p4), .val (.int p5), .val (.int (Int32.ofNat ia)), .val (.int (Int32.ofNat ib)), .val (.int (Int32.ofNat ic)), .val (.int 1), .val (.int 0), .unset, .unset, .unset, .unset, .unset, .unset, .unset, .unset] X0.here hx (hb hby at_61) rfl rfl ?_
      refine own_iload 65 X0.here hx (hb hby at_63) rfl rfl ?_
      refine own_s 66 [(.int 4), (.int p4)] (fun _ k_ => XS.iconst X0.here hx rfl (hb hby at_65) k_) ?_
      refine own_s 67 [(.int (p4 &&& (4 : Int32)))] (fun _ k_ => XS.iand X0.here hx rfl (hb hby at_66) rfl k_) ?_
      by_cases hc67 : (p4 &&& (4 : Int32)) = (0 : Int32)
      · refine own_s 74 [] (fun _ k_ => XS.ifYes X0.here hx rfl (pc0 := 67) (pc' := 74) rfl (hb hby at_67) rfl ((if0 _ _).trans (teq hc67).1) (by decide) (by decide) k_) ?_
        refine own_s 75 [(.int 0)] (fun _ k_ => XS.iconst X0.here hx rfl (hb hby at_74) k_) ?_
        refine own_istore 77 #[.val (.int p0), .val (.int p1), .val (.int p2), .val (.int p3), .val (.int p4), .val (.int p5), .val (.int (Int32.ofNat ia)), .val (.int (Int32.ofNat ib)), .val (.int (Int32.ofNat ic)), .val (.int 1), .val (.int 0), .val (.int 0), .unset, .unset, .unset, .unset, .unset, .unset, .unset] X0.here hx (hb hby at_75) rfl rfl ?_
        refine own_iload 79 X0.here hx (hb hby at_77) rfl rfl ?_
        refine own_s 80 [(.int 3), (.int p4)] (fun _ k_ => XS.iconst X0.here hx rfl (hb hby at_79) k_) ?_
        refine own_s 81 [(.int ((p4.toUInt32 >>> ((3 : Int32) &&& 31).toUInt32).toInt32))] (fun _ k_ => XS.iushr X0.here hx rfl (hb hby at_80) rfl k_) ?_
        refine own_s 82 [(.int 3), (.int ((p4.toUInt32 >>> ((3 : Int32) &&& 31).toUInt32).toInt32))] (fun _ k_ => XS.iconst X0.here hx rfl (hb hby at_81) k_) ?_
        refine own_s 83 [(.int (((p4.toUInt32 >>> ((3 : Int32) &&& 31).toUInt32).toInt32) &&& (3 : Int32)))] (fun _ k_ => XS.iand X0.here hx rfl (hb hby at_82) rfl k_) ?_
        refine own_istore 85 #[.val (.int p0), .val (.int p1), .val (.int p2), .val (.int p3), .val (.int p4), .val (.int p5), .val (.int (Int32.ofNat ia)), .val (.int (Int32.ofNat ib)), .val (.int (Int32.ofNat ic)), .val (.int 1), .val (.int 0), .val (.int 0), .val (.int (((p4.toUInt32 >>> ((3 : Int32) &&& 31).toUInt32).toInt32) &&& (3 : Int32))), .unset, .unset, .unset, .unset, .unset, .unset] X0.here hx (hb hby at_83) rfl rfl ?_
        refine own_iload 87 X0.here hx (hb hby at_85) rfl rfl ?_
        by_cases hc87 : (((p4.toUInt32 >>> ((3 : Int32) &&& 31).toUInt32).toInt32) &&& (3 : Int32)) = (0 : Int32)
        · refine own_s 90 [] (fun _ k_ => XS.ifNo X0.here hx rfl (hb hby at_87) rfl ((if0 _ _).trans (teq hc87).2) k_) ?_
          refine own_iload 92 X0.here hx (hb hby at_90) rfl rfl ?_
          refine own_istore 94 #[.val (.int p0), .val (.int p1), .val (.int p2), .val (.int p3), .val (.int p4), .val (.int p5), .val (.int (Int32.ofNat ia)), .val (.int (Int32.ofNat ib)), .val (.int (Int32.ofNat ic)), .val (.int 1), .val (.int 0), .val (.int 0), .val (.int (((p4.toUInt32 >>> ((3 : Int32) &&& 31).toUInt32).toInt32) &&& (3 : Int32))), .val (.int (Int32.ofNat ia)), .unset, .unset, .unset, .unset, .unset] X0.here hx (hb hby at_92) rfl rfl ?_
          refine own_s 130 [] (fun _ k_ => XS.goto X0.here hx rfl (pc0 := 94) (pc' := 130) rfl (hb hby at_94) (by decide) (by decide) k_) ?_
          exact K130 ia (1 : Int32) (0 : Int32) (0 : Int32) _ (Nat.lt_trans la (by decide))
        · refine own_s 97 [] (fun _ k_ => XS.ifYes X0.here hx rfl (pc0 := 87) (pc' := 97) rfl (hb hby at_87) rfl ((if0 _ _).trans (feq hc87).2) (by decide) (by decide) k_) ?_
          refine own_iload 99 X0.here hx (hb hby at_97) rfl rfl ?_
          refine own_s 100 [(.int 1), (.int (((p4.toUInt32 >>> ((3 : Int32) &&& 31).toUInt32).toInt32) &&& (3 : Int32)))] (fun _ k_ => XS.iconst X0.here hx rfl (hb hby at_99) k_) ?_
          by_cases hc100 : (((p4.toUInt32 >>> ((3 : Int32) &&& 31).toUInt32).toInt32) &&& (3 : Int32)) = (1 : Int32)
          · refine own_s 103 [] (fun _ k_ => XS.icmpNo X0.here hx rfl (hb hby at_100) rfl (teq hc100).2 k_) ?_
            refine own_iload 105 X0.here hx (hb hby at_103) rfl rfl ?_
            refine own_istore 107 #[.val (.int p0), .val (.int p1), .val (.int p2), .val (.int p3), .val (.int p4), .val (.int p5), .val (.int (Int32.ofNat ia)), .val (.int (Int32.ofNat ib)), .val (.int (Int32.ofNat ic)), .val (.int 1), .val (.int 0), .val (.int 0), .val (.int (((p4.toUInt32 >>> ((3 : Int32) &&& 31).toUInt32).toInt32) &&& (3 : Int32))), .val (.int (Int32.ofNat ib)), .unset, .unset, .unset, .unset, .unset] X0.here hx (hb hby at_105) rfl rfl ?_
            refine own_s 130 [] (fun _ k_ => XS.goto X0.here hx rfl (pc0 := 107) (pc' := 130) rfl (hb hby at_107) (by decide) (by decide) k_) ?_
            exact K130 ib (1 : Int32) (0 : Int32) (0 : Int32) _ (Nat.lt_trans lb (by decide))
          · refine own_s 110 [] (fun _ k_ => XS.icmpYes X0.here hx rfl (pc0 := 100) (pc' := 110) rfl (hb hby at_100) rfl (feq hc100).2 (by decide) (by decide) k_) ?_
            refine own_iload 112 X0.here hx (hb hby at_110) rfl rfl ?_
            refine own_s 113 [(.int 2), (.int (((p4.toUInt32 >>> ((3 : Int32) &&& 31).toUInt32).toInt32) &&& (3 : Int32)))] (fun _ k_ => XS.iconst X0.here hx rfl (hb hby at_112) k_) ?_
            by_cases hc113 : (((p4.toUInt32 >>> ((3 : Int32) &&& 31).toUInt32).toInt32) &&& (3 : Int32)) = (2 : Int32)
            · refine own_s 116 [] (fun _ k_ => XS.icmpNo X0.here hx rfl (hb hby at_113) rfl (teq hc113).2 k_) ?_
              refine own_iload 118 X0.here hx (hb hby at_116) rfl rfl ?_
              refine own_istore 120 #[.val (.int p0), .val (.int p1), .val (.int p2), .val (.int p3), .val (.int p4), .val (.int p5), .val (.int (Int32.ofNat ia)), .val (.int (Int32.ofNat ib)), .val (.int (Int32.ofNat ic)), .val (.int 1), .val (.int 0), .val (.int 0), .val (.int (((p4.toUInt32 >>> ((3 : Int32) &&& 31).toUInt32).toInt32) &&& (3 : Int32))), .val (.int (Int32.ofNat ic)), .unset, .unset, .unset, .unset, .unset] X0.here hx (hb hby at_118) rfl rfl ?_
              refine own_s 130 [] (fun _ k_ => XS.goto X0.here hx rfl (pc0 := 120) (pc' := 130) rfl (hb hby at_120) (by decide) (by decide) k_) ?_
              exact K130 ic (1 : Int32) (0 : Int32) (0 : Int32) _ (Nat.lt_trans lc (by decide))
            · refine own_s 123 [] (fun _ k_ => XS.icmpYes X0.here hx rfl (pc0 := 113) (pc' := 123) rfl (hb hby at_113) rfl (feq hc113).2 (by decide) (by decide) k_) ?_
              refine own_iload 125 X0.here hx (hb hby at_123) rfl rfl ?_
              refine own_go (B := s₁.setTop (mkF m 127 #[.val (.int p0), .val (.int p1), .val (.int p2), .val (.int p3), .val (.int p4), .val (.int p5), .val (.int (Int32.ofNat ia)), .val (.int (Int32.ofNat ib)), .val (.int (Int32.ofNat ic)), .val (.int 1), .val (.int 0), .val (.int 0), .val (.int (((p4.toUInt32 >>> ((3 : Int32) &&& 31).toUInt32).toInt32) &&& (3 : Int32))), .unset, .unset, .unset, .unset, .unset, .unset] [(.int 2147483647), (.int p5)])) (fun _ k_ => X0.ldcInt hx hown (mvT hZ (own_w 102 hw rfl)) (g := (mkF m 125 #[.val (.int p0), .val (.int p1), .val (.int p2), .val (.int p3), .val (.int p4), .val (.int p5), .val (.int (Int32.ofNat ia)), .val (.int (Int32.ofNat ib)), .val (.int (Int32.ofNat ic)), .val (.int 1), .val (.int 0), .val (.int 0), .val (.int (((p4.toUInt32 >>> ((3 : Int32) &&& 31).toUInt32).toInt32) &&& (3 : Int32))), .unset, .unset, .unset, .unset, .unset, .unset] [(.int p5)])) rfl (hb hby at_125) _ k_) ?_
              refine own_s 128 [(.int (p5 &&& (2147483647 : Int32)))] (fun _ k_ => XS.iand X0.here hx rfl (hb hby at_127) rfl k_) ?_
              refine own_istore 130 #[.val (.int p0), .val (.int p1), .val (.int p2), .val (.int p3), .val (.int p4), .val (.int p5), .val (.int (Int32.ofNat ia)), .val (.int (Int32.ofNat ib)), .val (.int (Int32.ofNat ic)), .val (.int 1), .val (.int 0), .val (.int 0), .val (.int (((p4.toUInt32 >>> ((3 : Int32) &&& 31).toUInt32).toInt32) &&& (3 : Int32))), .val (.int (p5 &&& (2147483647 : Int32))), .unset, .unset, .unset, .unset, .unset] X0.here hx (hb hby at_128) rfl rfl ?_
              obtain ⟨iv, lv, ev⟩ := own_pos p5
              rw [ev]
              exact K130 iv (1 : Int32) (0 : Int32) (0 : Int32) _ lv
      · refine own_s 70 [] (fun _ k_ => XS.ifNo X0.here hx rfl (hb hby at_67) rfl ((if0 _ _).trans (feq hc67).1) k_) ?_
        refine own_s 71 [(.int 1)] (fun _ k_ => XS.iconst X0.here hx rfl (hb hby at_70) k_) ?_
        refine own_s 75 [(.int 1)] (fun _ k_ => XS.goto X0.here hx rfl (pc0 := 71) (pc' := 75) rfl (hb hby at_71) (by decide) (by decide) k_) ?_
        refine own_istore 77 #[.val (.int p0), .val (.int p1), .val (.int p2), .val (.int p3), .val (.int p4), .val (.int p5), .val (.int (Int32.ofNat ia)), .val (.int (Int32.ofNat ib)), .val (.int (Int32.ofNat ic)), .val (.int 1), .val (.int 0), .val (.int 1), .unset, .unset, .unset, .unset, .unset, .unset, .unset] X0.here hx (hb hby at_75) rfl rfl ?_
        refine own_iload 79 X0.here hx (hb hby at_77) rfl rfl ?_
        refine own_s 80 [(.int 3), (.int p4)] (fun _ k_ => XS.iconst X0.here hx rfl (hb hby at_79) k_) ?_
        refine own_s 81 [(.int ((p4.toUInt32 >>> ((3 : Int32) &&& 31).toUInt32).toInt32))] (fun _ k_ => XS.iushr X0.here hx rfl (hb hby at_80) rfl k_) ?_
        refine own_s 82 [(.int 3), (.int ((p4.toUInt32 >>> ((3 : Int32) &&& 31).toUInt32).toInt32))] (fun _ k_ => XS.iconst X0.here hx rfl (hb hby at_81) k_) ?_
        refine own_s 83 [(.int (((p4.toUInt32 >>> ((3 : Int32) &&& 31).toUInt32).toInt32) &&& (3 : Int32)))] (fun _ k_ => XS.iand X0.here hx rfl (hb hby at_82) rfl k_) ?_
        refine own_istore 85 #[.val (.int p0), .val (.int p1), .val (.int p2), .val (.int p3), .val (.int p4), .val (.int p5), .val (.int (Int32.ofNat ia)), .val (.int (Int32.ofNat ib)), .val (.int (Int32.ofNat ic)), .val (.int 1), .val (.int 0), .val (.int 1), .val (.int (((p4.toUInt32 >>> ((3 : Int32) &&& 31).toUInt32).toInt32) &&& (3 : Int32))), .unset, .unset, .unset, .unset, .unset, .unset] X0.here hx (hb hby at_83) rfl rfl ?_
        refine own_iload 87 X0.here hx (hb hby at_85) rfl rfl ?_
        by_cases hc87 : (((p4.toUInt32 >>> ((3 : Int32) &&& 31).toUInt32).toInt32) &&& (3 : Int32)) = (0 : Int32)
        · refine own_s 90 [] (fun _ k_ => XS.ifNo X0.here hx rfl (hb hby at_87) rfl ((if0 _ _).trans (teq hc87).2) k_) ?_
          refine own_iload 92 X0.here hx (hb hby at_90) rfl rfl ?_
          refine own_istore 94 #[.val (.int p0), .val (.int p1), .val (.int p2), .val (.int p3), .val (.int p4), .val (.int p5), .val (.int (Int32.ofNat ia)), .val (.int (Int32.ofNat ib)), .val (.int (Int32.ofNat ic)), .val (.int 1), .val (.int 0), .val (.int 1), .val (.int (((p4.toUInt32 >>> ((3 : Int32) &&& 31).toUInt32).toInt32) &&& (3 : Int32))), .val (.int (Int32.ofNat ia)), .unset, .unset, .unset, .unset, .unset] X0.here hx (hb hby at_92) rfl rfl ?_
          refine own_s 130 [] (fun _ k_ => XS.goto X0.here hx rfl (pc0 := 94) (pc' := 130) rfl (hb hby at_94) (by decide) (by decide) k_) ?_
          exact K130 ia (1 : Int32) (0 : Int32) (1 : Int32) _ (Nat.lt_trans la (by decide))
        · refine own_s 97 [] (fun _ k_ => XS.ifYes X0.here hx rfl (pc0 := 87) (pc' := 97) rfl (hb hby at_87) rfl ((if0 _ _).trans (feq hc87).2) (by decide) (by decide) k_) ?_
          refine own_iload 99 X0.here hx (hb hby at_97) rfl rfl ?_
          refine own_s 100 [(.int 1), (.int (((p4.toUInt32 >>> ((3 : Int32) &&& 31).toUInt32).toInt32) &&& (3 : Int32)))] (fun _ k_ => XS.iconst X0.here hx rfl (hb hby at_99) k_) ?_
          by_cases hc100 : (((p4.toUInt32 >>> ((3 : Int32) &&& 31).toUInt32).toInt32) &&& (3 : Int32)) = (1 : Int32)
          · refine own_s 103 [] (fun _ k_ => XS.icmpNo X0.here hx rfl (hb hby at_100) rfl (teq hc100).2 k_) ?_
            refine own_iload 105 X0.here hx (hb hby at_103) rfl rfl ?_
            refine own_istore 107 #[.val (.int p0), .val (.int p1), .val (.int p2), .val (.int p3), .val (.int p4), .val (.int p5), .val (.int (Int32.ofNat ia)), .val (.int (Int32.ofNat ib)), .val (.int (Int32.ofNat ic)), .val (.int 1), .val (.int 0), .val (.int 1), .val (.int (((p4.toUInt32 >>> ((3 : Int32) &&& 31).toUInt32).toInt32) &&& (3 : Int32))), .val (.int (Int32.ofNat ib)), .unset, .unset, .unset, .unset, .unset] X0.here hx (hb hby at_105) rfl rfl ?_
            refine own_s 130 [] (fun _ k_ => XS.goto X0.here hx rfl (pc0 := 107) (pc' := 130) rfl (hb hby at_107) (by decide) (by decide) k_) ?_
            exact K130 ib (1 : Int32) (0 : Int32) (1 : Int32) _ (Nat.lt_trans lb (by decide))
          · refine own_s 110 [] (fun _ k_ => XS.icmpYes X0.here hx rfl (pc0 := 100) (pc' := 110) rfl (hb hby at_100) rfl (feq hc100).2 (by decide) (by decide) k_) ?_
            refine own_iload 112 X0.here hx (hb hby at_110) rfl rfl ?_
            refine own_s 113 [(.int 2), (.int (((p4.toUInt32 >>> ((3 : Int32) &&& 31).toUInt32).toInt32) &&& (3 : Int32)))] (fun _ k_ => XS.iconst X0.here hx rfl (hb hby at_112) k_) ?_
            by_cases hc113 : (((p4.toUInt32 >>> ((3 : Int32) &&& 31).toUInt32).toInt32) &&& (3 : Int32)) = (2 : Int32)
            · refine own_s 116 [] (fun _ k_ => XS.icmpNo X0.here hx rfl (hb hby at_113) rfl (teq hc113).2 k_) ?_
              refine own_iload 118 X0.here hx (hb hby at_116) rfl rfl ?_
              refine own_istore 120 #[.val (.int p0), .val (.int p1), .val (.int p2), .val (.int p3), .val (.int p4), .val (.int p5), .val (.int (Int32.ofNat ia)), .val (.int (Int32.ofNat ib)), .val (.int (Int32.ofNat ic)), .val (.int 1), .val (.int 0), .val (.int 1), .val (.int (((p4.toUInt32 >>> ((3 : Int32) &&& 31).toUInt32).toInt32) &&& (3 : Int32))), .val (.int (Int32.ofNat ic)), .unset, .unset, .unset, .unset, .unset] X0.here hx (hb hby at_118) rfl rfl ?_
              refine own_s 130 [] (fun _ k_ => XS.goto X0.here hx rfl (pc0 := 120) (pc' := 130) rfl (hb hby at_120) (by decide) (by decide) k_) ?_
              exact K130 ic (1 : Int32) (0 : Int32) (1 : Int32) _ (Nat.lt_trans lc (by decide))
            · refine own_s 123 [] (fun _ k_ => XS.icmpYes X0.here hx rfl (pc0 := 113) (pc' := 123) rfl (hb hby at_113) rfl (feq hc113).2 (by decide) (by decide) k_) ?_
              refine own_iload 125 X0.here hx (hb hby at_123) rfl rfl ?_
              refine own_go (B := s₁.setTop (mkF m 127 #[.val (.int p0), .val (.int p1), .val (.int p2), .val (.int p3), .val (.int p4), .val (.int p5), .val (.int (Int32.ofNat ia)), .val (.int (Int32.ofNat ib)), .val (.int (Int32.ofNat ic)), .val (.int 1), .val (.int 0), .val (.int 1), .val (.int (((p4.toUInt32 >>> ((3 : Int32) &&& 31).toUInt32).toInt32) &&& (3 : Int32))), .unset, .unset, .unset, .unset, .unset, .unset] [(.int 2147483647), (.int p5)])) (fun _ k_ => X0.ldcInt hx hown (mvT hZ (own_w 102 hw rfl)) (g := (mkF m 125 #[.val (.int p0), .val (.int p1), .val (.int p2), .val (.int p3), .val (.int p4), .val (.int p5), .val (.int (Int32.ofNat ia)), .val (.int (Int32.ofNat ib)), .val (.int (Int32.ofNat ic)), .val (.int 1), .val (.int 0), .val (.int 1), .val (.int (((p4.toUInt32 >>> ((3 : Int32) &&& 31).toUInt32).toInt32) &&& (3 : Int32))), .unset, .unset, .unset, .unset, .unset, .unset] [(.int p5)])) rfl (hb hby at_125) _ k_) ?_
              refine own_s 128 [(.int (p5 &&& (2147483647 : Int32)))] (fun _ k_ => XS.iand X0.here hx rfl (hb hby at_127) rfl k_) ?_
              refine own_istore 130 #[.val (.int p0), .val (.int p1), .val (.int p2), .val (.int p3), .val (.int p4), .val (.int p5), .val (.int (Int32.ofNat ia)), .val (.int (Int32.ofNat ib)), .val (.int (Int32.ofNat ic)), .val (.int 1), .val (.int 0), .val (.int 1), .val (.int (((p4.toUInt32 >>> ((3 : Int32) &&& 31).toUInt32).toInt32) &&& (3 : Int32))), .val (.int (p5 &&& (2147483647 : Int32))), .unset, .unset, .unset, .unset, .unset] X0.here hx (hb hby at_128) rfl rfl ?_
              obtain ⟨iv, lv, ev⟩ := own_pos p5
              rw [ev]
              exact K130 iv (1 : Int32) (0 : Int32) (1 : Int32) _ lv
    · refine own_s 56 [] (fun _ k_ => XS.ifNo X0.here hx rfl (hb hby at_53) rfl ((if0 _ _).trans (feq hc53).1) k_) ?_
      refine own_s 57 [(.int 1)] (fun _ k_ => XS.iconst X0.here hx rfl (hb hby at_56) k_) ?_
      refine own_s 61 [(.int 1)] (fun _ k_ => XS.goto X0.here hx rfl (pc0 := 57) (pc' := 61) rfl (hb hby at_57) (by decide) (by decide) k_) ?_
      refine own_istore 63 #[.val (.int p0), .val (.int p1), .val (.int p2), .val (.int p3), .val (.int p4), .val (.int p5), .val (.int (Int32.ofNat ia)), .val (.int (Int32.ofNat ib)), .val (.int (Int32.ofNat ic)), .val (.int 1), .val (.int 1), .unset, .unset, .unset, .unset, .unset, .unset, .unset, .unset] X0.here hx (hb hby at_61) rfl rfl ?_
      refine own_iload 65 X0.here hx (hb hby at_63) rfl rfl ?_
      refine own_s 66 [(.int 4), (.int p4)] (fun _ k_ => XS.iconst X0.here hx rfl (hb hby at_65) k_) ?_
      refine own_s 67 [(.int (p4 &&& (4 : Int32)))] (fun _ k_ => XS.iand X0.here hx rfl (hb hby at_66) rfl k_) ?_
      by_cases hc67 : (p4 &&& (4 : Int32)) = (0 : Int32)
      · refine own_s 74 [] (fun _ k_ => XS.ifYes X0.here hx rfl (pc0 := 67) (pc' := 74) rfl (hb hby at_67) rfl ((if0 _ _).trans (teq hc67).1) (by decide) (by decide) k_) ?_
        refine own_s 75 [(.int 0)] (fun _ k_ => XS.iconst X0.here hx rfl (hb hby at_74) k_) ?_
        refine own_istore 77 #[.val (.int p0), .val (.int p1), .val (.int p2), .val (.int p3), .val (.int p4), .val (.int p5), .val (.int (Int32.ofNat ia)), .val (.int (Int32.ofNat ib)), .val (.int (Int32.ofNat ic)), .val (.int 1), .val (.int 1), .val (.int 0), .unset, .unset, .unset, .unset, .unset, .unset, .unset] X0.here hx (hb hby at_75) rfl rfl ?_
        refine own_iload 79 X0.here hx (hb hby at_77) rfl rfl ?_
        refine own_s 80 [(.int 3), (.int p4)] (fun _ k_ => XS.iconst X0.here hx rfl (hb hby at_79) k_) ?_
        refine own_s 81 [(.int ((p4.toUInt32 >>> ((3 : Int32) &&& 31).toUInt32).toInt32))] (fun _ k_ => XS.iushr X0.here hx rfl (hb hby at_80) rfl k_) ?_
        refine own_s 82 [(.int 3), (.int ((p4.toUInt32 >>> ((3 : Int32) &&& 31).toUInt32).toInt32))] (fun _ k_ => XS.iconst X0.here hx rfl (hb hby at_81) k_) ?_
        refine own_s 83 [(.int (((p4.toUInt32 >>> ((3 : Int32) &&& 31).toUInt32).toInt32) &&& (3 : Int32)))] (fun _ k_ => XS.iand X0.here hx rfl (hb hby at_82) rfl k_) ?_
        refine own_istore 85 #[.val (.int p0), .val (.int p1), .val (.int p2), .val (.int p3), .val (.int p4), .val (.int p5), .val (.int (Int32.ofNat ia)), .val (.int (Int32.ofNat ib)), .val (.int (Int32.ofNat ic)), .val (.int 1), .val (.int 1), .val (.int 0), .val (.int (((p4.toUInt32 >>> ((3 : Int32) &&& 31).toUInt32).toInt32) &&& (3 : Int32))), .unset, .unset, .unset, .unset, .unset, .unset] X0.here hx (hb hby at_83) rfl rfl ?_
        refine own_iload 87 X0.here hx (hb hby at_85) rfl rfl ?_
        by_cases hc87 : (((p4.toUInt32 >>> ((3 : Int32) &&& 31).toUInt32).toInt32) &&& (3 : Int32)) = (0 : Int32)
        · refine own_s 90 [] (fun _ k_ => XS.ifNo X0.here hx rfl (hb hby at_87) rfl ((if0 _ _).trans (teq hc87).2) k_) ?_
          refine own_iload 92 X0.here hx (hb hby at_90) rfl rfl ?_
          refine own_istore 94 #[.val (.int p0), .val (.int p1), .val (.int p2), .val (.int p3), .val (.int p4), .val (.int p5), .val (.int (Int32.ofNat ia)), .val (.int (Int32.ofNat ib)), .val (.int (Int32.ofNat ic)), .val (.int 1), .val (.int 1), .val (.int 0), .val (.int (((p4.toUInt32 >>> ((3 : Int32) &&& 31).toUInt32).toInt32) &&& (3 : Int32))), .val (.int (Int32.ofNat ia)), .unset, .unset, .unset, .unset, .unset] X0.here hx (hb hby at_92) rfl rfl ?_
          refine own_s 130 [] (fun _ k_ => XS.goto X0.here hx rfl (pc0 := 94) (pc' := 130) rfl (hb hby at_94) (by decide) (by decide) k_) ?_
          exact K130 ia (1 : Int32) (1 : Int32) (0 : Int32) _ (Nat.lt_trans la (by decide))
        · refine own_s 97 [] (fun _ k_ => XS.ifYes X0.here hx rfl (pc0 := 87) (pc' := 97) rfl (hb hby at_87) rfl ((if0 _ _).trans (feq hc87).2) (by decide) (by decide) k_) ?_
          refine own_iload 99 X0.here hx (hb hby at_97) rfl rfl ?_
          refine own_s 100 [(.int 1), (.int (((p4.toUInt32 >>> ((3 : Int32) &&& 31).toUInt32).toInt32) &&& (3 : Int32)))] (fun _ k_ => XS.iconst X0.here hx rfl (hb hby at_99) k_) ?_
          by_cases hc100 : (((p4.toUInt32 >>> ((3 : Int32) &&& 31).toUInt32).toInt32) &&& (3 : Int32)) = (1 : Int32)
          · refine own_s 103 [] (fun _ k_ => XS.icmpNo X0.here hx rfl (hb hby at_100) rfl (teq hc100).2 k_) ?_
            refine own_iload 105 X0.here hx (hb hby at_103) rfl rfl ?_
            refine own_istore 107 #[.val (.int p0), .val (.int p1), .val (.int p2), .val (.int p3), .val (.int p4), .val (.int p5), .val (.int (Int32.ofNat ia)), .val (.int (Int32.ofNat ib)), .val (.int (Int32.ofNat ic)), .val (.int 1), .val (.int 1), .val (.int 0), .val (.int (((p4.toUInt32 >>> ((3 : Int32) &&& 31).toUInt32).toInt32) &&& (3 : Int32))), .val (.int (Int32.ofNat ib)), .unset, .unset, .unset, .unset, .unset] X0.here hx (hb hby at_105) rfl rfl ?_
            refine own_s 130 [] (fun _ k_ => XS.goto X0.here hx rfl (pc0 := 107) (pc' := 130) rfl (hb hby at_107) (by decide) (by decide) k_) ?_
            exact K130 ib (1 : Int32) (1 : Int32) (0 : Int32) _ (Nat.lt_trans lb (by decide))
          · refine own_s 110 [] (fun _ k_ => XS.icmpYes X0.here hx rfl (pc0 := 100) (pc' := 110) rfl (hb hby at_100) rfl (feq hc100).2 (by decide) (by decide) k_) ?_
            refine own_iload 112 X0.here hx (hb hby at_110) rfl rfl ?_
            refine own_s 113 [(.int 2), (.int (((p4.toUInt32 >>> ((3 : Int32) &&& 31).toUInt32).toInt32) &&& (3 : Int32)))] (fun _ k_ => XS.iconst X0.here hx rfl (hb hby at_112) k_) ?_
            by_cases hc113 : (((p4.toUInt32 >>> ((3 : Int32) &&& 31).toUInt32).toInt32) &&& (3 : Int32)) = (2 : Int32)
            · refine own_s 116 [] (fun _ k_ => XS.icmpNo X0.here hx rfl (hb hby at_113) rfl (teq hc113).2 k_) ?_
              refine own_iload 118 X0.here hx (hb hby at_116) rfl rfl ?_
              refine own_istore 120 #[.val (.int p0), .val (.int p1), .val (.int p2), .val (.int p3), .val (.int p4), .val (.int p5), .val (.int (Int32.ofNat ia)), .val (.int (Int32.ofNat ib)), .val (.int (Int32.ofNat ic)), .val (.int 1), .val (.int 1), .val (.int 0), .val (.int (((p4.toUInt32 >>> ((3 : Int32) &&& 31).toUInt32).toInt32) &&& (3 : Int32))), .val (.int (Int32.ofNat ic)), .unset, .unset, .unset, .unset, .unset] X0.here hx (hb hby at_118) rfl rfl ?_
              refine own_s 130 [] (fun _ k_ => XS.goto X0.here hx rfl (pc0 := 120) (pc' := 130) rfl (hb hby at_120) (by decide) (by decide) k_) ?_
              exact K130 ic (1 : Int32) (1 : Int32) (0 : Int32) _ (Nat.lt_trans lc (by decide))
            · refine own_s 123 [] (fun _ k_ => XS.icmpYes X0.here hx rfl (pc0 := 113) (pc' := 123) rfl (hb hby at_113) rfl (feq hc113).2 (by decide) (by decide) k_) ?_
              refine own_iload 125 X0.here hx (hb hby at_123) rfl rfl ?_
              refine own_go (B := s₁.setTop (mkF m 127 #[.val (.int p0), .val (.int p1), .val (.int p2), .val (.int p3), .val (.int p4), .val (.int p5), .val (.int (Int32.ofNat ia)), .val (.int (Int32.ofNat ib)), .val (.int (Int32.ofNat ic)), .val (.int 1), .val (.int 1), .val (.int 0), .val (.int (((p4.toUInt32 >>> ((3 : Int32) &&& 31).toUInt32).toInt32) &&& (3 : Int32))), .unset, .unset, .unset, .unset, .unset, .unset] [(.int 2147483647), (.int p5)])) (fun _ k_ => X0.ldcInt hx hown (mvT hZ (own_w 102 hw rfl)) (g := (mkF m 125 #[.val (.int p0), .val (.int p1), .val (.int p2), .val (.int p3), .val (.int p4), .val (.int p5), .val (.int (Int32.ofNat ia)), .val (.int (Int32.ofNat ib)), .val (.int (Int32.ofNat ic)), .val (.int 1), .val (.int 1), .val (.int 0), .val (.int (((p4.toUInt32 >>> ((3 : Int32) &&& 31).toUInt32).toInt32) &&& (3 : Int32))), .unset, .unset, .unset, .unset, .unset, .unset] [(.int p5)])) rfl (hb hby at_125) _ k_) ?_
              refine own_s 128 [(.int (p5 &&& (2147483647 : Int32)))] (fun _ k_ => XS.iand X0.here hx rfl (hb hby at_127) rfl k_) ?_
              refine own_istore 130 #[.val (.int p0), .val (.int p1), .val (.int p2), .val (.int p3), .val (.int p4), .val (.int p5), .val (.int (Int32.ofNat ia)), .val (.int (Int32.ofNat ib)), .val (.int (Int32.ofNat ic)), .val (.int 1), .val (.int 1), .val (.int 0), .val (.int (((p4.toUInt32 >>> ((3 : Int32) &&& 31).toUInt32).toInt32) &&& (3 : Int32))), .val (.int (p5 &&& (2147483647 : Int32))), .unset, .unset, .unset, .unset, .unset] X0.here hx (hb hby at_128) rfl rfl ?_
              obtain ⟨iv, lv, ev⟩ := own_pos p5
              rw [ev]
              exact K130 iv (1 : Int32) (1 : Int32) (0 : Int32) _ lv
      · refine own_s 70 [] (fun _ k_ => XS.ifNo X0.here hx rfl (hb hby at_67) rfl ((if0 _ _).trans (feq hc67).1) k_) ?_
        refine own_s 71 [(.int 1)] (fun _ k_ => XS.iconst X0.here hx rfl (hb hby at_70) k_) ?_
        refine own_s 75 [(.int 1)] (fun _ k_ => XS.goto X0.here hx rfl (pc0 := 71) (pc' := 75) rfl (hb hby at_71) (by decide) (by decide) k_) ?_
        refine own_istore 77 #[.val (.int p0), .val (.int p1), .val (.int p2), .val (.int p3), .val (.int p4), .val (.int p5), .val (.int (Int32.ofNat ia)), .val (.int (Int32.ofNat ib)), .val (.int (Int32.ofNat ic)), .val (.int 1), .val (.int 1), .val (.int 1), .unset, .unset, .unset, .unset, .unset, .unset, .unset] X0.here hx (hb hby at_75) rfl rfl ?_
        refine own_iload 79 X0.here hx (hb hby at_77) rfl rfl ?_
        refine own_s 80 [(.int 3), (.int p4)] (fun _ k_ => XS.iconst X0.here hx rfl (hb hby at_79) k_) ?_
        refine own_s 81 [(.int ((p4.toUInt32 >>> ((3 : Int32) &&& 31).toUInt32).toInt32))] (fun _ k_ => XS.iushr X0.here hx rfl (hb hby at_80) rfl k_) ?_
        refine own_s 82 [(.int 3), (.int ((p4.toUInt32 >>> ((3 : Int32) &&& 31).toUInt32).toInt32))] (fun _ k_ => XS.iconst X0.here hx rfl (hb hby at_81) k_) ?_
        refine own_s 83 [(.int (((p4.toUInt32 >>> ((3 : Int32) &&& 31).toUInt32).toInt32) &&& (3 : Int32)))] (fun _ k_ => XS.iand X0.here hx rfl (hb hby at_82) rfl k_) ?_
        refine own_istore 85 #[.val (.int p0), .val (.int p1), .val (.int p2), .val (.int p3), .val (.int p4), .val (.int p5), .val (.int (Int32.ofNat ia)), .val (.int (Int32.ofNat ib)), .val (.int (Int32.ofNat ic)), .val (.int 1), .val (.int 1), .val (.int 1), .val (.int (((p4.toUInt32 >>> ((3 : Int32) &&& 31).toUInt32).toInt32) &&& (3 : Int32))), .unset, .unset, .unset, .unset, .unset, .unset] X0.here hx (hb hby at_83) rfl rfl ?_
        refine own_iload 87 X0.here hx (hb hby at_85) rfl rfl ?_
        by_cases hc87 : (((p4.toUInt32 >>> ((3 : Int32) &&& 31).toUInt32).toInt32) &&& (3 : Int32)) = (0 : Int32)
        · refine own_s 90 [] (fun _ k_ => XS.ifNo X0.here hx rfl (hb hby at_87) rfl ((if0 _ _).trans (teq hc87).2) k_) ?_
          refine own_iload 92 X0.here hx (hb hby at_90) rfl rfl ?_
          refine own_istore 94 #[.val (.int p0), .val (.int p1), .val (.int p2), .val (.int p3), .val (.int p4), .val (.int p5), .val (.int (Int32.ofNat ia)), .val (.int (Int32.ofNat ib)), .val (.int (Int32.ofNat ic)), .val (.int 1), .val (.int 1), .val (.int 1), .val (.int (((p4.toUInt32 >>> ((3 : Int32) &&& 31).toUInt32).toInt32) &&& (3 : Int32))), .val (.int (Int32.ofNat ia)), .unset, .unset, .unset, .unset, .unset] X0.here hx (hb hby at_92) rfl rfl ?_
          refine own_s 130 [] (fun _ k_ => XS.goto X0.here hx rfl (pc0 := 94) (pc' := 130) rfl (hb hby at_94) (by decide) (by decide) k_) ?_
          exact K130 ia (1 : Int32) (1 : Int32) (1 : Int32) _ (Nat.lt_trans la (by decide))
        · refine own_s 97 [] (fun _ k_ => XS.ifYes X0.here hx rfl (pc0 := 87) (pc' := 97) rfl (hb hby at_87) rfl ((if0 _ _).trans (feq hc87).2) (by decide) (by decide) k_) ?_
          refine own_iload 99 X0.here hx (hb hby at_97) rfl rfl ?_
          refine own_s 100 [(.int 1), (.int (((p4.toUInt32 >>> ((3 : Int32) &&& 31).toUInt32).toInt32) &&& (3 : Int32)))] (fun _ k_ => XS.iconst X0.here hx rfl (hb hby at_99) k_) ?_
          by_cases hc100 : (((p4.toUInt32 >>> ((3 : Int32) &&& 31).toUInt32).toInt32) &&& (3 : Int32)) = (1 : Int32)
          · refine own_s 103 [] (fun _ k_ => XS.icmpNo X0.here hx rfl (hb hby at_100) rfl (teq hc100).2 k_) ?_
            refine own_iload 105 X0.here hx (hb hby at_103) rfl rfl ?_
            refine own_istore 107 #[.val (.int p0), .val (.int p1), .val (.int p2), .val (.int p3), .val (.int p4), .val (.int p5), .val (.int (Int32.ofNat ia)), .val (.int (Int32.ofNat ib)), .val (.int (Int32.ofNat ic)), .val (.int 1), .val (.int 1), .val (.int 1), .val (.int (((p4.toUInt32 >>> ((3 : Int32) &&& 31).toUInt32).toInt32) &&& (3 : Int32))), .val (.int (Int32.ofNat ib)), .unset, .unset, .unset, .unset, .unset] X0.here hx (hb hby at_105) rfl rfl ?_
            refine own_s 130 [] (fun _ k_ => XS.goto X0.here hx rfl (pc0 := 107) (pc' := 130) rfl (hb hby at_107) (by decide) (by decide) k_) ?_
            exact K130 ib (1 : Int32) (1 : Int32) (1 : Int32) _ (Nat.lt_trans lb (by decide))
          · refine own_s 110 [] (fun _ k_ => XS.icmpYes X0.here hx rfl (pc0 := 100) (pc' := 110) rfl (hb hby at_100) rfl (feq hc100).2 (by decide) (by decide) k_) ?_
            refine own_iload 112 X0.here hx (hb hby at_110) rfl rfl ?_
            refine own_s 113 [(.int 2), (.int (((p4.toUInt32 >>> ((3 : Int32) &&& 31).toUInt32).toInt32) &&& (3 : Int32)))] (fun _ k_ => XS.iconst X0.here hx rfl (hb hby at_112) k_) ?_
            by_cases hc113 : (((p4.toUInt32 >>> ((3 : Int32) &&& 31).toUInt32).toInt32) &&& (3 : Int32)) = (2 : Int32)
            · refine own_s 116 [] (fun _ k_ => XS.icmpNo X0.here hx rfl (hb hby at_113) rfl (teq hc113).2 k_) ?_
              refine own_iload 118 X0.here hx (hb hby at_116) rfl rfl ?_
              refine own_istore 120 #[.val (.int p0), .val (.int p1), .val (.int p2), .val (.int p3), .val (.int p4), .val (.int p5), .val (.int (Int32.ofNat ia)), .val (.int (Int32.ofNat ib)), .val (.int (Int32.ofNat ic)), .val (.int 1), .val (.int 1), .val (.int 1), .val (.int (((p4.toUInt32 >>> ((3 : Int32) &&& 31).toUInt32).toInt32) &&& (3 : Int32))), .val (.int (Int32.ofNat ic)), .unset, .unset, .unset, .unset, .unset] X0.here hx (hb hby at_118) rfl rfl ?_
              refine own_s 130 [] (fun _ k_ => XS.goto X0.here hx rfl (pc0 := 120) (pc' := 130) rfl (hb hby at_120) (by decide) (by decide) k_) ?_
              exact K130 ic (1 : Int32) (1 : Int32) (1 : Int32) _ (Nat.lt_trans lc (by decide))
            · refine own_s 123 [] (fun _ k_ => XS.icmpYes X0.here hx rfl (pc0 := 113) (pc' := 123) rfl (hb hby at_113) rfl (feq hc113).2 (by decide) (by decide) k_) ?_
              refine own_iload 125 X0.here hx (hb hby at_123) rfl rfl ?_
              refine own_go (B := s₁.setTop (mkF m 127 #[.val (.int p0), .val (.int p1), .val (.int p2), .val (.int p3), .val (.int p4), .val (.int p5), .val (.int (Int32.ofNat ia)), .val (.int (Int32.ofNat ib)), .val (.int (Int32.ofNat ic)), .val (.int 1), .val (.int 1), .val (.int 1), .val (.int (((p4.toUInt32 >>> ((3 : Int32) &&& 31).toUInt32).toInt32) &&& (3 : Int32))), .unset, .unset, .unset, .unset, .unset, .unset] [(.int 2147483647), (.int p5)])) (fun _ k_ => X0.ldcInt hx hown (mvT hZ (own_w 102 hw rfl)) (g := (mkF m 125 #[.val (.int p0), .val (.int p1), .val (.int p2), .val (.int p3), .val (.int p4), .val (.int p5), .val (.int (Int32.ofNat ia)), .val (.int (Int32.ofNat ib)), .val (.int (Int32.ofNat ic)), .val (.int 1), .val (.int 1), .val (.int 1), .val (.int (((p4.toUInt32 >>> ((3 : Int32) &&& 31).toUInt32).toInt32) &&& (3 : Int32))), .unset, .unset, .unset, .unset, .unset, .unset] [(.int p5)])) rfl (hb hby at_125) _ k_) ?_
              refine own_s 128 [(.int (p5 &&& (2147483647 : Int32)))] (fun _ k_ => XS.iand X0.here hx rfl (hb hby at_127) rfl k_) ?_
              refine own_istore 130 #[.val (.int p0), .val (.int p1), .val (.int p2), .val (.int p3), .val (.int p4), .val (.int p5), .val (.int (Int32.ofNat ia)), .val (.int (Int32.ofNat ib)), .val (.int (Int32.ofNat ic)), .val (.int 1), .val (.int 1), .val (.int 1), .val (.int (((p4.toUInt32 >>> ((3 : Int32) &&& 31).toUInt32).toInt32) &&& (3 : Int32))), .val (.int (p5 &&& (2147483647 : Int32))), .unset, .unset, .unset, .unset, .unset] X0.here hx (hb hby at_128) rfl rfl ?_
              obtain ⟨iv, lv, ev⟩ := own_pos p5
              rw [ev]
              exact K130 iv (1 : Int32) (1 : Int32) (1 : Int32) _ lv
set_option maxRecDepth 65536 in
set_option maxHeartbeats 40000000 in
theorem comes_1 {Post : Tables → Env → Array Value → State → Outcome → State → Prop} (hpost : ∀ tb e args s v u, (limb_1_1.after args s (.returned v) u = true ∧ limb_1_2.after args s (.returned v) u = true ∧ True) → FrameEnd s (.returned v) u (Jvm.fieldLocs frame_1_writes args s ++ Jvm.arrayLocs frame_1_arrays args s ++ Jvm.staticLocs frame_1_statics s) 56 1344 → Post tb e args s (.returned v) u) :
    ArmFor flags0 classFile x code maxLocals ret World_1 tables_1 room_1 Calls_1 rest_1 Pre_1 Post := by
  intro l hfl _ _ p e ha hc hk s m args below hf hA hF happ hP
  obtain ⟨hcalls, hrest, hpre⟩ := hP
  obtain ⟨-, -, -, hnamed, -, -, -, hat⟩ := (Spec.applies_iff hf).mp happ
  obtain ⟨hg, hn⟩ := and_e (Cond.before_iff.mp (show (Jvm.Cond.and given_1 narrow_1).before args s = true from hpre))
  obtain ⟨hcnt, gs0⟩ := and_e hg
  obtain ⟨ga0, gs1⟩ := and_e gs0
  obtain ⟨ga1, gs2⟩ := and_e gs1
  obtain ⟨ga2, gs3⟩ := and_e gs2
  obtain ⟨ga3, gs4⟩ := and_e gs3
  obtain ⟨ga4, gs5⟩ := and_e gs4
  obtain ⟨w0, w1, w2, w3, w4, w5, rfl⟩ : ∃ w0 w1 w2 w3 w4 w5 : Value, args = #[w0, w1, w2, w3, w4, w5] := by
    have hs : args.size = 6 := by simpa [Cond.value, given_1] using hcnt
    obtain ⟨L⟩ := args
    match L, hs with
    | [w0, w1, w2, w3, w4, w5], _ => exact ⟨w0, w1, w2, w3, w4, w5, rfl⟩
  have hw := fun d (hd : d ∈ tables_1) => atoms_spec (ws := Jvm.Cond.code x code maxLocals ret :: tables_1) hat d (List.mem_cons_of_mem _ hd)
  have hfit : Fit s := fun {y c} hc i hi => by
    obtain ⟨ha, rfl⟩ := Array.getElem?_eq_some_iff.mp hc
    have q := List.all_eq_true.mp ((Array.all_eq_true_iff_forall_mem.mp hF) _ (Array.getElem_mem ha)) i (List.mem_range.mpr hi)
    simpa [Array.getElem?_eq_getElem hi] using q
  obtain ⟨i0, ei0⟩ := is_v ga0
  obtain rfl : w0 = (.int i0) := Option.some.inj ei0
  obtain ⟨i1, ei1⟩ := is_v ga1
  obtain rfl : w1 = (.int i1) := Option.some.inj ei1
  obtain ⟨i2, ei2⟩ := is_v ga2
  obtain rfl : w2 = (.int i2) := Option.some.inj ei2
  obtain ⟨i3, ei3⟩ := is_v ga3
  obtain rfl : w3 = (.int i3) := Option.some.inj ei3
  obtain ⟨i4, ei4⟩ := is_v ga4
  obtain rfl : w4 = (.int i4) := Option.some.inj ei4
  obtain ⟨i5, ei5⟩ := is_v gs5
  obtain rfl : w5 = (.int i5) := Option.some.inj ei5
  obtain ⟨n, o, h1, h2, h3, _, L, rfl, ⟨rfl, N⟩, hq⟩ := rm0 l s _ hw tables_1 i0 i1 i2 i3 i4 i5 s.heap s.heap.size (Nat.le_refl _)  p e ha hc hk s m _ below hf ((Spec.applies_iff_loose hf).mp happ).1 ⟨rfl, State.Warmed39.refl s, rfl⟩ trivial
  refine ⟨n, _, h1, h2, h3, hpost _ _ _ _ _ _ ⟨Cond.after_iff.mpr rfl, Cond.after_iff.mpr (eq_i res_at (Term.int_eval (1)) rfl), trivial⟩ ⟨hq.1, hq.2.1, (hq.2.2.sift fun y hy => Or.inr (N y hy)).mono (by decide) (by decide)⟩⟩
theorem main_1_1 : Claimed_1_1 := comes_1 fun _ _ _ _ _ _ h hF => ⟨h.1, hF⟩
theorem main_1_2 : Claimed_1_2 := comes_1 fun _ _ _ _ _ _ h hF => ⟨h.2.1, hF⟩
end Jvm.Pilot.@@N@@
namespace Jvm.Pilot.@@N@@
open Jvm Jvm.ClassFile Sem Op Lib Jvm.Free Jvm.Stand Jvm.Pilot.@@N@@.Jvm.D
/-! MADE BY PROGRAM (witnessworld.py) out of the Statement's table words and the real class files: 15 classes; the members and pool entries that the words name. The judged class is class 1, her method 1. -/
namespace start1
open Jvm.ClassFile
def u (s : String) : CpInfo := .utf8 (stringToUtf16 s)
/-- a pool by its gaps: so many unusable entries, then the entry; so many at the end -/
def gap : Nat → List CpInfo → List CpInfo
  | 0, r => r
  | n + 1, r => .unusable :: gap n r
def poolList (es : List (Nat × CpInfo)) (last : Nat) : List CpInfo := es.foldr (fun e r => gap e.1 (e.2 :: r)) (gap last [])
def pool (es : List (Nat × CpInfo)) (last : Nat) : Array CpInfo := ⟨poolList es last⟩
def fileOf (pool : Array CpInfo) (this : Nat) (attrs : Array Attribute := #[]) (ms : Array MethodInfo := #[]) (fl : Nat := 33) (sup : Nat := 0) (ifs : Array Nat := #[]) (fds : Array FieldInfo := #[]) : ClassFile where
  minorVersion := 0
  majorVersion := 65
  constantPool := pool
  accessFlags := fl
  thisClass := this
  superClass := sup
  interfaces := ifs
  fields := fds
  methods := ms
  attributes := attrs
def plain (name : String) (sup : Option ClassId) : Class where
  name := name
  kind := .ordinary
  loader := none
  accessFlags := 33
  super := sup
  interfaces := #[]
  cf := none
  fields := #[]
  methods := #[]
  instanceTypes := #[]
  staticTypes := #[]
  resolved := #[]
  callSites := []
  init := .initialized
  statics := none
  mirror := none

def pool0 : Array CpInfo := pool [(5, u "<init>"), (0, u "()V"), (1, .class_ 10), (1, u "java/lang/Object")] 113

def k0c0 : Code := { maxStack := 0, maxLocals := 1, code := object_method_1_code, exceptionTable := #[], attributes := #[] }
def k0m0 : Method := { name := "<init>", desc := "()V", sig := { parameters := [], returnType := none }, accessFlags := 1, code := some k0c0 }
/-- java/lang/Object -/
def k0 : Class := { plain "java/lang/Object" none with
  accessFlags := 33
  interfaces := #[]
  cf := some (fileOf pool0 8 #[] #[{ accessFlags := 1, nameIndex := 5, descriptorIndex := 6, attributes := #[] }] 33 0 #[] #[])
  fields := #[]
  methods := #[k0m0]
  instanceTypes := #[]
  staticTypes := #[]
  resolved := Array.replicate 124 none
  statics := none }

def pool1 : Array CpInfo := pool [(2, .class_ 4), (0, .nameAndType 5 6), (0, u "java/lang/Object"), (0, u "<init>"), (0, u "()V"), (0, .integer 2147483647), (0, .class_ 9), (0, u "com/example/adfair/adfair/Ranking$Places"), (0, .methodref 8 3), (0, .class_ 12), (0, u "com/example/adfair/adfair/Ranking"), (0, .methodref 11 14), (0, .nameAndType 5 15), (0, u "(Lcom/example/adfair/adfair/Ranking$Places;)V"), (0, .methodref 11 17), (0, .nameAndType 18 19), (0, u "add"), (0, u "(IDJ)V"), (0, .long 2), (1, .long 3), (1, .methodref 11 25), (0, .nameAndType 26 27), (0, u "remove"), (0, u "(I)V"), (0, .methodref 11 29), (0, .nameAndType 30 31), (0, u "contains"), (0, u "(I)Z"), (0, .class_ 33), (0, u "com/example/adfair/adfair/RankingContainsPinLaw"), (2, u "law"), (0, u "(IIIIII)Z")] 5

def k1m0 : Method := { name := "<init>", desc := "()V", sig := { parameters := [], returnType := none }, accessFlags := 1, code := none }
def k1c1 : Code := { maxStack := 6, maxLocals := 19, code := code, exceptionTable := #[], attributes := #[] }
def k1m1 : Method := { name := "law", desc := "(IIIIII)Z", sig := { parameters := [.int, .int, .int, .int, .int, .int], returnType := some .boolean }, accessFlags := 9, code := some k1c1 }
/-- com/example/adfair/adfair/RankingContainsPinLaw -/
def k1 : Class := { plain "com/example/adfair/adfair/RankingContainsPinLaw" (some 0) with
  accessFlags := 49
  interfaces := #[]
  cf := some (fileOf pool1 32 #[] #[{ accessFlags := 1, nameIndex := 5, descriptorIndex := 6, attributes := #[] }, { accessFlags := 9, nameIndex := 36, descriptorIndex := 37, attributes := #[] }] 49 2 #[] #[])
  fields := #[]
  methods := #[k1m0, k1m1]
  instanceTypes := #[]
  staticTypes := #[]
  resolved := Array.replicate 43 none
  statics := none }

def pool2 : Array CpInfo := pool [(1, .class_ 2), (0, u "com/example/adfair/adfair/Ranking"), (0, .methodref 4 5), (0, .class_ 6), (0, .nameAndType 7 8), (0, u "java/lang/Object"), (0, u "<init>"), (0, u "()V"), (0, .fieldref 10 11), (0, .class_ 12), (0, .nameAndType 13 14), (0, u "com/example/adfair/adfair/Ranking$Places"), (0, u "place"), (0, u "[I"), (0, .fieldref 10 16), (0, .nameAndType 17 18), (0, u "holder"), (0, u "[J"), (0, .methodref 20 21), (0, .class_ 22), (0, .nameAndType 23 24), (0, u "java/lang/Math"), (0, u "max"), (0, u "(II)I"), (0, .methodref 26 27), (0, .class_ 28), (0, .nameAndType 29 30), (0, u "java/util/Arrays"), (0, u "copyOf"), (0, u "([II)[I"), (0, .methodref 26 32), (0, .nameAndType 29 33), (0, u "([JI)[J"), (0, u "rankings"), (0, u "J"), (2, u "holds"), (0, u "(I)Z"), (1, u "placeFor"), (0, u "(I)V")] 5

def k2c0 : Code := { maxStack := 2, maxLocals := 1, code := prog_21_method_1_code, exceptionTable := #[], attributes := #[] }
def k2m0 : Method := { name := "<init>", desc := "()V", sig := { parameters := [], returnType := none }, accessFlags := 0, code := some k2c0 }
def k2c1 : Code := { maxStack := 4, maxLocals := 2, code := prog_21_method_2_code, exceptionTable := #[], attributes := #[] }
def k2m1 : Method := { name := "holds", desc := "(I)Z", sig := { parameters := [.int], returnType := some .boolean }, accessFlags := 2, code := some k2c1 }
def k2c2 : Code := { maxStack := 3, maxLocals := 3, code := prog_21_method_3_code, exceptionTable := #[], attributes := #[] }
def k2m2 : Method := { name := "placeFor", desc := "(I)V", sig := { parameters := [.int], returnType := none }, accessFlags := 2, code := some k2c2 }
/-- com/example/adfair/adfair/Ranking$Places -/
def k2 : Class := { plain "com/example/adfair/adfair/Ranking$Places" (some 0) with
  accessFlags := 32
  interfaces := #[]
  cf := some (fileOf pool2 10 #[.nestHost 1] #[{ accessFlags := 0, nameIndex := 7, descriptorIndex := 8, attributes := #[] }, { accessFlags := 2, nameIndex := 38, descriptorIndex := 39, attributes := #[] }, { accessFlags := 2, nameIndex := 41, descriptorIndex := 42, attributes := #[] }] 32 4 #[] #[{ accessFlags := 2, nameIndex := 13, descriptorIndex := 14, attributes := #[] }, { accessFlags := 2, nameIndex := 17, descriptorIndex := 18, attributes := #[] }, { accessFlags := 2, nameIndex := 34, descriptorIndex := 35, attributes := #[] }])
  fields := #[{ name := "place", type := (.array .int), accessFlags := 2, slot := 0, constantValue := 0 }, { name := "holder", type := (.array .long), accessFlags := 2, slot := 1, constantValue := 0 }, { name := "rankings", type := .long, accessFlags := 2, slot := 2, constantValue := 0 }]
  methods := #[k2m0, k2m1, k2m2]
  instanceTypes := #[(.array .int), (.array .long), .long]
  staticTypes := #[]
  resolved := Array.replicate 48 none
  statics := none }

def pool3 : Array CpInfo := pool [(1, .class_ 2), (0, u "com/example/adfair/adfair/Ranking$Places"), (1, .nameAndType 5 6), (0, u "<init>"), (0, u "()V"), (1, .class_ 10), (1, u "com/example/adfair/adfair/Ranking"), (0, u "(Lcom/example/adfair/adfair/Ranking$Places;)V"), (0, .methodref 13 4), (0, .class_ 14), (0, u "java/lang/Object"), (0, .fieldref 8 16), (0, .nameAndType 17 18), (0, u "members"), (0, u "[I"), (0, .fieldref 8 20), (0, .nameAndType 21 22), (0, u "keys"), (0, u "[D"), (0, .fieldref 8 24), (0, .nameAndType 25 26), (0, u "orders"), (0, u "[J"), (0, .fieldref 8 28), (0, .nameAndType 29 18), (0, u "queued"), (0, .fieldref 8 31), (0, .nameAndType 32 22), (0, u "queuedKeys"), (0, .fieldref 8 34), (0, .nameAndType 35 26), (0, u "queuedOrders"), (0, .fieldref 8 37), (0, .nameAndType 38 39), (0, u "places"), (0, u "Lcom/example/adfair/adfair/Ranking$Places;"), (0, .fieldref 1 41), (0, .nameAndType 42 43), (0, u "rankings"), (0, u "J"), (0, .fieldref 8 45), (0, .nameAndType 46 43), (0, u "number"), (2, u "size"), (0, u "I"), (0, .fieldref 8 52), (0, .nameAndType 53 50), (0, u "queueSize"), (0, .fieldref 1 55), (0, .nameAndType 56 26), (0, u "holder"), (4, .fieldref 8 62), (0, .nameAndType 63 50), (0, u "queueFirst"), (5, u "(I)V"), (0, .methodref 1 71), (0, .nameAndType 72 73), (0, u "holds"), (0, u "(I)Z"), (9, .methodref 1 84), (0, .nameAndType 85 69), (0, u "placeFor"), (0, .methodref 8 87), (0, .nameAndType 88 89), (0, u "lastQueued"), (0, u "()I"), (0, .methodref 8 91), (0, .nameAndType 92 93), (0, u "lower"), (0, u "(DJDJ)Z"), (0, .methodref 8 95), (0, .nameAndType 96 97), (0, u "enqueue"), (0, u "(IDJZ)V"), (3, u "(IDJ)V"), (0, .methodref 8 103), (0, .nameAndType 104 73), (0, u "contains"), (1, .fieldref 1 107), (0, .nameAndType 108 18), (0, u "place"), (49, u "ABSENT"), (2, u "QUEUED"), (1, u "FIRST_LENGTH"), (11, u "add"), (0, u "remove")] 21

def k3m0 : Method := { name := "<init>", desc := "()V", sig := { parameters := [], returnType := none }, accessFlags := 0, code := none }
def k3c1 : Code := { maxStack := 5, maxLocals := 2, code := prog_20_method_2_code, exceptionTable := #[], attributes := #[] }
def k3m1 : Method := { name := "<init>", desc := "(Lcom/example/adfair/adfair/Ranking$Places;)V", sig := { parameters := [(.object "com/example/adfair/adfair/Ranking$Places")], returnType := none }, accessFlags := 0, code := some k3c1 }
def k3c2 : Code := { maxStack := 4, maxLocals := 2, code := prog_20_method_4_code, exceptionTable := #[], attributes := #[] }
def k3m2 : Method := { name := "contains", desc := "(I)Z", sig := { parameters := [.int], returnType := some .boolean }, accessFlags := 0, code := some k3c2 }
def k3c3 : Code := { maxStack := 8, maxLocals := 7, code := prog_20_method_9_code, exceptionTable := #[], attributes := #[] }
def k3m3 : Method := { name := "add", desc := "(IDJ)V", sig := { parameters := [.int, .double, .long], returnType := none }, accessFlags := 0, code := some k3c3 }
def k3c4 : Code := { maxStack := 4, maxLocals := 3, code := prog_20_method_10_code, exceptionTable := #[], attributes := #[] }
def k3m4 : Method := { name := "remove", desc := "(I)V", sig := { parameters := [.int], returnType := none }, accessFlags := 0, code := some k3c4 }
def k3c5 : Code := { maxStack := 4, maxLocals := 8, code := prog_20_method_11_code, exceptionTable := #[], attributes := #[] }
def k3m5 : Method := { name := "lower", desc := "(DJDJ)Z", sig := { parameters := [.double, .long, .double, .long], returnType := some .boolean }, accessFlags := 8, code := some k3c5 }
def k3c6 : Code := { maxStack := 3, maxLocals := 1, code := prog_20_method_13_code, exceptionTable := #[], attributes := #[] }
def k3m6 : Method := { name := "lastQueued", desc := "()I", sig := { parameters := [], returnType := some .int }, accessFlags := 2, code := some k3c6 }
def k3c7 : Code := { maxStack := 4, maxLocals := 8, code := prog_20_method_14_code, exceptionTable := #[], attributes := #[] }
def k3m7 : Method := { name := "enqueue", desc := "(IDJZ)V", sig := { parameters := [.int, .double, .long, .boolean], returnType := none }, accessFlags := 2, code := some k3c7 }
/-- com/example/adfair/adfair/Ranking -/
def k3 : Class := { plain "com/example/adfair/adfair/Ranking" (some 0) with
  accessFlags := 32
  interfaces := #[]
  cf := some (fileOf pool3 8 #[.nestMembers #[1]] #[{ accessFlags := 0, nameIndex := 5, descriptorIndex := 6, attributes := #[] }, { accessFlags := 0, nameIndex := 5, descriptorIndex := 11, attributes := #[] }, { accessFlags := 0, nameIndex := 104, descriptorIndex := 73, attributes := #[] }, { accessFlags := 0, nameIndex := 175, descriptorIndex := 101, attributes := #[] }, { accessFlags := 0, nameIndex := 176, descriptorIndex := 69, attributes := #[] }, { accessFlags := 8, nameIndex := 92, descriptorIndex := 93, attributes := #[] }, { accessFlags := 2, nameIndex := 88, descriptorIndex := 89, attributes := #[] }, { accessFlags := 2, nameIndex := 96, descriptorIndex := 97, attributes := #[] }] 32 13 #[] #[{ accessFlags := 26, nameIndex := 158, descriptorIndex := 50, attributes := #[] }, { accessFlags := 26, nameIndex := 161, descriptorIndex := 50, attributes := #[] }, { accessFlags := 26, nameIndex := 163, descriptorIndex := 50, attributes := #[] }, { accessFlags := 2, nameIndex := 17, descriptorIndex := 18, attributes := #[] }, { accessFlags := 2, nameIndex := 21, descriptorIndex := 22, attributes := #[] }, { accessFlags := 2, nameIndex := 25, descriptorIndex := 26, attributes := #[] }, { accessFlags := 2, nameIndex := 49, descriptorIndex := 50, attributes := #[] }, { accessFlags := 2, nameIndex := 29, descriptorIndex := 18, attributes := #[] }, { accessFlags := 2, nameIndex := 32, descriptorIndex := 22, attributes := #[] }, { accessFlags := 2, nameIndex := 35, descriptorIndex := 26, attributes := #[] }, { accessFlags := 2, nameIndex := 63, descriptorIndex := 50, attributes := #[] }, { accessFlags := 2, nameIndex := 53, descriptorIndex := 50, attributes := #[] }, { accessFlags := 18, nameIndex := 38, descriptorIndex := 39, attributes := #[] }, { accessFlags := 18, nameIndex := 46, descriptorIndex := 43, attributes := #[] }])
  fields := #[{ name := "ABSENT", type := .int, accessFlags := 26, slot := 0, constantValue := 0 }, { name := "QUEUED", type := .int, accessFlags := 26, slot := 1, constantValue := 0 }, { name := "FIRST_LENGTH", type := .int, accessFlags := 26, slot := 2, constantValue := 0 }, { name := "members", type := (.array .int), accessFlags := 2, slot := 0, constantValue := 0 }, { name := "keys", type := (.array .double), accessFlags := 2, slot := 1, constantValue := 0 }, { name := "orders", type := (.array .long), accessFlags := 2, slot := 2, constantValue := 0 }, { name := "size", type := .int, accessFlags := 2, slot := 3, constantValue := 0 }, { name := "queued", type := (.array .int), accessFlags := 2, slot := 4, constantValue := 0 }, { name := "queuedKeys", type := (.array .double), accessFlags := 2, slot := 5, constantValue := 0 }, { name := "queuedOrders", type := (.array .long), accessFlags := 2, slot := 6, constantValue := 0 }, { name := "queueFirst", type := .int, accessFlags := 2, slot := 7, constantValue := 0 }, { name := "queueSize", type := .int, accessFlags := 2, slot := 8, constantValue := 0 }, { name := "places", type := (.object "com/example/adfair/adfair/Ranking$Places"), accessFlags := 18, slot := 9, constantValue := 0 }, { name := "number", type := .long, accessFlags := 18, slot := 10, constantValue := 0 }]
  methods := #[k3m0, k3m1, k3m2, k3m3, k3m4, k3m5, k3m6, k3m7]
  instanceTypes := #[(.array .int), (.array .double), (.array .long), .int, (.array .int), (.array .double), (.array .long), .int, .int, (.object "com/example/adfair/adfair/Ranking$Places"), .long]
  staticTypes := #[.int, .int, .int]
  resolved := ((((((Array.replicate 198 none).setIfInBounds 1 (some (.cls 2))).setIfInBounds 40 (some (.field 2 2))).setIfInBounds 54 (some (.field 2 1))).setIfInBounds 106 (some (.field 2 0))).setIfInBounds 70 (some (.method ⟨2, 1⟩))).setIfInBounds 83 (some (.method ⟨2, 2⟩))
  statics := none }

def pool4 : Array CpInfo := pool [(1, .class_ 2), (0, u "java/lang/Math"), (1, .class_ 6), (1, u "java/lang/Object"), (0, u "<init>"), (0, u "()V"), (89, .class_ 100), (1, u "java/lang/Math$RandomNumberGeneratorHolder"), (71, u "negativeZeroFloatBits"), (0, u "J"), (2, u "negativeZeroDoubleBits"), (21, u "max"), (2, u "min"), (43, u "$assertionsDisabled"), (0, u "Z"), (88, u "(II)I"), (2, u "twoToTheDoubleScaleDown"), (0, u "D"), (4, u "twoToTheDoubleScaleUp"), (9, u "E"), (3, u "PI"), (2, u "TAU"), (2, u "DEGREES_TO_RADIANS"), (0, u "RADIANS_TO_DEGREES")] 94

def k4m0 : Method := { name := "<init>", desc := "()V", sig := { parameters := [], returnType := none }, accessFlags := 2, code := none }
def k4c1 : Code := { maxStack := 2, maxLocals := 2, code := jdk_29_method_65_code, exceptionTable := #[], attributes := #[] }
def k4m1 : Method := { name := "max", desc := "(II)I", sig := { parameters := [.int, .int], returnType := some .int }, accessFlags := 9, code := some k4c1 }
def k4c2 : Code := { maxStack := 2, maxLocals := 2, code := jdk_29_method_69_code, exceptionTable := #[], attributes := #[] }
def k4m2 : Method := { name := "min", desc := "(II)I", sig := { parameters := [.int, .int], returnType := some .int }, accessFlags := 9, code := some k4c2 }
/-- java/lang/Math -/
def k4 : Class := { plain "java/lang/Math" (some 0) with
  accessFlags := 49
  interfaces := #[]
  cf := some (fileOf pool4 1 #[.nestMembers #[98]] #[{ accessFlags := 2, nameIndex := 7, descriptorIndex := 8, attributes := #[] }, { accessFlags := 9, nameIndex := 198, descriptorIndex := 335, attributes := #[] }, { accessFlags := 9, nameIndex := 201, descriptorIndex := 335, attributes := #[] }] 49 4 #[] #[{ accessFlags := 25, nameIndex := 354, descriptorIndex := 339, attributes := #[] }, { accessFlags := 25, nameIndex := 358, descriptorIndex := 339, attributes := #[] }, { accessFlags := 25, nameIndex := 361, descriptorIndex := 339, attributes := #[] }, { accessFlags := 26, nameIndex := 364, descriptorIndex := 339, attributes := #[] }, { accessFlags := 26, nameIndex := 365, descriptorIndex := 339, attributes := #[] }, { accessFlags := 26, nameIndex := 172, descriptorIndex := 173, attributes := #[] }, { accessFlags := 26, nameIndex := 176, descriptorIndex := 173, attributes := #[] }, { accessFlags := 8, nameIndex := 344, descriptorIndex := 339, attributes := #[] }, { accessFlags := 8, nameIndex := 338, descriptorIndex := 339, attributes := #[] }, { accessFlags := 4120, nameIndex := 245, descriptorIndex := 246, attributes := #[] }])
  fields := #[{ name := "E", type := .double, accessFlags := 25, slot := 0, constantValue := 0 }, { name := "PI", type := .double, accessFlags := 25, slot := 1, constantValue := 0 }, { name := "TAU", type := .double, accessFlags := 25, slot := 2, constantValue := 0 }, { name := "DEGREES_TO_RADIANS", type := .double, accessFlags := 26, slot := 3, constantValue := 0 }, { name := "RADIANS_TO_DEGREES", type := .double, accessFlags := 26, slot := 4, constantValue := 0 }, { name := "negativeZeroFloatBits", type := .long, accessFlags := 26, slot := 5, constantValue := 0 }, { name := "negativeZeroDoubleBits", type := .long, accessFlags := 26, slot := 6, constantValue := 0 }, { name := "twoToTheDoubleScaleUp", type := .double, accessFlags := 8, slot := 7, constantValue := 0 }, { name := "twoToTheDoubleScaleDown", type := .double, accessFlags := 8, slot := 8, constantValue := 0 }, { name := "$assertionsDisabled", type := .boolean, accessFlags := 4120, slot := 9, constantValue := 0 }]
  methods := #[k4m0, k4m1, k4m2]
  instanceTypes := #[]
  staticTypes := #[.double, .double, .double, .double, .double, .long, .long, .double, .double, .boolean]
  resolved := Array.replicate 460 none
  statics := none }

def pool5 : Array CpInfo := pool [(2, .class_ 4), (1, u "java/lang/Object"), (0, u "<init>"), (0, u "()V"), (7, .class_ 16), (1, u "java/util/Arrays"), (57, .class_ 76), (1, u "java/util/Arrays$NaturalOrder"), (36, .class_ 115), (1, u "java/util/Arrays$LegacyMergeSort"), (1, u "Z"), (32, .methodref 151 152), (0, .class_ 153), (0, .nameAndType 154 155), (0, u "java/lang/System"), (0, u "arraycopy"), (0, u "(Ljava/lang/Object;ILjava/lang/Object;II)V"), (146, u "copyOf"), (1, .methodref 305 306), (0, .class_ 307), (0, .nameAndType 308 309), (0, u "java/lang/Math"), (0, u "min"), (0, u "(II)I"), (65, .class_ 376), (0, u "java/util/Arrays$ArrayList"), (68, u "$assertionsDisabled"), (269, u "MIN_ARRAY_SORT_GRAN"), (0, u "I"), (2, u "INSERTIONSORT_THRESHOLD"), (151, u "([II)[I"), (0, u "([JI)[J"), (102, .class_ 976), (0, u "java/util/Arrays$ArrayItr")] 52

def k5m0 : Method := { name := "<init>", desc := "()V", sig := { parameters := [], returnType := none }, accessFlags := 2, code := none }
def k5c1 : Code := { maxStack := 6, maxLocals := 3, code := jdk_65_method_123_code, exceptionTable := #[], attributes := #[] }
def k5m1 : Method := { name := "copyOf", desc := "([II)[I", sig := { parameters := [(.array .int), .int], returnType := some (.array .int) }, accessFlags := 9, code := some k5c1 }
def k5c2 : Code := { maxStack := 6, maxLocals := 3, code := jdk_65_method_124_code, exceptionTable := #[], attributes := #[] }
def k5m2 : Method := { name := "copyOf", desc := "([JI)[J", sig := { parameters := [(.array .long), .int], returnType := some (.array .long) }, accessFlags := 9, code := some k5c2 }
/-- java/util/Arrays -/
def k5 : Class := { plain "java/util/Arrays" (some 0) with
  accessFlags := 49
  interfaces := #[]
  cf := some (fileOf pool5 14 #[.nestMembers #[975, 375, 113, 74]] #[{ accessFlags := 2, nameIndex := 5, descriptorIndex := 6, attributes := #[] }, { accessFlags := 9, nameIndex := 302, descriptorIndex := 871, attributes := #[] }, { accessFlags := 9, nameIndex := 302, descriptorIndex := 872, attributes := #[] }] 49 2 #[] #[{ accessFlags := 26, nameIndex := 715, descriptorIndex := 716, attributes := #[] }, { accessFlags := 26, nameIndex := 719, descriptorIndex := 716, attributes := #[] }, { accessFlags := 4120, nameIndex := 445, descriptorIndex := 117, attributes := #[] }])
  fields := #[{ name := "MIN_ARRAY_SORT_GRAN", type := .int, accessFlags := 26, slot := 0, constantValue := 0 }, { name := "INSERTIONSORT_THRESHOLD", type := .int, accessFlags := 26, slot := 1, constantValue := 0 }, { name := "$assertionsDisabled", type := .boolean, accessFlags := 4120, slot := 2, constantValue := 0 }]
  methods := #[k5m0, k5m1, k5m2]
  instanceTypes := #[]
  staticTypes := #[.int, .int, .boolean]
  resolved := Array.replicate 1029 none
  statics := none }

def pool6 : Array CpInfo := pool [(2, .class_ 4), (1, u "java/lang/Object"), (0, u "<init>"), (0, u "()V"), (1, .class_ 10), (1, u "java/lang/System"), (0, u "allowSecurityManager"), (0, u "I"), (16, u "cons"), (0, u "Ljava/io/Console;"), (77, .class_ 110), (1, u "java/lang/System$CallersHolder"), (43, u "initialErrStream"), (0, u "Ljava/io/PrintStream;"), (19, u "security"), (0, u "Ljava/lang/SecurityManager;"), (31, .class_ 209), (0, u "java/lang/System$1"), (7, u "props"), (0, u "Ljava/util/Properties;"), (2, u "lineSeparator"), (0, u "Ljava/lang/String;"), (96, .class_ 321), (1, u "java/lang/System$LoggerFinder"), (5, .class_ 328), (0, u "java/lang/System$Logger"), (67, u "err"), (2, u "out"), (91, u "notSupportedJnuEncoding"), (15, u "in"), (17, u "initialIn"), (0, u "Ljava/io/InputStream;"), (35, u "bootLayer"), (0, u "Ljava/lang/ModuleLayer;"), (99, .class_ 664), (0, u "java/lang/System$2"), (9, u "NEVER"), (2, u "MAYBE"), (49, u "arraycopy"), (0, u "(Ljava/lang/Object;ILjava/lang/Object;II)V"), (72, .class_ 802), (0, u "java/lang/System$Logger$Level")] 31

def k6m0 : Method := { name := "<init>", desc := "()V", sig := { parameters := [], returnType := none }, accessFlags := 2, code := none }
def k6m1 : Method := { name := "arraycopy", desc := "(Ljava/lang/Object;ILjava/lang/Object;II)V", sig := { parameters := [(.object "java/lang/Object"), .int, (.object "java/lang/Object"), .int, .int], returnType := none }, accessFlags := 265, code := none }
/-- java/lang/System -/
def k6 : Class := { plain "java/lang/System" (some 0) with
  accessFlags := 49
  interfaces := #[]
  cf := some (fileOf pool6 8 #[.nestMembers #[319, 327, 801, 108, 663, 208]] #[{ accessFlags := 2, nameIndex := 5, descriptorIndex := 6, attributes := #[] }, { accessFlags := 265, nameIndex := 727, descriptorIndex := 728, attributes := #[] }] 49 2 #[] #[{ accessFlags := 25, nameIndex := 507, descriptorIndex := 526, attributes := #[] }, { accessFlags := 25, nameIndex := 399, descriptorIndex := 155, attributes := #[] }, { accessFlags := 25, nameIndex := 396, descriptorIndex := 155, attributes := #[] }, { accessFlags := 10, nameIndex := 525, descriptorIndex := 526, attributes := #[] }, { accessFlags := 26, nameIndex := 674, descriptorIndex := 12, attributes := #[] }, { accessFlags := 26, nameIndex := 677, descriptorIndex := 12, attributes := #[] }, { accessFlags := 10, nameIndex := 11, descriptorIndex := 12, attributes := #[] }, { accessFlags := 74, nameIndex := 175, descriptorIndex := 176, attributes := #[] }, { accessFlags := 10, nameIndex := 491, descriptorIndex := 222, attributes := #[] }, { accessFlags := 74, nameIndex := 29, descriptorIndex := 30, attributes := #[] }, { accessFlags := 74, nameIndex := 154, descriptorIndex := 155, attributes := #[] }, { accessFlags := 10, nameIndex := 217, descriptorIndex := 218, attributes := #[] }, { accessFlags := 10, nameIndex := 221, descriptorIndex := 222, attributes := #[] }, { accessFlags := 8, nameIndex := 562, descriptorIndex := 563, attributes := #[] }])
  fields := #[{ name := "in", type := (.object "java/io/InputStream"), accessFlags := 25, slot := 0, constantValue := 0 }, { name := "out", type := (.object "java/io/PrintStream"), accessFlags := 25, slot := 1, constantValue := 0 }, { name := "err", type := (.object "java/io/PrintStream"), accessFlags := 25, slot := 2, constantValue := 0 }, { name := "initialIn", type := (.object "java/io/InputStream"), accessFlags := 10, slot := 3, constantValue := 0 }, { name := "NEVER", type := .int, accessFlags := 26, slot := 4, constantValue := 0 }, { name := "MAYBE", type := .int, accessFlags := 26, slot := 5, constantValue := 0 }, { name := "allowSecurityManager", type := .int, accessFlags := 10, slot := 6, constantValue := 0 }, { name := "security", type := (.object "java/lang/SecurityManager"), accessFlags := 74, slot := 7, constantValue := 0 }, { name := "notSupportedJnuEncoding", type := (.object "java/lang/String"), accessFlags := 10, slot := 8, constantValue := 0 }, { name := "cons", type := (.object "java/io/Console"), accessFlags := 74, slot := 9, constantValue := 0 }, { name := "initialErrStream", type := (.object "java/io/PrintStream"), accessFlags := 74, slot := 10, constantValue := 0 }, { name := "props", type := (.object "java/util/Properties"), accessFlags := 10, slot := 11, constantValue := 0 }, { name := "lineSeparator", type := (.object "java/lang/String"), accessFlags := 10, slot := 12, constantValue := 0 }, { name := "bootLayer", type := (.object "java/lang/ModuleLayer"), accessFlags := 8, slot := 13, constantValue := 0 }]
  methods := #[k6m0, k6m1]
  instanceTypes := #[]
  staticTypes := #[(.object "java/io/InputStream"), (.object "java/io/PrintStream"), (.object "java/io/PrintStream"), (.object "java/io/InputStream"), .int, .int, .int, (.object "java/lang/SecurityManager"), (.object "java/lang/String"), (.object "java/io/Console"), (.object "java/io/PrintStream"), (.object "java/util/Properties"), (.object "java/lang/String"), (.object "java/lang/ModuleLayer")]
  resolved := Array.replicate 834 none
  statics := none }

def pool7 : Array CpInfo := pool [(1, u "java/lang/Cloneable"), (0, .class_ 1), (0, u "java/lang/Object"), (0, .class_ 3)] 3

/-- java/lang/Cloneable -/
def k7 : Class := { plain "java/lang/Cloneable" (some 0) with
  accessFlags := 1537
  interfaces := #[]
  cf := some (fileOf pool7 2 #[] #[] 1537 4 #[] #[])
  fields := #[]
  methods := #[]
  instanceTypes := #[]
  staticTypes := #[]
  resolved := Array.replicate 8 none
  statics := none }

def pool8 : Array CpInfo := pool [(1, u "java/io/Serializable"), (0, .class_ 1), (0, u "java/lang/Object"), (0, .class_ 3)] 3

/-- java/io/Serializable -/
def k8 : Class := { plain "java/io/Serializable" (some 0) with
  accessFlags := 1537
  interfaces := #[]
  cf := some (fileOf pool8 2 #[] #[] 1537 4 #[] #[])
  fields := #[]
  methods := #[]
  instanceTypes := #[]
  staticTypes := #[]
  resolved := Array.replicate 8 none
  statics := none }

/-- the primitive byte -/
def k9 : Class := { plain "byte" none with kind := .primitive 'B', accessFlags := 0x411 }
/-- [B -/
def k10 : Class := { plain "[B" (some 0) with kind := .array 9 .byte, interfaces := #[7, 8], accessFlags := 1041 }

/-- the primitive int -/
def k11 : Class := { plain "int" none with kind := .primitive 'I', accessFlags := 0x411 }
/-- [I -/
def k12 : Class := { plain "[I" (some 0) with kind := .array 11 .int, interfaces := #[7, 8], accessFlags := 1041 }

/-- the primitive long -/
def k13 : Class := { plain "long" none with kind := .primitive 'J', accessFlags := 0x411 }
/-- [J -/
def k14 : Class := { plain "[J" (some 0) with kind := .array 13 .long, interfaces := #[7, 8], accessFlags := 1041 }
def k15 : Class := { plain "double" none with kind := .primitive 'D', accessFlags := 0x411 }
def k16 : Class := { plain "[D" (some 0) with kind := .array 15 .double, interfaces := #[7, 8], accessFlags := 1041 }

def heap : Heap := #[]
def classes : Array Class := #[k0, k1, k2, k3, k4, k5, k6, k7, k8, k9, k10, k11, k12, k13, k14, k15, k16]
def interned : List (Array UInt16 × Addr) := []
def slotsUsed : Nat := 0
def theMethod : MethodId := ⟨1, 1⟩
def args0 : Array Value := #[.int 5, .int 6, .int 7, .int 8, .int 25, .int 9]
def aboutOver (below : List Frame) : State where
  vm := { classes := classes, interned := interned.toArray }
  heap := heap
  slotsUsed := slotsUsed
  threads := #[{ frames := .invoking theMethod args0 :: below }]
def below0 : List Frame := [.native { method := ⟨0, 0⟩, args := #[] }]
def about1 : State := aboutOver below0
def p0 : Program := .bare "" "" ""
def e0 : Env := launch0.env 0 0 0
theorem w_frames : about1.frames = Frame.invoking theMethod args0 :: below0 := rfl
set_option maxRecDepth 65536 in
theorem w_args : argsFit about1.vm theMethod args0 = true := by decide +kernel
set_option maxRecDepth 65536 in
theorem w_heap : heapFits about1 = true := by decide +kernel
set_option maxRecDepth 65536 in
theorem w_runnable : about1.curStatus? = some .runnable := by decide +kernel
set_option maxRecDepth 65536 in
theorem w_alone : about1.alone = true := by decide +kernel
set_option maxRecDepth 65536 in
theorem w_named : about1.methodNamed? x = some theMethod := by decide +kernel
set_option maxRecDepth 65536 in
theorem w_hears : about1.hears theMethod below0 = true := by decide +kernel
set_option maxRecDepth 65536 in
theorem w_ripe : about1.ripe theMethod args0 below0 = true := by decide +kernel
theorem w_running : about1.status = .running := rfl
set_option maxRecDepth 65536 in
theorem w_room : about1.hasRoom e0.platform room_1 = true :=
  launch0.hasRoom_least _ room_1 (by decide +kernel) (by decide +kernel) (by decide +kernel) (by decide +kernel) (by decide +kernel) (by decide +kernel)
theorem allAtoms_all (ts : List Jvm.Cond) (a : Array Jvm.Value) (st : Jvm.State) : (allAtoms ts).before a st = ts.all (fun c => c.before a st) := by
  induction ts with
  | nil => rfl
  | cons c t ih =>
    show (Jvm.Cond.and c (allAtoms t)).before a st = _
    rw [Jvm.Cond.before_and, ih, List.all_cons]
def words1 : List Jvm.Cond := Jvm.Cond.code x code maxLocals ret :: tables_1
/-- a 'code' word, met by the world's own term for the bytes: nothing is compared byte by byte -/
theorem code_word {y : MethodName} {bytes : ByteArray} {mx : Nat} {rt : Option FieldType} {a : Array Value} {s : State} {m : MethodId} {meth : Method} {c : Code} (h1 : s.methodNamed? y = some m) (h2 : s.vm.method? m = some meth) (h3 : meth.code = some c) (h4 : c.code = bytes)
    (h5 : (c.maxLocals == mx && c.exceptionTable.isEmpty && decide (c.maxStack ≤ mostOperands) && decide (meth.sig.returnType = rt) && !meth.locks && decide (parseMethodDescriptor y.desc = some meth.sig)) = true) : (Jvm.Cond.code y bytes mx rt).before a s = true := by
  simp only [Bool.and_eq_true, beq_iff_eq, Bool.not_eq_true', decide_eq_true_eq] at h5
  obtain ⟨⟨⟨⟨⟨g1, g2⟩, g3⟩, g4⟩, g5⟩, g6⟩ := h5
  simp [Cond.before, Cond.holds, Cond.value, h1, h2, h3, h4, g1, g2, g3, g4, g5, g6]
def isCode : Jvm.Cond → Bool
  | .code _ _ _ _ => true
  | _ => false
theorem all_split {L : List Jvm.Cond} {P : Jvm.Cond → Bool} (h1 : L.all (fun c => isCode c || P c) = true) (h2 : ∀ c ∈ L.filter isCode, P c = true) : L.all P = true := by
  refine List.all_eq_true.mpr fun c hc => ?_
  have h := List.all_eq_true.mp h1 c hc
  rcases Bool.eq_false_or_eq_true (isCode c) with hi | hi
  · exact h2 c (List.mem_filter.mpr ⟨hc, hi⟩)
  · simpa [hi] using h
set_option maxRecDepth 65536 in
theorem w_c0 : (Jvm.Cond.code x code maxLocals ret).before args0 about1 = true := code_word (m := ⟨1, 1⟩) (meth := k1m1) (c := k1c1) (by decide +kernel) rfl rfl rfl (by decide +kernel)
set_option maxRecDepth 65536 in
theorem w_c1 : (Jvm.Cond.code ({ cls := "com/example/adfair/adfair/Ranking$Places", name := "<init>", desc := "()V" } : Jvm.MethodName) prog_21_method_1_code (1 : Nat) (Option.none : Option Jvm.ClassFile.FieldType)).before args0 about1 = true := code_word (m := ⟨2, 0⟩) (meth := k2m0) (c := k2c0) (by decide +kernel) rfl rfl rfl (by decide +kernel)
set_option maxRecDepth 65536 in
theorem w_c2 : (Jvm.Cond.code ({ cls := "java/lang/Object", name := "<init>", desc := "()V" } : Jvm.MethodName) object_method_1_code (1 : Nat) (Option.none : Option Jvm.ClassFile.FieldType)).before args0 about1 = true := code_word (m := ⟨0, 0⟩) (meth := k0m0) (c := k0c0) (by decide +kernel) rfl rfl rfl (by decide +kernel)
set_option maxRecDepth 65536 in
theorem w_c3 : (Jvm.Cond.code ({ cls := "com/example/adfair/adfair/Ranking", name := "<init>", desc := "(Lcom/example/adfair/adfair/Ranking$Places;)V" } : Jvm.MethodName) prog_20_method_2_code (2 : Nat) (Option.none : Option Jvm.ClassFile.FieldType)).before args0 about1 = true := code_word (m := ⟨3, 1⟩) (meth := k3m1) (c := k3c1) (by decide +kernel) rfl rfl rfl (by decide +kernel)
set_option maxRecDepth 65536 in
theorem w_c4 : (Jvm.Cond.code ({ cls := "com/example/adfair/adfair/Ranking", name := "add", desc := "(IDJ)V" } : Jvm.MethodName) prog_20_method_9_code (7 : Nat) (Option.none : Option Jvm.ClassFile.FieldType)).before args0 about1 = true := code_word (m := ⟨3, 3⟩) (meth := k3m3) (c := k3c3) (by decide +kernel) rfl rfl rfl (by decide +kernel)
set_option maxRecDepth 65536 in
theorem w_c5 : (Jvm.Cond.code ({ cls := "com/example/adfair/adfair/Ranking$Places", name := "holds", desc := "(I)Z" } : Jvm.MethodName) prog_21_method_2_code (2 : Nat) (Option.some Jvm.ClassFile.FieldType.boolean)).before args0 about1 = true := code_word (m := ⟨2, 1⟩) (meth := k2m1) (c := k2c1) (by decide +kernel) rfl rfl rfl (by decide +kernel)
set_option maxRecDepth 65536 in
theorem w_c6 : (Jvm.Cond.code ({ cls := "com/example/adfair/adfair/Ranking", name := "lastQueued", desc := "()I" } : Jvm.MethodName) prog_20_method_13_code (1 : Nat) (Option.some Jvm.ClassFile.FieldType.int)).before args0 about1 = true := code_word (m := ⟨3, 6⟩) (meth := k3m6) (c := k3c6) (by decide +kernel) rfl rfl rfl (by decide +kernel)
set_option maxRecDepth 65536 in
theorem w_c7 : (Jvm.Cond.code ({ cls := "com/example/adfair/adfair/Ranking", name := "enqueue", desc := "(IDJZ)V" } : Jvm.MethodName) prog_20_method_14_code (8 : Nat) (Option.none : Option Jvm.ClassFile.FieldType)).before args0 about1 = true := code_word (m := ⟨3, 7⟩) (meth := k3m7) (c := k3c7) (by decide +kernel) rfl rfl rfl (by decide +kernel)
set_option maxRecDepth 65536 in
theorem w_c8 : (Jvm.Cond.code ({ cls := "com/example/adfair/adfair/Ranking", name := "lower", desc := "(DJDJ)Z" } : Jvm.MethodName) prog_20_method_11_code (8 : Nat) (Option.some Jvm.ClassFile.FieldType.boolean)).before args0 about1 = true := code_word (m := ⟨3, 5⟩) (meth := k3m5) (c := k3c5) (by decide +kernel) rfl rfl rfl (by decide +kernel)
set_option maxRecDepth 65536 in
theorem w_c9 : (Jvm.Cond.code ({ cls := "com/example/adfair/adfair/Ranking$Places", name := "placeFor", desc := "(I)V" } : Jvm.MethodName) prog_21_method_3_code (3 : Nat) (Option.none : Option Jvm.ClassFile.FieldType)).before args0 about1 = true := code_word (m := ⟨2, 2⟩) (meth := k2m2) (c := k2c2) (by decide +kernel) rfl rfl rfl (by decide +kernel)
set_option maxRecDepth 65536 in
theorem w_c10 : (Jvm.Cond.code ({ cls := "java/lang/Math", name := "max", desc := "(II)I" } : Jvm.MethodName) jdk_29_method_65_code (2 : Nat) (Option.some Jvm.ClassFile.FieldType.int)).before args0 about1 = true := code_word (m := ⟨4, 1⟩) (meth := k4m1) (c := k4c1) (by decide +kernel) rfl rfl rfl (by decide +kernel)
set_option maxRecDepth 65536 in
theorem w_c11 : (Jvm.Cond.code ({ cls := "java/util/Arrays", name := "copyOf", desc := "([II)[I" } : Jvm.MethodName) jdk_65_method_123_code (3 : Nat) (Option.some (Jvm.ClassFile.FieldType.array Jvm.ClassFile.FieldType.int))).before args0 about1 = true := code_word (m := ⟨5, 1⟩) (meth := k5m1) (c := k5c1) (by decide +kernel) rfl rfl rfl (by decide +kernel)
set_option maxRecDepth 65536 in
theorem w_c12 : (Jvm.Cond.code ({ cls := "java/lang/Math", name := "min", desc := "(II)I" } : Jvm.MethodName) jdk_29_method_69_code (2 : Nat) (Option.some Jvm.ClassFile.FieldType.int)).before args0 about1 = true := code_word (m := ⟨4, 2⟩) (meth := k4m2) (c := k4c2) (by decide +kernel) rfl rfl rfl (by decide +kernel)
set_option maxRecDepth 65536 in
theorem w_c13 : (Jvm.Cond.code ({ cls := "java/util/Arrays", name := "copyOf", desc := "([JI)[J" } : Jvm.MethodName) jdk_65_method_124_code (3 : Nat) (Option.some (Jvm.ClassFile.FieldType.array Jvm.ClassFile.FieldType.long))).before args0 about1 = true := code_word (m := ⟨5, 2⟩) (meth := k5m2) (c := k5c2) (by decide +kernel) rfl rfl rfl (by decide +kernel)
set_option maxRecDepth 65536 in
theorem w_c14 : (Jvm.Cond.code ({ cls := "com/example/adfair/adfair/Ranking", name := "contains", desc := "(I)Z" } : Jvm.MethodName) prog_20_method_4_code (2 : Nat) (Option.some Jvm.ClassFile.FieldType.boolean)).before args0 about1 = true := code_word (m := ⟨3, 2⟩) (meth := k3m2) (c := k3c2) (by decide +kernel) rfl rfl rfl (by decide +kernel)
set_option maxRecDepth 65536 in
theorem w_c15 : (Jvm.Cond.code ({ cls := "com/example/adfair/adfair/Ranking", name := "remove", desc := "(I)V" } : Jvm.MethodName) prog_20_method_10_code (3 : Nat) (Option.none : Option Jvm.ClassFile.FieldType)).before args0 about1 = true := code_word (m := ⟨3, 4⟩) (meth := k3m4) (c := k3c4) (by decide +kernel) rfl rfl rfl (by decide +kernel)
def codes1 : List Jvm.Cond := [Jvm.Cond.code x code maxLocals ret, Jvm.Cond.code ({ cls := "com/example/adfair/adfair/Ranking$Places", name := "<init>", desc := "()V" } : Jvm.MethodName) prog_21_method_1_code (1 : Nat) (Option.none : Option Jvm.ClassFile.FieldType), Jvm.Cond.code ({ cls := "java/lang/Object", name := "<init>", desc := "()V" } : Jvm.MethodName) object_method_1_code (1 : Nat) (Option.none : Option Jvm.ClassFile.FieldType), Jvm.Cond.code ({ cls := "com/example/adfair/adfair/Ranking", name := "<init>", desc := "(Lcom/example/adfair/adfair/Ranking$Places;)V" } : Jvm.MethodName) prog_20_method_2_code (2 : Nat) (Option.none : Option Jvm.ClassFile.FieldType), Jvm.Cond.code ({ cls := "com/example/adfair/adfair/Ranking", name := "add", desc := "(IDJ)V" } : Jvm.MethodName) prog_20_method_9_code (7 : Nat) (Option.none : Option Jvm.ClassFile.FieldType), Jvm.Cond.code ({ cls := "com/example/adfair/adfair/Ranking$Places", name := "holds", desc := "(I)Z" } : Jvm.MethodName) prog_21_method_2_code (2 : Nat) (Option.some Jvm.ClassFile.FieldType.boolean), Jvm.Cond.code ({ cls := "com/example/adfair/adfair/Ranking", name := "lastQueued", desc := "()I" } : Jvm.MethodName) prog_20_method_13_code (1 : Nat) (Option.some Jvm.ClassFile.FieldType.int), Jvm.Cond.code ({ cls := "com/example/adfair/adfair/Ranking", name := "enqueue", desc := "(IDJZ)V" } : Jvm.MethodName) prog_20_method_14_code (8 : Nat) (Option.none : Option Jvm.ClassFile.FieldType), Jvm.Cond.code ({ cls := "com/example/adfair/adfair/Ranking", name := "lower", desc := "(DJDJ)Z" } : Jvm.MethodName) prog_20_method_11_code (8 : Nat) (Option.some Jvm.ClassFile.FieldType.boolean), Jvm.Cond.code ({ cls := "com/example/adfair/adfair/Ranking$Places", name := "placeFor", desc := "(I)V" } : Jvm.MethodName) prog_21_method_3_code (3 : Nat) (Option.none : Option Jvm.ClassFile.FieldType), Jvm.Cond.code ({ cls := "java/lang/Math", name := "max", desc := "(II)I" } : Jvm.MethodName) jdk_29_method_65_code (2 : Nat) (Option.some Jvm.ClassFile.FieldType.int), Jvm.Cond.code ({ cls := "java/util/Arrays", name := "copyOf", desc := "([II)[I" } : Jvm.MethodName) jdk_65_method_123_code (3 : Nat) (Option.some (Jvm.ClassFile.FieldType.array Jvm.ClassFile.FieldType.int)), Jvm.Cond.code ({ cls := "java/lang/Math", name := "min", desc := "(II)I" } : Jvm.MethodName) jdk_29_method_69_code (2 : Nat) (Option.some Jvm.ClassFile.FieldType.int), Jvm.Cond.code ({ cls := "java/util/Arrays", name := "copyOf", desc := "([JI)[J" } : Jvm.MethodName) jdk_65_method_124_code (3 : Nat) (Option.some (Jvm.ClassFile.FieldType.array Jvm.ClassFile.FieldType.long)), Jvm.Cond.code ({ cls := "com/example/adfair/adfair/Ranking", name := "contains", desc := "(I)Z" } : Jvm.MethodName) prog_20_method_4_code (2 : Nat) (Option.some Jvm.ClassFile.FieldType.boolean), Jvm.Cond.code ({ cls := "com/example/adfair/adfair/Ranking", name := "remove", desc := "(I)V" } : Jvm.MethodName) prog_20_method_10_code (3 : Nat) (Option.none : Option Jvm.ClassFile.FieldType)]
set_option maxRecDepth 65536 in
theorem codes_eq : words1.filter isCode = codes1 := rfl
theorem w_codes : ∀ c ∈ words1.filter isCode, c.before args0 about1 = true := by
  rw [codes_eq]
  intro c hc
  simp only [codes1, List.mem_cons, List.not_mem_nil, or_false] at hc
  rcases hc with rfl | rfl | rfl | rfl | rfl | rfl | rfl | rfl | rfl | rfl | rfl | rfl | rfl | rfl | rfl | rfl
  · exact w_c0
  · exact w_c1
  · exact w_c2
  · exact w_c3
  · exact w_c4
  · exact w_c5
  · exact w_c6
  · exact w_c7
  · exact w_c8
  · exact w_c9
  · exact w_c10
  · exact w_c11
  · exact w_c12
  · exact w_c13
  · exact w_c14
  · exact w_c15
set_option maxRecDepth 65536 in
theorem w_t1 : (words1.take 24).all (fun c => isCode c || c.before args0 about1) = true := by decide +kernel
set_option maxRecDepth 65536 in
theorem w_t2 : ((words1.drop 24).take 24).all (fun c => isCode c || c.before args0 about1) = true := by decide +kernel
set_option maxRecDepth 65536 in
theorem w_t3 : (((words1.drop 24).drop 24).take 24).all (fun c => isCode c || c.before args0 about1) = true := by decide +kernel
set_option maxRecDepth 65536 in
theorem w_t4 : ((((words1.drop 24).drop 24).drop 24).take 24).all (fun c => isCode c || c.before args0 about1) = true := by decide +kernel
set_option maxRecDepth 65536 in
theorem w_t5 : ((((words1.drop 24).drop 24).drop 24).drop 24).all (fun c => isCode c || c.before args0 about1) = true := by decide +kernel
theorem w_tables : (allAtoms (Jvm.Cond.code x code maxLocals ret :: tables_1)).before args0 about1 = true := by
  rw [allAtoms_all]
  show words1.all (fun c => c.before args0 about1) = true
  refine all_split ?_ w_codes
  rw [← List.take_append_drop 24 words1, List.all_append, w_t1, ← List.take_append_drop 24 (words1.drop 24), List.all_append, w_t2, ← List.take_append_drop 24 ((words1.drop 24).drop 24), List.all_append, w_t3, ← List.take_append_drop 24 (((words1.drop 24).drop 24).drop 24), List.all_append, w_t4, w_t5]
  rfl
set_option maxRecDepth 65536 in
theorem w_case : (Jvm.Cond.and given_1 narrow_1).before args0 about1 = true := by decide +kernel
theorem w_applies : (headSpec (Jvm.Cond.code x code maxLocals ret :: tables_1) room_1).applies x e0.platform about1 = true :=
  (Spec.applies_iff w_frames).mpr ⟨w_running, w_runnable, w_alone, w_named, w_hears, w_ripe, w_room, w_tables⟩
theorem atStart : AtStart classFile x code maxLocals ret World_1 tables_1 room_1 Calls_1 rest_1 Pre_1 launch0 p0 e0 about1 theMethod args0 below0 :=
  ⟨lists_1, trivial, launch0.admits_env _ _ _, launch0.least_env, fairChoices_fair.cas, fairChoices_fair.clock, w_frames, w_args, w_heap, w_applies, trivial, trivial, w_case⟩
end start1
theorem witness_1 : WitnessClaimed_1 := ⟨start1.p0, start1.e0, start1.about1, start1.theMethod, start1.args0, start1.below0, start1.atStart⟩
end Jvm.Pilot.@@N@@
