import JvmDerived
import JvmDerived.Pilot.@@N@@Statement
import JvmDerived.Pilot.@@N@@Code
set_option linter.unusedVariables false
set_option linter.unusedSimpArgs false
namespace Jvm.RoadKit
open Sem ClassFile Op Lib Jvm.Stand Jvm.Free Jvm.LawKit
section Own
variable {p : Program} {l : Launch} {e : Env} {R : Room} {s : State} {m : MethodId} {args : Array Value} {below : List Frame} {meth : Method} {c : Code} {T : State} {locs : List Loc} {cells slots rc rs : Nat} {Z : State} {a0 : Array Value} {h : Heap} {Q : Option Value → Heap → List Loc → Prop}
/-- from S on the body ends, and ends as Q says -/
def own_E (p : Program) (e : Env) (below : List Frame) (s : State) (Q : Option Value → Heap → List Loc → Prop) (rc rs : Nat) (S : State) : Prop :=
  ∃ s₂ o, Steps p.tables e below S s₂ ∧ s₂.status = .running ∧ Ended s₂ below o ∧ ∃ v L, o = .returned v ∧ Q v s₂.heap L ∧ FrameEnd s o s₂ L rc rs
/-- a body's contract: called with these arguments over this heap it returns as Q says -/
abbrev own_C (l : Launch) (Z : State) (y : MethodName) (bytes : ByteArray) (maxL : Nat) (ret : Option FieldType) (ws : List Cond) (rm : Room) (as' : Array Value) (h0 : Heap) (Q : Option Value → Heap → List Loc → Prop) : Prop :=
  MetFree l y (head1 (Cond.code y bytes maxL ret :: ws) rm) (fun a U => a = as' ∧ Z.Warmed39 U.vm ∧ U.heap = h0) (fun _ _ _ _ _ => True) (fun _ U o U' => ∃ v L, o = .returned v ∧ Q v U'.heap L ∧ FrameEnd U o U' L rm.cells rm.slots)
theorem own_open {g g' : JFrame} (q : g = g') (k : own_E p e below s Q rc rs (T.setTop g')) : ∃ s₂ o, Steps p.tables e below (T.setTop g) s₂ ∧ s₂.status = .running ∧ Ended s₂ below o ∧ ∃ v L, o = .returned v ∧ Q v s₂.heap L ∧ FrameEnd s o s₂ L rc rs := by subst q; exact k
theorem own_go {S S' : State} (k : ∀ t, Steps p.tables e below S' t → Steps p.tables e below S t) (q : own_E p e below s Q rc rs S') : own_E p e below s Q rc rs S := by
  obtain ⟨a, b, h1, h2⟩ := q; exact ⟨a, b, k _ h1, h2⟩
theorem own_via {S S' : State} (k : Steps p.tables e below S S') (q : own_E p e below s Q rc rs S') : own_E p e below s Q rc rs S := own_go (fun _ t => k.trans t) q
theorem own_fin (X : Stand p l e R s m args below meth c T locs cells slots) (hlk : meth.locks = false) {v : Option Value} (hv : meth.sig.returnType = none → v = none) {g : JFrame}
    (k : ∀ fs, (∀ (f : JFrame) (acts : List Action), f.method = m → f.locked = none → f.entered = [] → (doReturn e (T.setTop f) acts v).1 = T.setFrames fs) → Steps p.tables e below (T.setTop g) (T.setFrames fs)) (hq : Q v T.heap locs) (h1 : cells ≤ rc) (h2 : slots ≤ rs) : own_E p e below s Q rc rs (T.setTop g) := by
  obtain ⟨fs, hr, hrun, hended, hW, hsame⟩ := X.leave hv hlk
  exact ⟨_, _, k fs hr, hrun, hended, _, _, rfl, hq, ⟨_, rfl⟩, hW, hsame.mono h1 h2⟩
theorem own_retZ (X : Stand p l e R s m args below meth c T locs cells slots) (hx : p.tables.exec = Jvm.exec) (hlk : meth.locks = false) {pc : Nat} {Ls : Array Slot} {z : Int32} {t : FieldType} {rest : List Value} (hret : meth.sig.returnType = some t) (ht : t = .boolean ∨ t = .byte ∨ t = .char ∨ t = .short)
    (hd : decode c.code pc = .ok (.ireturn, 1)) (hq : Q (some (.int (nar t z))) T.heap locs) (h1 : cells ≤ rc) (h2 : slots ≤ rs) : own_E p e below s Q rc rs (T.setTop (mkF m pc Ls (.int z :: rest))) :=
  own_fin X hlk (fun q => by rw [hret] at q; cases q) (fun _ hr => retN X hx hret ht hd hr) hq h1 h2
theorem own_retI (X : Stand p l e R s m args below meth c T locs cells slots) (hx : p.tables.exec = Jvm.exec) (hlk : meth.locks = false) {pc : Nat} {Ls : Array Slot} {z : Int32} {rest : List Value} (hret : meth.sig.returnType = some .int)
    (hd : decode c.code pc = .ok (.ireturn, 1)) (hq : Q (some (.int z)) T.heap locs) (h1 : cells ≤ rc) (h2 : slots ≤ rs) : own_E p e below s Q rc rs (T.setTop (mkF m pc Ls (.int z :: rest))) :=
  own_fin X hlk (fun q => by rw [hret] at q; cases q) (fun _ hr => retOut X hx hret rfl (Or.inl ⟨rfl, Or.inl rfl, _, rfl⟩) hd hr) hq h1 h2
theorem own_retJ (X : Stand p l e R s m args below meth c T locs cells slots) (hx : p.tables.exec = Jvm.exec) (hlk : meth.locks = false) {pc : Nat} {Ls : Array Slot} {z : Int64} {rest : List Value} (hret : meth.sig.returnType = some .long)
    (hd : decode c.code pc = .ok (.lreturn, 1)) (hq : Q (some (.long z)) T.heap locs) (h1 : cells ≤ rc) (h2 : slots ≤ rs) : own_E p e below s Q rc rs (T.setTop (mkF m pc Ls (.long z :: rest))) :=
  own_fin X hlk (fun q => by rw [hret] at q; cases q) (fun _ hr => retOut X hx hret rfl (Or.inr (Or.inl ⟨rfl, rfl, _, rfl⟩)) hd hr) hq h1 h2
theorem own_retA (X : Stand p l e R s m args below meth c T locs cells slots) (hx : p.tables.exec = Jvm.exec) (hlk : meth.locks = false) {pc : Nat} {Ls : Array Slot} {w : Value} {t : FieldType} {rest : List Value} (hret : meth.sig.returnType = some t) (ht : t.isReference = true) (hw : w.isRef = true)
    (hd : decode c.code pc = .ok (.areturn, 1)) (hq : Q (some w) T.heap locs) (h1 : cells ≤ rc) (h2 : slots ≤ rs) : own_E p e below s Q rc rs (T.setTop (mkF m pc Ls (w :: rest))) :=
  own_fin X hlk (fun q => by rw [hret] at q; cases q) (fun _ hr => retOut X hx hret (by cases t <;> first | (cases ht; done) | (cases w <;> first | (cases hw; done) | rfl)) (Or.inr (Or.inr (Or.inr (Or.inr ⟨rfl, ht, hw⟩)))) hd hr) hq h1 h2
theorem own_retV (X : Stand p l e R s m args below meth c T locs cells slots) (hx : p.tables.exec = Jvm.exec) (hlk : meth.locks = false) {pc : Nat} {Ls : Array Slot} (hret : meth.sig.returnType = none)
    (hd : decode c.code pc = .ok (.return_, 1)) (hq : Q none T.heap locs) (h1 : cells ≤ rc) (h2 : slots ≤ rs) : own_E p e below s Q rc rs (T.setTop (mkF m pc Ls [])) :=
  own_fin X hlk (fun _ => rfl) (fun _ hr => X.returnOut hx hret hd hr) hq h1 h2
/-- a static that the case says to be an object of exactly this class -/
theorem own_static {C f d K : String} (hx : (Cond.exactly (.static C f d) K).value args Z none Z [] = some true) (w1 : (Cond.initialized C).before args Z = true) (w2 : (Cond.laysStatic C f d).before args Z = true) :
    ∃ a, (Term.static C f d).eval args Z none [] Z = some (.ref a) ∧ Sta Z Z.heap C f d (.ref a) ∧ Exa Z Z.heap a K := by
  obtain ⟨a, ev⟩ := exa_v hx
  exact ⟨a, ev, Sta.start ev (Or.inr ⟨w1, w2⟩), Exa.start ev hx⟩
/-- a field that the case says to hold this int -/
theorem own_fldI {t : Term} {C n d : String} {a : Addr} {z : Int32} (ev : t.eval args Z none [] Z = some (.ref a)) (q : (Cond.eq (.field t C n d) (.int z)).value args Z none Z [] = some true) : Fld Z Z.heap a C n d (.int z) := by
  have e1 : (Term.field t C n d).eval args Z none [] Z = Z.fieldOf? a C n d := fld_at ev
  refine Fld.start ?_
  cases hf : Z.fieldOf? a C n d with
  | none => rw [hf] at e1; simp [Cond.value, e1] at q
  | some v =>
    rw [hf] at e1
    have e2 : (Term.int z).eval args Z none [] Z = some (.int z) := rfl
    cases v <;> simp [Cond.value, e1, e2] at q
    rw [q]
theorem og (T : State) (pc : Nat) (Ls : Array Slot) (st : List Value) {S : State} (k : ∀ t, Steps p.tables e below (T.setTop (mkF m pc Ls st)) t → Steps p.tables e below S t) (q : own_E p e below s Q rc rs (T.setTop (mkF m pc Ls st))) : own_E p e below s Q rc rs S := own_go k q
theorem ov (T : State) (pc : Nat) (Ls : Array Slot) (st : List Value) {S : State} (k : Steps p.tables e below S (T.setTop (mkF m pc Ls st))) (q : own_E p e below s Q rc rs (T.setTop (mkF m pc Ls st))) : own_E p e below s Q rc rs S := own_via k q
theorem frE {k : Nat} {L A B : List Loc} (l : L = A ++ B) (N : Fr k A) (M : Fr k B) : Fr k L := l ▸ N.app M
theorem s_iload (X : Stand p l e R s m args below meth c T locs cells slots) (hx : p.tables.exec = Jvm.exec) {pc : Nat} {Ls : Array Slot} {st : List Value} {k : Nat} {v : Int32} (hd : decode c.code pc = .ok (.iload k, 2)) (hl : Ls[k]? = some (.val (.int v))) (q : own_E p e below s Q rc rs (T.setTop (mkF m (pc + 2) Ls (.int v :: st)))) : own_E p e below s Q rc rs (T.setTop (mkF m pc Ls st)) := own_go (fun _ t => XS.iload X.here hx rfl hd hl t) q
theorem s_iloadN (X : Stand p l e R s m args below meth c T locs cells slots) (hx : p.tables.exec = Jvm.exec) {pc : Nat} {Ls : Array Slot} {st : List Value} {k : Fin 4} {v : Int32} (hd : decode c.code pc = .ok (.iload_n k, 1)) (hl : Ls[k.val]? = some (.val (.int v))) (q : own_E p e below s Q rc rs (T.setTop (mkF m (pc + 1) Ls (.int v :: st)))) : own_E p e below s Q rc rs (T.setTop (mkF m pc Ls st)) := own_go (fun _ t => XS.iloadN X.here hx rfl hd hl t) q
theorem s_aload (X : Stand p l e R s m args below meth c T locs cells slots) (hx : p.tables.exec = Jvm.exec) {pc : Nat} {Ls : Array Slot} {st : List Value} {k : Nat} {v : Value} (hd : decode c.code pc = .ok (.aload k, 2)) (hl : Ls[k]? = some (.val v)) (hv : v.isRef = true) (q : own_E p e below s Q rc rs (T.setTop (mkF m (pc + 2) Ls (v :: st)))) : own_E p e below s Q rc rs (T.setTop (mkF m pc Ls st)) := own_go (fun _ t => XS.aload X.here hx rfl hd hl hv t) q
theorem s_aloadN (X : Stand p l e R s m args below meth c T locs cells slots) (hx : p.tables.exec = Jvm.exec) {pc : Nat} {Ls : Array Slot} {st : List Value} {k : Fin 4} {v : Value} (hd : decode c.code pc = .ok (.aload_n k, 1)) (hl : Ls[k.val]? = some (.val v)) (hv : v.isRef = true) (q : own_E p e below s Q rc rs (T.setTop (mkF m (pc + 1) Ls (v :: st)))) : own_E p e below s Q rc rs (T.setTop (mkF m pc Ls st)) := own_go (fun _ t => XS.aloadN X.here hx rfl hd hl hv t) q
theorem s_dup (X : Stand p l e R s m args below meth c T locs cells slots) (hx : p.tables.exec = Jvm.exec) {pc : Nat} {Ls : Array Slot} {st : List Value} {v : Value} (hd : decode c.code pc = .ok (.dup, 1)) (hc : v.category = 1) (q : own_E p e below s Q rc rs (T.setTop (mkF m (pc + 1) Ls (v :: v :: st)))) : own_E p e below s Q rc rs (T.setTop (mkF m pc Ls (v :: st))) := own_go (fun _ t => XS.dup X.here hx rfl hd rfl hc t) q
theorem s_pop (X : Stand p l e R s m args below meth c T locs cells slots) (hx : p.tables.exec = Jvm.exec) {pc : Nat} {Ls : Array Slot} {st : List Value} {v : Value} (hd : decode c.code pc = .ok (.pop, 1)) (hc : v.category = 1) (q : own_E p e below s Q rc rs (T.setTop (mkF m (pc + 1) Ls st))) : own_E p e below s Q rc rs (T.setTop (mkF m pc Ls (v :: st))) := own_go (fun _ t => XS.pop X.here hx rfl hd rfl hc t) q
theorem s_anull (X : Stand p l e R s m args below meth c T locs cells slots) (hx : p.tables.exec = Jvm.exec) {pc : Nat} {Ls : Array Slot} {st : List Value} (hd : decode c.code pc = .ok (.aconst_null, 1)) (q : own_E p e below s Q rc rs (T.setTop (mkF m (pc + 1) Ls (.null :: st)))) : own_E p e below s Q rc rs (T.setTop (mkF m pc Ls st)) := own_go (fun _ t => XS.aconstNull X.here hx rfl hd t) q
theorem s_iconst (z : Int32) (X : Stand p l e R s m args below meth c T locs cells slots) (hx : p.tables.exec = Jvm.exec) {pc : Nat} {Ls : Array Slot} {st : List Value} {i : Int} (hd : decode c.code pc = .ok (.iconst i, 1)) (hz : Int32.ofInt i = z) (q : own_E p e below s Q rc rs (T.setTop (mkF m (pc + 1) Ls (.int z :: st)))) : own_E p e below s Q rc rs (T.setTop (mkF m pc Ls st)) := own_go (fun _ t => XS.iconst X.here hx rfl hd (by rw [hz]; exact t)) q
theorem s_bipush (z : Int32) (X : Stand p l e R s m args below meth c T locs cells slots) (hx : p.tables.exec = Jvm.exec) {pc : Nat} {Ls : Array Slot} {st : List Value} {i : Int} (hd : decode c.code pc = .ok (.bipush i, 2)) (hz : (Int8.ofInt i).toInt32 = z) (q : own_E p e below s Q rc rs (T.setTop (mkF m (pc + 2) Ls (.int z :: st)))) : own_E p e below s Q rc rs (T.setTop (mkF m pc Ls st)) := own_go (fun _ t => XS.bipush X.here hx rfl hd (by rw [hz]; exact t)) q
theorem s_sipush (z : Int32) (X : Stand p l e R s m args below meth c T locs cells slots) (hx : p.tables.exec = Jvm.exec) {pc : Nat} {Ls : Array Slot} {st : List Value} {i : Int} (hd : decode c.code pc = .ok (.sipush i, 3)) (hz : (Int16.ofInt i).toInt32 = z) (q : own_E p e below s Q rc rs (T.setTop (mkF m (pc + 3) Ls (.int z :: st)))) : own_E p e below s Q rc rs (T.setTop (mkF m pc Ls st)) := own_go (fun _ t => XS.sipush X.here hx rfl hd (by rw [hz]; exact t)) q
theorem s_goto (pc' : Nat) (X : Stand p l e R s m args below meth c T locs cells slots) (hx : p.tables.exec = Jvm.exec) {pc : Nat} {Ls : Array Slot} {st : List Value} {o : Int} (hd : decode c.code pc = .ok (.goto o, 3)) (ho : 0 ≤ (pc : Int) + o) (hp : ((pc : Int) + o).toNat = pc') (q : own_E p e below s Q rc rs (T.setTop (mkF m pc' Ls st))) : own_E p e below s Q rc rs (T.setTop (mkF m pc Ls st)) := own_go (fun _ t => XS.goto X.here hx rfl rfl hd ho hp t) q
theorem s_ifY (pc' : Nat) (X : Stand p l e R s m args below meth c T locs cells slots) (hx : p.tables.exec = Jvm.exec) {pc : Nat} {Ls : Array Slot} {st : List Value} {cd : ClassFile.Cond} {x : Int32} {o : Int} (hd : decode c.code pc = .ok (.ifCond cd o, 3)) (hc : ifCond.holds cd x = true) (ho : 0 ≤ (pc : Int) + o) (hp : ((pc : Int) + o).toNat = pc') (q : own_E p e below s Q rc rs (T.setTop (mkF m pc' Ls st))) : own_E p e below s Q rc rs (T.setTop (mkF m pc Ls (.int x :: st))) := own_go (fun _ t => XS.ifYes X.here hx rfl rfl hd rfl hc ho hp t) q
theorem s_ifN (X : Stand p l e R s m args below meth c T locs cells slots) (hx : p.tables.exec = Jvm.exec) {pc : Nat} {Ls : Array Slot} {st : List Value} {cd : ClassFile.Cond} {x : Int32} {o : Int} (hd : decode c.code pc = .ok (.ifCond cd o, 3)) (hc : ifCond.holds cd x = false) (q : own_E p e below s Q rc rs (T.setTop (mkF m (pc + 3) Ls st))) : own_E p e below s Q rc rs (T.setTop (mkF m pc Ls (.int x :: st))) := own_go (fun _ t => XS.ifNo X.here hx rfl hd rfl hc t) q
theorem s_icmpY (pc' : Nat) (X : Stand p l e R s m args below meth c T locs cells slots) (hx : p.tables.exec = Jvm.exec) {pc : Nat} {Ls : Array Slot} {st : List Value} {cd : ClassFile.Cond} {x y : Int32} {o : Int} (hd : decode c.code pc = .ok (.if_icmp cd o, 3)) (hc : if_icmp.holds cd x y = true) (ho : 0 ≤ (pc : Int) + o) (hp : ((pc : Int) + o).toNat = pc') (q : own_E p e below s Q rc rs (T.setTop (mkF m pc' Ls st))) : own_E p e below s Q rc rs (T.setTop (mkF m pc Ls (.int y :: .int x :: st))) := own_go (fun _ t => XS.icmpYes X.here hx rfl rfl hd rfl hc ho hp t) q
theorem s_icmpN (X : Stand p l e R s m args below meth c T locs cells slots) (hx : p.tables.exec = Jvm.exec) {pc : Nat} {Ls : Array Slot} {st : List Value} {cd : ClassFile.Cond} {x y : Int32} {o : Int} (hd : decode c.code pc = .ok (.if_icmp cd o, 3)) (hc : if_icmp.holds cd x y = false) (q : own_E p e below s Q rc rs (T.setTop (mkF m (pc + 3) Ls st))) : own_E p e below s Q rc rs (T.setTop (mkF m pc Ls (.int y :: .int x :: st))) := own_go (fun _ t => XS.icmpNo X.here hx rfl hd rfl hc t) q
theorem own_hd {y : MethodName} {bytes : ByteArray} {mx : Nat} {rt : Option FieldType} {ws : List Cond} {s₁ : State} (Bd : BodyLoose p l y (head1 (Cond.code y bytes mx rt :: ws) R) bytes mx rt e s m args below meth c s₁) (hh : s.heap = h) :
    p.tables.exec = Jvm.exec ∧ c.code = bytes ∧ meth.locks = false ∧ meth.sig.returnType = rt ∧ s.vm.findClass y.cls = some m.cls ∧ meth.name = y.name ∧ Stand p l e R s m args below meth c s₁ [] 0 0 ∧ s₁.heap = h :=
  ⟨Bd.exec, Bd.bytes, Bd.notSynchronized, Bd.returns, findClass_of_methodNamed Bd.named, (name_of_methodNamed Bd.named Bd.method).1, Stand.of_body Bd, by rw [← hh, Bd.state]; rfl⟩
/-- the model's own selection picks a private method itself -/
theorem own_sel {y : MethodName} {n : Nat} (hZ : Z.Warmed39 s.vm) (hp : (Cond.privateMethod y).before a0 Z = true) (hi : (Cond.instanceMethod y).before a0 Z = true) (hins : (Cond.instantiable y.cls n).before a0 Z = true)
    (hy : y.cls ≠ "java/lang/invoke/MethodHandle" ∧ y.cls ≠ "java/lang/invoke/VarHandle" := by decide) : (Cond.selects y.cls y y).before args s = true := by
  have hpriv : (Cond.privateMethod y).before args s = true := mvP hZ hp
  obtain ⟨c, k, hc, hk, -, hniab, -, -⟩ := Cond.instantiable_spec (show (Cond.instantiable y.cls n).before args s = true from mvT hZ hins)
  have hni : k.isInterface = false := (Bool.or_eq_false_iff.mp hniab).1
  obtain ⟨mk, methM, hnamed, hmethM, -, -⟩ := Cond.instanceMethod_spec (show (Cond.instanceMethod y).before args s = true from mvT hZ hi)
  have hfound : s.methodFound? y.cls y.name y.desc = some mk := State.methodFound?_of_named hnamed hy
  have hcls : mk.cls = c := Option.some.inj ((findClass_of_methodNamed hnamed).symm.trans hc)
  have hsel : selectMethod {} s.vm c mk = .method mk := selectMethod_private hmethM (Cond.privateMethod_at hpriv mk methM hnamed hmethM)
  simp only [Cond.before, Cond.holds, Cond.value, hc, hfound, hnamed, hsel, hcls, hk]
  simp; exact hni
theorem own_mvM {own host : String} {index : Nat} {y : MethodName} (hZ : Z.Warmed39 s.vm) (w : (Cond.methodLinkNest own index y host).before a0 Z = true) : (Cond.methodLinkNest own index y host).before args s = true := (Cond.methodLinkNest_wide hZ w :)
end Own
section Nst
variable {Z : State} {h : Heap} {a : Addr}
theorem Exa.own_nst {C : String} (E : Exa Z h a C) : ∃ c : Cell, h[a]? = some c ∧ c.vm.isStatics = false := by obtain ⟨c, k, h1, -, -, h4, -⟩ := E; exact ⟨c, h1, h4⟩
theorem own_nea {b : Addr} {C : String} {k : ClassId} {ty : FieldType} {n : Int32} {vs : List Value} {d : Value} (E : Exa Z h a C) (V : Arv Z h b k ty n vs d) {a0 : Array Value} {m : Nat} (w : (Cond.instantiable C m).before a0 Z = true) : a ≠ b := by
  obtain ⟨c, A, -⟩ := V; exact ne_arr E w A
theorem Arv.own_nst {k : ClassId} {ty : FieldType} {n : Int32} {vs : List Value} {d : Value} (V : Arv Z h a k ty n vs d) : ∃ c : Cell, h[a]? = some c ∧ c.vm.isStatics = false := by obtain ⟨c, A, -⟩ := V; exact ⟨c, A.1, A.plain⟩
end Nst
end Jvm.RoadKit
namespace Jvm.Pilot.@@N@@
open Jvm Jvm.ClassFile Sem Op Lib Jvm.Free Jvm.Stand Jvm.LawKit Jvm.RoadKit Bundle Jvm.Pilot.@@N@@.Jvm.D
theorem ow {Z : State} {a0 : Array Value} (hw : ∀ d ∈ tables_1, d.before a0 Z = true) (i : Nat) {c : Jvm.Cond} (h : tables_1[i]? = some c) : c.before a0 Z = true := hw _ (List.mem_of_getElem? h)
theorem own_ef0 (m : MethodId) (x0 : Int32) (x1 : Int32) : entryFrame m #[(.int x0), (.int x1)] 2 = mkF m 0 #[.val (.int x0), .val (.int x1)] [] := by first | (simp [entryFrame, mkF, argsToLocals, Value.category]; done) | rfl
theorem od0 : decode jdk_29_method_65_code 0 = .ok (.iload_n 0, 1) := by decide +kernel
theorem od1 : decode jdk_29_method_65_code 1 = .ok (.iload_n 1, 1) := by decide +kernel
theorem od2 : decode jdk_29_method_65_code 2 = .ok (.if_icmp .lt 7, 3) := by decide +kernel
theorem od3 : decode jdk_29_method_65_code 9 = .ok (.iload_n 1, 1) := by decide +kernel
theorem od4 : decode jdk_29_method_65_code 10 = .ok (.ireturn, 1) := by decide +kernel
theorem od5 : decode jdk_29_method_65_code 5 = .ok (.iload_n 0, 1) := by decide +kernel
theorem od6 : decode jdk_29_method_65_code 6 = .ok (.goto 4, 3) := by decide +kernel
theorem od7 : decode jdk_29_method_69_code 0 = .ok (.iload_n 0, 1) := by decide +kernel
theorem od8 : decode jdk_29_method_69_code 1 = .ok (.iload_n 1, 1) := by decide +kernel
theorem od9 : decode jdk_29_method_69_code 2 = .ok (.if_icmp .gt 7, 3) := by decide +kernel
theorem od10 : decode jdk_29_method_69_code 9 = .ok (.iload_n 1, 1) := by decide +kernel
theorem od11 : decode jdk_29_method_69_code 10 = .ok (.ireturn, 1) := by decide +kernel
theorem od12 : decode jdk_29_method_69_code 5 = .ok (.iload_n 0, 1) := by decide +kernel
theorem od13 : decode jdk_29_method_69_code 6 = .ok (.goto 4, 3) := by decide +kernel
theorem own_pn0 : plainName "java/util/AbstractCollection" = true := by first | (simp [plainName, overriddenIn]; done) | decide +kernel
theorem own_ef1 (m : MethodId) (x0 : Addr) : entryFrame m #[(.ref x0)] 1 = mkF m 0 #[.val (.ref x0)] [] := by first | (simp [entryFrame, mkF, argsToLocals, Value.category]; done) | rfl
theorem od14 : decode jdk_22_method_1_code 0 = .ok (.aload_n 0, 1) := by decide +kernel
theorem od15 : decode jdk_22_method_1_code 1 = .ok (.invokespecial 1, 3) := by decide +kernel
theorem od16 : decode jdk_22_method_1_code 4 = .ok (.return_, 1) := by decide +kernel
theorem own_pn1 : plainName "java/util/AbstractList" = true := by first | (simp [plainName, overriddenIn]; done) | decide +kernel
theorem od17 : decode jdk_39_method_1_code 0 = .ok (.aload_n 0, 1) := by decide +kernel
theorem od18 : decode jdk_39_method_1_code 1 = .ok (.invokespecial 1, 3) := by decide +kernel
theorem own_pd0 : parseMethodDescriptor "()V" = some ⟨[], none⟩ := by decide +kernel
theorem od19 : decode jdk_39_method_1_code 4 = .ok (.aload_n 0, 1) := by decide +kernel
theorem od20 : decode jdk_39_method_1_code 5 = .ok (.iconst 0, 1) := by decide +kernel
theorem od21 : decode jdk_39_method_1_code 6 = .ok (.putfield 7, 3) := by decide +kernel
theorem os0 {Z : State} {a0 : Array Value} (hw : ∀ d ∈ tables_1, d.before a0 Z = true) : Jvm.RoadKit.slotOf Z "java/util/ArrayList" "elementData" "[Ljava/lang/Object;" ≠ Jvm.RoadKit.slotOf Z "java/util/AbstractList" "modCount" "I" := slot_ne (Or.inl (ow hw 25 rfl)) (Or.inl (ow hw 22 rfl)) (by decide) (t := (.array (.object "java/lang/Object"))) (t' := .int) (by decide) (by decide)
theorem os1 {Z : State} {a0 : Array Value} (hw : ∀ d ∈ tables_1, d.before a0 Z = true) : Jvm.RoadKit.slotOf Z "java/util/ArrayList" "size" "I" ≠ Jvm.RoadKit.slotOf Z "java/util/AbstractList" "modCount" "I" := slot_ne (Or.inl (ow hw 168 rfl)) (Or.inl (ow hw 22 rfl)) (by decide) (t := .int) (t' := .int) (by decide) (by decide)
theorem od22 : decode jdk_39_method_1_code 9 = .ok (.return_, 1) := by decide +kernel
theorem own_pn2 : plainName "java/util/ArrayList" = true := by first | (simp [plainName, overriddenIn]; done) | decide +kernel
theorem od23 : decode jdk_38_method_2_code 0 = .ok (.aload_n 0, 1) := by decide +kernel
theorem od24 : decode jdk_38_method_2_code 1 = .ok (.invokespecial 1, 3) := by decide +kernel
theorem od25 : decode jdk_38_method_2_code 4 = .ok (.aload_n 0, 1) := by decide +kernel
theorem od26 : decode jdk_38_method_2_code 5 = .ok (.getstatic 39, 3) := by decide +kernel
theorem od27 : decode jdk_38_method_2_code 8 = .ok (.putfield 9, 3) := by decide +kernel
theorem os2 {Z : State} {a0 : Array Value} (hw : ∀ d ∈ tables_1, d.before a0 Z = true) : Jvm.RoadKit.slotOf Z "java/util/ArrayList" "size" "I" ≠ Jvm.RoadKit.slotOf Z "java/util/ArrayList" "elementData" "[Ljava/lang/Object;" := slot_ne (Or.inl (ow hw 168 rfl)) (Or.inl (ow hw 25 rfl)) (by decide) (t := .int) (t' := (.array (.object "java/lang/Object"))) (by decide) (by decide)
theorem od28 : decode jdk_38_method_2_code 11 = .ok (.return_, 1) := by decide +kernel
theorem od29 : decode jdk_38_method_8_code 0 = .ok (.aload_n 0, 1) := by decide +kernel
theorem od30 : decode jdk_38_method_8_code 1 = .ok (.getfield 48, 3) := by decide +kernel
theorem od31 : decode jdk_38_method_8_code 4 = .ok (.ireturn, 1) := by decide +kernel
theorem own_pn3 : plainName "java/util/AbstractMap" = true := by first | (simp [plainName, overriddenIn]; done) | decide +kernel
theorem od32 : decode jdk_71_method_1_code 0 = .ok (.aload_n 0, 1) := by decide +kernel
theorem od33 : decode jdk_71_method_1_code 1 = .ok (.invokespecial 1, 3) := by decide +kernel
theorem od34 : decode jdk_71_method_1_code 4 = .ok (.return_, 1) := by decide +kernel
theorem own_pn4 : plainName "java/util/HashMap" = true := by first | (simp [plainName, overriddenIn]; done) | decide +kernel
theorem od35 : decode jdk_69_method_7_code 0 = .ok (.aload_n 0, 1) := by decide +kernel
theorem od36 : decode jdk_69_method_7_code 1 = .ok (.invokespecial 43, 3) := by decide +kernel
theorem od37 : decode jdk_69_method_7_code 4 = .ok (.aload_n 0, 1) := by decide +kernel
theorem od38 : decode jdk_69_method_7_code 5 = .ok (.ldc 92, 2) := by decide +kernel
theorem od39 : decode jdk_69_method_7_code 7 = .ok (.putfield 81, 3) := by decide +kernel
theorem os3 {Z : State} {a0 : Array Value} (hw : ∀ d ∈ tables_1, d.before a0 Z = true) : Jvm.RoadKit.slotOf Z "java/util/HashMap" "table" "[Ljava/util/HashMap$Node;" ≠ Jvm.RoadKit.slotOf Z "java/util/HashMap" "loadFactor" "F" := slot_ne (Or.inl (ow hw 109 rfl)) (Or.inr (ow hw 41 rfl)) (by decide) (t := (.array (.object "java/util/HashMap$Node"))) (t' := .float) (by decide) (by decide)
theorem os4 {Z : State} {a0 : Array Value} (hw : ∀ d ∈ tables_1, d.before a0 Z = true) : Jvm.RoadKit.slotOf Z "java/util/HashMap" "size" "I" ≠ Jvm.RoadKit.slotOf Z "java/util/HashMap" "loadFactor" "F" := slot_ne (Or.inl (ow hw 142 rfl)) (Or.inr (ow hw 41 rfl)) (by decide) (t := .int) (t' := .float) (by decide) (by decide)
theorem os5 {Z : State} {a0 : Array Value} (hw : ∀ d ∈ tables_1, d.before a0 Z = true) : Jvm.RoadKit.slotOf Z "java/util/HashMap" "modCount" "I" ≠ Jvm.RoadKit.slotOf Z "java/util/HashMap" "loadFactor" "F" := slot_ne (Or.inl (ow hw 140 rfl)) (Or.inr (ow hw 41 rfl)) (by decide) (t := .int) (t' := .float) (by decide) (by decide)
theorem os6 {Z : State} {a0 : Array Value} (hw : ∀ d ∈ tables_1, d.before a0 Z = true) : Jvm.RoadKit.slotOf Z "java/util/HashMap" "threshold" "I" ≠ Jvm.RoadKit.slotOf Z "java/util/HashMap" "loadFactor" "F" := slot_ne (Or.inl (ow hw 116 rfl)) (Or.inr (ow hw 41 rfl)) (by decide) (t := .int) (t' := .float) (by decide) (by decide)
theorem os7 {Z : State} {a0 : Array Value} (hw : ∀ d ∈ tables_1, d.before a0 Z = true) : Jvm.RoadKit.slotOf Z "java/util/AbstractMap" "values" "Ljava/util/Collection;" ≠ Jvm.RoadKit.slotOf Z "java/util/HashMap" "loadFactor" "F" := slot_ne (Or.inl (ow hw 184 rfl)) (Or.inr (ow hw 41 rfl)) (by decide) (t := (.object "java/util/Collection")) (t' := .float) (by decide) (by decide)
theorem od40 : decode jdk_69_method_7_code 10 = .ok (.return_, 1) := by decide +kernel
theorem own_pn5 : plainName "java/lang/String" = true := by first | (simp [plainName, overriddenIn]; done) | decide +kernel
theorem own_ef2 (m : MethodId) (x0 : Addr) (x1 : Addr) (x2 : Int32) : entryFrame m #[(.ref x0), (.ref x1), (.int x2)] 3 = mkF m 0 #[.val (.ref x0), .val (.ref x1), .val (.int x2)] [] := by first | (simp [entryFrame, mkF, argsToLocals, Value.category]; done) | rfl
theorem od41 : decode jdk_42_method_151_code 0 = .ok (.aload_n 0, 1) := by decide +kernel
theorem od42 : decode jdk_42_method_151_code 1 = .ok (.invokespecial 1, 3) := by decide +kernel
theorem od43 : decode jdk_42_method_151_code 4 = .ok (.aload_n 0, 1) := by decide +kernel
theorem od44 : decode jdk_42_method_151_code 5 = .ok (.aload_n 1, 1) := by decide +kernel
theorem od45 : decode jdk_42_method_151_code 6 = .ok (.putfield 9, 3) := by decide +kernel
theorem os8 {Z : State} {a0 : Array Value} (hw : ∀ d ∈ tables_1, d.before a0 Z = true) : Jvm.RoadKit.slotOf Z "java/lang/String" "coder" "B" ≠ Jvm.RoadKit.slotOf Z "java/lang/String" "value" "[B" := slot_ne (Or.inr (ow hw 65 rfl)) (Or.inr (ow hw 63 rfl)) (by decide) (t := .byte) (t' := (.array .byte)) (by decide) (by decide)
theorem os9 {Z : State} {a0 : Array Value} (hw : ∀ d ∈ tables_1, d.before a0 Z = true) : Jvm.RoadKit.slotOf Z "java/lang/String" "hash" "I" ≠ Jvm.RoadKit.slotOf Z "java/lang/String" "value" "[B" := slot_ne (Or.inl (ow hw 92 rfl)) (Or.inr (ow hw 63 rfl)) (by decide) (t := .int) (t' := (.array .byte)) (by decide) (by decide)
theorem os10 {Z : State} {a0 : Array Value} (hw : ∀ d ∈ tables_1, d.before a0 Z = true) : Jvm.RoadKit.slotOf Z "java/lang/String" "hashIsZero" "Z" ≠ Jvm.RoadKit.slotOf Z "java/lang/String" "value" "[B" := slot_ne (Or.inl (ow hw 94 rfl)) (Or.inr (ow hw 63 rfl)) (by decide) (t := .boolean) (t' := (.array .byte)) (by decide) (by decide)
theorem od46 : decode jdk_42_method_151_code 9 = .ok (.aload_n 0, 1) := by decide +kernel
theorem od47 : decode jdk_42_method_151_code 10 = .ok (.iload_n 2, 1) := by decide +kernel
theorem od48 : decode jdk_42_method_151_code 11 = .ok (.putfield 15, 3) := by decide +kernel
theorem os11 {Z : State} {a0 : Array Value} (hw : ∀ d ∈ tables_1, d.before a0 Z = true) : Jvm.RoadKit.slotOf Z "java/lang/String" "hash" "I" ≠ Jvm.RoadKit.slotOf Z "java/lang/String" "coder" "B" := slot_ne (Or.inl (ow hw 92 rfl)) (Or.inr (ow hw 65 rfl)) (by decide) (t := .int) (t' := .byte) (by decide) (by decide)
theorem os12 {Z : State} {a0 : Array Value} (hw : ∀ d ∈ tables_1, d.before a0 Z = true) : Jvm.RoadKit.slotOf Z "java/lang/String" "hashIsZero" "Z" ≠ Jvm.RoadKit.slotOf Z "java/lang/String" "coder" "B" := slot_ne (Or.inl (ow hw 94 rfl)) (Or.inr (ow hw 65 rfl)) (by decide) (t := .boolean) (t' := .byte) (by decide) (by decide)
theorem os13 {Z : State} {a0 : Array Value} (hw : ∀ d ∈ tables_1, d.before a0 Z = true) : Jvm.RoadKit.slotOf Z "java/lang/String" "value" "[B" ≠ Jvm.RoadKit.slotOf Z "java/lang/String" "coder" "B" := slot_ne (Or.inr (ow hw 63 rfl)) (Or.inr (ow hw 65 rfl)) (by decide) (t := (.array .byte)) (t' := .byte) (by decide) (by decide)
theorem od49 : decode jdk_42_method_151_code 14 = .ok (.return_, 1) := by decide +kernel
theorem od50 : decode jdk_42_method_154_code 0 = .ok (.getstatic 38, 3) := by decide +kernel
theorem od51 : decode jdk_42_method_154_code 3 = .ok (.ifCond .eq 14, 3) := by decide +kernel
theorem od52 : decode jdk_42_method_154_code 6 = .ok (.aload_n 0, 1) := by decide +kernel
theorem od53 : decode jdk_42_method_154_code 7 = .ok (.getfield 15, 3) := by decide +kernel
theorem od54 : decode jdk_42_method_154_code 10 = .ok (.ifCond .ne 7, 3) := by decide +kernel
theorem od55 : decode jdk_42_method_154_code 13 = .ok (.iconst 1, 1) := by decide +kernel
theorem od56 : decode jdk_42_method_154_code 14 = .ok (.goto 4, 3) := by decide +kernel
theorem od57 : decode jdk_42_method_154_code 18 = .ok (.ireturn, 1) := by decide +kernel
theorem own_pn6 : plainName "java/lang/StringLatin1" = true := by first | (simp [plainName, overriddenIn]; done) | decide +kernel
theorem own_ef3 (m : MethodId) (x0 : Int32) : entryFrame m #[(.int x0)] 1 = mkF m 0 #[.val (.int x0)] [] := by first | (simp [entryFrame, mkF, argsToLocals, Value.category]; done) | rfl
theorem od58 : decode jdk_43_method_3_code 0 = .ok (.iload_n 0, 1) := by decide +kernel
theorem od59 : decode jdk_43_method_3_code 1 = .ok (.sipush 255, 3) := by decide +kernel
theorem od60 : decode jdk_43_method_3_code 4 = .ok (.if_icmp .gt 7, 3) := by decide +kernel
theorem od61 : decode jdk_43_method_3_code 7 = .ok (.iconst 1, 1) := by decide +kernel
theorem od62 : decode jdk_43_method_3_code 8 = .ok (.goto 4, 3) := by decide +kernel
theorem od63 : decode jdk_43_method_3_code 12 = .ok (.ireturn, 1) := by decide +kernel
theorem od64 : decode jdk_43_method_46_code 0 = .ok (.iconst 1, 1) := by decide +kernel
theorem od65 : decode jdk_43_method_46_code 1 = .ok (.newarray .byte, 2) := by decide +kernel
theorem od66 : decode jdk_43_method_46_code 3 = .ok (.dup, 1) := by decide +kernel
theorem od67 : decode jdk_43_method_46_code 4 = .ok (.iconst 0, 1) := by decide +kernel
theorem od68 : decode jdk_43_method_46_code 5 = .ok (.iload_n 0, 1) := by decide +kernel
theorem od69 : decode jdk_43_method_46_code 6 = .ok (.i2b, 1) := by decide +kernel
theorem od70 : decode jdk_43_method_46_code 7 = .ok (.bastore, 1) := by decide +kernel
theorem od71 : decode jdk_43_method_46_code 8 = .ok (.areturn, 1) := by decide +kernel
theorem od72 : decode jdk_42_method_139_code 0 = .ok (.getstatic 38, 3) := by decide +kernel
theorem od73 : decode jdk_42_method_139_code 3 = .ok (.ifCond .eq 23, 3) := by decide +kernel
theorem od74 : decode jdk_42_method_139_code 6 = .ok (.iload_n 0, 1) := by decide +kernel
theorem od75 : decode jdk_42_method_139_code 7 = .ok (.invokestatic 1015, 3) := by decide +kernel
theorem own_pd1 : parseMethodDescriptor "(C)Z" = some ⟨[.char], some .boolean⟩ := by decide +kernel
theorem od76 : decode jdk_42_method_139_code 10 = .ok (.ifCond .eq 16, 3) := by decide +kernel
theorem od77 : decode jdk_42_method_139_code 13 = .ok (.new 10, 3) := by decide +kernel
theorem od78 : decode jdk_42_method_139_code 16 = .ok (.dup, 1) := by decide +kernel
theorem od79 : decode jdk_42_method_139_code 17 = .ok (.iload_n 0, 1) := by decide +kernel
theorem od80 : decode jdk_42_method_139_code 18 = .ok (.invokestatic 1018, 3) := by decide +kernel
theorem own_pd2 : parseMethodDescriptor "(C)[B" = some ⟨[.char], some (.array .byte)⟩ := by decide +kernel
theorem od81 : decode jdk_42_method_139_code 21 = .ok (.iconst 0, 1) := by decide +kernel
theorem od82 : decode jdk_42_method_139_code 22 = .ok (.invokespecial 209, 3) := by decide +kernel
theorem own_pd3 : parseMethodDescriptor "([BB)V" = some ⟨[(.array .byte), .byte], none⟩ := by decide +kernel
theorem od83 : decode jdk_42_method_139_code 25 = .ok (.areturn, 1) := by decide +kernel
theorem od84 : decode jdk_43_method_21_code 0 = .ok (.aload_n 0, 1) := by decide +kernel
theorem od85 : decode jdk_43_method_21_code 1 = .ok (.arraylength, 1) := by decide +kernel
theorem od86 : decode jdk_43_method_21_code 2 = .ok (.lookupswitch 40 #[(0, 26), (1, 30)], 26) := by decide +kernel
theorem od87 : decode jdk_43_method_21_code 32 = .ok (.aload_n 0, 1) := by decide +kernel
theorem od88 : decode jdk_43_method_21_code 33 = .ok (.iconst 0, 1) := by decide +kernel
theorem od89 : decode jdk_43_method_21_code 34 = .ok (.baload, 1) := by decide +kernel
theorem od90 : decode jdk_43_method_21_code 35 = .ok (.sipush 255, 3) := by decide +kernel
theorem od91 : decode jdk_43_method_21_code 38 = .ok (.iand, 1) := by decide +kernel
theorem od92 : decode jdk_43_method_21_code 39 = .ok (.goto 12, 3) := by decide +kernel
theorem od93 : decode jdk_43_method_21_code 51 = .ok (.ireturn, 1) := by decide +kernel
theorem own_ef4 (m : MethodId) (x0 : Addr) : entryFrame m #[(.ref x0)] 2 = mkF m 0 #[.val (.ref x0), .unset] [] := by first | (simp [entryFrame, mkF, argsToLocals, Value.category]; done) | rfl
theorem od94 : decode jdk_42_method_78_code 0 = .ok (.aload_n 0, 1) := by decide +kernel
theorem od95 : decode jdk_42_method_78_code 1 = .ok (.getfield 19, 3) := by decide +kernel
theorem od96 : decode jdk_42_method_78_code 4 = .ok (.istore_n 1, 1) := by decide +kernel
theorem od97 : decode jdk_42_method_78_code 5 = .ok (.iload_n 1, 1) := by decide +kernel
theorem od98 : decode jdk_42_method_78_code 6 = .ok (.ifCond .ne 52, 3) := by decide +kernel
theorem od99 : decode jdk_42_method_78_code 9 = .ok (.aload_n 0, 1) := by decide +kernel
theorem od100 : decode jdk_42_method_78_code 10 = .ok (.getfield 23, 3) := by decide +kernel
theorem od101 : decode jdk_42_method_78_code 13 = .ok (.ifCond .ne 45, 3) := by decide +kernel
theorem od102 : decode jdk_42_method_78_code 16 = .ok (.aload_n 0, 1) := by decide +kernel
theorem od103 : decode jdk_42_method_78_code 17 = .ok (.invokevirtual 492, 3) := by decide +kernel
theorem own_pd4 : parseMethodDescriptor "()Z" = some ⟨[], some .boolean⟩ := by decide +kernel
theorem od104 : decode jdk_42_method_78_code 20 = .ok (.ifCond .eq 13, 3) := by decide +kernel
theorem od105 : decode jdk_42_method_78_code 23 = .ok (.aload_n 0, 1) := by decide +kernel
theorem od106 : decode jdk_42_method_78_code 24 = .ok (.getfield 9, 3) := by decide +kernel
theorem od107 : decode jdk_42_method_78_code 27 = .ok (.invokestatic 628, 3) := by decide +kernel
theorem own_pd5 : parseMethodDescriptor "([B)I" = some ⟨[(.array .byte)], some .int⟩ := by decide +kernel
theorem od108 : decode jdk_42_method_78_code 30 = .ok (.goto 10, 3) := by decide +kernel
theorem od109 : decode jdk_42_method_78_code 40 = .ok (.istore_n 1, 1) := by decide +kernel
theorem od110 : decode jdk_42_method_78_code 41 = .ok (.iload_n 1, 1) := by decide +kernel
theorem od111 : decode jdk_42_method_78_code 42 = .ok (.ifCond .ne 11, 3) := by decide +kernel
theorem od112 : decode jdk_42_method_78_code 53 = .ok (.aload_n 0, 1) := by decide +kernel
theorem od113 : decode jdk_42_method_78_code 54 = .ok (.iload_n 1, 1) := by decide +kernel
theorem od114 : decode jdk_42_method_78_code 55 = .ok (.putfield 19, 3) := by decide +kernel
theorem od115 : decode jdk_42_method_78_code 58 = .ok (.iload_n 1, 1) := by decide +kernel
theorem od116 : decode jdk_42_method_78_code 59 = .ok (.ireturn, 1) := by decide +kernel
theorem od117 : decode jdk_69_method_1_code 0 = .ok (.aload_n 0, 1) := by decide +kernel
theorem od118 : decode jdk_69_method_1_code 1 = .ok (.ifnonnull 7, 3) := by decide +kernel
theorem od119 : decode jdk_69_method_1_code 8 = .ok (.aload_n 0, 1) := by decide +kernel
theorem od120 : decode jdk_69_method_1_code 9 = .ok (.invokevirtual 1, 3) := by decide +kernel
theorem own_pd6 : parseMethodDescriptor "()I" = some ⟨[], some .int⟩ := by decide +kernel
theorem od121 : decode jdk_69_method_1_code 12 = .ok (.dup, 1) := by decide +kernel
theorem od122 : decode jdk_69_method_1_code 13 = .ok (.istore_n 1, 1) := by decide +kernel
theorem od123 : decode jdk_69_method_1_code 14 = .ok (.iload_n 1, 1) := by decide +kernel
theorem od124 : decode jdk_69_method_1_code 15 = .ok (.bipush 16, 2) := by decide +kernel
theorem od125 : decode jdk_69_method_1_code 17 = .ok (.iushr, 1) := by decide +kernel
theorem od126 : decode jdk_69_method_1_code 18 = .ok (.ixor, 1) := by decide +kernel
theorem od127 : decode jdk_69_method_1_code 19 = .ok (.ireturn, 1) := by decide +kernel
theorem own_pn7 : plainName "java/lang/Number" = true := by first | (simp [plainName, overriddenIn]; done) | decide +kernel
theorem od128 : decode jdk_18_method_1_code 0 = .ok (.aload_n 0, 1) := by decide +kernel
theorem od129 : decode jdk_18_method_1_code 1 = .ok (.invokespecial 1, 3) := by decide +kernel
theorem od130 : decode jdk_18_method_1_code 4 = .ok (.return_, 1) := by decide +kernel
theorem own_pn8 : plainName "java/lang/Integer" = true := by first | (simp [plainName, overriddenIn]; done) | decide +kernel
theorem own_ef5 (m : MethodId) (x0 : Addr) (x1 : Int32) : entryFrame m #[(.ref x0), (.int x1)] 2 = mkF m 0 #[.val (.ref x0), .val (.int x1)] [] := by first | (simp [entryFrame, mkF, argsToLocals, Value.category]; done) | rfl
theorem od131 : decode jdk_33_method_23_code 0 = .ok (.aload_n 0, 1) := by decide +kernel
theorem od132 : decode jdk_33_method_23_code 1 = .ok (.invokespecial 202, 3) := by decide +kernel
theorem od133 : decode jdk_33_method_23_code 4 = .ok (.aload_n 0, 1) := by decide +kernel
theorem od134 : decode jdk_33_method_23_code 5 = .ok (.iload_n 1, 1) := by decide +kernel
theorem od135 : decode jdk_33_method_23_code 6 = .ok (.putfield 205, 3) := by decide +kernel
theorem od136 : decode jdk_33_method_23_code 9 = .ok (.return_, 1) := by decide +kernel
theorem od137 : decode jdk_33_method_22_code 0 = .ok (.iload_n 0, 1) := by decide +kernel
theorem od138 : decode jdk_33_method_22_code 1 = .ok (.bipush (-128), 2) := by decide +kernel
theorem od139 : decode jdk_33_method_22_code 3 = .ok (.if_icmp .lt 20, 3) := by decide +kernel
theorem od140 : decode jdk_33_method_22_code 23 = .ok (.new 1, 3) := by decide +kernel
theorem od141 : decode jdk_33_method_22_code 26 = .ok (.dup, 1) := by decide +kernel
theorem od142 : decode jdk_33_method_22_code 27 = .ok (.iload_n 0, 1) := by decide +kernel
theorem od143 : decode jdk_33_method_22_code 28 = .ok (.invokespecial 199, 3) := by decide +kernel
theorem own_pd7 : parseMethodDescriptor "(I)V" = some ⟨[.int], none⟩ := by decide +kernel
theorem od144 : decode jdk_33_method_22_code 31 = .ok (.areturn, 1) := by decide +kernel
theorem od145 : decode jdk_33_method_22_code 6 = .ok (.iload_n 0, 1) := by decide +kernel
theorem od146 : decode jdk_33_method_22_code 7 = .ok (.getstatic 191, 3) := by decide +kernel
theorem od147 : decode jdk_33_method_22_code 10 = .ok (.if_icmp .gt 13, 3) := by decide +kernel
theorem od148 : decode jdk_33_method_22_code 13 = .ok (.getstatic 195, 3) := by decide +kernel
theorem od149 : decode jdk_33_method_22_code 16 = .ok (.iload_n 0, 1) := by decide +kernel
theorem od150 : decode jdk_33_method_22_code 17 = .ok (.sipush 128, 3) := by decide +kernel
theorem od151 : decode jdk_33_method_22_code 20 = .ok (.iadd, 1) := by decide +kernel
theorem od152 : decode jdk_33_method_22_code 21 = .ok (.aaload, 1) := by decide +kernel
theorem od153 : decode jdk_33_method_22_code 22 = .ok (.areturn, 1) := by decide +kernel
theorem own_pn9 : plainName "java/util/HashMap$Node" = true := by first | (simp [plainName, overriddenIn]; done) | decide +kernel
theorem own_ef6 (m : MethodId) (x0 : Addr) (x1 : Int32) (x2 : Addr) (x3 : Addr) : entryFrame m #[(.ref x0), (.int x1), (.ref x2), (.ref x3), .null] 5 = mkF m 0 #[.val (.ref x0), .val (.int x1), .val (.ref x2), .val (.ref x3), .val .null] [] := by first | (simp [entryFrame, mkF, argsToLocals, Value.category]; done) | rfl
theorem od154 : decode jdk_70_method_1_code 0 = .ok (.aload_n 0, 1) := by decide +kernel
theorem od155 : decode jdk_70_method_1_code 1 = .ok (.invokespecial 1, 3) := by decide +kernel
theorem od156 : decode jdk_70_method_1_code 4 = .ok (.aload_n 0, 1) := by decide +kernel
theorem od157 : decode jdk_70_method_1_code 5 = .ok (.iload_n 1, 1) := by decide +kernel
theorem od158 : decode jdk_70_method_1_code 6 = .ok (.putfield 7, 3) := by decide +kernel
theorem os14 {Z : State} {a0 : Array Value} (hw : ∀ d ∈ tables_1, d.before a0 Z = true) : Jvm.RoadKit.slotOf Z "java/util/HashMap$Node" "key" "Ljava/lang/Object;" ≠ Jvm.RoadKit.slotOf Z "java/util/HashMap$Node" "hash" "I" := slot_ne (Or.inr (ow hw 134 rfl)) (Or.inr (ow hw 132 rfl)) (by decide) (t := (.object "java/lang/Object")) (t' := .int) (by decide) (by decide)
theorem os15 {Z : State} {a0 : Array Value} (hw : ∀ d ∈ tables_1, d.before a0 Z = true) : Jvm.RoadKit.slotOf Z "java/util/HashMap$Node" "value" "Ljava/lang/Object;" ≠ Jvm.RoadKit.slotOf Z "java/util/HashMap$Node" "hash" "I" := slot_ne (Or.inl (ow hw 136 rfl)) (Or.inr (ow hw 132 rfl)) (by decide) (t := (.object "java/lang/Object")) (t' := .int) (by decide) (by decide)
theorem os16 {Z : State} {a0 : Array Value} (hw : ∀ d ∈ tables_1, d.before a0 Z = true) : Jvm.RoadKit.slotOf Z "java/util/HashMap$Node" "next" "Ljava/util/HashMap$Node;" ≠ Jvm.RoadKit.slotOf Z "java/util/HashMap$Node" "hash" "I" := slot_ne (Or.inl (ow hw 138 rfl)) (Or.inr (ow hw 132 rfl)) (by decide) (t := (.object "java/util/HashMap$Node")) (t' := .int) (by decide) (by decide)
theorem od159 : decode jdk_70_method_1_code 9 = .ok (.aload_n 0, 1) := by decide +kernel
theorem od160 : decode jdk_70_method_1_code 10 = .ok (.aload_n 2, 1) := by decide +kernel
theorem od161 : decode jdk_70_method_1_code 11 = .ok (.putfield 13, 3) := by decide +kernel
theorem os17 {Z : State} {a0 : Array Value} (hw : ∀ d ∈ tables_1, d.before a0 Z = true) : Jvm.RoadKit.slotOf Z "java/util/HashMap$Node" "value" "Ljava/lang/Object;" ≠ Jvm.RoadKit.slotOf Z "java/util/HashMap$Node" "key" "Ljava/lang/Object;" := slot_ne (Or.inl (ow hw 136 rfl)) (Or.inr (ow hw 134 rfl)) (by decide) (t := (.object "java/lang/Object")) (t' := (.object "java/lang/Object")) (by decide) (by decide)
theorem os18 {Z : State} {a0 : Array Value} (hw : ∀ d ∈ tables_1, d.before a0 Z = true) : Jvm.RoadKit.slotOf Z "java/util/HashMap$Node" "next" "Ljava/util/HashMap$Node;" ≠ Jvm.RoadKit.slotOf Z "java/util/HashMap$Node" "key" "Ljava/lang/Object;" := slot_ne (Or.inl (ow hw 138 rfl)) (Or.inr (ow hw 134 rfl)) (by decide) (t := (.object "java/util/HashMap$Node")) (t' := (.object "java/lang/Object")) (by decide) (by decide)
theorem od162 : decode jdk_70_method_1_code 14 = .ok (.aload_n 0, 1) := by decide +kernel
theorem od163 : decode jdk_70_method_1_code 15 = .ok (.aload_n 3, 1) := by decide +kernel
theorem od164 : decode jdk_70_method_1_code 16 = .ok (.putfield 17, 3) := by decide +kernel
theorem os19 {Z : State} {a0 : Array Value} (hw : ∀ d ∈ tables_1, d.before a0 Z = true) : Jvm.RoadKit.slotOf Z "java/util/HashMap$Node" "next" "Ljava/util/HashMap$Node;" ≠ Jvm.RoadKit.slotOf Z "java/util/HashMap$Node" "value" "Ljava/lang/Object;" := slot_ne (Or.inl (ow hw 138 rfl)) (Or.inl (ow hw 136 rfl)) (by decide) (t := (.object "java/util/HashMap$Node")) (t' := (.object "java/lang/Object")) (by decide) (by decide)
theorem od165 : decode jdk_70_method_1_code 19 = .ok (.aload_n 0, 1) := by decide +kernel
theorem od166 : decode jdk_70_method_1_code 20 = .ok (.aload 4, 2) := by decide +kernel
theorem od167 : decode jdk_70_method_1_code 22 = .ok (.putfield 20, 3) := by decide +kernel
theorem os20 {Z : State} {a0 : Array Value} (hw : ∀ d ∈ tables_1, d.before a0 Z = true) : Jvm.RoadKit.slotOf Z "java/util/HashMap$Node" "value" "Ljava/lang/Object;" ≠ Jvm.RoadKit.slotOf Z "java/util/HashMap$Node" "next" "Ljava/util/HashMap$Node;" := slot_ne (Or.inl (ow hw 136 rfl)) (Or.inl (ow hw 138 rfl)) (by decide) (t := (.object "java/lang/Object")) (t' := (.object "java/util/HashMap$Node")) (by decide) (by decide)
theorem od168 : decode jdk_70_method_1_code 25 = .ok (.return_, 1) := by decide +kernel
theorem od169 : decode jdk_69_method_46_code 0 = .ok (.new 163, 3) := by decide +kernel
theorem od170 : decode jdk_69_method_46_code 3 = .ok (.dup, 1) := by decide +kernel
theorem od171 : decode jdk_69_method_46_code 4 = .ok (.iload_n 1, 1) := by decide +kernel
theorem od172 : decode jdk_69_method_46_code 5 = .ok (.aload_n 2, 1) := by decide +kernel
theorem od173 : decode jdk_69_method_46_code 6 = .ok (.aload_n 3, 1) := by decide +kernel
theorem od174 : decode jdk_69_method_46_code 7 = .ok (.aload 4, 2) := by decide +kernel
theorem od175 : decode jdk_69_method_46_code 9 = .ok (.invokespecial 375, 3) := by decide +kernel
theorem own_pd8 : parseMethodDescriptor "(ILjava/lang/Object;Ljava/lang/Object;Ljava/util/HashMap$Node;)V" = some ⟨[.int, (.object "java/lang/Object"), (.object "java/lang/Object"), (.object "java/util/HashMap$Node")], none⟩ := by decide +kernel
theorem od176 : decode jdk_69_method_46_code 12 = .ok (.areturn, 1) := by decide +kernel
theorem own_ef7 (m : MethodId) (x0 : Addr) : entryFrame m #[(.ref x0)] 14 = mkF m 0 #[.val (.ref x0), .unset, .unset, .unset, .unset, .unset, .unset, .unset, .unset, .unset, .unset, .unset, .unset, .unset] [] := by first | (simp [entryFrame, mkF, argsToLocals, Value.category]; done) | rfl
theorem od177 : decode jdk_69_method_17_code 0 = .ok (.aload_n 0, 1) := by decide +kernel
theorem od178 : decode jdk_69_method_17_code 1 = .ok (.getfield 105, 3) := by decide +kernel
theorem od179 : decode jdk_69_method_17_code 4 = .ok (.astore_n 1, 1) := by decide +kernel
theorem od180 : decode jdk_69_method_17_code 5 = .ok (.aload_n 1, 1) := by decide +kernel
theorem od181 : decode jdk_69_method_17_code 6 = .ok (.ifnonnull 7, 3) := by decide +kernel
theorem od182 : decode jdk_69_method_17_code 9 = .ok (.iconst 0, 1) := by decide +kernel
theorem od183 : decode jdk_69_method_17_code 10 = .ok (.goto 5, 3) := by decide +kernel
theorem od184 : decode jdk_69_method_17_code 15 = .ok (.istore_n 2, 1) := by decide +kernel
theorem od185 : decode jdk_69_method_17_code 16 = .ok (.aload_n 0, 1) := by decide +kernel
theorem od186 : decode jdk_69_method_17_code 17 = .ok (.getfield 88, 3) := by decide +kernel
theorem od187 : decode jdk_69_method_17_code 20 = .ok (.istore_n 3, 1) := by decide +kernel
theorem od188 : decode jdk_69_method_17_code 21 = .ok (.iconst 0, 1) := by decide +kernel
theorem od189 : decode jdk_69_method_17_code 22 = .ok (.istore 5, 2) := by decide +kernel
theorem od190 : decode jdk_69_method_17_code 24 = .ok (.iload_n 2, 1) := by decide +kernel
theorem od191 : decode jdk_69_method_17_code 25 = .ok (.ifCond .le 42, 3) := by decide +kernel
theorem od192 : decode jdk_69_method_17_code 67 = .ok (.iload_n 3, 1) := by decide +kernel
theorem od193 : decode jdk_69_method_17_code 68 = .ok (.ifCond .le 9, 3) := by decide +kernel
theorem od194 : decode jdk_69_method_17_code 77 = .ok (.bipush 16, 2) := by decide +kernel
theorem od195 : decode jdk_69_method_17_code 79 = .ok (.istore 4, 2) := by decide +kernel
theorem od196 : decode jdk_69_method_17_code 81 = .ok (.bipush 12, 2) := by decide +kernel
theorem od197 : decode jdk_69_method_17_code 83 = .ok (.istore 5, 2) := by decide +kernel
theorem od198 : decode jdk_69_method_17_code 85 = .ok (.iload 5, 2) := by decide +kernel
theorem od199 : decode jdk_69_method_17_code 87 = .ok (.ifCond .ne 38, 3) := by decide +kernel
theorem od200 : decode jdk_69_method_17_code 125 = .ok (.aload_n 0, 1) := by decide +kernel
theorem od201 : decode jdk_69_method_17_code 126 = .ok (.iload 5, 2) := by decide +kernel
theorem od202 : decode jdk_69_method_17_code 128 = .ok (.putfield 88, 3) := by decide +kernel
theorem os21 {Z : State} {a0 : Array Value} (hw : ∀ d ∈ tables_1, d.before a0 Z = true) : Jvm.RoadKit.slotOf Z "java/util/HashMap" "table" "[Ljava/util/HashMap$Node;" ≠ Jvm.RoadKit.slotOf Z "java/util/HashMap" "threshold" "I" := slot_ne (Or.inl (ow hw 109 rfl)) (Or.inl (ow hw 116 rfl)) (by decide) (t := (.array (.object "java/util/HashMap$Node"))) (t' := .int) (by decide) (by decide)
theorem os22 {Z : State} {a0 : Array Value} (hw : ∀ d ∈ tables_1, d.before a0 Z = true) : Jvm.RoadKit.slotOf Z "java/util/HashMap" "size" "I" ≠ Jvm.RoadKit.slotOf Z "java/util/HashMap" "threshold" "I" := slot_ne (Or.inl (ow hw 142 rfl)) (Or.inl (ow hw 116 rfl)) (by decide) (t := .int) (t' := .int) (by decide) (by decide)
theorem os23 {Z : State} {a0 : Array Value} (hw : ∀ d ∈ tables_1, d.before a0 Z = true) : Jvm.RoadKit.slotOf Z "java/util/HashMap" "modCount" "I" ≠ Jvm.RoadKit.slotOf Z "java/util/HashMap" "threshold" "I" := slot_ne (Or.inl (ow hw 140 rfl)) (Or.inl (ow hw 116 rfl)) (by decide) (t := .int) (t' := .int) (by decide) (by decide)
theorem os24 {Z : State} {a0 : Array Value} (hw : ∀ d ∈ tables_1, d.before a0 Z = true) : Jvm.RoadKit.slotOf Z "java/util/AbstractMap" "values" "Ljava/util/Collection;" ≠ Jvm.RoadKit.slotOf Z "java/util/HashMap" "threshold" "I" := slot_ne (Or.inl (ow hw 184 rfl)) (Or.inl (ow hw 116 rfl)) (by decide) (t := (.object "java/util/Collection")) (t' := .int) (by decide) (by decide)
theorem od203 : decode jdk_69_method_17_code 131 = .ok (.iload 4, 2) := by decide +kernel
theorem od204 : decode jdk_69_method_17_code 133 = .ok (.anewarray 163, 3) := by decide +kernel
theorem od205 : decode jdk_69_method_17_code 136 = .ok (.astore 6, 2) := by decide +kernel
theorem od206 : decode jdk_69_method_17_code 138 = .ok (.aload_n 0, 1) := by decide +kernel
theorem od207 : decode jdk_69_method_17_code 139 = .ok (.aload 6, 2) := by decide +kernel
theorem od208 : decode jdk_69_method_17_code 141 = .ok (.putfield 105, 3) := by decide +kernel
theorem os25 {Z : State} {a0 : Array Value} (hw : ∀ d ∈ tables_1, d.before a0 Z = true) : Jvm.RoadKit.slotOf Z "java/util/HashMap" "size" "I" ≠ Jvm.RoadKit.slotOf Z "java/util/HashMap" "table" "[Ljava/util/HashMap$Node;" := slot_ne (Or.inl (ow hw 142 rfl)) (Or.inl (ow hw 109 rfl)) (by decide) (t := .int) (t' := (.array (.object "java/util/HashMap$Node"))) (by decide) (by decide)
theorem os26 {Z : State} {a0 : Array Value} (hw : ∀ d ∈ tables_1, d.before a0 Z = true) : Jvm.RoadKit.slotOf Z "java/util/HashMap" "modCount" "I" ≠ Jvm.RoadKit.slotOf Z "java/util/HashMap" "table" "[Ljava/util/HashMap$Node;" := slot_ne (Or.inl (ow hw 140 rfl)) (Or.inl (ow hw 109 rfl)) (by decide) (t := .int) (t' := (.array (.object "java/util/HashMap$Node"))) (by decide) (by decide)
theorem os27 {Z : State} {a0 : Array Value} (hw : ∀ d ∈ tables_1, d.before a0 Z = true) : Jvm.RoadKit.slotOf Z "java/util/AbstractMap" "values" "Ljava/util/Collection;" ≠ Jvm.RoadKit.slotOf Z "java/util/HashMap" "table" "[Ljava/util/HashMap$Node;" := slot_ne (Or.inl (ow hw 184 rfl)) (Or.inl (ow hw 109 rfl)) (by decide) (t := (.object "java/util/Collection")) (t' := (.array (.object "java/util/HashMap$Node"))) (by decide) (by decide)
theorem os28 {Z : State} {a0 : Array Value} (hw : ∀ d ∈ tables_1, d.before a0 Z = true) : Jvm.RoadKit.slotOf Z "java/util/HashMap" "threshold" "I" ≠ Jvm.RoadKit.slotOf Z "java/util/HashMap" "table" "[Ljava/util/HashMap$Node;" := slot_ne (Or.inl (ow hw 116 rfl)) (Or.inl (ow hw 109 rfl)) (by decide) (t := .int) (t' := (.array (.object "java/util/HashMap$Node"))) (by decide) (by decide)
theorem od209 : decode jdk_69_method_17_code 144 = .ok (.aload_n 1, 1) := by decide +kernel
theorem od210 : decode jdk_69_method_17_code 145 = .ok (.ifnull 208, 3) := by decide +kernel
theorem od211 : decode jdk_69_method_17_code 353 = .ok (.aload 6, 2) := by decide +kernel
theorem od212 : decode jdk_69_method_17_code 355 = .ok (.areturn, 1) := by decide +kernel
theorem od213 : decode jdk_69_method_52_code 0 = .ok (.return_, 1) := by decide +kernel
theorem own_ef8 (m : MethodId) (x0 : Addr) (x1 : Int32) (x2 : Addr) (x3 : Addr) (x4 : Int32) (x5 : Int32) : entryFrame m #[(.ref x0), (.int x1), (.ref x2), (.ref x3), (.int x4), (.int x5)] 13 = mkF m 0 #[.val (.ref x0), .val (.int x1), .val (.ref x2), .val (.ref x3), .val (.int x4), .val (.int x5), .unset, .unset, .unset, .unset, .unset, .unset, .unset] [] := by first | (simp [entryFrame, mkF, argsToLocals, Value.category]; done) | rfl
theorem od214 : decode jdk_69_method_16_code 0 = .ok (.aload_n 0, 1) := by decide +kernel
theorem od215 : decode jdk_69_method_16_code 1 = .ok (.getfield 105, 3) := by decide +kernel
theorem od216 : decode jdk_69_method_16_code 4 = .ok (.dup, 1) := by decide +kernel
theorem od217 : decode jdk_69_method_16_code 5 = .ok (.astore 6, 2) := by decide +kernel
theorem od218 : decode jdk_69_method_16_code 7 = .ok (.ifnull 12, 3) := by decide +kernel
theorem od219 : decode jdk_69_method_16_code 19 = .ok (.aload_n 0, 1) := by decide +kernel
theorem od220 : decode jdk_69_method_16_code 20 = .ok (.invokevirtual 117, 3) := by decide +kernel
theorem own_pd9 : parseMethodDescriptor "()[Ljava/util/HashMap$Node;" = some ⟨[], some (.array (.object "java/util/HashMap$Node"))⟩ := by decide +kernel
theorem od221 : decode jdk_69_method_16_code 23 = .ok (.dup, 1) := by decide +kernel
theorem od222 : decode jdk_69_method_16_code 24 = .ok (.astore 6, 2) := by decide +kernel
theorem od223 : decode jdk_69_method_16_code 26 = .ok (.arraylength, 1) := by decide +kernel
theorem od224 : decode jdk_69_method_16_code 27 = .ok (.istore 8, 2) := by decide +kernel
theorem od225 : decode jdk_69_method_16_code 29 = .ok (.aload 6, 2) := by decide +kernel
theorem od226 : decode jdk_69_method_16_code 31 = .ok (.iload 8, 2) := by decide +kernel
theorem od227 : decode jdk_69_method_16_code 33 = .ok (.iconst 1, 1) := by decide +kernel
theorem od228 : decode jdk_69_method_16_code 34 = .ok (.isub, 1) := by decide +kernel
theorem od229 : decode jdk_69_method_16_code 35 = .ok (.iload_n 1, 1) := by decide +kernel
theorem od230 : decode jdk_69_method_16_code 36 = .ok (.iand, 1) := by decide +kernel
theorem od231 : decode jdk_69_method_16_code 37 = .ok (.dup, 1) := by decide +kernel
theorem od232 : decode jdk_69_method_16_code 38 = .ok (.istore 9, 2) := by decide +kernel
theorem od233 : decode jdk_69_method_16_code 40 = .ok (.aaload, 1) := by decide +kernel
theorem od234 : decode jdk_69_method_16_code 41 = .ok (.dup, 1) := by decide +kernel
theorem od235 : decode jdk_69_method_16_code 42 = .ok (.astore 7, 2) := by decide +kernel
theorem od236 : decode jdk_69_method_16_code 44 = .ok (.ifnonnull 19, 3) := by decide +kernel
theorem od237 : decode jdk_69_method_16_code 47 = .ok (.aload 6, 2) := by decide +kernel
theorem od238 : decode jdk_69_method_16_code 49 = .ok (.iload 9, 2) := by decide +kernel
theorem od239 : decode jdk_69_method_16_code 51 = .ok (.aload_n 0, 1) := by decide +kernel
theorem od240 : decode jdk_69_method_16_code 52 = .ok (.iload_n 1, 1) := by decide +kernel
theorem od241 : decode jdk_69_method_16_code 53 = .ok (.aload_n 2, 1) := by decide +kernel
theorem od242 : decode jdk_69_method_16_code 54 = .ok (.aload_n 3, 1) := by decide +kernel
theorem od243 : decode jdk_69_method_16_code 55 = .ok (.aconst_null, 1) := by decide +kernel
theorem od244 : decode jdk_69_method_16_code 56 = .ok (.invokevirtual 186, 3) := by decide +kernel
theorem own_pd10 : parseMethodDescriptor "(ILjava/lang/Object;Ljava/lang/Object;Ljava/util/HashMap$Node;)Ljava/util/HashMap$Node;" = some ⟨[.int, (.object "java/lang/Object"), (.object "java/lang/Object"), (.object "java/util/HashMap$Node")], some (.object "java/util/HashMap$Node")⟩ := by decide +kernel
theorem od245 : decode jdk_69_method_16_code 59 = .ok (.aastore, 1) := by decide +kernel
theorem od246 : decode jdk_69_method_16_code 60 = .ok (.goto 199, 3) := by decide +kernel
theorem od247 : decode jdk_69_method_16_code 259 = .ok (.aload_n 0, 1) := by decide +kernel
theorem od248 : decode jdk_69_method_16_code 260 = .ok (.dup, 1) := by decide +kernel
theorem od249 : decode jdk_69_method_16_code 261 = .ok (.getfield 202, 3) := by decide +kernel
theorem od250 : decode jdk_69_method_16_code 264 = .ok (.iconst 1, 1) := by decide +kernel
theorem od251 : decode jdk_69_method_16_code 265 = .ok (.iadd, 1) := by decide +kernel
theorem od252 : decode jdk_69_method_16_code 266 = .ok (.putfield 202, 3) := by decide +kernel
theorem os29 {Z : State} {a0 : Array Value} (hw : ∀ d ∈ tables_1, d.before a0 Z = true) : Jvm.RoadKit.slotOf Z "java/util/HashMap" "table" "[Ljava/util/HashMap$Node;" ≠ Jvm.RoadKit.slotOf Z "java/util/HashMap" "modCount" "I" := slot_ne (Or.inl (ow hw 109 rfl)) (Or.inl (ow hw 140 rfl)) (by decide) (t := (.array (.object "java/util/HashMap$Node"))) (t' := .int) (by decide) (by decide)
theorem os30 {Z : State} {a0 : Array Value} (hw : ∀ d ∈ tables_1, d.before a0 Z = true) : Jvm.RoadKit.slotOf Z "java/util/HashMap" "size" "I" ≠ Jvm.RoadKit.slotOf Z "java/util/HashMap" "modCount" "I" := slot_ne (Or.inl (ow hw 142 rfl)) (Or.inl (ow hw 140 rfl)) (by decide) (t := .int) (t' := .int) (by decide) (by decide)
theorem os31 {Z : State} {a0 : Array Value} (hw : ∀ d ∈ tables_1, d.before a0 Z = true) : Jvm.RoadKit.slotOf Z "java/util/HashMap" "threshold" "I" ≠ Jvm.RoadKit.slotOf Z "java/util/HashMap" "modCount" "I" := slot_ne (Or.inl (ow hw 116 rfl)) (Or.inl (ow hw 140 rfl)) (by decide) (t := .int) (t' := .int) (by decide) (by decide)
theorem os32 {Z : State} {a0 : Array Value} (hw : ∀ d ∈ tables_1, d.before a0 Z = true) : Jvm.RoadKit.slotOf Z "java/util/AbstractMap" "values" "Ljava/util/Collection;" ≠ Jvm.RoadKit.slotOf Z "java/util/HashMap" "modCount" "I" := slot_ne (Or.inl (ow hw 184 rfl)) (Or.inl (ow hw 140 rfl)) (by decide) (t := (.object "java/util/Collection")) (t' := .int) (by decide) (by decide)
theorem od253 : decode jdk_69_method_16_code 269 = .ok (.aload_n 0, 1) := by decide +kernel
theorem od254 : decode jdk_69_method_16_code 270 = .ok (.dup, 1) := by decide +kernel
theorem od255 : decode jdk_69_method_16_code 271 = .ok (.getfield 156, 3) := by decide +kernel
theorem od256 : decode jdk_69_method_16_code 274 = .ok (.iconst 1, 1) := by decide +kernel
theorem od257 : decode jdk_69_method_16_code 275 = .ok (.iadd, 1) := by decide +kernel
theorem od258 : decode jdk_69_method_16_code 276 = .ok (.dup_x1, 1) := by decide +kernel
theorem od259 : decode jdk_69_method_16_code 277 = .ok (.putfield 156, 3) := by decide +kernel
theorem os33 {Z : State} {a0 : Array Value} (hw : ∀ d ∈ tables_1, d.before a0 Z = true) : Jvm.RoadKit.slotOf Z "java/util/HashMap" "table" "[Ljava/util/HashMap$Node;" ≠ Jvm.RoadKit.slotOf Z "java/util/HashMap" "size" "I" := slot_ne (Or.inl (ow hw 109 rfl)) (Or.inl (ow hw 142 rfl)) (by decide) (t := (.array (.object "java/util/HashMap$Node"))) (t' := .int) (by decide) (by decide)
theorem os34 {Z : State} {a0 : Array Value} (hw : ∀ d ∈ tables_1, d.before a0 Z = true) : Jvm.RoadKit.slotOf Z "java/util/HashMap" "threshold" "I" ≠ Jvm.RoadKit.slotOf Z "java/util/HashMap" "size" "I" := slot_ne (Or.inl (ow hw 116 rfl)) (Or.inl (ow hw 142 rfl)) (by decide) (t := .int) (t' := .int) (by decide) (by decide)
theorem os35 {Z : State} {a0 : Array Value} (hw : ∀ d ∈ tables_1, d.before a0 Z = true) : Jvm.RoadKit.slotOf Z "java/util/AbstractMap" "values" "Ljava/util/Collection;" ≠ Jvm.RoadKit.slotOf Z "java/util/HashMap" "size" "I" := slot_ne (Or.inl (ow hw 184 rfl)) (Or.inl (ow hw 142 rfl)) (by decide) (t := (.object "java/util/Collection")) (t' := .int) (by decide) (by decide)
theorem os36 {Z : State} {a0 : Array Value} (hw : ∀ d ∈ tables_1, d.before a0 Z = true) : Jvm.RoadKit.slotOf Z "java/util/HashMap" "modCount" "I" ≠ Jvm.RoadKit.slotOf Z "java/util/HashMap" "size" "I" := slot_ne (Or.inl (ow hw 140 rfl)) (Or.inl (ow hw 142 rfl)) (by decide) (t := .int) (t' := .int) (by decide) (by decide)
theorem od260 : decode jdk_69_method_16_code 280 = .ok (.aload_n 0, 1) := by decide +kernel
theorem od261 : decode jdk_69_method_16_code 281 = .ok (.getfield 88, 3) := by decide +kernel
theorem od262 : decode jdk_69_method_16_code 284 = .ok (.if_icmp .le 8, 3) := by decide +kernel
theorem od263 : decode jdk_69_method_16_code 292 = .ok (.aload_n 0, 1) := by decide +kernel
theorem od264 : decode jdk_69_method_16_code 293 = .ok (.iload 5, 2) := by decide +kernel
theorem od265 : decode jdk_69_method_16_code 295 = .ok (.invokevirtual 205, 3) := by decide +kernel
theorem own_pd11 : parseMethodDescriptor "(Z)V" = some ⟨[.boolean], none⟩ := by decide +kernel
theorem od266 : decode jdk_69_method_16_code 298 = .ok (.aconst_null, 1) := by decide +kernel
theorem od267 : decode jdk_69_method_16_code 299 = .ok (.areturn, 1) := by decide +kernel
theorem own_ef9 (m : MethodId) (x0 : Addr) (x1 : Addr) (x2 : Addr) : entryFrame m #[(.ref x0), (.ref x1), (.ref x2)] 3 = mkF m 0 #[.val (.ref x0), .val (.ref x1), .val (.ref x2)] [] := by first | (simp [entryFrame, mkF, argsToLocals, Value.category]; done) | rfl
theorem od268 : decode jdk_69_method_15_code 0 = .ok (.aload_n 0, 1) := by decide +kernel
theorem od269 : decode jdk_69_method_15_code 1 = .ok (.aload_n 1, 1) := by decide +kernel
theorem od270 : decode jdk_69_method_15_code 2 = .ok (.invokestatic 149, 3) := by decide +kernel
theorem own_pd12 : parseMethodDescriptor "(Ljava/lang/Object;)I" = some ⟨[(.object "java/lang/Object")], some .int⟩ := by decide +kernel
theorem od271 : decode jdk_69_method_15_code 5 = .ok (.aload_n 1, 1) := by decide +kernel
theorem od272 : decode jdk_69_method_15_code 6 = .ok (.aload_n 2, 1) := by decide +kernel
theorem od273 : decode jdk_69_method_15_code 7 = .ok (.iconst 0, 1) := by decide +kernel
theorem od274 : decode jdk_69_method_15_code 8 = .ok (.iconst 1, 1) := by decide +kernel
theorem od275 : decode jdk_69_method_15_code 9 = .ok (.invokevirtual 152, 3) := by decide +kernel
theorem own_pd13 : parseMethodDescriptor "(ILjava/lang/Object;Ljava/lang/Object;ZZ)Ljava/lang/Object;" = some ⟨[.int, (.object "java/lang/Object"), (.object "java/lang/Object"), .boolean, .boolean], some (.object "java/lang/Object")⟩ := by decide +kernel
theorem od276 : decode jdk_69_method_15_code 12 = .ok (.areturn, 1) := by decide +kernel
theorem od277 : decode jdk_69_method_16_code 10 = .ok (.aload 6, 2) := by decide +kernel
theorem od278 : decode jdk_69_method_16_code 12 = .ok (.arraylength, 1) := by decide +kernel
theorem od279 : decode jdk_69_method_16_code 13 = .ok (.dup, 1) := by decide +kernel
theorem od280 : decode jdk_69_method_16_code 14 = .ok (.istore 8, 2) := by decide +kernel
theorem od281 : decode jdk_69_method_16_code 16 = .ok (.ifCond .ne 13, 3) := by decide +kernel
theorem own_pn10 : plainName "java/util/HashMap$Values" = true := by first | (simp [plainName, overriddenIn]; done) | decide +kernel
theorem own_ef10 (m : MethodId) (x0 : Addr) (x1 : Addr) : entryFrame m #[(.ref x0), (.ref x1)] 2 = mkF m 0 #[.val (.ref x0), .val (.ref x1)] [] := by first | (simp [entryFrame, mkF, argsToLocals, Value.category]; done) | rfl
theorem od282 : decode jdk_2571_method_1_code 0 = .ok (.aload_n 0, 1) := by decide +kernel
theorem od283 : decode jdk_2571_method_1_code 1 = .ok (.aload_n 1, 1) := by decide +kernel
theorem od284 : decode jdk_2571_method_1_code 2 = .ok (.putfield 1, 3) := by decide +kernel
theorem od285 : decode jdk_2571_method_1_code 5 = .ok (.aload_n 0, 1) := by decide +kernel
theorem od286 : decode jdk_2571_method_1_code 6 = .ok (.invokespecial 7, 3) := by decide +kernel
theorem od287 : decode jdk_2571_method_1_code 9 = .ok (.return_, 1) := by decide +kernel
theorem od288 : decode jdk_69_method_28_code 0 = .ok (.aload_n 0, 1) := by decide +kernel
theorem od289 : decode jdk_69_method_28_code 1 = .ok (.getfield 259, 3) := by decide +kernel
theorem od290 : decode jdk_69_method_28_code 4 = .ok (.astore_n 1, 1) := by decide +kernel
theorem od291 : decode jdk_69_method_28_code 5 = .ok (.aload_n 1, 1) := by decide +kernel
theorem od292 : decode jdk_69_method_28_code 6 = .ok (.ifnonnull 17, 3) := by decide +kernel
theorem od293 : decode jdk_69_method_28_code 9 = .ok (.new 263, 3) := by decide +kernel
theorem od294 : decode jdk_69_method_28_code 12 = .ok (.dup, 1) := by decide +kernel
theorem od295 : decode jdk_69_method_28_code 13 = .ok (.aload_n 0, 1) := by decide +kernel
theorem od296 : decode jdk_69_method_28_code 14 = .ok (.invokespecial 265, 3) := by decide +kernel
theorem own_pd14 : parseMethodDescriptor "(Ljava/util/HashMap;)V" = some ⟨[(.object "java/util/HashMap")], none⟩ := by decide +kernel
theorem od297 : decode jdk_69_method_28_code 17 = .ok (.astore_n 1, 1) := by decide +kernel
theorem od298 : decode jdk_69_method_28_code 18 = .ok (.aload_n 0, 1) := by decide +kernel
theorem od299 : decode jdk_69_method_28_code 19 = .ok (.aload_n 1, 1) := by decide +kernel
theorem od300 : decode jdk_69_method_28_code 20 = .ok (.putfield 259, 3) := by decide +kernel
theorem os37 {Z : State} {a0 : Array Value} (hw : ∀ d ∈ tables_1, d.before a0 Z = true) : Jvm.RoadKit.slotOf Z "java/util/HashMap" "table" "[Ljava/util/HashMap$Node;" ≠ Jvm.RoadKit.slotOf Z "java/util/AbstractMap" "values" "Ljava/util/Collection;" := slot_ne (Or.inl (ow hw 109 rfl)) (Or.inl (ow hw 184 rfl)) (by decide) (t := (.array (.object "java/util/HashMap$Node"))) (t' := (.object "java/util/Collection")) (by decide) (by decide)
theorem os38 {Z : State} {a0 : Array Value} (hw : ∀ d ∈ tables_1, d.before a0 Z = true) : Jvm.RoadKit.slotOf Z "java/util/HashMap" "size" "I" ≠ Jvm.RoadKit.slotOf Z "java/util/AbstractMap" "values" "Ljava/util/Collection;" := slot_ne (Or.inl (ow hw 142 rfl)) (Or.inl (ow hw 184 rfl)) (by decide) (t := .int) (t' := (.object "java/util/Collection")) (by decide) (by decide)
theorem os39 {Z : State} {a0 : Array Value} (hw : ∀ d ∈ tables_1, d.before a0 Z = true) : Jvm.RoadKit.slotOf Z "java/util/HashMap" "modCount" "I" ≠ Jvm.RoadKit.slotOf Z "java/util/AbstractMap" "values" "Ljava/util/Collection;" := slot_ne (Or.inl (ow hw 140 rfl)) (Or.inl (ow hw 184 rfl)) (by decide) (t := .int) (t' := (.object "java/util/Collection")) (by decide) (by decide)
theorem os40 {Z : State} {a0 : Array Value} (hw : ∀ d ∈ tables_1, d.before a0 Z = true) : Jvm.RoadKit.slotOf Z "java/util/HashMap" "threshold" "I" ≠ Jvm.RoadKit.slotOf Z "java/util/AbstractMap" "values" "Ljava/util/Collection;" := slot_ne (Or.inl (ow hw 116 rfl)) (Or.inl (ow hw 184 rfl)) (by decide) (t := .int) (t' := (.object "java/util/Collection")) (by decide) (by decide)
theorem od301 : decode jdk_69_method_28_code 23 = .ok (.aload_n 1, 1) := by decide +kernel
theorem od302 : decode jdk_69_method_28_code 24 = .ok (.areturn, 1) := by decide +kernel
theorem own_pn11 : plainName "java/util/HashMap$HashIterator" = true := by first | (simp [plainName, overriddenIn]; done) | decide +kernel
theorem own_ef11 (m : MethodId) (x0 : Addr) (x1 : Addr) : entryFrame m #[(.ref x0), (.ref x1)] 3 = mkF m 0 #[.val (.ref x0), .val (.ref x1), .unset] [] := by first | (simp [entryFrame, mkF, argsToLocals, Value.category]; done) | rfl
theorem od303 : decode jdk_99_method_1_code 0 = .ok (.aload_n 0, 1) := by decide +kernel
theorem od304 : decode jdk_99_method_1_code 1 = .ok (.aload_n 1, 1) := by decide +kernel
theorem od305 : decode jdk_99_method_1_code 2 = .ok (.putfield 1, 3) := by decide +kernel
theorem os41 {Z : State} {a0 : Array Value} (hw : ∀ d ∈ tables_1, d.before a0 Z = true) : Jvm.RoadKit.slotOf Z "java/util/HashMap$HashIterator" "expectedModCount" "I" ≠ Jvm.RoadKit.slotOf Z "java/util/HashMap$HashIterator" "this$0" "Ljava/util/HashMap;" := slot_ne (Or.inl (ow hw 223 rfl)) (Or.inr (ow hw 219 rfl)) (by decide) (t := .int) (t' := (.object "java/util/HashMap")) (by decide) (by decide)
theorem os42 {Z : State} {a0 : Array Value} (hw : ∀ d ∈ tables_1, d.before a0 Z = true) : Jvm.RoadKit.slotOf Z "java/util/HashMap$HashIterator" "next" "Ljava/util/HashMap$Node;" ≠ Jvm.RoadKit.slotOf Z "java/util/HashMap$HashIterator" "this$0" "Ljava/util/HashMap;" := slot_ne (Or.inl (ow hw 226 rfl)) (Or.inr (ow hw 219 rfl)) (by decide) (t := (.object "java/util/HashMap$Node")) (t' := (.object "java/util/HashMap")) (by decide) (by decide)
theorem os43 {Z : State} {a0 : Array Value} (hw : ∀ d ∈ tables_1, d.before a0 Z = true) : Jvm.RoadKit.slotOf Z "java/util/HashMap$HashIterator" "current" "Ljava/util/HashMap$Node;" ≠ Jvm.RoadKit.slotOf Z "java/util/HashMap$HashIterator" "this$0" "Ljava/util/HashMap;" := slot_ne (Or.inl (ow hw 228 rfl)) (Or.inr (ow hw 219 rfl)) (by decide) (t := (.object "java/util/HashMap$Node")) (t' := (.object "java/util/HashMap")) (by decide) (by decide)
theorem os44 {Z : State} {a0 : Array Value} (hw : ∀ d ∈ tables_1, d.before a0 Z = true) : Jvm.RoadKit.slotOf Z "java/util/HashMap$HashIterator" "index" "I" ≠ Jvm.RoadKit.slotOf Z "java/util/HashMap$HashIterator" "this$0" "Ljava/util/HashMap;" := slot_ne (Or.inl (ow hw 230 rfl)) (Or.inr (ow hw 219 rfl)) (by decide) (t := .int) (t' := (.object "java/util/HashMap")) (by decide) (by decide)
theorem od306 : decode jdk_99_method_1_code 5 = .ok (.aload_n 0, 1) := by decide +kernel
theorem od307 : decode jdk_99_method_1_code 6 = .ok (.invokespecial 7, 3) := by decide +kernel
theorem od308 : decode jdk_99_method_1_code 9 = .ok (.aload_n 0, 1) := by decide +kernel
theorem od309 : decode jdk_99_method_1_code 10 = .ok (.aload_n 1, 1) := by decide +kernel
theorem od310 : decode jdk_99_method_1_code 11 = .ok (.getfield 13, 3) := by decide +kernel
theorem od311 : decode jdk_99_method_1_code 14 = .ok (.putfield 19, 3) := by decide +kernel
theorem os45 {Z : State} {a0 : Array Value} (hw : ∀ d ∈ tables_1, d.before a0 Z = true) : Jvm.RoadKit.slotOf Z "java/util/HashMap$HashIterator" "next" "Ljava/util/HashMap$Node;" ≠ Jvm.RoadKit.slotOf Z "java/util/HashMap$HashIterator" "expectedModCount" "I" := slot_ne (Or.inl (ow hw 226 rfl)) (Or.inl (ow hw 223 rfl)) (by decide) (t := (.object "java/util/HashMap$Node")) (t' := .int) (by decide) (by decide)
theorem os46 {Z : State} {a0 : Array Value} (hw : ∀ d ∈ tables_1, d.before a0 Z = true) : Jvm.RoadKit.slotOf Z "java/util/HashMap$HashIterator" "current" "Ljava/util/HashMap$Node;" ≠ Jvm.RoadKit.slotOf Z "java/util/HashMap$HashIterator" "expectedModCount" "I" := slot_ne (Or.inl (ow hw 228 rfl)) (Or.inl (ow hw 223 rfl)) (by decide) (t := (.object "java/util/HashMap$Node")) (t' := .int) (by decide) (by decide)
theorem os47 {Z : State} {a0 : Array Value} (hw : ∀ d ∈ tables_1, d.before a0 Z = true) : Jvm.RoadKit.slotOf Z "java/util/HashMap$HashIterator" "index" "I" ≠ Jvm.RoadKit.slotOf Z "java/util/HashMap$HashIterator" "expectedModCount" "I" := slot_ne (Or.inl (ow hw 230 rfl)) (Or.inl (ow hw 223 rfl)) (by decide) (t := .int) (t' := .int) (by decide) (by decide)
theorem os48 {Z : State} {a0 : Array Value} (hw : ∀ d ∈ tables_1, d.before a0 Z = true) : Jvm.RoadKit.slotOf Z "java/util/HashMap$HashIterator" "this$0" "Ljava/util/HashMap;" ≠ Jvm.RoadKit.slotOf Z "java/util/HashMap$HashIterator" "expectedModCount" "I" := slot_ne (Or.inr (ow hw 219 rfl)) (Or.inl (ow hw 223 rfl)) (by decide) (t := (.object "java/util/HashMap")) (t' := .int) (by decide) (by decide)
theorem od312 : decode jdk_99_method_1_code 17 = .ok (.aload_n 1, 1) := by decide +kernel
theorem od313 : decode jdk_99_method_1_code 18 = .ok (.getfield 22, 3) := by decide +kernel
theorem od314 : decode jdk_99_method_1_code 21 = .ok (.astore_n 2, 1) := by decide +kernel
theorem od315 : decode jdk_99_method_1_code 22 = .ok (.aload_n 0, 1) := by decide +kernel
theorem od316 : decode jdk_99_method_1_code 23 = .ok (.aload_n 0, 1) := by decide +kernel
theorem od317 : decode jdk_99_method_1_code 24 = .ok (.aconst_null, 1) := by decide +kernel
theorem od318 : decode jdk_99_method_1_code 25 = .ok (.dup_x1, 1) := by decide +kernel
theorem od319 : decode jdk_99_method_1_code 26 = .ok (.putfield 26, 3) := by decide +kernel
theorem os49 {Z : State} {a0 : Array Value} (hw : ∀ d ∈ tables_1, d.before a0 Z = true) : Jvm.RoadKit.slotOf Z "java/util/HashMap$HashIterator" "current" "Ljava/util/HashMap$Node;" ≠ Jvm.RoadKit.slotOf Z "java/util/HashMap$HashIterator" "next" "Ljava/util/HashMap$Node;" := slot_ne (Or.inl (ow hw 228 rfl)) (Or.inl (ow hw 226 rfl)) (by decide) (t := (.object "java/util/HashMap$Node")) (t' := (.object "java/util/HashMap$Node")) (by decide) (by decide)
theorem os50 {Z : State} {a0 : Array Value} (hw : ∀ d ∈ tables_1, d.before a0 Z = true) : Jvm.RoadKit.slotOf Z "java/util/HashMap$HashIterator" "index" "I" ≠ Jvm.RoadKit.slotOf Z "java/util/HashMap$HashIterator" "next" "Ljava/util/HashMap$Node;" := slot_ne (Or.inl (ow hw 230 rfl)) (Or.inl (ow hw 226 rfl)) (by decide) (t := .int) (t' := (.object "java/util/HashMap$Node")) (by decide) (by decide)
theorem os51 {Z : State} {a0 : Array Value} (hw : ∀ d ∈ tables_1, d.before a0 Z = true) : Jvm.RoadKit.slotOf Z "java/util/HashMap$HashIterator" "this$0" "Ljava/util/HashMap;" ≠ Jvm.RoadKit.slotOf Z "java/util/HashMap$HashIterator" "next" "Ljava/util/HashMap$Node;" := slot_ne (Or.inr (ow hw 219 rfl)) (Or.inl (ow hw 226 rfl)) (by decide) (t := (.object "java/util/HashMap")) (t' := (.object "java/util/HashMap$Node")) (by decide) (by decide)
theorem os52 {Z : State} {a0 : Array Value} (hw : ∀ d ∈ tables_1, d.before a0 Z = true) : Jvm.RoadKit.slotOf Z "java/util/HashMap$HashIterator" "expectedModCount" "I" ≠ Jvm.RoadKit.slotOf Z "java/util/HashMap$HashIterator" "next" "Ljava/util/HashMap$Node;" := slot_ne (Or.inl (ow hw 223 rfl)) (Or.inl (ow hw 226 rfl)) (by decide) (t := .int) (t' := (.object "java/util/HashMap$Node")) (by decide) (by decide)
theorem od320 : decode jdk_99_method_1_code 29 = .ok (.putfield 30, 3) := by decide +kernel
theorem os53 {Z : State} {a0 : Array Value} (hw : ∀ d ∈ tables_1, d.before a0 Z = true) : Jvm.RoadKit.slotOf Z "java/util/HashMap$HashIterator" "index" "I" ≠ Jvm.RoadKit.slotOf Z "java/util/HashMap$HashIterator" "current" "Ljava/util/HashMap$Node;" := slot_ne (Or.inl (ow hw 230 rfl)) (Or.inl (ow hw 228 rfl)) (by decide) (t := .int) (t' := (.object "java/util/HashMap$Node")) (by decide) (by decide)
theorem os54 {Z : State} {a0 : Array Value} (hw : ∀ d ∈ tables_1, d.before a0 Z = true) : Jvm.RoadKit.slotOf Z "java/util/HashMap$HashIterator" "this$0" "Ljava/util/HashMap;" ≠ Jvm.RoadKit.slotOf Z "java/util/HashMap$HashIterator" "current" "Ljava/util/HashMap$Node;" := slot_ne (Or.inr (ow hw 219 rfl)) (Or.inl (ow hw 228 rfl)) (by decide) (t := (.object "java/util/HashMap")) (t' := (.object "java/util/HashMap$Node")) (by decide) (by decide)
theorem os55 {Z : State} {a0 : Array Value} (hw : ∀ d ∈ tables_1, d.before a0 Z = true) : Jvm.RoadKit.slotOf Z "java/util/HashMap$HashIterator" "expectedModCount" "I" ≠ Jvm.RoadKit.slotOf Z "java/util/HashMap$HashIterator" "current" "Ljava/util/HashMap$Node;" := slot_ne (Or.inl (ow hw 223 rfl)) (Or.inl (ow hw 228 rfl)) (by decide) (t := .int) (t' := (.object "java/util/HashMap$Node")) (by decide) (by decide)
theorem os56 {Z : State} {a0 : Array Value} (hw : ∀ d ∈ tables_1, d.before a0 Z = true) : Jvm.RoadKit.slotOf Z "java/util/HashMap$HashIterator" "next" "Ljava/util/HashMap$Node;" ≠ Jvm.RoadKit.slotOf Z "java/util/HashMap$HashIterator" "current" "Ljava/util/HashMap$Node;" := slot_ne (Or.inl (ow hw 226 rfl)) (Or.inl (ow hw 228 rfl)) (by decide) (t := (.object "java/util/HashMap$Node")) (t' := (.object "java/util/HashMap$Node")) (by decide) (by decide)
theorem od321 : decode jdk_99_method_1_code 32 = .ok (.aload_n 0, 1) := by decide +kernel
theorem od322 : decode jdk_99_method_1_code 33 = .ok (.iconst 0, 1) := by decide +kernel
theorem od323 : decode jdk_99_method_1_code 34 = .ok (.putfield 33, 3) := by decide +kernel
theorem os57 {Z : State} {a0 : Array Value} (hw : ∀ d ∈ tables_1, d.before a0 Z = true) : Jvm.RoadKit.slotOf Z "java/util/HashMap$HashIterator" "this$0" "Ljava/util/HashMap;" ≠ Jvm.RoadKit.slotOf Z "java/util/HashMap$HashIterator" "index" "I" := slot_ne (Or.inr (ow hw 219 rfl)) (Or.inl (ow hw 230 rfl)) (by decide) (t := (.object "java/util/HashMap")) (t' := .int) (by decide) (by decide)
theorem os58 {Z : State} {a0 : Array Value} (hw : ∀ d ∈ tables_1, d.before a0 Z = true) : Jvm.RoadKit.slotOf Z "java/util/HashMap$HashIterator" "expectedModCount" "I" ≠ Jvm.RoadKit.slotOf Z "java/util/HashMap$HashIterator" "index" "I" := slot_ne (Or.inl (ow hw 223 rfl)) (Or.inl (ow hw 230 rfl)) (by decide) (t := .int) (t' := .int) (by decide) (by decide)
theorem os59 {Z : State} {a0 : Array Value} (hw : ∀ d ∈ tables_1, d.before a0 Z = true) : Jvm.RoadKit.slotOf Z "java/util/HashMap$HashIterator" "next" "Ljava/util/HashMap$Node;" ≠ Jvm.RoadKit.slotOf Z "java/util/HashMap$HashIterator" "index" "I" := slot_ne (Or.inl (ow hw 226 rfl)) (Or.inl (ow hw 230 rfl)) (by decide) (t := (.object "java/util/HashMap$Node")) (t' := .int) (by decide) (by decide)
theorem os60 {Z : State} {a0 : Array Value} (hw : ∀ d ∈ tables_1, d.before a0 Z = true) : Jvm.RoadKit.slotOf Z "java/util/HashMap$HashIterator" "current" "Ljava/util/HashMap$Node;" ≠ Jvm.RoadKit.slotOf Z "java/util/HashMap$HashIterator" "index" "I" := slot_ne (Or.inl (ow hw 228 rfl)) (Or.inl (ow hw 230 rfl)) (by decide) (t := (.object "java/util/HashMap$Node")) (t' := .int) (by decide) (by decide)
theorem od324 : decode jdk_99_method_1_code 37 = .ok (.aload_n 2, 1) := by decide +kernel
theorem od325 : decode jdk_99_method_1_code 38 = .ok (.ifnull 40, 3) := by decide +kernel
theorem od326 : decode jdk_99_method_1_code 41 = .ok (.aload_n 1, 1) := by decide +kernel
theorem od327 : decode jdk_99_method_1_code 42 = .ok (.getfield 36, 3) := by decide +kernel
theorem od328 : decode jdk_99_method_1_code 45 = .ok (.ifCond .le 33, 3) := by decide +kernel
theorem od329 : decode jdk_99_method_1_code 48 = .ok (.aload_n 0, 1) := by decide +kernel
theorem od330 : decode jdk_99_method_1_code 49 = .ok (.getfield 33, 3) := by decide +kernel
theorem od331 : decode jdk_99_method_1_code 52 = .ok (.aload_n 2, 1) := by decide +kernel
theorem od332 : decode jdk_99_method_1_code 53 = .ok (.arraylength, 1) := by decide +kernel
theorem od333 : decode jdk_99_method_1_code 54 = .ok (.if_icmp .ge 24, 3) := by decide +kernel
theorem od334 : decode jdk_99_method_1_code 57 = .ok (.aload_n 0, 1) := by decide +kernel
theorem od335 : decode jdk_99_method_1_code 58 = .ok (.aload_n 2, 1) := by decide +kernel
theorem od336 : decode jdk_99_method_1_code 59 = .ok (.aload_n 0, 1) := by decide +kernel
theorem od337 : decode jdk_99_method_1_code 60 = .ok (.dup, 1) := by decide +kernel
theorem od338 : decode jdk_99_method_1_code 61 = .ok (.getfield 33, 3) := by decide +kernel
theorem od339 : decode jdk_99_method_1_code 64 = .ok (.dup_x1, 1) := by decide +kernel
theorem od340 : decode jdk_99_method_1_code 65 = .ok (.iconst 1, 1) := by decide +kernel
theorem od341 : decode jdk_99_method_1_code 66 = .ok (.iadd, 1) := by decide +kernel
theorem od342 : decode jdk_99_method_1_code 67 = .ok (.putfield 33, 3) := by decide +kernel
theorem od343 : decode jdk_99_method_1_code 70 = .ok (.aaload, 1) := by decide +kernel
theorem od344 : decode jdk_99_method_1_code 71 = .ok (.dup_x1, 1) := by decide +kernel
theorem od345 : decode jdk_99_method_1_code 72 = .ok (.putfield 26, 3) := by decide +kernel
theorem od346 : decode jdk_99_method_1_code 75 = .ok (.ifnull (-27), 3) := by decide +kernel
theorem od347 : decode jdk_99_method_1_code 78 = .ok (.return_, 1) := by decide +kernel
theorem own_pn12 : plainName "java/util/HashMap$ValueIterator" = true := by first | (simp [plainName, overriddenIn]; done) | decide +kernel
theorem od348 : decode jdk_2569_method_1_code 0 = .ok (.aload_n 0, 1) := by decide +kernel
theorem od349 : decode jdk_2569_method_1_code 1 = .ok (.aload_n 1, 1) := by decide +kernel
theorem od350 : decode jdk_2569_method_1_code 2 = .ok (.invokespecial 1, 3) := by decide +kernel
theorem od351 : decode jdk_2569_method_1_code 5 = .ok (.return_, 1) := by decide +kernel
theorem od352 : decode jdk_2571_method_4_code 0 = .ok (.new 22, 3) := by decide +kernel
theorem od353 : decode jdk_2571_method_4_code 3 = .ok (.dup, 1) := by decide +kernel
theorem od354 : decode jdk_2571_method_4_code 4 = .ok (.aload_n 0, 1) := by decide +kernel
theorem od355 : decode jdk_2571_method_4_code 5 = .ok (.getfield 1, 3) := by decide +kernel
theorem od356 : decode jdk_2571_method_4_code 8 = .ok (.invokespecial 24, 3) := by decide +kernel
theorem od357 : decode jdk_2571_method_4_code 11 = .ok (.areturn, 1) := by decide +kernel
theorem od358 : decode jdk_99_method_2_code 0 = .ok (.aload_n 0, 1) := by decide +kernel
theorem od359 : decode jdk_99_method_2_code 1 = .ok (.getfield 26, 3) := by decide +kernel
theorem od360 : decode jdk_99_method_2_code 4 = .ok (.ifnull 7, 3) := by decide +kernel
theorem od361 : decode jdk_99_method_2_code 7 = .ok (.iconst 1, 1) := by decide +kernel
theorem od362 : decode jdk_99_method_2_code 8 = .ok (.goto 4, 3) := by decide +kernel
theorem od363 : decode jdk_99_method_2_code 12 = .ok (.ireturn, 1) := by decide +kernel
theorem od364 : decode jdk_99_method_2_code 11 = .ok (.iconst 0, 1) := by decide +kernel
theorem own_ef12 (m : MethodId) (x0 : Addr) : entryFrame m #[(.ref x0)] 3 = mkF m 0 #[.val (.ref x0), .unset, .unset] [] := by first | (simp [entryFrame, mkF, argsToLocals, Value.category]; done) | rfl
theorem od365 : decode jdk_99_method_3_code 0 = .ok (.aload_n 0, 1) := by decide +kernel
theorem od366 : decode jdk_99_method_3_code 1 = .ok (.getfield 26, 3) := by decide +kernel
theorem od367 : decode jdk_99_method_3_code 4 = .ok (.astore_n 2, 1) := by decide +kernel
theorem od368 : decode jdk_99_method_3_code 5 = .ok (.aload_n 0, 1) := by decide +kernel
theorem od369 : decode jdk_99_method_3_code 6 = .ok (.getfield 1, 3) := by decide +kernel
theorem od370 : decode jdk_99_method_3_code 9 = .ok (.getfield 13, 3) := by decide +kernel
theorem od371 : decode jdk_99_method_3_code 12 = .ok (.aload_n 0, 1) := by decide +kernel
theorem od372 : decode jdk_99_method_3_code 13 = .ok (.getfield 19, 3) := by decide +kernel
theorem od373 : decode jdk_99_method_3_code 16 = .ok (.if_icmp .eq 11, 3) := by decide +kernel
theorem od374 : decode jdk_99_method_3_code 27 = .ok (.aload_n 2, 1) := by decide +kernel
theorem od375 : decode jdk_99_method_3_code 28 = .ok (.ifnonnull 11, 3) := by decide +kernel
theorem od376 : decode jdk_99_method_3_code 39 = .ok (.aload_n 0, 1) := by decide +kernel
theorem od377 : decode jdk_99_method_3_code 40 = .ok (.aload_n 0, 1) := by decide +kernel
theorem od378 : decode jdk_99_method_3_code 41 = .ok (.aload_n 2, 1) := by decide +kernel
theorem od379 : decode jdk_99_method_3_code 42 = .ok (.dup_x1, 1) := by decide +kernel
theorem od380 : decode jdk_99_method_3_code 43 = .ok (.putfield 30, 3) := by decide +kernel
theorem od381 : decode jdk_99_method_3_code 46 = .ok (.getfield 45, 3) := by decide +kernel
theorem od382 : decode jdk_99_method_3_code 49 = .ok (.dup_x1, 1) := by decide +kernel
theorem od383 : decode jdk_99_method_3_code 50 = .ok (.putfield 26, 3) := by decide +kernel
theorem od384 : decode jdk_99_method_3_code 53 = .ok (.ifnonnull 45, 3) := by decide +kernel
theorem od385 : decode jdk_99_method_3_code 56 = .ok (.aload_n 0, 1) := by decide +kernel
theorem od386 : decode jdk_99_method_3_code 57 = .ok (.getfield 1, 3) := by decide +kernel
theorem od387 : decode jdk_99_method_3_code 60 = .ok (.getfield 22, 3) := by decide +kernel
theorem od388 : decode jdk_99_method_3_code 63 = .ok (.dup, 1) := by decide +kernel
theorem od389 : decode jdk_99_method_3_code 64 = .ok (.astore_n 1, 1) := by decide +kernel
theorem od390 : decode jdk_99_method_3_code 65 = .ok (.ifnull 33, 3) := by decide +kernel
theorem od391 : decode jdk_99_method_3_code 68 = .ok (.aload_n 0, 1) := by decide +kernel
theorem od392 : decode jdk_99_method_3_code 69 = .ok (.getfield 33, 3) := by decide +kernel
theorem od393 : decode jdk_99_method_3_code 72 = .ok (.aload_n 1, 1) := by decide +kernel
theorem od394 : decode jdk_99_method_3_code 73 = .ok (.arraylength, 1) := by decide +kernel
theorem od395 : decode jdk_99_method_3_code 74 = .ok (.if_icmp .ge 24, 3) := by decide +kernel
theorem od396 : decode jdk_99_method_3_code 77 = .ok (.aload_n 0, 1) := by decide +kernel
theorem od397 : decode jdk_99_method_3_code 78 = .ok (.aload_n 1, 1) := by decide +kernel
theorem od398 : decode jdk_99_method_3_code 79 = .ok (.aload_n 0, 1) := by decide +kernel
theorem od399 : decode jdk_99_method_3_code 80 = .ok (.dup, 1) := by decide +kernel
theorem od400 : decode jdk_99_method_3_code 81 = .ok (.getfield 33, 3) := by decide +kernel
theorem od401 : decode jdk_99_method_3_code 84 = .ok (.dup_x1, 1) := by decide +kernel
theorem od402 : decode jdk_99_method_3_code 85 = .ok (.iconst 1, 1) := by decide +kernel
theorem od403 : decode jdk_99_method_3_code 86 = .ok (.iadd, 1) := by decide +kernel
theorem od404 : decode jdk_99_method_3_code 87 = .ok (.putfield 33, 3) := by decide +kernel
theorem od405 : decode jdk_99_method_3_code 90 = .ok (.aaload, 1) := by decide +kernel
theorem od406 : decode jdk_99_method_3_code 91 = .ok (.dup_x1, 1) := by decide +kernel
theorem od407 : decode jdk_99_method_3_code 92 = .ok (.putfield 26, 3) := by decide +kernel
theorem od408 : decode jdk_99_method_3_code 95 = .ok (.ifnull (-27), 3) := by decide +kernel
theorem od409 : decode jdk_99_method_3_code 98 = .ok (.aload_n 2, 1) := by decide +kernel
theorem od410 : decode jdk_99_method_3_code 99 = .ok (.areturn, 1) := by decide +kernel
theorem od411 : decode jdk_2569_method_2_code 0 = .ok (.aload_n 0, 1) := by decide +kernel
theorem od412 : decode jdk_2569_method_2_code 1 = .ok (.invokevirtual 7, 3) := by decide +kernel
theorem own_pd15 : parseMethodDescriptor "()Ljava/util/HashMap$Node;" = some ⟨[], some (.object "java/util/HashMap$Node")⟩ := by decide +kernel
theorem od413 : decode jdk_2569_method_2_code 4 = .ok (.getfield 13, 3) := by decide +kernel
theorem od414 : decode jdk_2569_method_2_code 7 = .ok (.areturn, 1) := by decide +kernel
theorem od415 : decode jdk_33_method_27_code 0 = .ok (.aload_n 0, 1) := by decide +kernel
theorem od416 : decode jdk_33_method_27_code 1 = .ok (.getfield 205, 3) := by decide +kernel
theorem od417 : decode jdk_33_method_27_code 4 = .ok (.ireturn, 1) := by decide +kernel
theorem own_pn13 : plainName "com/example/nimble_fusion/nimblefusion/scoring/JudgedRanking" = true := by first | (simp [plainName, overriddenIn]; done) | decide +kernel
theorem od418 : decode prog_48_method_13_code 0 = .ok (.iload_n 1, 1) := by decide +kernel
theorem od419 : decode prog_48_method_13_code 1 = .ok (.aload_n 0, 1) := by decide +kernel
theorem od420 : decode prog_48_method_13_code 2 = .ok (.getfield 7, 3) := by decide +kernel
theorem od421 : decode prog_48_method_13_code 5 = .ok (.if_icmp .lt 7, 3) := by decide +kernel
theorem od422 : decode prog_48_method_13_code 12 = .ok (.iconst 0, 1) := by decide +kernel
theorem od423 : decode prog_48_method_13_code 13 = .ok (.ireturn, 1) := by decide +kernel
theorem od424 : decode prog_48_method_13_code 8 = .ok (.iconst 1, 1) := by decide +kernel
theorem od425 : decode prog_48_method_13_code 9 = .ok (.goto 4, 3) := by decide +kernel
theorem od426 : decode prog_48_method_14_code 0 = .ok (.iload_n 1, 1) := by decide +kernel
theorem od427 : decode prog_48_method_14_code 1 = .ok (.ifCond .lt 15, 3) := by decide +kernel
theorem od428 : decode prog_48_method_14_code 16 = .ok (.iconst 0, 1) := by decide +kernel
theorem od429 : decode prog_48_method_14_code 17 = .ok (.ireturn, 1) := by decide +kernel
theorem od430 : decode prog_48_method_14_code 4 = .ok (.iload_n 1, 1) := by decide +kernel
theorem od431 : decode prog_48_method_14_code 5 = .ok (.aload_n 0, 1) := by decide +kernel
theorem od432 : decode prog_48_method_14_code 6 = .ok (.getfield 7, 3) := by decide +kernel
theorem od433 : decode prog_48_method_14_code 9 = .ok (.if_icmp .ge 7, 3) := by decide +kernel
theorem od434 : decode prog_48_method_14_code 12 = .ok (.iconst 1, 1) := by decide +kernel
theorem od435 : decode prog_48_method_14_code 13 = .ok (.goto 4, 3) := by decide +kernel
theorem od436 : decode jdk_69_method_10_code 0 = .ok (.aload_n 0, 1) := by decide +kernel
theorem od437 : decode jdk_69_method_10_code 1 = .ok (.getfield 156, 3) := by decide +kernel
theorem od438 : decode jdk_69_method_10_code 4 = .ok (.ireturn, 1) := by decide +kernel
theorem own_pn14 : plainName "java/util/Arrays" = true := by first | (simp [plainName, overriddenIn]; done) | decide +kernel
theorem own_ef13 (m : MethodId) (x0 : Addr) (x1 : Int32) : entryFrame m #[(.ref x0), (.int x1)] 3 = mkF m 0 #[.val (.ref x0), .val (.int x1), .unset] [] := by first | (simp [entryFrame, mkF, argsToLocals, Value.category]; done) | rfl
theorem od439 : decode jdk_65_method_123_code 0 = .ok (.iload_n 1, 1) := by decide +kernel
theorem od440 : decode jdk_65_method_123_code 1 = .ok (.aload_n 0, 1) := by decide +kernel
theorem od441 : decode jdk_65_method_123_code 2 = .ok (.arraylength, 1) := by decide +kernel
theorem od442 : decode jdk_65_method_123_code 3 = .ok (.if_icmp .ne 11, 3) := by decide +kernel
theorem od443 : decode jdk_65_method_123_code 14 = .ok (.iload_n 1, 1) := by decide +kernel
theorem od444 : decode jdk_65_method_123_code 15 = .ok (.newarray .int, 2) := by decide +kernel
theorem od445 : decode jdk_65_method_123_code 17 = .ok (.astore_n 2, 1) := by decide +kernel
theorem od446 : decode jdk_65_method_123_code 18 = .ok (.aload_n 0, 1) := by decide +kernel
theorem od447 : decode jdk_65_method_123_code 19 = .ok (.iconst 0, 1) := by decide +kernel
theorem od448 : decode jdk_65_method_123_code 20 = .ok (.aload_n 2, 1) := by decide +kernel
theorem od449 : decode jdk_65_method_123_code 21 = .ok (.iconst 0, 1) := by decide +kernel
theorem od450 : decode jdk_65_method_123_code 22 = .ok (.aload_n 0, 1) := by decide +kernel
theorem od451 : decode jdk_65_method_123_code 23 = .ok (.arraylength, 1) := by decide +kernel
theorem od452 : decode jdk_65_method_123_code 24 = .ok (.iload_n 1, 1) := by decide +kernel
theorem od453 : decode jdk_65_method_123_code 25 = .ok (.invokestatic 304, 3) := by decide +kernel
theorem own_pd16 : parseMethodDescriptor "(II)I" = some ⟨[.int, .int], some .int⟩ := by decide +kernel
theorem od454 : decode jdk_65_method_123_code 28 = .ok (.invokestatic 150, 3) := by decide +kernel
theorem od455 : decode jdk_65_method_123_code 31 = .ok (.aload_n 2, 1) := by decide +kernel
theorem od456 : decode jdk_65_method_123_code 32 = .ok (.areturn, 1) := by decide +kernel
theorem od457 : decode jdk_65_method_123_code 6 = .ok (.aload_n 0, 1) := by decide +kernel
theorem od458 : decode jdk_65_method_123_code 7 = .ok (.invokevirtual 316, 3) := by decide +kernel
theorem od459 : decode jdk_65_method_123_code 10 = .ok (.checkcast 317, 3) := by decide +kernel
theorem od460 : decode jdk_65_method_123_code 13 = .ok (.areturn, 1) := by decide +kernel
theorem own_pn15 : plainName "java/util/DualPivotQuicksort" = true := by first | (simp [plainName, overriddenIn]; done) | decide +kernel
theorem own_ef14 (m : MethodId) (x0 : Addr) (x1 : Int32) (x2 : Int32) : entryFrame m #[(.ref x0), (.int x1), (.int x2)] 6 = mkF m 0 #[.val (.ref x0), .val (.int x1), .val (.int x2), .unset, .unset, .unset] [] := by first | (simp [entryFrame, mkF, argsToLocals, Value.category]; done) | rfl
theorem od461 : decode jdk_2529_method_6_code 0 = .ok (.iload_n 1, 1) := by decide +kernel
theorem od462 : decode jdk_2529_method_6_code 1 = .ok (.istore 4, 2) := by decide +kernel
theorem od463 : decode jdk_2529_method_6_code 3 = .ok (.iinc 4 1, 3) := by decide +kernel
theorem od464 : decode jdk_2529_method_6_code 6 = .ok (.iload 4, 2) := by decide +kernel
theorem od465 : decode jdk_2529_method_6_code 8 = .ok (.iload_n 2, 1) := by decide +kernel
theorem od466 : decode jdk_2529_method_6_code 9 = .ok (.if_icmp .ge 58, 3) := by decide +kernel
theorem od467 : decode jdk_2529_method_6_code 67 = .ok (.return_, 1) := by decide +kernel
theorem own_ef15 (m : MethodId) (x1 : Addr) (x2 : Int32) (x3 : Int32) (x4 : Int32) : entryFrame m #[.null, (.ref x1), (.int x2), (.int x3), (.int x4)] 21 = mkF m 0 #[.val .null, .val (.ref x1), .val (.int x2), .val (.int x3), .val (.int x4), .unset, .unset, .unset, .unset, .unset, .unset, .unset, .unset, .unset, .unset, .unset, .unset, .unset, .unset, .unset, .unset] [] := by first | (simp [entryFrame, mkF, argsToLocals, Value.category]; done) | rfl
theorem od468 : decode jdk_2529_method_4_code 0 = .ok (.iload 4, 2) := by decide +kernel
theorem od469 : decode jdk_2529_method_4_code 2 = .ok (.iconst 1, 1) := by decide +kernel
theorem od470 : decode jdk_2529_method_4_code 3 = .ok (.isub, 1) := by decide +kernel
theorem od471 : decode jdk_2529_method_4_code 4 = .ok (.istore 5, 2) := by decide +kernel
theorem od472 : decode jdk_2529_method_4_code 6 = .ok (.iload 4, 2) := by decide +kernel
theorem od473 : decode jdk_2529_method_4_code 8 = .ok (.iload_n 3, 1) := by decide +kernel
theorem od474 : decode jdk_2529_method_4_code 9 = .ok (.isub, 1) := by decide +kernel
theorem od475 : decode jdk_2529_method_4_code 10 = .ok (.istore 6, 2) := by decide +kernel
theorem od476 : decode jdk_2529_method_4_code 12 = .ok (.iload 6, 2) := by decide +kernel
theorem od477 : decode jdk_2529_method_4_code 14 = .ok (.bipush 65, 2) := by decide +kernel
theorem od478 : decode jdk_2529_method_4_code 16 = .ok (.iload_n 2, 1) := by decide +kernel
theorem od479 : decode jdk_2529_method_4_code 17 = .ok (.iadd, 1) := by decide +kernel
theorem od480 : decode jdk_2529_method_4_code 18 = .ok (.if_icmp .ge 28, 3) := by decide +kernel
theorem od481 : decode jdk_2529_method_4_code 21 = .ok (.iload_n 2, 1) := by decide +kernel
theorem od482 : decode jdk_2529_method_4_code 22 = .ok (.iconst 1, 1) := by decide +kernel
theorem od483 : decode jdk_2529_method_4_code 23 = .ok (.iand, 1) := by decide +kernel
theorem od484 : decode jdk_2529_method_4_code 24 = .ok (.ifCond .le 22, 3) := by decide +kernel
theorem od485 : decode jdk_2529_method_4_code 46 = .ok (.iload 6, 2) := by decide +kernel
theorem od486 : decode jdk_2529_method_4_code 48 = .ok (.bipush 44, 2) := by decide +kernel
theorem od487 : decode jdk_2529_method_4_code 50 = .ok (.if_icmp .ge 11, 3) := by decide +kernel
theorem od488 : decode jdk_2529_method_4_code 53 = .ok (.aload_n 1, 1) := by decide +kernel
theorem od489 : decode jdk_2529_method_4_code 54 = .ok (.iload_n 3, 1) := by decide +kernel
theorem od490 : decode jdk_2529_method_4_code 55 = .ok (.iload 4, 2) := by decide +kernel
theorem od491 : decode jdk_2529_method_4_code 57 = .ok (.invokestatic 34, 3) := by decide +kernel
theorem own_pd17 : parseMethodDescriptor "([III)V" = some ⟨[(.array .int), .int, .int], none⟩ := by decide +kernel
theorem od492 : decode jdk_2529_method_4_code 60 = .ok (.return_, 1) := by decide +kernel
theorem own_ef16 (m : MethodId) (x0 : Addr) (x1 : Int32) (x2 : Int32) (x3 : Int32) : entryFrame m #[(.ref x0), (.int x1), (.int x2), (.int x3)] 7 = mkF m 0 #[.val (.ref x0), .val (.int x1), .val (.int x2), .val (.int x3), .unset, .unset, .unset] [] := by first | (simp [entryFrame, mkF, argsToLocals, Value.category]; done) | rfl
theorem od493 : decode jdk_2529_method_3_code 0 = .ok (.iload_n 3, 1) := by decide +kernel
theorem od494 : decode jdk_2529_method_3_code 1 = .ok (.iload_n 2, 1) := by decide +kernel
theorem od495 : decode jdk_2529_method_3_code 2 = .ok (.isub, 1) := by decide +kernel
theorem od496 : decode jdk_2529_method_3_code 3 = .ok (.istore 4, 2) := by decide +kernel
theorem od497 : decode jdk_2529_method_3_code 5 = .ok (.iload_n 1, 1) := by decide +kernel
theorem od498 : decode jdk_2529_method_3_code 6 = .ok (.iconst 1, 1) := by decide +kernel
theorem od499 : decode jdk_2529_method_3_code 7 = .ok (.if_icmp .le 61, 3) := by decide +kernel
theorem od500 : decode jdk_2529_method_3_code 68 = .ok (.aconst_null, 1) := by decide +kernel
theorem od501 : decode jdk_2529_method_3_code 69 = .ok (.aload_n 0, 1) := by decide +kernel
theorem od502 : decode jdk_2529_method_3_code 70 = .ok (.iconst 0, 1) := by decide +kernel
theorem od503 : decode jdk_2529_method_3_code 71 = .ok (.iload_n 2, 1) := by decide +kernel
theorem od504 : decode jdk_2529_method_3_code 72 = .ok (.iload_n 3, 1) := by decide +kernel
theorem od505 : decode jdk_2529_method_3_code 73 = .ok (.invokestatic 26, 3) := by decide +kernel
theorem own_pd18 : parseMethodDescriptor "(Ljava/util/DualPivotQuicksort$Sorter;[IIII)V" = some ⟨[(.object "java/util/DualPivotQuicksort$Sorter"), (.array .int), .int, .int, .int], none⟩ := by decide +kernel
theorem od506 : decode jdk_2529_method_3_code 76 = .ok (.return_, 1) := by decide +kernel
theorem od507 : decode jdk_65_method_2_code 0 = .ok (.aload_n 0, 1) := by decide +kernel
theorem od508 : decode jdk_65_method_2_code 1 = .ok (.iconst 0, 1) := by decide +kernel
theorem od509 : decode jdk_65_method_2_code 2 = .ok (.iconst 0, 1) := by decide +kernel
theorem od510 : decode jdk_65_method_2_code 3 = .ok (.aload_n 0, 1) := by decide +kernel
theorem od511 : decode jdk_65_method_2_code 4 = .ok (.arraylength, 1) := by decide +kernel
theorem od512 : decode jdk_65_method_2_code 5 = .ok (.invokestatic 7, 3) := by decide +kernel
theorem own_pd19 : parseMethodDescriptor "([IIII)V" = some ⟨[(.array .int), .int, .int, .int], none⟩ := by decide +kernel
theorem od513 : decode jdk_65_method_2_code 8 = .ok (.return_, 1) := by decide +kernel
theorem od514 : decode jdk_2529_method_6_code 12 = .ok (.aload_n 0, 1) := by decide +kernel
theorem od515 : decode jdk_2529_method_6_code 13 = .ok (.iload 4, 2) := by decide +kernel
theorem od516 : decode jdk_2529_method_6_code 15 = .ok (.dup, 1) := by decide +kernel
theorem od517 : decode jdk_2529_method_6_code 16 = .ok (.istore_n 3, 1) := by decide +kernel
theorem od518 : decode jdk_2529_method_6_code 17 = .ok (.iaload, 1) := by decide +kernel
theorem od519 : decode jdk_2529_method_6_code 18 = .ok (.istore 5, 2) := by decide +kernel
theorem od520 : decode jdk_2529_method_6_code 20 = .ok (.iload 5, 2) := by decide +kernel
theorem od521 : decode jdk_2529_method_6_code 22 = .ok (.aload_n 0, 1) := by decide +kernel
theorem od522 : decode jdk_2529_method_6_code 23 = .ok (.iload_n 3, 1) := by decide +kernel
theorem od523 : decode jdk_2529_method_6_code 24 = .ok (.iconst 1, 1) := by decide +kernel
theorem od524 : decode jdk_2529_method_6_code 25 = .ok (.isub, 1) := by decide +kernel
theorem od525 : decode jdk_2529_method_6_code 26 = .ok (.iaload, 1) := by decide +kernel
theorem od526 : decode jdk_2529_method_6_code 27 = .ok (.if_icmp .ge 37, 3) := by decide +kernel
theorem od527 : decode jdk_2529_method_6_code 30 = .ok (.iinc 3 (-1), 3) := by decide +kernel
theorem od528 : decode jdk_2529_method_6_code 33 = .ok (.iload_n 3, 1) := by decide +kernel
theorem od529 : decode jdk_2529_method_6_code 34 = .ok (.iload_n 1, 1) := by decide +kernel
theorem od530 : decode jdk_2529_method_6_code 35 = .ok (.if_icmp .lt 22, 3) := by decide +kernel
theorem od531 : decode jdk_2529_method_6_code 38 = .ok (.iload 5, 2) := by decide +kernel
theorem od532 : decode jdk_2529_method_6_code 40 = .ok (.aload_n 0, 1) := by decide +kernel
theorem od533 : decode jdk_2529_method_6_code 41 = .ok (.iload_n 3, 1) := by decide +kernel
theorem od534 : decode jdk_2529_method_6_code 42 = .ok (.iaload, 1) := by decide +kernel
theorem od535 : decode jdk_2529_method_6_code 43 = .ok (.if_icmp .ge 14, 3) := by decide +kernel
theorem od536 : decode jdk_2529_method_6_code 46 = .ok (.aload_n 0, 1) := by decide +kernel
theorem od537 : decode jdk_2529_method_6_code 47 = .ok (.iload_n 3, 1) := by decide +kernel
theorem od538 : decode jdk_2529_method_6_code 48 = .ok (.iconst 1, 1) := by decide +kernel
theorem od539 : decode jdk_2529_method_6_code 49 = .ok (.iadd, 1) := by decide +kernel
theorem od540 : decode jdk_2529_method_6_code 50 = .ok (.aload_n 0, 1) := by decide +kernel
theorem od541 : decode jdk_2529_method_6_code 51 = .ok (.iload_n 3, 1) := by decide +kernel
theorem od542 : decode jdk_2529_method_6_code 52 = .ok (.iaload, 1) := by decide +kernel
theorem od543 : decode jdk_2529_method_6_code 53 = .ok (.iastore, 1) := by decide +kernel
theorem od544 : decode jdk_2529_method_6_code 54 = .ok (.goto (-24), 3) := by decide +kernel
theorem od545 : decode jdk_2529_method_6_code 57 = .ok (.aload_n 0, 1) := by decide +kernel
theorem od546 : decode jdk_2529_method_6_code 58 = .ok (.iload_n 3, 1) := by decide +kernel
theorem od547 : decode jdk_2529_method_6_code 59 = .ok (.iconst 1, 1) := by decide +kernel
theorem od548 : decode jdk_2529_method_6_code 60 = .ok (.iadd, 1) := by decide +kernel
theorem od549 : decode jdk_2529_method_6_code 61 = .ok (.iload 5, 2) := by decide +kernel
theorem od550 : decode jdk_2529_method_6_code 63 = .ok (.iastore, 1) := by decide +kernel
theorem od551 : decode jdk_2529_method_6_code 64 = .ok (.goto (-61), 3) := by decide +kernel
theorem own_ef17 (m : MethodId) (x0 : Addr) (x1 : Addr) (x2 : Addr) (x3 : Int32) : entryFrame m #[(.ref x0), (.ref x1), (.ref x2), (.int x3)] 11 = mkF m 0 #[.val (.ref x0), .val (.ref x1), .val (.ref x2), .val (.int x3), .unset, .unset, .unset, .unset, .unset, .unset, .unset] [] := by first | (simp [entryFrame, mkF, argsToLocals, Value.category]; done) | rfl
theorem od552 : decode prog_48_method_1_code 0 = .ok (.aload_n 0, 1) := by decide +kernel
theorem od553 : decode prog_48_method_1_code 1 = .ok (.invokespecial 1, 3) := by decide +kernel
theorem od554 : decode prog_48_method_1_code 4 = .ok (.aload_n 0, 1) := by decide +kernel
theorem od555 : decode prog_48_method_1_code 5 = .ok (.iload_n 3, 1) := by decide +kernel
theorem od556 : decode prog_48_method_1_code 6 = .ok (.putfield 7, 3) := by decide +kernel
theorem os61 {Z : State} {a0 : Array Value} (hw : ∀ d ∈ tables_1, d.before a0 Z = true) : Jvm.RoadKit.slotOf Z "com/example/nimble_fusion/nimblefusion/scoring/JudgedRanking" "gradeAt" "[I" ≠ Jvm.RoadKit.slotOf Z "com/example/nimble_fusion/nimblefusion/scoring/JudgedRanking" "relevanceLevel" "I" := slot_ne (Or.inr (ow hw 171 rfl)) (Or.inr (ow hw 157 rfl)) (by decide) (t := (.array .int)) (t' := .int) (by decide) (by decide)
theorem os62 {Z : State} {a0 : Array Value} (hw : ∀ d ∈ tables_1, d.before a0 Z = true) : Jvm.RoadKit.slotOf Z "com/example/nimble_fusion/nimblefusion/scoring/JudgedRanking" "relevantRanks" "[I" ≠ Jvm.RoadKit.slotOf Z "com/example/nimble_fusion/nimblefusion/scoring/JudgedRanking" "relevanceLevel" "I" := slot_ne (Or.inr (ow hw 173 rfl)) (Or.inr (ow hw 157 rfl)) (by decide) (t := (.array .int)) (t' := .int) (by decide) (by decide)
theorem os63 {Z : State} {a0 : Array Value} (hw : ∀ d ∈ tables_1, d.before a0 Z = true) : Jvm.RoadKit.slotOf Z "com/example/nimble_fusion/nimblefusion/scoring/JudgedRanking" "relevant" "I" ≠ Jvm.RoadKit.slotOf Z "com/example/nimble_fusion/nimblefusion/scoring/JudgedRanking" "relevanceLevel" "I" := slot_ne (Or.inr (ow hw 275 rfl)) (Or.inr (ow hw 157 rfl)) (by decide) (t := .int) (t' := .int) (by decide) (by decide)
theorem os64 {Z : State} {a0 : Array Value} (hw : ∀ d ∈ tables_1, d.before a0 Z = true) : Jvm.RoadKit.slotOf Z "com/example/nimble_fusion/nimblefusion/scoring/JudgedRanking" "judgedNonRelevant" "I" ≠ Jvm.RoadKit.slotOf Z "com/example/nimble_fusion/nimblefusion/scoring/JudgedRanking" "relevanceLevel" "I" := slot_ne (Or.inr (ow hw 277 rfl)) (Or.inr (ow hw 157 rfl)) (by decide) (t := .int) (t' := .int) (by decide) (by decide)
theorem os65 {Z : State} {a0 : Array Value} (hw : ∀ d ∈ tables_1, d.before a0 Z = true) : Jvm.RoadKit.slotOf Z "com/example/nimble_fusion/nimblefusion/scoring/JudgedRanking" "positiveGrades" "[I" ≠ Jvm.RoadKit.slotOf Z "com/example/nimble_fusion/nimblefusion/scoring/JudgedRanking" "relevanceLevel" "I" := slot_ne (Or.inr (ow hw 299 rfl)) (Or.inr (ow hw 157 rfl)) (by decide) (t := (.array .int)) (t' := .int) (by decide) (by decide)
theorem od557 : decode prog_48_method_1_code 9 = .ok (.aload_n 0, 1) := by decide +kernel
theorem od558 : decode prog_48_method_1_code 10 = .ok (.aload_n 1, 1) := by decide +kernel
theorem od559 : decode prog_48_method_1_code 11 = .ok (.invokeinterface 13 1, 5) := by decide +kernel
theorem od560 : decode prog_48_method_1_code 16 = .ok (.newarray .int, 2) := by decide +kernel
theorem od561 : decode prog_48_method_1_code 18 = .ok (.putfield 19, 3) := by decide +kernel
theorem os66 {Z : State} {a0 : Array Value} (hw : ∀ d ∈ tables_1, d.before a0 Z = true) : Jvm.RoadKit.slotOf Z "com/example/nimble_fusion/nimblefusion/scoring/JudgedRanking" "relevantRanks" "[I" ≠ Jvm.RoadKit.slotOf Z "com/example/nimble_fusion/nimblefusion/scoring/JudgedRanking" "gradeAt" "[I" := slot_ne (Or.inr (ow hw 173 rfl)) (Or.inr (ow hw 171 rfl)) (by decide) (t := (.array .int)) (t' := (.array .int)) (by decide) (by decide)
theorem os67 {Z : State} {a0 : Array Value} (hw : ∀ d ∈ tables_1, d.before a0 Z = true) : Jvm.RoadKit.slotOf Z "com/example/nimble_fusion/nimblefusion/scoring/JudgedRanking" "relevant" "I" ≠ Jvm.RoadKit.slotOf Z "com/example/nimble_fusion/nimblefusion/scoring/JudgedRanking" "gradeAt" "[I" := slot_ne (Or.inr (ow hw 275 rfl)) (Or.inr (ow hw 171 rfl)) (by decide) (t := .int) (t' := (.array .int)) (by decide) (by decide)
theorem os68 {Z : State} {a0 : Array Value} (hw : ∀ d ∈ tables_1, d.before a0 Z = true) : Jvm.RoadKit.slotOf Z "com/example/nimble_fusion/nimblefusion/scoring/JudgedRanking" "judgedNonRelevant" "I" ≠ Jvm.RoadKit.slotOf Z "com/example/nimble_fusion/nimblefusion/scoring/JudgedRanking" "gradeAt" "[I" := slot_ne (Or.inr (ow hw 277 rfl)) (Or.inr (ow hw 171 rfl)) (by decide) (t := .int) (t' := (.array .int)) (by decide) (by decide)
theorem os69 {Z : State} {a0 : Array Value} (hw : ∀ d ∈ tables_1, d.before a0 Z = true) : Jvm.RoadKit.slotOf Z "com/example/nimble_fusion/nimblefusion/scoring/JudgedRanking" "positiveGrades" "[I" ≠ Jvm.RoadKit.slotOf Z "com/example/nimble_fusion/nimblefusion/scoring/JudgedRanking" "gradeAt" "[I" := slot_ne (Or.inr (ow hw 299 rfl)) (Or.inr (ow hw 171 rfl)) (by decide) (t := (.array .int)) (t' := (.array .int)) (by decide) (by decide)
theorem os70 {Z : State} {a0 : Array Value} (hw : ∀ d ∈ tables_1, d.before a0 Z = true) : Jvm.RoadKit.slotOf Z "com/example/nimble_fusion/nimblefusion/scoring/JudgedRanking" "relevanceLevel" "I" ≠ Jvm.RoadKit.slotOf Z "com/example/nimble_fusion/nimblefusion/scoring/JudgedRanking" "gradeAt" "[I" := slot_ne (Or.inr (ow hw 157 rfl)) (Or.inr (ow hw 171 rfl)) (by decide) (t := .int) (t' := (.array .int)) (by decide) (by decide)
theorem od562 : decode prog_48_method_1_code 21 = .ok (.iconst 0, 1) := by decide +kernel
theorem od563 : decode prog_48_method_1_code 22 = .ok (.istore 4, 2) := by decide +kernel
theorem od564 : decode prog_48_method_1_code 24 = .ok (.iconst 0, 1) := by decide +kernel
theorem od565 : decode prog_48_method_1_code 25 = .ok (.istore 5, 2) := by decide +kernel
theorem od566 : decode prog_48_method_1_code 27 = .ok (.iload 5, 2) := by decide +kernel
theorem od567 : decode prog_48_method_1_code 29 = .ok (.aload_n 0, 1) := by decide +kernel
theorem od568 : decode prog_48_method_1_code 30 = .ok (.getfield 19, 3) := by decide +kernel
theorem od569 : decode prog_48_method_1_code 33 = .ok (.arraylength, 1) := by decide +kernel
theorem od570 : decode prog_48_method_1_code 34 = .ok (.if_icmp .ge 63, 3) := by decide +kernel
theorem od571 : decode prog_48_method_1_code 97 = .ok (.aload_n 0, 1) := by decide +kernel
theorem od572 : decode prog_48_method_1_code 98 = .ok (.iload 4, 2) := by decide +kernel
theorem od573 : decode prog_48_method_1_code 100 = .ok (.newarray .int, 2) := by decide +kernel
theorem od574 : decode prog_48_method_1_code 102 = .ok (.putfield 52, 3) := by decide +kernel
theorem os71 {Z : State} {a0 : Array Value} (hw : ∀ d ∈ tables_1, d.before a0 Z = true) : Jvm.RoadKit.slotOf Z "com/example/nimble_fusion/nimblefusion/scoring/JudgedRanking" "relevant" "I" ≠ Jvm.RoadKit.slotOf Z "com/example/nimble_fusion/nimblefusion/scoring/JudgedRanking" "relevantRanks" "[I" := slot_ne (Or.inr (ow hw 275 rfl)) (Or.inr (ow hw 173 rfl)) (by decide) (t := .int) (t' := (.array .int)) (by decide) (by decide)
theorem os72 {Z : State} {a0 : Array Value} (hw : ∀ d ∈ tables_1, d.before a0 Z = true) : Jvm.RoadKit.slotOf Z "com/example/nimble_fusion/nimblefusion/scoring/JudgedRanking" "judgedNonRelevant" "I" ≠ Jvm.RoadKit.slotOf Z "com/example/nimble_fusion/nimblefusion/scoring/JudgedRanking" "relevantRanks" "[I" := slot_ne (Or.inr (ow hw 277 rfl)) (Or.inr (ow hw 173 rfl)) (by decide) (t := .int) (t' := (.array .int)) (by decide) (by decide)
theorem os73 {Z : State} {a0 : Array Value} (hw : ∀ d ∈ tables_1, d.before a0 Z = true) : Jvm.RoadKit.slotOf Z "com/example/nimble_fusion/nimblefusion/scoring/JudgedRanking" "positiveGrades" "[I" ≠ Jvm.RoadKit.slotOf Z "com/example/nimble_fusion/nimblefusion/scoring/JudgedRanking" "relevantRanks" "[I" := slot_ne (Or.inr (ow hw 299 rfl)) (Or.inr (ow hw 173 rfl)) (by decide) (t := (.array .int)) (t' := (.array .int)) (by decide) (by decide)
theorem os74 {Z : State} {a0 : Array Value} (hw : ∀ d ∈ tables_1, d.before a0 Z = true) : Jvm.RoadKit.slotOf Z "com/example/nimble_fusion/nimblefusion/scoring/JudgedRanking" "relevanceLevel" "I" ≠ Jvm.RoadKit.slotOf Z "com/example/nimble_fusion/nimblefusion/scoring/JudgedRanking" "relevantRanks" "[I" := slot_ne (Or.inr (ow hw 157 rfl)) (Or.inr (ow hw 173 rfl)) (by decide) (t := .int) (t' := (.array .int)) (by decide) (by decide)
theorem os75 {Z : State} {a0 : Array Value} (hw : ∀ d ∈ tables_1, d.before a0 Z = true) : Jvm.RoadKit.slotOf Z "com/example/nimble_fusion/nimblefusion/scoring/JudgedRanking" "gradeAt" "[I" ≠ Jvm.RoadKit.slotOf Z "com/example/nimble_fusion/nimblefusion/scoring/JudgedRanking" "relevantRanks" "[I" := slot_ne (Or.inr (ow hw 171 rfl)) (Or.inr (ow hw 173 rfl)) (by decide) (t := (.array .int)) (t' := (.array .int)) (by decide) (by decide)
theorem od575 : decode prog_48_method_1_code 105 = .ok (.iconst 0, 1) := by decide +kernel
theorem od576 : decode prog_48_method_1_code 106 = .ok (.istore 4, 2) := by decide +kernel
theorem od577 : decode prog_48_method_1_code 108 = .ok (.iconst 1, 1) := by decide +kernel
theorem od578 : decode prog_48_method_1_code 109 = .ok (.istore 5, 2) := by decide +kernel
theorem od579 : decode prog_48_method_1_code 111 = .ok (.iload 5, 2) := by decide +kernel
theorem od580 : decode prog_48_method_1_code 113 = .ok (.aload_n 0, 1) := by decide +kernel
theorem od581 : decode prog_48_method_1_code 114 = .ok (.getfield 19, 3) := by decide +kernel
theorem od582 : decode prog_48_method_1_code 117 = .ok (.arraylength, 1) := by decide +kernel
theorem od583 : decode prog_48_method_1_code 118 = .ok (.if_icmp .gt 30, 3) := by decide +kernel
theorem od584 : decode prog_48_method_1_code 148 = .ok (.iconst 0, 1) := by decide +kernel
theorem od585 : decode prog_48_method_1_code 149 = .ok (.istore 5, 2) := by decide +kernel
theorem od586 : decode prog_48_method_1_code 151 = .ok (.iconst 0, 1) := by decide +kernel
theorem od587 : decode prog_48_method_1_code 152 = .ok (.istore 6, 2) := by decide +kernel
theorem od588 : decode prog_48_method_1_code 154 = .ok (.aload_n 2, 1) := by decide +kernel
theorem od589 : decode prog_48_method_1_code 155 = .ok (.invokeinterface 58 1, 5) := by decide +kernel
theorem own_pd20 : parseMethodDescriptor "()Ljava/util/Collection;" = some ⟨[], some (.object "java/util/Collection")⟩ := by decide +kernel
theorem od590 : decode prog_48_method_1_code 160 = .ok (.invokeinterface 62 1, 5) := by decide +kernel
theorem own_pd21 : parseMethodDescriptor "()Ljava/util/Iterator;" = some ⟨[], some (.object "java/util/Iterator")⟩ := by decide +kernel
theorem od591 : decode prog_48_method_1_code 165 = .ok (.astore 7, 2) := by decide +kernel
theorem od592 : decode prog_48_method_1_code 167 = .ok (.aload 7, 2) := by decide +kernel
theorem od593 : decode prog_48_method_1_code 169 = .ok (.invokeinterface 68 1, 5) := by decide +kernel
theorem od594 : decode prog_48_method_1_code 174 = .ok (.ifCond .eq 48, 3) := by decide +kernel
theorem od595 : decode prog_48_method_1_code 177 = .ok (.aload 7, 2) := by decide +kernel
theorem od596 : decode prog_48_method_1_code 179 = .ok (.invokeinterface 74 1, 5) := by decide +kernel
theorem own_pd22 : parseMethodDescriptor "()Ljava/lang/Object;" = some ⟨[], some (.object "java/lang/Object")⟩ := by decide +kernel
theorem od597 : decode prog_48_method_1_code 184 = .ok (.checkcast 34, 3) := by decide +kernel
theorem od598 : decode prog_48_method_1_code 187 = .ok (.invokevirtual 45, 3) := by decide +kernel
theorem od599 : decode prog_48_method_1_code 190 = .ok (.istore 8, 2) := by decide +kernel
theorem od600 : decode prog_48_method_1_code 192 = .ok (.aload_n 0, 1) := by decide +kernel
theorem od601 : decode prog_48_method_1_code 193 = .ok (.iload 8, 2) := by decide +kernel
theorem od602 : decode prog_48_method_1_code 195 = .ok (.invokevirtual 48, 3) := by decide +kernel
theorem od603 : decode prog_48_method_1_code 219 = .ok (.goto (-52), 3) := by decide +kernel
theorem od604 : decode prog_48_method_1_code 222 = .ok (.aload_n 0, 1) := by decide +kernel
theorem od605 : decode prog_48_method_1_code 223 = .ok (.iload 5, 2) := by decide +kernel
theorem od606 : decode prog_48_method_1_code 225 = .ok (.putfield 81, 3) := by decide +kernel
theorem os76 {Z : State} {a0 : Array Value} (hw : ∀ d ∈ tables_1, d.before a0 Z = true) : Jvm.RoadKit.slotOf Z "com/example/nimble_fusion/nimblefusion/scoring/JudgedRanking" "judgedNonRelevant" "I" ≠ Jvm.RoadKit.slotOf Z "com/example/nimble_fusion/nimblefusion/scoring/JudgedRanking" "relevant" "I" := slot_ne (Or.inr (ow hw 277 rfl)) (Or.inr (ow hw 275 rfl)) (by decide) (t := .int) (t' := .int) (by decide) (by decide)
theorem os77 {Z : State} {a0 : Array Value} (hw : ∀ d ∈ tables_1, d.before a0 Z = true) : Jvm.RoadKit.slotOf Z "com/example/nimble_fusion/nimblefusion/scoring/JudgedRanking" "positiveGrades" "[I" ≠ Jvm.RoadKit.slotOf Z "com/example/nimble_fusion/nimblefusion/scoring/JudgedRanking" "relevant" "I" := slot_ne (Or.inr (ow hw 299 rfl)) (Or.inr (ow hw 275 rfl)) (by decide) (t := (.array .int)) (t' := .int) (by decide) (by decide)
theorem od607 : decode prog_48_method_1_code 228 = .ok (.aload_n 0, 1) := by decide +kernel
theorem od608 : decode prog_48_method_1_code 229 = .ok (.iload 6, 2) := by decide +kernel
theorem od609 : decode prog_48_method_1_code 231 = .ok (.putfield 84, 3) := by decide +kernel
theorem os78 {Z : State} {a0 : Array Value} (hw : ∀ d ∈ tables_1, d.before a0 Z = true) : Jvm.RoadKit.slotOf Z "com/example/nimble_fusion/nimblefusion/scoring/JudgedRanking" "positiveGrades" "[I" ≠ Jvm.RoadKit.slotOf Z "com/example/nimble_fusion/nimblefusion/scoring/JudgedRanking" "judgedNonRelevant" "I" := slot_ne (Or.inr (ow hw 299 rfl)) (Or.inr (ow hw 277 rfl)) (by decide) (t := (.array .int)) (t' := .int) (by decide) (by decide)
theorem od610 : decode prog_48_method_1_code 234 = .ok (.aload_n 2, 1) := by decide +kernel
theorem od611 : decode prog_48_method_1_code 235 = .ok (.invokeinterface 87 1, 5) := by decide +kernel
theorem od612 : decode prog_48_method_1_code 240 = .ok (.newarray .int, 2) := by decide +kernel
theorem od613 : decode prog_48_method_1_code 242 = .ok (.astore 7, 2) := by decide +kernel
theorem od614 : decode prog_48_method_1_code 244 = .ok (.iconst 0, 1) := by decide +kernel
theorem od615 : decode prog_48_method_1_code 245 = .ok (.istore 8, 2) := by decide +kernel
theorem od616 : decode prog_48_method_1_code 247 = .ok (.aload_n 2, 1) := by decide +kernel
theorem od617 : decode prog_48_method_1_code 248 = .ok (.invokeinterface 58 1, 5) := by decide +kernel
theorem od618 : decode prog_48_method_1_code 253 = .ok (.invokeinterface 62 1, 5) := by decide +kernel
theorem od619 : decode prog_48_method_1_code 258 = .ok (.astore 9, 2) := by decide +kernel
theorem od620 : decode prog_48_method_1_code 260 = .ok (.aload 9, 2) := by decide +kernel
theorem od621 : decode prog_48_method_1_code 262 = .ok (.invokeinterface 68 1, 5) := by decide +kernel
theorem od622 : decode prog_48_method_1_code 267 = .ok (.ifCond .eq 36, 3) := by decide +kernel
theorem od623 : decode prog_48_method_1_code 270 = .ok (.aload 9, 2) := by decide +kernel
theorem od624 : decode prog_48_method_1_code 272 = .ok (.invokeinterface 74 1, 5) := by decide +kernel
theorem od625 : decode prog_48_method_1_code 277 = .ok (.checkcast 34, 3) := by decide +kernel
theorem od626 : decode prog_48_method_1_code 280 = .ok (.invokevirtual 45, 3) := by decide +kernel
theorem od627 : decode prog_48_method_1_code 283 = .ok (.istore 10, 2) := by decide +kernel
theorem od628 : decode prog_48_method_1_code 285 = .ok (.iload 10, 2) := by decide +kernel
theorem od629 : decode prog_48_method_1_code 287 = .ok (.ifCond .le 13, 3) := by decide +kernel
theorem od630 : decode prog_48_method_1_code 290 = .ok (.aload 7, 2) := by decide +kernel
theorem od631 : decode prog_48_method_1_code 292 = .ok (.iload 8, 2) := by decide +kernel
theorem od632 : decode prog_48_method_1_code 294 = .ok (.iload 10, 2) := by decide +kernel
theorem od633 : decode prog_48_method_1_code 296 = .ok (.iastore, 1) := by decide +kernel
theorem od634 : decode prog_48_method_1_code 297 = .ok (.iinc 8 1, 3) := by decide +kernel
theorem od635 : decode prog_48_method_1_code 300 = .ok (.goto (-40), 3) := by decide +kernel
theorem od636 : decode prog_48_method_1_code 303 = .ok (.aload_n 0, 1) := by decide +kernel
theorem od637 : decode prog_48_method_1_code 304 = .ok (.aload 7, 2) := by decide +kernel
theorem od638 : decode prog_48_method_1_code 306 = .ok (.iload 8, 2) := by decide +kernel
theorem od639 : decode prog_48_method_1_code 308 = .ok (.invokestatic 88, 3) := by decide +kernel
theorem own_pd23 : parseMethodDescriptor "([II)[I" = some ⟨[(.array .int), .int], some (.array .int)⟩ := by decide +kernel
theorem od640 : decode prog_48_method_1_code 311 = .ok (.putfield 94, 3) := by decide +kernel
theorem od641 : decode prog_48_method_1_code 314 = .ok (.aload_n 0, 1) := by decide +kernel
theorem od642 : decode prog_48_method_1_code 315 = .ok (.getfield 94, 3) := by decide +kernel
theorem od643 : decode prog_48_method_1_code 318 = .ok (.invokestatic 97, 3) := by decide +kernel
theorem own_pd24 : parseMethodDescriptor "([I)V" = some ⟨[(.array .int)], none⟩ := by decide +kernel
theorem od644 : decode prog_48_method_1_code 321 = .ok (.return_, 1) := by decide +kernel
theorem own_pd25 : parseMethodDescriptor "(I)Z" = some ⟨[.int], some .boolean⟩ := by decide +kernel
theorem od645 : decode prog_48_method_1_code 198 = .ok (.ifCond .eq 9, 3) := by decide +kernel
theorem od646 : decode prog_48_method_1_code 207 = .ok (.aload_n 0, 1) := by decide +kernel
theorem od647 : decode prog_48_method_1_code 208 = .ok (.iload 8, 2) := by decide +kernel
theorem od648 : decode prog_48_method_1_code 210 = .ok (.invokevirtual 78, 3) := by decide +kernel
theorem od649 : decode prog_48_method_1_code 213 = .ok (.ifCond .eq 6, 3) := by decide +kernel
theorem od650 : decode prog_48_method_1_code 216 = .ok (.iinc 6 1, 3) := by decide +kernel
theorem od651 : decode prog_48_method_1_code 201 = .ok (.iinc 5 1, 3) := by decide +kernel
theorem od652 : decode prog_48_method_1_code 204 = .ok (.goto 15, 3) := by decide +kernel
theorem od653 : decode prog_48_method_11_code 0 = .ok (.aload_n 0, 1) := by decide +kernel
theorem od654 : decode prog_48_method_11_code 1 = .ok (.getfield 94, 3) := by decide +kernel
theorem od655 : decode prog_48_method_11_code 4 = .ok (.arraylength, 1) := by decide +kernel
theorem od656 : decode prog_48_method_11_code 5 = .ok (.ireturn, 1) := by decide +kernel
theorem od657 : decode prog_48_method_12_code 0 = .ok (.aload_n 0, 1) := by decide +kernel
theorem od658 : decode prog_48_method_12_code 1 = .ok (.getfield 94, 3) := by decide +kernel
theorem od659 : decode prog_48_method_12_code 4 = .ok (.aload_n 0, 1) := by decide +kernel
theorem od660 : decode prog_48_method_12_code 5 = .ok (.getfield 94, 3) := by decide +kernel
theorem od661 : decode prog_48_method_12_code 8 = .ok (.arraylength, 1) := by decide +kernel
theorem od662 : decode prog_48_method_12_code 9 = .ok (.iload_n 1, 1) := by decide +kernel
theorem od663 : decode prog_48_method_12_code 10 = .ok (.isub, 1) := by decide +kernel
theorem od664 : decode prog_48_method_12_code 11 = .ok (.iaload, 1) := by decide +kernel
theorem od665 : decode prog_48_method_12_code 12 = .ok (.ireturn, 1) := by decide +kernel
theorem own_pn16 : plainName "com/example/nimble_fusion/nimblefusion/scoring/JudgedRankingIdealGradePinLaw" = true := by first | (simp [plainName, overriddenIn]; done) | decide +kernel
theorem own_ef18 (m : MethodId) (x0 : Int32) (x1 : Int32) (x2 : Int32) (x3 : Int32) : entryFrame m #[(.int x0), (.int x1), (.int x2), (.int x3)] maxLocals = mkF m 0 #[.val (.int x0), .val (.int x1), .val (.int x2), .val (.int x3), .unset, .unset, .unset, .unset, .unset, .unset, .unset, .unset, .unset, .unset, .unset] [] := by first | (simp [entryFrame, mkF, argsToLocals, Value.category, maxLocals]; done) | rfl
theorem own_pd26 : parseMethodDescriptor "(C)Ljava/lang/String;" = some ⟨[.char], some (.object "java/lang/String")⟩ := by decide +kernel
theorem own_pd27 : parseMethodDescriptor "(I)Ljava/lang/Integer;" = some ⟨[.int], some (.object "java/lang/Integer")⟩ := by decide +kernel
theorem own_pd28 : parseMethodDescriptor "(Ljava/lang/Object;Ljava/lang/Object;)Ljava/lang/Object;" = some ⟨[(.object "java/lang/Object"), (.object "java/lang/Object")], some (.object "java/lang/Object")⟩ := by decide +kernel
theorem own_pd29 : parseMethodDescriptor "(Ljava/util/List;Ljava/util/Map;I)V" = some ⟨[(.object "java/util/List"), (.object "java/util/Map"), .int], none⟩ := by decide +kernel
theorem own_pd30 : parseMethodDescriptor "(I)I" = some ⟨[.int], some .int⟩ := by decide +kernel
theorem own_Sk {Z : State} {h h' : Heap} {C n d : String} {v : Value} {ws : List Addr} (S : Sta Z h C n d v) (G : Keep h h' ws) (q : ∀ x ∈ ws, ∃ c : Cell, h[x]? = some c ∧ c.vm.isStatics = false) : Sta Z h' C n d v := by
  obtain ⟨cf, i, k, f, st, cell, h1, h2, h3, h4, h5, h6, h7⟩ := S
  refine ⟨cf, i, k, f, st, cell, h1, h2, h3, h4, G.2.1 st cell h5 (fun r => ?_), h6, h7⟩
  obtain ⟨c, e1, e2⟩ := q st r
  cases h5.symm.trans e1; rw [h6] at e2; cases e2
def own_mx (x y : Int32) : Int32 := if x < y then y else x
def own_mn (x y : Int32) : Int32 := if y < x then y else x
def own_Qn  (h0 : Heap) (n0 : Nat) (v : Option Value) (h : Heap) (L : List Loc) : Prop := v = none ∧ Fr n0 L ∧ h = h0
def own_Qr (r : Addr) (h0 : Heap) (n0 : Nat) (v : Option Value) (h : Heap) (L : List Loc) : Prop := v = some (.ref r) ∧ Fr n0 L ∧ h = h0
def own_Qz (z : Int32) (h0 : Heap) (n0 : Nat) (v : Option Value) (h : Heap) (L : List Loc) : Prop := v = some (.int z) ∧ Fr n0 L ∧ h = h0
def own_Qe  (h0 : Heap) (n0 : Nat) (v : Option Value) (h : Heap) (L : List Loc) : Prop := ∃ z : Int32, v = some (.int z) ∧ Fr n0 L ∧ h = h0
def own_Qi (Z : State) (a : Addr) (h0 : Heap) (n0 : Nat) (v : Option Value) (h : Heap) (L : List Loc) : Prop := v = none ∧ Fr n0 L ∧ Keep h0 h [a] ∧ Exa Z h a "java/util/ArrayList" ∧ Fld Z h a "java/util/AbstractList" "modCount" "I" (.int 0) ∧ Fld Z h a "java/util/ArrayList" "elementData" "[Ljava/lang/Object;" .null ∧ Fld Z h a "java/util/ArrayList" "size" "I" (.int 0)
def own_Qj (Z : State) (a : Addr) (h0 : Heap) (n0 : Nat) (v : Option Value) (h : Heap) (L : List Loc) : Prop := v = none ∧ Fr n0 L ∧ Keep h0 h [a] ∧ Exa Z h a "java/util/ArrayList" ∧ Fld Z h a "java/util/ArrayList" "size" "I" (.int 0)
def own_H (Z : State) (h : Heap) (m : Addr) (tb : Value) (sz mc th : Int32) (vs : Value) : Prop := Exa Z h m "java/util/HashMap" ∧ Fld Z h m "java/util/HashMap" "table" "[Ljava/util/HashMap$Node;" tb ∧ Fld Z h m "java/util/HashMap" "size" "I" (.int sz) ∧ Fld Z h m "java/util/HashMap" "modCount" "I" (.int mc) ∧ Fld Z h m "java/util/HashMap" "threshold" "I" (.int th) ∧ Fld Z h m "java/util/AbstractMap" "values" "Ljava/util/Collection;" vs
def own_S (Z : State) (h : Heap) (x ar : Addr) (hs : Int32) : Prop := Exa Z h x "java/lang/String" ∧ Fld Z h x "java/lang/String" "value" "[B" (.ref ar) ∧ Fld Z h x "java/lang/String" "coder" "B" (.int 0) ∧ Fld Z h x "java/lang/String" "hash" "I" (.int hs) ∧ Fld Z h x "java/lang/String" "hashIsZero" "Z" (.int 0)
def own_Qh (Z : State) (m : Addr) (tb : Value) (sz mc th : Int32) (vs : Value) (h0 : Heap) (n0 : Nat) (v : Option Value) (h : Heap) (L : List Loc) : Prop := v = none ∧ Fr n0 L ∧ Keep h0 h [m] ∧ own_H Z h m tb sz mc th vs
def own_Qt (Z : State) (c : Int32) (h0 : Heap) (n0 : Nat) (v : Option Value) (h : Heap) (L : List Loc) : Prop := ∃ r k, v = some (.ref r) ∧ Fr n0 L ∧ Keep h0 h [] ∧ Arv Z h r k .byte 1 [.int c] (.int 0) ∧ h0.size ≤ r
def own_Qs (Z : State) (x ar : Addr) (h0 : Heap) (n0 : Nat) (v : Option Value) (h : Heap) (L : List Loc) : Prop := v = none ∧ Fr n0 L ∧ Keep h0 h [x] ∧ own_S Z h x ar 0
def own_Qc (Z : State) (c : Int32) (h0 : Heap) (n0 : Nat) (v : Option Value) (h : Heap) (L : List Loc) : Prop := ∃ x ar k, v = some (.ref x) ∧ Fr n0 L ∧ Keep h0 h [] ∧ own_S Z h x ar 0 ∧ Arv Z h ar k .byte 1 [.int c] (.int 0) ∧ h0.size ≤ x
def own_Qb (Z : State) (g : Int32) (h0 : Heap) (n0 : Nat) (v : Option Value) (h : Heap) (L : List Loc) : Prop := ∃ r, v = some (.ref r) ∧ Fr n0 L ∧ Keep h0 h [] ∧ Exa Z h r "java/lang/Integer" ∧ Fld Z h r "java/lang/Integer" "value" "I" (.int g)
def own_Qf (Z : State) (r : Addr) (g : Int32) (h0 : Heap) (n0 : Nat) (v : Option Value) (h : Heap) (L : List Loc) : Prop := v = none ∧ Fr n0 L ∧ Keep h0 h [r] ∧ Exa Z h r "java/lang/Integer" ∧ Fld Z h r "java/lang/Integer" "value" "I" (.int g)
def own_Qx (x : Addr) (c : Int32) (h0 : Heap) (n0 : Nat) (v : Option Value) (h : Heap) (L : List Loc) : Prop := v = some (.int c) ∧ Fr n0 L ∧ Keep h0 h [x]
def own_N (Z : State) (h : Heap) (nd vl : Addr) : Prop := Exa Z h nd "java/util/HashMap$Node" ∧ Fld Z h nd "java/util/HashMap$Node" "value" "Ljava/lang/Object;" (.ref vl) ∧ Fld Z h nd "java/util/HashMap$Node" "next" "Ljava/util/HashMap$Node;" .null
def own_Qo (Z : State) (nd vl : Addr) (h0 : Heap) (n0 : Nat) (v : Option Value) (h : Heap) (L : List Loc) : Prop := v = none ∧ Fr n0 L ∧ Keep h0 h [nd] ∧ own_N Z h nd vl
def own_Qw (Z : State) (vl : Addr) (h0 : Heap) (n0 : Nat) (v : Option Value) (h : Heap) (L : List Loc) : Prop := ∃ nd, v = some (.ref nd) ∧ Fr n0 L ∧ Keep h0 h [] ∧ own_N Z h nd vl ∧ h0.size ≤ nd
def own_Qg (Z : State) (m : Addr) (vs : Value) (h0 : Heap) (n0 : Nat) (v : Option Value) (h : Heap) (L : List Loc) : Prop := ∃ tb k, v = some (.ref tb) ∧ Fr n0 L ∧ Keep h0 h [m] ∧ own_H Z h m (.ref tb) 0 0 12 vs ∧ Arv Z h tb k (.object "java/util/HashMap$Node") 16 [.null, .null, .null, .null, .null, .null, .null, .null, .null, .null, .null, .null, .null, .null, .null, .null] .null ∧ Ovr Z k "java/util/HashMap$Node" ∧ h0.size ≤ tb
def own_Qp1 (Z : State) (ws : List Addr) (m vl : Addr) (vs : Value) (h0 : Heap) (n0 : Nat) (v : Option Value) (h : Heap) (L : List Loc) : Prop := v = some .null ∧ Fr n0 L ∧ Keep h0 h ws ∧ ∃ tb k nd, own_H Z h m (.ref tb) 1 1 12 vs ∧ Arv Z h tb k (.object "java/util/HashMap$Node") 16 [.null, .ref nd, .null, .null, .null, .null, .null, .null, .null, .null, .null, .null, .null, .null, .null, .null] .null ∧ Ovr Z k "java/util/HashMap$Node" ∧ own_N Z h nd vl ∧ h0.size ≤ tb ∧ h0.size ≤ nd
def own_Qp2 (Z : State) (ws : List Addr) (m tb : Addr) (k : ClassId) (n1 vl : Addr) (vs : Value) (h0 : Heap) (n0 : Nat) (v : Option Value) (h : Heap) (L : List Loc) : Prop := v = some .null ∧ Fr n0 L ∧ Keep h0 h ws ∧ ∃ nd, own_H Z h m (.ref tb) 2 2 12 vs ∧ Arv Z h tb k (.object "java/util/HashMap$Node") 16 [.null, .ref n1, .ref nd, .null, .null, .null, .null, .null, .null, .null, .null, .null, .null, .null, .null, .null] .null ∧ own_N Z h nd vl ∧ h0.size ≤ nd
def own_Qp3 (Z : State) (ws : List Addr) (m tb : Addr) (k : ClassId) (n1 n2 vl : Addr) (vs : Value) (h0 : Heap) (n0 : Nat) (v : Option Value) (h : Heap) (L : List Loc) : Prop := v = some .null ∧ Fr n0 L ∧ Keep h0 h ws ∧ ∃ nd, own_H Z h m (.ref tb) 3 3 12 vs ∧ Arv Z h tb k (.object "java/util/HashMap$Node") 16 [.null, .ref n1, .ref n2, .ref nd, .null, .null, .null, .null, .null, .null, .null, .null, .null, .null, .null, .null] .null ∧ own_N Z h nd vl ∧ h0.size ≤ nd
theorem own_nf {Z s : State} {a0 : Array Value} {C n d n' d' : String} {x : MethodName} (hZ : Z.Warmed39 s.vm) (w : (Cond.selects C x ⟨"java/lang/Object", n, d⟩).before a0 Z = true) : NotFace s ⟨"java/lang/Object", n', d'⟩ := fun r0 h0 => by
  obtain ⟨c, r, m, h1, h2, h3, h4, k, h5, h6⟩ := Cond.selects_spec (show (Cond.selects C x ⟨"java/lang/Object", n, d⟩).before #[] s = true from mvT hZ w)
  have e1 := findClass_of_methodNamed h0
  have e2 := findClass_of_methodNamed h3
  have e3 : r0.cls = m.cls := Option.some.inj (e1.symm.trans e2)
  rw [e3]
  exact ⟨k, h5, h6⟩
theorem own_cidx {x : Int32} (h1 : ¬ x < -128) (h2 : ¬ (127 : Int32) < x) : ¬ (x + 128 < 0) ∧ x + 128 < 256 ∧ x + 128 - 128 = x := by
  have a := c_iadd x 128
  have b := rng32 (x + 128)
  have c := rng32 x
  have e0 : (0 : Int32).toInt = 0 := by decide
  have e1 : (128 : Int32).toInt = 128 := by decide
  have e2 : (256 : Int32).toInt = 256 := by decide
  have e3 : (-128 : Int32).toInt = -128 := by decide
  have e4 : (127 : Int32).toInt = 127 := by decide
  simp only [Int32.lt_iff_toInt_lt] at h1 h2 ⊢
  refine ⟨by omega, by omega, ?_⟩
  exact Int32.add_sub_cancel x 128
def own_Qv (Z : State) (hm tb : Addr) (h0 : Heap) (n0 : Nat) (v : Option Value) (h : Heap) (L : List Loc) : Prop := ∃ vs, v = some (.ref vs) ∧ Fr n0 L ∧ Keep h0 h [hm] ∧ own_H Z h hm (.ref tb) 3 3 12 (.ref vs) ∧ Exa Z h vs "java/util/HashMap$Values" ∧ Fld Z h vs "java/util/HashMap$Values" "this$0" "Ljava/util/HashMap;" (.ref hm) ∧ h0.size ≤ vs
def own_Qk (Z : State) (x hm : Addr) (h0 : Heap) (n0 : Nat) (v : Option Value) (h : Heap) (L : List Loc) : Prop := v = none ∧ Fr n0 L ∧ Keep h0 h [x] ∧ Exa Z h x "java/util/HashMap$Values" ∧ Fld Z h x "java/util/HashMap$Values" "this$0" "Ljava/util/HashMap;" (.ref hm)
def own_I (Z : State) (h : Heap) (it hm : Addr) (nx cu : Value) (ix : Int32) : Prop := Exa Z h it "java/util/HashMap$ValueIterator" ∧ Fld Z h it "java/util/HashMap$HashIterator" "this$0" "Ljava/util/HashMap;" (.ref hm) ∧ Fld Z h it "java/util/HashMap$HashIterator" "expectedModCount" "I" (.int 3) ∧ Fld Z h it "java/util/HashMap$HashIterator" "next" "Ljava/util/HashMap$Node;" nx ∧ Fld Z h it "java/util/HashMap$HashIterator" "current" "Ljava/util/HashMap$Node;" cu ∧ Fld Z h it "java/util/HashMap$HashIterator" "index" "I" (.int ix)
def own_Ql (Z : State) (it hm n1 : Addr) (h0 : Heap) (n0 : Nat) (v : Option Value) (h : Heap) (L : List Loc) : Prop := v = none ∧ Fr n0 L ∧ Keep h0 h [it] ∧ own_I Z h it hm (.ref n1) .null 2
def own_Qy (Z : State) (hm n1 : Addr) (h0 : Heap) (n0 : Nat) (v : Option Value) (h : Heap) (L : List Loc) : Prop := ∃ it, v = some (.ref it) ∧ Fr n0 L ∧ Keep h0 h [] ∧ own_I Z h it hm (.ref n1) .null 2 ∧ h0.size ≤ it
def own_Qu (Z : State) (r it hm : Addr) (nx cu : Value) (ix : Int32) (h0 : Heap) (n0 : Nat) (v : Option Value) (h : Heap) (L : List Loc) : Prop := v = some (.ref r) ∧ Fr n0 L ∧ Keep h0 h [it] ∧ own_I Z h it hm nx cu ix
def own_Qa (Z : State) (n : Int32) (vs : List Value) (h0 : Heap) (n0 : Nat) (v : Option Value) (h : Heap) (L : List Loc) : Prop := ∃ r k, v = some (.ref r) ∧ Fr n0 L ∧ Keep h0 h [] ∧ Arv Z h r k .int n vs (.int (0 : Int32)) ∧ h0.size ≤ r
def own_s2 (x y : Int32) : List Value := if y < x then [.int y, .int x] else [.int x, .int y]
def own_t3 (p q z : Int32) : List Value := if z < q then (if z < p then [.int z, .int p, .int q] else [.int p, .int z, .int q]) else [.int p, .int q, .int z]
def own_s3 (x y z : Int32) : List Value := if y < x then own_t3 y x z else own_t3 x y z
def own_Qq (Z : State) (a : Addr) (k : ClassId) (n : Int32) (vs : List Value) (h0 : Heap) (n0 : Nat) (v : Option Value) (h : Heap) (L : List Loc) : Prop := v = none ∧ Fr n0 L ∧ Keep h0 h [a] ∧ Arv Z h a k .int n vs (.int (0 : Int32))
theorem own_mxI (x y : Int32) : (own_mx x y).toInt = max x.toInt y.toInt := by
  unfold own_mx; split <;> rename_i h <;> rw [Int32.lt_iff_toInt_lt] at h <;> omega
theorem own_mnI (x y : Int32) : (own_mn x y).toInt = min x.toInt y.toInt := by
  unfold own_mn; split <;> rename_i h <;> rw [Int32.lt_iff_toInt_lt] at h <;> omega
theorem own_0I : (0 : Int32).toInt = 0 := by decide
theorem own_s2_eq (x y : Int32) : own_s2 x y = [.int (own_mn x y), .int (own_mx x y)] := by
  unfold own_s2; split <;> rename_i h <;> rw [Int32.lt_iff_toInt_lt] at h <;> simp only [List.cons.injEq, Value.int.injEq, and_true, ← Int32.toInt_inj, own_mxI, own_mnI] <;> omega
theorem own_t3_eq (x y z : Int32) (h0 : ¬ y < x) : own_t3 x y z = [.int (own_mn x (own_mn y z)), .int (own_mx (own_mn x y) (own_mn (own_mx x y) z)), .int (own_mx x (own_mx y z))] := by
  rw [Int32.lt_iff_toInt_lt] at h0
  unfold own_t3; split <;> rename_i h <;> rw [Int32.lt_iff_toInt_lt] at h
  · split <;> rename_i h' <;> rw [Int32.lt_iff_toInt_lt] at h' <;> simp only [List.cons.injEq, Value.int.injEq, and_true, ← Int32.toInt_inj, own_mxI, own_mnI] <;> omega
  · simp only [List.cons.injEq, Value.int.injEq, and_true, ← Int32.toInt_inj, own_mxI, own_mnI]; omega
theorem own_s3_eq (x y z : Int32) : own_s3 x y z = [.int (own_mn x (own_mn y z)), .int (own_mx (own_mn x y) (own_mn (own_mx x y) z)), .int (own_mx x (own_mx y z))] := by
  unfold own_s3; split
  · rename_i h
    have h1 : ¬ x < y := by rw [Int32.lt_iff_toInt_lt] at h ⊢; omega
    rw [own_t3_eq y x z h1]; rw [Int32.lt_iff_toInt_lt] at h
    simp only [List.cons.injEq, Value.int.injEq, and_true, ← Int32.toInt_inj, own_mxI, own_mnI]; omega
  · rename_i h; exact own_t3_eq x y z h
def own_R (ga gb gc n : Int32) (vs : List Value) : Prop := (((0 : Int32) < ga) ∧ ((0 : Int32) < gb) ∧ ((0 : Int32) < gc) ∧ n = (3 : Int32) ∧ vs = [.int (own_mn ga (own_mn gb gc)), .int (own_mx (own_mn ga gb) (own_mn (own_mx ga gb) gc)), .int (own_mx ga (own_mx gb gc))]) ∨ (((0 : Int32) < ga) ∧ ((0 : Int32) < gb) ∧ (¬ (0 : Int32) < gc) ∧ n = (2 : Int32) ∧ vs = [.int (own_mn ga gb), .int (own_mx ga gb)]) ∨ (((0 : Int32) < ga) ∧ (¬ (0 : Int32) < gb) ∧ ((0 : Int32) < gc) ∧ n = (2 : Int32) ∧ vs = [.int (own_mn ga gc), .int (own_mx ga gc)]) ∨ (((0 : Int32) < ga) ∧ (¬ (0 : Int32) < gb) ∧ (¬ (0 : Int32) < gc) ∧ n = (1 : Int32) ∧ vs = [.int ga]) ∨ ((¬ (0 : Int32) < ga) ∧ ((0 : Int32) < gb) ∧ ((0 : Int32) < gc) ∧ n = (2 : Int32) ∧ vs = [.int (own_mn gb gc), .int (own_mx gb gc)]) ∨ ((¬ (0 : Int32) < ga) ∧ ((0 : Int32) < gb) ∧ (¬ (0 : Int32) < gc) ∧ n = (1 : Int32) ∧ vs = [.int gb]) ∨ ((¬ (0 : Int32) < ga) ∧ (¬ (0 : Int32) < gb) ∧ ((0 : Int32) < gc) ∧ n = (1 : Int32) ∧ vs = [.int gc]) ∨ ((¬ (0 : Int32) < ga) ∧ (¬ (0 : Int32) < gb) ∧ (¬ (0 : Int32) < gc) ∧ n = (0 : Int32) ∧ vs = [])
def own_NB (Z : State) (h : Heap) (nd vl : Addr) (g : Int32) : Prop := own_N Z h nd vl ∧ Exa Z h vl "java/lang/Integer" ∧ Fld Z h vl "java/lang/Integer" "value" "I" (.int g)
section
variable {Z : State} {h h' : Heap} {nd vl hm a : Addr} {g sz mc th : Int32} {tb vs v : Value} {sl : Nat} {ws : List Addr}
theorem own_NB.ext (F : own_NB Z h nd vl g) (E : Ext h h') : own_NB Z h' nd vl g := ⟨⟨F.1.1.ext E, F.1.2.1.ext E, F.1.2.2.ext E⟩, F.2.1.ext E, F.2.2.ext E⟩
theorem own_NB.keep (F : own_NB Z h nd vl g) (K : Keep h h' ws) (q : nd ∉ ws) (r : vl ∉ ws) : own_NB Z h' nd vl g := ⟨⟨F.1.1.keep K, F.1.2.1.keep K q, F.1.2.2.keep K q⟩, F.2.1.keep K, F.2.2.keep K r⟩
theorem own_NB.other (F : own_NB Z h nd vl g) (W : Wr h h' a sl v) (q : nd ≠ a) (r : vl ≠ a) : own_NB Z h' nd vl g := F.keep (Keep.of_wr W) (ninS q nin0) (ninS r nin0)
theorem own_H.ext (F : own_H Z h hm tb sz mc th vs) (E : Ext h h') : own_H Z h' hm tb sz mc th vs := ⟨F.1.ext E, F.2.1.ext E, F.2.2.1.ext E, F.2.2.2.1.ext E, F.2.2.2.2.1.ext E, F.2.2.2.2.2.ext E⟩
theorem own_H.keep (F : own_H Z h hm tb sz mc th vs) (K : Keep h h' ws) (q : hm ∉ ws) : own_H Z h' hm tb sz mc th vs := ⟨F.1.keep K, F.2.1.keep K q, F.2.2.1.keep K q, F.2.2.2.1.keep K q, F.2.2.2.2.1.keep K q, F.2.2.2.2.2.keep K q⟩
theorem own_H.other (F : own_H Z h hm tb sz mc th vs) (W : Wr h h' a sl v) (q : hm ≠ a) : own_H Z h' hm tb sz mc th vs := F.keep (Keep.of_wr W) (ninS q nin0)
end
def own_Qjr (Z : State) (j : Addr) (ga gb gc : Int32) (h0 : Heap) (n0 : Nat) (v : Option Value) (h : Heap) (L : List Loc) : Prop := v = none ∧ Fr n0 L ∧ Exa Z h j "com/example/nimble_fusion/nimblefusion/scoring/JudgedRanking" ∧ ∃ pg k n vs, Fld Z h j "com/example/nimble_fusion/nimblefusion/scoring/JudgedRanking" "positiveGrades" "[I" (.ref pg) ∧ Arv Z h pg k .int n vs (.int (0 : Int32)) ∧ own_R ga gb gc n vs
def own_Q0 (n0 : Nat) (v : Option Value) (h : Heap) (L : List Loc) : Prop := v = some (.int (1 : Int32)) ∧ Fr n0 L
def own_P (x a one : Int32) : Prop := ((0 : Int32) < x ∧ a = one) ∨ (¬ (0 : Int32) < x ∧ a = 0)
theorem own_P.y {x a one : Int32} (h : own_P x a one) (q : (0 : Int32) < x) : a = one := h.elim (·.2) (fun r => absurd q r.1)
theorem own_P.n {x a one : Int32} (h : own_P x a one) (q : ¬ (0 : Int32) < x) : a = 0 := h.elim (fun r => absurd r.1 q) (·.2)
def own_F (cnt hi lo mi n : Int32) (vs : List Value) : Prop := (n = 0 ∧ cnt = 0 ∧ vs = []) ∨ (n = 1 ∧ cnt = 1 ∧ vs = [.int hi]) ∨ (n = 2 ∧ cnt = 2 ∧ vs = [.int mi, .int hi]) ∨ (n = 3 ∧ cnt = 3 ∧ vs = [.int lo, .int mi, .int hi])
theorem own_fin {ga gb gc n ya yb yc ea eb ec : Int32} {vs : List Value} (R : own_R ga gb gc n vs) (hya : own_P ga ya ga) (hyb : own_P gb yb gb) (hyc : own_P gc yc gc) (hea : own_P ga ea 1) (heb : own_P gb eb 1) (hec : own_P gc ec 1) : own_F ((ea + eb) + ec) (own_mx ya (own_mx yb yc)) (own_mn ya (own_mn yb yc)) (own_mx (own_mn ya yb) (own_mn (own_mx ya yb) yc)) n vs := by
  rcases R with ⟨h1, h2, h3, rfl, rfl⟩ | ⟨h1, h2, h3, rfl, rfl⟩ | ⟨h1, h2, h3, rfl, rfl⟩ | ⟨h1, h2, h3, rfl, rfl⟩ | ⟨h1, h2, h3, rfl, rfl⟩ | ⟨h1, h2, h3, rfl, rfl⟩ | ⟨h1, h2, h3, rfl, rfl⟩ | ⟨h1, h2, h3, rfl, rfl⟩
  · obtain rfl := hea.y h1
    obtain rfl := heb.y h2
    obtain rfl := hec.y h3
    have y1 := hya.y h1
    have y2 := hyb.y h2
    have y3 := hyc.y h3
    subst y1 y2 y3
    simp only [Int32.lt_iff_toInt_lt, own_0I] at h1 h2 h3
    refine Or.inr (Or.inr (Or.inr ⟨rfl, by decide, ?_⟩))
    rfl
  · obtain rfl := hea.y h1
    obtain rfl := heb.y h2
    obtain rfl := hec.n h3
    have y1 := hya.y h1
    have y2 := hyb.y h2
    have y3 := hyc.n h3
    subst y1 y2 y3
    simp only [Int32.lt_iff_toInt_lt, own_0I] at h1 h2 h3
    refine Or.inr (Or.inr (Or.inl ⟨rfl, by decide, ?_⟩))
    simp only [List.cons.injEq, Value.int.injEq, and_true, ← Int32.toInt_inj, own_mxI, own_mnI, own_0I]; omega
  · obtain rfl := hea.y h1
    obtain rfl := heb.n h2
    obtain rfl := hec.y h3
    have y1 := hya.y h1
    have y2 := hyb.n h2
    have y3 := hyc.y h3
    subst y1 y2 y3
    simp only [Int32.lt_iff_toInt_lt, own_0I] at h1 h2 h3
    refine Or.inr (Or.inr (Or.inl ⟨rfl, by decide, ?_⟩))
    simp only [List.cons.injEq, Value.int.injEq, and_true, ← Int32.toInt_inj, own_mxI, own_mnI, own_0I]; omega
  · obtain rfl := hea.y h1
    obtain rfl := heb.n h2
    obtain rfl := hec.n h3
    have y1 := hya.y h1
    have y2 := hyb.n h2
    have y3 := hyc.n h3
    subst y1 y2 y3
    simp only [Int32.lt_iff_toInt_lt, own_0I] at h1 h2 h3
    refine Or.inr (Or.inl ⟨rfl, by decide, ?_⟩)
    simp only [List.cons.injEq, Value.int.injEq, and_true, ← Int32.toInt_inj, own_mxI, own_mnI, own_0I]; omega
  · obtain rfl := hea.n h1
    obtain rfl := heb.y h2
    obtain rfl := hec.y h3
    have y1 := hya.n h1
    have y2 := hyb.y h2
    have y3 := hyc.y h3
    subst y1 y2 y3
    simp only [Int32.lt_iff_toInt_lt, own_0I] at h1 h2 h3
    refine Or.inr (Or.inr (Or.inl ⟨rfl, by decide, ?_⟩))
    simp only [List.cons.injEq, Value.int.injEq, and_true, ← Int32.toInt_inj, own_mxI, own_mnI, own_0I]; omega
  · obtain rfl := hea.n h1
    obtain rfl := heb.y h2
    obtain rfl := hec.n h3
    have y1 := hya.n h1
    have y2 := hyb.y h2
    have y3 := hyc.n h3
    subst y1 y2 y3
    simp only [Int32.lt_iff_toInt_lt, own_0I] at h1 h2 h3
    refine Or.inr (Or.inl ⟨rfl, by decide, ?_⟩)
    simp only [List.cons.injEq, Value.int.injEq, and_true, ← Int32.toInt_inj, own_mxI, own_mnI, own_0I]; omega
  · obtain rfl := hea.n h1
    obtain rfl := heb.n h2
    obtain rfl := hec.y h3
    have y1 := hya.n h1
    have y2 := hyb.n h2
    have y3 := hyc.y h3
    subst y1 y2 y3
    simp only [Int32.lt_iff_toInt_lt, own_0I] at h1 h2 h3
    refine Or.inr (Or.inl ⟨rfl, by decide, ?_⟩)
    simp only [List.cons.injEq, Value.int.injEq, and_true, ← Int32.toInt_inj, own_mxI, own_mnI, own_0I]; omega
  · obtain rfl := hea.n h1
    obtain rfl := heb.n h2
    obtain rfl := hec.n h3
    have y1 := hya.n h1
    have y2 := hyb.n h2
    have y3 := hyc.n h3
    subst y1 y2 y3
    simp only [Int32.lt_iff_toInt_lt, own_0I] at h1 h2 h3
    refine Or.inl ⟨rfl, by decide, ?_⟩
    rfl
theorem own_bxs {Z : State} {args : Array Value} {t : Term} {a : Addr} {c : Cell} (et : t.eval args Z none [] Z = some (.ref a)) (A : Arr Z Z.heap a c (.object "java/lang/Integer")) (q : (Cond.eq (.length t) (.int 256)).value args Z none Z [] = some true)
    (h : (Cond.all t (.and (.exactly (.elem t (.index 0)) "java/lang/Integer") (.eq (.field (.elem t (.index 0)) "java/lang/Integer" "value" "I") (.sub (.index 0) (.int 128))))).value args Z none Z [] = some true) (ht : ∀ idx, t.eval args Z none idx Z = t.eval args Z none [] Z) : Bxs Z a c "java/lang/Integer" "I" 256 (fun j => .int (j - 128)) := by
  have hl : (Term.length t).eval args Z none [] Z = some (.int 256) := eqv_i rfl q
  obtain ⟨a', c', e1, e2, e3⟩ := Term.length_spec hl
  cases et.symm.trans e1
  have e4 : Z.arrayAt? a = some c := A.fin (Vm.Alike.refl _)
  cases e2.symm.trans e4
  have lt : c.slots.size < 2 ^ 31 := by
    by_cases p : c.slots.size < 2 ^ 31
    · exact p
    · simp [Term.eval, et, e4, p] at hl
  refine Bxs.start (fun idx => (ht idx).trans et) A lt (Value.int.inj e3).symm (by decide) h (fun X j nn hx => ?_)
  refine eqv_i ?_ hx
  simp [Term.eval, (back32 nn).1]
set_option maxRecDepth 65536 in
set_option maxHeartbeats 40000000 in
theorem own_mx_ (l : Launch) (Z : State) (a0 : Array Value) (hw : ∀ d ∈ tables_1, d.before a0 Z = true) (x1 : Int32) (x2 : Int32)  (h0 : Heap) (n0 : Nat) (Z0 : n0 ≤ h0.size)  :
    own_C l Z (⟨"java/lang/Math", "max", "(II)I"⟩ : MethodName) jdk_29_method_65_code 2 (some .int) [] ({ frames := 0, cells := 0, slots := 0, locals := 0 } : Room) #[.int x1, .int x2] h0 (own_Qz (own_mx x1 x2) h0 n0) := by
  refine MetFree.of_bodySF (Jvm.Free.JP.mathPlain rfl (by decide +kernel)) hisR ?_
  intro p e s m args below meth c s₁ Bd hml hP hK
  obtain ⟨rfl, hZ, hh⟩ := hP
  obtain ⟨hx, hby, hlk, hret, hown, hnm, X0, e0⟩ := own_hd Bd hh
  have N0 := Fr.nil n0
  refine own_open (own_ef0 m x1 x2) ?_
  refine s_iloadN X0 hx (hb hby od0) rfl  ?_
  refine s_iloadN X0 hx (hb hby od1) rfl  ?_
  by_cases hc : x1 < x2
  · skip
    refine s_icmpY 9 X0 hx (hb hby od2) (tlt hc).1 (by decide) (by decide) ?_
    refine s_iloadN X0 hx (hb hby od3) rfl  ?_
    refine own_retI X0 hx hlk hret (hb hby od4) ?_ (by decide) (by decide)
    rw [e0]
    exact ⟨by rw [own_mx, if_pos hc], N0, rfl⟩
  · skip
    refine s_icmpN X0 hx (hb hby od2) (flt hc).1 ?_
    refine s_iloadN X0 hx (hb hby od5) rfl  ?_
    refine s_goto 10 X0 hx (hb hby od6) (by decide) (by decide) ?_
    refine own_retI X0 hx hlk hret (hb hby od4) ?_ (by decide) (by decide)
    rw [e0]
    exact ⟨by rw [own_mx, if_neg hc], N0, rfl⟩
set_option maxRecDepth 65536 in
set_option maxHeartbeats 40000000 in
theorem own_mn_ (l : Launch) (Z : State) (a0 : Array Value) (hw : ∀ d ∈ tables_1, d.before a0 Z = true) (x1 : Int32) (x2 : Int32)  (h0 : Heap) (n0 : Nat) (Z0 : n0 ≤ h0.size)  :
    own_C l Z (⟨"java/lang/Math", "min", "(II)I"⟩ : MethodName) jdk_29_method_69_code 2 (some .int) [] ({ frames := 0, cells := 0, slots := 0, locals := 0 } : Room) #[.int x1, .int x2] h0 (own_Qz (own_mn x1 x2) h0 n0) := by
  refine MetFree.of_bodySF (Jvm.Free.JP.mathPlain rfl (by decide +kernel)) hisR ?_
  intro p e s m args below meth c s₁ Bd hml hP hK
  obtain ⟨rfl, hZ, hh⟩ := hP
  obtain ⟨hx, hby, hlk, hret, hown, hnm, X0, e0⟩ := own_hd Bd hh
  have N0 := Fr.nil n0
  refine own_open (own_ef0 m x1 x2) ?_
  refine s_iloadN X0 hx (hb hby od7) rfl  ?_
  refine s_iloadN X0 hx (hb hby od8) rfl  ?_
  by_cases hc : x2 < x1
  · skip
    refine s_icmpY 9 X0 hx (hb hby od9) (tlt hc).2.2.1 (by decide) (by decide) ?_
    refine s_iloadN X0 hx (hb hby od10) rfl  ?_
    refine own_retI X0 hx hlk hret (hb hby od11) ?_ (by decide) (by decide)
    rw [e0]
    exact ⟨by rw [own_mn, if_pos hc], N0, rfl⟩
  · skip
    refine s_icmpN X0 hx (hb hby od9) (flt hc).2.2.1 ?_
    refine s_iloadN X0 hx (hb hby od12) rfl  ?_
    refine s_goto 10 X0 hx (hb hby od13) (by decide) (by decide) ?_
    refine own_retI X0 hx hlk hret (hb hby od11) ?_ (by decide) (by decide)
    rw [e0]
    exact ⟨by rw [own_mn, if_neg hc], N0, rfl⟩
set_option maxRecDepth 65536 in
set_option maxHeartbeats 40000000 in
theorem own_aci (l : Launch) (Z : State) (a0 : Array Value) (hw : ∀ d ∈ tables_1, d.before a0 Z = true) (a : Addr)  (h0 : Heap) (n0 : Nat) (Z0 : n0 ≤ h0.size)  :
    own_C l Z (⟨"java/util/AbstractCollection", "<init>", "()V"⟩ : MethodName) jdk_22_method_1_code 1 none [] ({ frames := 1, cells := 0, slots := 0, locals := 12 } : Room) #[.ref a] h0 (own_Qn h0 n0) := by
  refine MetFree.of_bodySF (plainFor_of_name own_pn0) hisR ?_
  intro p e s m args below meth c s₁ Bd hml hP hK
  obtain ⟨rfl, hZ, hh⟩ := hP
  obtain ⟨hx, hby, hlk, hret, hown, hnm, X0, e0⟩ := own_hd Bd hh
  have N0 := Fr.nil n0
  refine own_open (own_ef1 m a) ?_
  refine s_aloadN X0 hx (hb hby od14) rfl rfl  ?_
  obtain ⟨T1, X1, e1, st1⟩ := initO X0 hx hZ hown (ow hw 18 rfl) (ow hw 19 rfl) (ow hw 20 rfl) e0 (g := (mkF m 1 #[rv a] [.ref a])) rfl (by rw [hml]; rfl) rfl (hb hby od15) (by decide) (W := 0) (by show 2 * 0 + _ ≤ _; exact Nat.le_of_eq rfl) (by decide)
  refine og T1 4 #[rv a] [] st1 ?_
  refine own_retV X1 hx hlk hret (hb hby od16) ?_ (by decide) (by decide)
  rw [e1]
  exact ⟨rfl, N0, rfl⟩
set_option maxRecDepth 65536 in
set_option maxHeartbeats 40000000 in
theorem own_ali (l : Launch) (Z : State) (a0 : Array Value) (hw : ∀ d ∈ tables_1, d.before a0 Z = true) (a : Addr)  (h0 : Heap) (n0 : Nat) (Z0 : n0 ≤ h0.size) (E_a : Exa Z h0 a "java/util/ArrayList") (Fm : Fld Z h0 a "java/util/AbstractList" "modCount" "I" (.int 0)) (Fe : Fld Z h0 a "java/util/ArrayList" "elementData" "[Ljava/lang/Object;" .null) (Fs : Fld Z h0 a "java/util/ArrayList" "size" "I" (.int 0)) (g : n0 ≤ a) :
    own_C l Z (⟨"java/util/AbstractList", "<init>", "()V"⟩ : MethodName) jdk_39_method_1_code 1 none [] ({ frames := 2, cells := 0, slots := 0, locals := 24 } : Room) #[.ref a] h0 (own_Qi Z a h0 n0) := by
  refine MetFree.of_bodySF (plainFor_of_name own_pn1) hisR ?_
  intro p e s m args below meth c s₁ Bd hml hP hK
  obtain ⟨rfl, hZ, hh⟩ := hP
  obtain ⟨hx, hby, hlk, hret, hown, hnm, X0, e0⟩ := own_hd Bd hh
  have N0 := Fr.nil n0
  refine own_open (own_ef1 m a) ?_
  refine s_aloadN X0 hx (hb hby od17) rfl rfl  ?_
  obtain ⟨_, _, ⟨T1, L1, k1, n1⟩, -, X1, ⟨Lc1, hQ1, l1, y1, z1⟩, st1⟩ := X0.specialBack hx (y := (⟨"java/util/AbstractCollection", "<init>", "()V"⟩ : MethodName)) rfl hown (mvT hZ (ow hw 12 rfl)) (mvT hZ (ow hw 13 rfl)) (mvT hZ (ow hw 17 rfl)) (by decide) (backOf (W := 0) (own_aci l Z a0 hw a h0 n0 Z0) hZ (ow hw 17 rfl) (ow hw 16 rfl) (by decide) (by decide)) (g := (mkF m 1 #[rv a] [.ref a])) rfl (by rw [hml]; rfl) (Steps.refl _) (a := a) (argsL := []) (rest := []) (lenOf own_pd0 rfl) rfl (by show 2 * 0 + _ ≤ _; exact Nat.le_of_eq rfl) (hb hby od18) (fun _ _ => ⟨rfl, e0, (by decide : 0 + 0 ≤ _), (by decide : 0 + 0 ≤ _)⟩)
  dsimp only [Pt.U, Pt.locs, Pt.cells, Pt.slots] at X1 l1 y1 z1 st1 hQ1
  subst y1 z1
  obtain ⟨rfl, N1q, hh1⟩ := hQ1
  have N1 := frE l1 N0 N1q
  refine ov T1 4 #[rv a] [] st1 ?_
  refine s_aloadN X1 hx (hb hby od19) rfl rfl  ?_
  refine s_iconst 0 X1 hx (hb hby od20) rfl ?_
  obtain ⟨T2, h2, X2, e2, W2, st2⟩ := putF X1 hx hZ hown (host := "") (Or.inl (ow hw 21 rfl)) Via.refl hh1 Fm E_a (Or.inl (ow hw 22 rfl)) (ow hw 1 rfl) (ty := .int) (by decide) rfl rfl (g := (mkF m 6 #[rv a] [.int 0, .ref a])) rfl rfl (hb hby od21)
  have N2 := Fr.snoc X2 N1 g
  refine og T2 9 #[rv a] [] st2 ?_
  have n2_Fm := Fm.same W2
  have c3_E_a := E_a.wr W2
  have c3_Fe := Fe.other W2 (Or.inr (os0 hw))
  have c3_Fs := Fs.other W2 (Or.inr (os1 hw))
  have K2 := (Keep.refl h0 [a]).wr W2 (Or.inl (List.mem_of_getElem? (i := 0) rfl))
  refine own_retV X2 hx hlk hret (hb hby od22) ?_ (by decide) (by decide)
  rw [e2]
  exact ⟨rfl, N2, K2, c3_E_a, n2_Fm, c3_Fe, c3_Fs⟩
set_option maxRecDepth 65536 in
set_option maxHeartbeats 40000000 in
theorem own_ini (l : Launch) (Z : State) (a0 : Array Value) (hw : ∀ d ∈ tables_1, d.before a0 Z = true) (a : Addr) (dd : Addr) (h0 : Heap) (n0 : Nat) (Z0 : n0 ≤ h0.size) (E_a : Exa Z h0 a "java/util/ArrayList") (Fm : Fld Z h0 a "java/util/AbstractList" "modCount" "I" (.int 0)) (Fe : Fld Z h0 a "java/util/ArrayList" "elementData" "[Ljava/lang/Object;" .null) (Fs : Fld Z h0 a "java/util/ArrayList" "size" "I" (.int 0)) (SD : Sta Z h0 "java/util/ArrayList" "DEFAULTCAPACITY_EMPTY_ELEMENTDATA" "[Ljava/lang/Object;" (.ref dd)) (g : n0 ≤ a) :
    own_C l Z (⟨"java/util/ArrayList", "<init>", "()V"⟩ : MethodName) jdk_38_method_2_code 1 none [] ({ frames := 3, cells := 0, slots := 0, locals := 36 } : Room) #[.ref a] h0 (own_Qj Z a h0 n0) := by
  refine MetFree.of_bodySF (plainFor_of_name own_pn2) hisR ?_
  intro p e s m args below meth c s₁ Bd hml hP hK
  obtain ⟨rfl, hZ, hh⟩ := hP
  obtain ⟨hx, hby, hlk, hret, hown, hnm, X0, e0⟩ := own_hd Bd hh
  have N0 := Fr.nil n0
  refine own_open (own_ef1 m a) ?_
  refine s_aloadN X0 hx (hb hby od23) rfl rfl  ?_
  obtain ⟨_, _, ⟨T1, L1, k1, n1⟩, -, X1, ⟨Lc1, hQ1, l1, y1, z1⟩, st1⟩ := X0.specialBack hx (y := (⟨"java/util/AbstractList", "<init>", "()V"⟩ : MethodName)) rfl hown (mvT hZ (ow hw 6 rfl)) (mvT hZ (ow hw 7 rfl)) (mvT hZ (ow hw 11 rfl)) (by decide) (backOf (W := 0) (own_ali l Z a0 hw a h0 n0 Z0 E_a Fm Fe Fs g) hZ (ow hw 11 rfl) (ow hw 10 rfl) (by decide) (by decide)) (g := (mkF m 1 #[rv a] [.ref a])) rfl (by rw [hml]; rfl) (Steps.refl _) (a := a) (argsL := []) (rest := []) (lenOf own_pd0 rfl) rfl (by show 2 * 0 + _ ≤ _; exact Nat.le_of_eq rfl) (hb hby od24) (fun _ _ => ⟨rfl, e0, (by decide : 0 + 0 ≤ _), (by decide : 0 + 0 ≤ _)⟩)
  dsimp only [Pt.U, Pt.locs, Pt.cells, Pt.slots] at X1 l1 y1 z1 st1 hQ1
  subst y1 z1
  obtain ⟨rfl, N1q, Kc1, E1a, F1m, F1e, F1s⟩ := hQ1
  have N1 := frE l1 N0 N1q
  refine ov T1 4 #[rv a] [] st1 ?_
  have c2_SD := own_Sk SD Kc1 (allS E_a.own_nst all0)
  have K1x := (Keep.refl h0 [a]).trans Kc1 (allS (Or.inl (List.mem_of_getElem? (i := 0) rfl)) all0)
  refine s_aloadN X1 hx (hb hby od25) rfl rfl  ?_
  obtain ⟨T3, X3, e3, st3⟩ := getS2 X1 hx hZ hown (host := "") (Or.inl (ow hw 23 rfl)) Via.refl rfl c2_SD (g := (mkF m 5 #[rv a] [.ref a])) rfl (hb hby od26)
  refine og T3 8 #[rv a] [.ref dd, .ref a] st3 ?_
  obtain ⟨T4, h4, X4, e4, W4, st4⟩ := putF X3 hx hZ hown (host := "") (Or.inl (ow hw 24 rfl)) Via.refl e3 F1e E1a (Or.inl (ow hw 25 rfl)) (ow hw 1 rfl) (ty := (.array (.object "java/lang/Object"))) (by decide) rfl rfl (g := (mkF m 8 #[rv a] [.ref dd, .ref a])) rfl rfl (hb hby od27)
  have N4 := Fr.snoc X4 N1 g
  refine og T4 11 #[rv a] [] st4 ?_
  have n4_Fe := F1e.same W4
  have c5_SD := c2_SD.wr W4
  have c5_E_a := E1a.wr W4
  have c5_Fs := F1s.other W4 (Or.inr (os2 hw))
  have K4 := K1x.wr W4 (Or.inl (List.mem_of_getElem? (i := 0) rfl))
  refine own_retV X4 hx hlk hret (hb hby od28) ?_ (by decide) (by decide)
  rw [e4]
  exact ⟨rfl, N4, K4, c5_E_a, c5_Fs⟩
set_option maxRecDepth 65536 in
set_option maxHeartbeats 40000000 in
theorem own_als (l : Launch) (Z : State) (a0 : Array Value) (hw : ∀ d ∈ tables_1, d.before a0 Z = true) (a : Addr)  (h0 : Heap) (n0 : Nat) (Z0 : n0 ≤ h0.size) (Fs : Fld Z h0 a "java/util/ArrayList" "size" "I" (.int 0)) :
    own_C l Z (⟨"java/util/ArrayList", "size", "()I"⟩ : MethodName) jdk_38_method_8_code 1 (some .int) [] ({ frames := 0, cells := 0, slots := 0, locals := 0 } : Room) #[.ref a] h0 (own_Qz 0 h0 n0) := by
  refine MetFree.of_bodySF (plainFor_of_name own_pn2) hisR ?_
  intro p e s m args below meth c s₁ Bd hml hP hK
  obtain ⟨rfl, hZ, hh⟩ := hP
  obtain ⟨hx, hby, hlk, hret, hown, hnm, X0, e0⟩ := own_hd Bd hh
  have N0 := Fr.nil n0
  refine own_open (own_ef1 m a) ?_
  refine s_aloadN X0 hx (hb hby od29) rfl rfl  ?_
  obtain ⟨T1, X1, e1, st1⟩ := getF X0 hx hZ hown (host := "") (Or.inl (ow hw 167 rfl)) Via.refl e0 Fs (g := (mkF m 1 #[rv a] [.ref a])) rfl rfl (hb hby od30)
  refine og T1 4 #[rv a] [.int 0] st1 ?_
  refine own_retI X1 hx hlk hret (hb hby od31) ?_ (by decide) (by decide)
  rw [e1]
  exact ⟨rfl, N0, rfl⟩
set_option maxRecDepth 65536 in
set_option maxHeartbeats 40000000 in
theorem own_ami (l : Launch) (Z : State) (a0 : Array Value) (hw : ∀ d ∈ tables_1, d.before a0 Z = true) (a : Addr)  (h0 : Heap) (n0 : Nat) (Z0 : n0 ≤ h0.size)  :
    own_C l Z (⟨"java/util/AbstractMap", "<init>", "()V"⟩ : MethodName) jdk_71_method_1_code 1 none [] ({ frames := 1, cells := 0, slots := 0, locals := 12 } : Room) #[.ref a] h0 (own_Qn h0 n0) := by
  refine MetFree.of_bodySF (plainFor_of_name own_pn3) hisR ?_
  intro p e s m args below meth c s₁ Bd hml hP hK
  obtain ⟨rfl, hZ, hh⟩ := hP
  obtain ⟨hx, hby, hlk, hret, hown, hnm, X0, e0⟩ := own_hd Bd hh
  have N0 := Fr.nil n0
  refine own_open (own_ef1 m a) ?_
  refine s_aloadN X0 hx (hb hby od32) rfl rfl  ?_
  obtain ⟨T1, X1, e1, st1⟩ := initO X0 hx hZ hown (ow hw 38 rfl) (ow hw 19 rfl) (ow hw 20 rfl) e0 (g := (mkF m 1 #[rv a] [.ref a])) rfl (by rw [hml]; rfl) rfl (hb hby od33) (by decide) (W := 0) (by show 2 * 0 + _ ≤ _; exact Nat.le_of_eq rfl) (by decide)
  refine og T1 4 #[rv a] [] st1 ?_
  refine own_retV X1 hx hlk hret (hb hby od34) ?_ (by decide) (by decide)
  rw [e1]
  exact ⟨rfl, N0, rfl⟩
set_option maxRecDepth 65536 in
set_option maxHeartbeats 40000000 in
theorem own_hmi (l : Launch) (Z : State) (a0 : Array Value) (hw : ∀ d ∈ tables_1, d.before a0 Z = true) (hm : Addr)  (h0 : Heap) (n0 : Nat) (Z0 : n0 ≤ h0.size) (E_m : Exa Z h0 hm "java/util/HashMap") (Ft : Fld Z h0 hm "java/util/HashMap" "table" "[Ljava/util/HashMap$Node;" .null) (Fz : Fld Z h0 hm "java/util/HashMap" "size" "I" (.int 0)) (Fo : Fld Z h0 hm "java/util/HashMap" "modCount" "I" (.int 0)) (Fh : Fld Z h0 hm "java/util/HashMap" "threshold" "I" (.int 0)) (Fv : Fld Z h0 hm "java/util/AbstractMap" "values" "Ljava/util/Collection;" .null) (Fl : Fld Z h0 hm "java/util/HashMap" "loadFactor" "F" (.float 0)) (g : n0 ≤ hm) :
    own_C l Z (⟨"java/util/HashMap", "<init>", "()V"⟩ : MethodName) jdk_69_method_7_code 1 none [] ({ frames := 2, cells := 0, slots := 0, locals := 24 } : Room) #[.ref hm] h0 (own_Qh Z hm .null 0 0 0 .null h0 n0) := by
  refine MetFree.of_bodySF (plainFor_of_name own_pn4) hisR ?_
  intro p e s m args below meth c s₁ Bd hml hP hK
  obtain ⟨rfl, hZ, hh⟩ := hP
  obtain ⟨hx, hby, hlk, hret, hown, hnm, X0, e0⟩ := own_hd Bd hh
  have N0 := Fr.nil n0
  refine own_open (own_ef1 m hm) ?_
  refine s_aloadN X0 hx (hb hby od35) rfl rfl  ?_
  obtain ⟨_, _, ⟨T1, L1, k1, n1⟩, -, X1, ⟨Lc1, hQ1, l1, y1, z1⟩, st1⟩ := X0.specialBack hx (y := (⟨"java/util/AbstractMap", "<init>", "()V"⟩ : MethodName)) rfl hown (mvT hZ (ow hw 32 rfl)) (mvT hZ (ow hw 33 rfl)) (mvT hZ (ow hw 37 rfl)) (by decide) (backOf (W := 0) (own_ami l Z a0 hw hm h0 n0 Z0) hZ (ow hw 37 rfl) (ow hw 36 rfl) (by decide) (by decide)) (g := (mkF m 1 #[rv hm] [.ref hm])) rfl (by rw [hml]; rfl) (Steps.refl _) (a := hm) (argsL := []) (rest := []) (lenOf own_pd0 rfl) rfl (by show 2 * 0 + _ ≤ _; exact Nat.le_of_eq rfl) (hb hby od36) (fun _ _ => ⟨rfl, e0, (by decide : 0 + 0 ≤ _), (by decide : 0 + 0 ≤ _)⟩)
  dsimp only [Pt.U, Pt.locs, Pt.cells, Pt.slots] at X1 l1 y1 z1 st1 hQ1
  subst y1 z1
  obtain ⟨rfl, N1q, hh1⟩ := hQ1
  have N1 := frE l1 N0 N1q
  refine ov T1 4 #[rv hm] [] st1 ?_
  refine s_aloadN X1 hx (hb hby od37) rfl rfl  ?_
  refine og T1 7 #[rv hm] [(.float (1061158912 : UInt32)), .ref hm] (fun _ k => X1.ldcFloatC hx hown (mvT hZ (ow hw 39 rfl)) (g := (mkF m 5 #[rv hm] [.ref hm])) rfl (hb hby od38) _ k) ?_
  obtain ⟨T2, h2, X2, e2, W2, st2⟩ := putF X1 hx hZ hown (host := "") (Or.inl (ow hw 40 rfl)) Via.refl hh1 Fl E_m (Or.inr ⟨(ow hw 41 rfl), rfl, hnm⟩) (ow hw 27 rfl) (ty := .float) (by decide) rfl rfl (g := (mkF m 7 #[rv hm] [(.float (1061158912 : UInt32)), .ref hm])) rfl rfl (hb hby od39)
  have N2 := Fr.snoc X2 N1 g
  refine og T2 10 #[rv hm] [] st2 ?_
  have n2_Fl := Fl.same W2
  have c3_E_m := E_m.wr W2
  have c3_Ft := Ft.other W2 (Or.inr (os3 hw))
  have c3_Fz := Fz.other W2 (Or.inr (os4 hw))
  have c3_Fo := Fo.other W2 (Or.inr (os5 hw))
  have c3_Fh := Fh.other W2 (Or.inr (os6 hw))
  have c3_Fv := Fv.other W2 (Or.inr (os7 hw))
  have K2 := (Keep.refl h0 [hm]).wr W2 (Or.inl (List.mem_of_getElem? (i := 0) rfl))
  refine own_retV X2 hx hlk hret (hb hby od40) ?_ (by decide) (by decide)
  rw [e2]
  exact ⟨rfl, N2, K2, ⟨c3_E_m, c3_Ft, c3_Fz, c3_Fo, c3_Fh, c3_Fv⟩⟩
set_option maxRecDepth 65536 in
set_option maxHeartbeats 40000000 in
theorem own_sti (l : Launch) (Z : State) (a0 : Array Value) (hw : ∀ d ∈ tables_1, d.before a0 Z = true) (x : Addr) (ar : Addr)  (h0 : Heap) (n0 : Nat) (Z0 : n0 ≤ h0.size) (E_x : Exa Z h0 x "java/lang/String") (F1 : Fld Z h0 x "java/lang/String" "value" "[B" .null) (F2 : Fld Z h0 x "java/lang/String" "coder" "B" (.int 0)) (F3 : Fld Z h0 x "java/lang/String" "hash" "I" (.int 0)) (F4 : Fld Z h0 x "java/lang/String" "hashIsZero" "Z" (.int 0)) (g : n0 ≤ x) :
    own_C l Z (⟨"java/lang/String", "<init>", "([BB)V"⟩ : MethodName) jdk_42_method_151_code 3 none [] ({ frames := 1, cells := 0, slots := 0, locals := 12 } : Room) #[.ref x, .ref ar, .int 0] h0 (own_Qs Z x ar h0 n0) := by
  refine MetFree.of_bodySF (plainFor_of_name own_pn5) hisR ?_
  intro p e s m args below meth c s₁ Bd hml hP hK
  obtain ⟨rfl, hZ, hh⟩ := hP
  obtain ⟨hx, hby, hlk, hret, hown, hnm, X0, e0⟩ := own_hd Bd hh
  have N0 := Fr.nil n0
  refine own_open (own_ef2 m x ar ((0 : Int32))) ?_
  refine s_aloadN X0 hx (hb hby od41) rfl rfl  ?_
  obtain ⟨T1, X1, e1, st1⟩ := initO X0 hx hZ hown (ow hw 61 rfl) (ow hw 19 rfl) (ow hw 20 rfl) e0 (g := (mkF m 1 #[rv x, rv ar, iv 0] [.ref x])) rfl (by rw [hml]; rfl) rfl (hb hby od42) (by decide) (W := 0) (by show 2 * 0 + _ ≤ _; exact Nat.le_of_eq rfl) (by decide)
  refine og T1 4 #[rv x, rv ar, iv 0] [] st1 ?_
  refine s_aloadN X1 hx (hb hby od43) rfl rfl  ?_
  refine s_aloadN X1 hx (hb hby od44) rfl rfl  ?_
  obtain ⟨T2, h2, X2, e2, W2, st2⟩ := putF X1 hx hZ hown (host := "") (Or.inl (ow hw 62 rfl)) Via.refl e1 F1 E_x (Or.inr ⟨(ow hw 63 rfl), rfl, hnm⟩) (ow hw 52 rfl) (ty := (.array .byte)) (by decide) rfl rfl (g := (mkF m 6 #[rv x, rv ar, iv 0] [.ref ar, .ref x])) rfl rfl (hb hby od45)
  have N2 := Fr.snoc X2 N0 g
  refine og T2 9 #[rv x, rv ar, iv 0] [] st2 ?_
  have n2_F1 := F1.same W2
  have c3_E_x := E_x.wr W2
  have c3_F2 := F2.other W2 (Or.inr (os8 hw))
  have c3_F3 := F3.other W2 (Or.inr (os9 hw))
  have c3_F4 := F4.other W2 (Or.inr (os10 hw))
  have K2 := (Keep.refl h0 [x]).wr W2 (Or.inl (List.mem_of_getElem? (i := 0) rfl))
  refine s_aloadN X2 hx (hb hby od46) rfl rfl  ?_
  refine s_iloadN X2 hx (hb hby od47) rfl  ?_
  obtain ⟨T4, h4, X4, e4, W4, st4⟩ := putFN X2 hx hZ hown (ow hw 64 rfl) Via.refl e2 c3_F2 c3_E_x (Or.inr ⟨(ow hw 65 rfl), rfl, hnm⟩) (ow hw 52 rfl) (ty := .byte) (v' := (.int 0)) (by decide) rfl rfl (g := (mkF m 11 #[rv x, rv ar, iv 0] [.int 0, .ref x])) rfl rfl (hb hby od48)
  have N4 := Fr.snoc X4 N2 g
  refine og T4 14 #[rv x, rv ar, iv 0] [] st4 ?_
  have n4_F2 := c3_F2.same W4
  have c5_E_x := c3_E_x.wr W4
  have c5_F3 := c3_F3.other W4 (Or.inr (os11 hw))
  have c5_F4 := c3_F4.other W4 (Or.inr (os12 hw))
  have c5_F1 := n2_F1.other W4 (Or.inr (os13 hw))
  have K4 := K2.wr W4 (Or.inl (List.mem_of_getElem? (i := 0) rfl))
  refine own_retV X4 hx hlk hret (hb hby od49) ?_ (by decide) (by decide)
  rw [e4]
  exact ⟨rfl, N4, K4, ⟨c5_E_x, c5_F1, n4_F2, c5_F3, c5_F4⟩⟩
set_option maxRecDepth 65536 in
set_option maxHeartbeats 40000000 in
theorem own_isl (l : Launch) (Z : State) (a0 : Array Value) (hw : ∀ d ∈ tables_1, d.before a0 Z = true) (x : Addr) (cs : Int32) (h0 : Heap) (n0 : Nat) (Z0 : n0 ≤ h0.size) (F2 : Fld Z h0 x "java/lang/String" "coder" "B" (.int 0)) (SC : Sta Z h0 "java/lang/String" "COMPACT_STRINGS" "Z" (.int cs)) (hcs : ¬ cs = (0 : Int32)) :
    own_C l Z (⟨"java/lang/String", "isLatin1", "()Z"⟩ : MethodName) jdk_42_method_154_code 1 (some .boolean) [] ({ frames := 0, cells := 0, slots := 0, locals := 0 } : Room) #[.ref x] h0 (own_Qz 1 h0 n0) := by
  refine MetFree.of_bodySF (plainFor_of_name own_pn5) hisR ?_
  intro p e s m args below meth c s₁ Bd hml hP hK
  obtain ⟨rfl, hZ, hh⟩ := hP
  obtain ⟨hx, hby, hlk, hret, hown, hnm, X0, e0⟩ := own_hd Bd hh
  have N0 := Fr.nil n0
  refine own_open (own_ef1 m x) ?_
  obtain ⟨T1, X1, e1, st1⟩ := getS2 X0 hx hZ hown (host := "") (Or.inl (ow hw 46 rfl)) Via.refl e0 SC (g := (mkF m 0 #[rv x] [])) rfl (hb hby od50)
  refine og T1 3 #[rv x] [.int cs] st1 ?_
  refine s_ifN X1 hx (hb hby od51) ((if0 _ _).trans (feq hcs).1) ?_
  refine s_aloadN X1 hx (hb hby od52) rfl rfl  ?_
  obtain ⟨T2, X2, e2, st2⟩ := getF X1 hx hZ hown (host := "") (Or.inl (ow hw 64 rfl)) Via.refl e1 F2 (g := (mkF m 7 #[rv x] [.ref x])) rfl rfl (hb hby od53)
  refine og T2 10 #[rv x] [.int 0] st2 ?_
  refine s_ifN X2 hx (hb hby od54) ((if0 _ _).trans (teq rfl).2) ?_
  refine s_iconst 1 X2 hx (hb hby od55) rfl ?_
  refine s_goto 18 X2 hx (hb hby od56) (by decide) (by decide) ?_
  refine own_retZ X2 hx hlk (t := .boolean) hret (by simp) (hb hby od57) ?_ (by decide) (by decide)
  rw [e2]
  exact ⟨rfl, N0, rfl⟩
set_option maxRecDepth 65536 in
set_option maxHeartbeats 40000000 in
theorem own_cen97 (l : Launch) (Z : State) (a0 : Array Value) (hw : ∀ d ∈ tables_1, d.before a0 Z = true)   (h0 : Heap) (n0 : Nat) (Z0 : n0 ≤ h0.size)  :
    own_C l Z (⟨"java/lang/StringLatin1", "canEncode", "(C)Z"⟩ : MethodName) jdk_43_method_3_code 1 (some .boolean) [] ({ frames := 0, cells := 0, slots := 0, locals := 0 } : Room) #[.int 97] h0 (own_Qz 1 h0 n0) := by
  refine MetFree.of_bodySF (plainFor_of_name own_pn6) hisR ?_
  intro p e s m args below meth c s₁ Bd hml hP hK
  obtain ⟨rfl, hZ, hh⟩ := hP
  obtain ⟨hx, hby, hlk, hret, hown, hnm, X0, e0⟩ := own_hd Bd hh
  have N0 := Fr.nil n0
  refine own_open (own_ef3 m ((97 : Int32))) ?_
  refine s_iloadN X0 hx (hb hby od58) rfl  ?_
  refine s_sipush 255 X0 hx (hb hby od59) rfl ?_
  refine s_icmpN X0 hx (hb hby od60) (flt (by decide)).2.2.1 ?_
  refine s_iconst 1 X0 hx (hb hby od61) rfl ?_
  refine s_goto 12 X0 hx (hb hby od62) (by decide) (by decide) ?_
  refine own_retZ X0 hx hlk (t := .boolean) hret (by simp) (hb hby od63) ?_ (by decide) (by decide)
  rw [e0]
  exact ⟨rfl, N0, rfl⟩
set_option maxRecDepth 65536 in
set_option maxHeartbeats 40000000 in
theorem own_tob97 (l : Launch) (Z : State) (a0 : Array Value) (hw : ∀ d ∈ tables_1, d.before a0 Z = true)   (h0 : Heap) (n0 : Nat) (Z0 : n0 ≤ h0.size)  :
    own_C l Z (⟨"java/lang/StringLatin1", "toBytes", "(C)[B"⟩ : MethodName) jdk_43_method_46_code 1 (some (.array .byte)) [] ({ frames := 0, cells := 1, slots := 1, locals := 0 } : Room) #[.int 97] h0 (own_Qt Z (97 : Int32) h0 n0) := by
  refine MetFree.of_bodySF (plainFor_of_name own_pn6) hisR ?_
  intro p e s m args below meth c s₁ Bd hml hP hK
  obtain ⟨rfl, hZ, hh⟩ := hP
  obtain ⟨hx, hby, hlk, hret, hown, hnm, X0, e0⟩ := own_hd Bd hh
  have N0 := Fr.nil n0
  refine own_open (own_ef3 m ((97 : Int32))) ?_
  refine s_iconst 1 X0 hx (hb hby od64) rfl ?_
  obtain ⟨T1, h1, k1, X1, e1, E1, A1, Ex1, st1⟩ := newPE X0 hx hZ (ow hw 56 rfl) e0 (g := (mkF m 1 #[iv 97] [.int 1])) rfl (hb hby od65) rfl (by decide) (cap := 1) (by decide) (by decide) (by decide) (by decide) (ad := "[B") (by decide +kernel)
  obtain ⟨r, g1⟩ : ∃ z, z = h0.size := ⟨_, rfl⟩
  rw [← g1] at A1 Ex1 st1
  have V1 : Arv Z h1 r k1 .byte (1 : Int32) [.int 0] (.int 0) := (Arv.new A1 (by decide)).pad (pad_rep [] (.int 0) 1)
  refine og T1 3 #[iv 97] [.ref r] st1 ?_
  have sz_r : h0.size ≤ r := Nat.le_trans (Keep.refl h0 []).1 (Nat.le_of_eq g1.symm)
  have gn_r : n0 ≤ r := Nat.le_trans Z0 sz_r
  have K1 := (Keep.refl h0 []).ext E1
  refine s_dup X1 hx (hb hby od66) rfl ?_
  refine s_iconst 0 X1 hx (hb hby od67) rfl ?_
  refine s_iloadN X1 hx (hb hby od68) rfl  ?_
  refine og T1 7 #[iv 97] [.int 97, .int 0, .ref r, .ref r] (fun _ k => XS.i2b X1.here hx rfl (hb hby od69) rfl k) ?_
  have vv3 := V1
  obtain ⟨cl3, Ar3, qa3, Sz3, Ng3, Ha3, Ga3⟩ := vv3
  have hin3 : ¬ ((0 : Int32) < 0 ∨ cl3.slots.size ≤ ((0 : Int32)).toNatClampNeg) := inb_of Sz3 ⟨by decide, by decide⟩
  obtain ⟨T4, h4, X4, e4, W4, st4⟩ := stB X1 hx hZ e1 Ar3 (j := (0 : Int32)) hin3 (g := (mkF m 7 #[iv 97] [.int 97, .int 0, .ref r, .ref r])) rfl rfl (hb hby od70)
  have V4 : Arv Z h4 r k1 .byte (1 : Int32) [.int (97 : Int32)] (.int 0) := Arv.set Ar3 qa3 Sz3 Ng3 Ha3 Ga3 rfl W4 0 rfl (Nat.le_of_ble_eq_true rfl)
  have N4 := Fr.snoc X4 N0 gn_r
  refine og T4 8 #[iv 97] [.ref r] st4 ?_
  have K4 := K1.wr W4 (Or.inr sz_r)
  refine own_retA X4 hx hlk hret rfl rfl (hb hby od71) ?_ (by decide) (by decide)
  rw [e4]
  exact ⟨_, _, rfl, N4, K4, V4, sz_r⟩
set_option maxRecDepth 65536 in
set_option maxHeartbeats 40000000 in
theorem own_vc97 (l : Launch) (Z : State) (a0 : Array Value) (hw : ∀ d ∈ tables_1, d.before a0 Z = true)  (cs : Int32) (h0 : Heap) (n0 : Nat) (Z0 : n0 ≤ h0.size) (SC : Sta Z h0 "java/lang/String" "COMPACT_STRINGS" "Z" (.int cs)) (hcs : ¬ cs = (0 : Int32)) :
    own_C l Z (⟨"java/lang/String", "valueOf", "(C)Ljava/lang/String;"⟩ : MethodName) jdk_42_method_139_code 1 (some (.object "java/lang/String")) [] ({ frames := 2, cells := 2, slots := 5, locals := 27 } : Room) #[.int 97] h0 (own_Qc Z (97 : Int32) h0 n0) := by
  refine MetFree.of_bodySF (plainFor_of_name own_pn5) hisR ?_
  intro p e s m args below meth c s₁ Bd hml hP hK
  obtain ⟨rfl, hZ, hh⟩ := hP
  obtain ⟨hx, hby, hlk, hret, hown, hnm, X0, e0⟩ := own_hd Bd hh
  have N0 := Fr.nil n0
  refine own_open (own_ef3 m ((97 : Int32))) ?_
  obtain ⟨T1, X1, e1, st1⟩ := getS2 X0 hx hZ hown (host := "") (Or.inl (ow hw 46 rfl)) Via.refl e0 SC (g := (mkF m 0 #[iv 97] [])) rfl (hb hby od72)
  refine og T1 3 #[iv 97] [.int cs] st1 ?_
  refine s_ifN X1 hx (hb hby od73) ((if0 _ _).trans (feq hcs).1) ?_
  refine s_iloadN X1 hx (hb hby od74) rfl  ?_
  obtain ⟨_, _, ⟨T2, L2, k2, n2⟩, -, X2, ⟨Lc2, hQ2, l2, y2, z2⟩, st2⟩ := Jvm.LawKit.callS X1 hx hown (mvT hZ (ow hw 47 rfl)) (mvT hZ (ow hw 48 rfl)) (mvT hZ (ow hw 49 rfl)) (mvT hZ (ow hw 50 rfl)) (by decide) (backOf (W := 0) (own_cen97 l Z a0 hw h0 n0 Z0) hZ (ow hw 50 rfl) (ow hw 49 rfl) (by decide) (by decide)) (g := (mkF m 7 #[iv 97] [.int 97])) rfl (by rw [hml]; rfl) (argsL := [.int 97]) (rest := []) (lenOf own_pd1 rfl) rfl (by show 2 * 0 + _ ≤ _; exact Nat.le_of_eq rfl) (hb hby od75) (fun _ _ => ⟨rfl, e1, (by decide : 0 + 0 ≤ _), (by decide : 0 + 0 ≤ _)⟩)
  dsimp only [Pt.U, Pt.locs, Pt.cells, Pt.slots] at X2 l2 y2 z2 st2 hQ2
  subst y2 z2
  obtain ⟨rfl, N2q, hh2⟩ := hQ2
  have N2 := frE l2 N0 N2q
  refine og T2 10 #[iv 97] [.int 1] st2 ?_
  refine s_ifN X2 hx (hb hby od76) ((if0 _ _).trans (feq (by decide)).1) ?_
  obtain ⟨T3, h3, X3, e3, E3, A3, D3, -, st3⟩ := newO X2 hx hZ hown (ow hw 51 rfl) (ow hw 52 rfl) (ow hw 44 rfl) hh2 (g := (mkF m 13 #[iv 97] [])) rfl (hb hby od77) (by decide) (by decide)
  obtain ⟨x, g3⟩ : ∃ z, z = h0.size := ⟨_, rfl⟩
  rw [← g3] at A3 D3 st3
  refine og T3 16 #[iv 97] [.ref x] st3 ?_
  have sz_x : h0.size ≤ x := Nat.le_trans (Keep.refl h0 []).1 (Nat.le_of_eq g3.symm)
  have gn_x : n0 ≤ x := Nat.le_trans Z0 sz_x
  have c4_SC := SC.ext E3
  have K3 := (Keep.refl h0 []).ext E3
  refine s_dup X3 hx (hb hby od78) rfl ?_
  refine s_iloadN X3 hx (hb hby od79) rfl  ?_
  obtain ⟨_, _, ⟨T5, L5, k5, n5⟩, -, X5, ⟨Lc5, hQ5, l5, y5, z5⟩, st5⟩ := Jvm.LawKit.callS X3 hx hown (mvT hZ (ow hw 53 rfl)) (mvT hZ (ow hw 54 rfl)) (mvT hZ (ow hw 49 rfl)) (mvT hZ (ow hw 55 rfl)) (by decide) (backOf (W := 2) (own_tob97 l Z a0 hw h3 n0 (Nat.le_trans Z0 K3.1)) hZ (ow hw 55 rfl) (ow hw 49 rfl) (by decide) (by decide)) (g := (mkF m 18 #[iv 97] [.int 97, .ref x, .ref x])) rfl (by rw [hml]; rfl) (argsL := [.int 97]) (rest := [.ref x, .ref x]) (lenOf own_pd2 rfl) rfl (by show 2 * 0 + _ ≤ _; exact Nat.le_of_eq rfl) (hb hby od80) (fun _ _ => ⟨rfl, e3, (by decide : 1 + 1 ≤ _), (by decide : 4 + 1 ≤ _)⟩)
  dsimp only [Pt.U, Pt.locs, Pt.cells, Pt.slots] at X5 l5 y5 z5 st5 hQ5
  subst y5 z5
  obtain ⟨r5, k5c, rfl, N5q, Kc5, V5c, s5c⟩ := hQ5
  have N5 := frE l5 N2 N5q
  refine og T5 21 #[iv 97] [.ref r5, .ref x, .ref x] st5 ?_
  have c6_E_x := A3.keep Kc5
  have c6_F1 := (D3 (Or.inr (ow hw 63 rfl)) (ty := (.array .byte)) (by decide)).keep Kc5 nin0
  have c6_F2 := (D3 (Or.inr (ow hw 65 rfl)) (ty := .byte) (by decide)).keep Kc5 nin0
  have c6_F3 := (D3 (Or.inl (ow hw 92 rfl)) (ty := .int) (by decide)).keep Kc5 nin0
  have c6_F4 := (D3 (Or.inl (ow hw 94 rfl)) (ty := .boolean) (by decide)).keep Kc5 nin0
  have K5x := K3.trans Kc5 all0
  refine s_iconst 0 X5 hx (hb hby od81) rfl ?_
  obtain ⟨_, _, ⟨T7, L7, k7, n7⟩, -, X7, ⟨Lc7, hQ7, l7, y7, z7⟩, st7⟩ := X5.specialBack hx (y := (⟨"java/lang/String", "<init>", "([BB)V"⟩ : MethodName)) rfl hown (mvT hZ (ow hw 57 rfl)) (mvT hZ (ow hw 58 rfl)) (mvT hZ (ow hw 60 rfl)) (by decide) (backOf (W := 1) (own_sti l Z a0 hw x r5 T5.heap n0 (Nat.le_trans Z0 K5x.1) c6_E_x c6_F1 c6_F2 c6_F3 c6_F4 gn_x) hZ (ow hw 60 rfl) (ow hw 44 rfl) (by decide) (by decide)) (g := (mkF m 22 #[iv 97] [.int 0, .ref r5, .ref x, .ref x])) rfl (by rw [hml]; rfl) (Steps.refl _) (a := x) (argsL := [.ref r5, .int 0]) (rest := [.ref x]) (lenOf own_pd3 rfl) rfl (by show 2 * 0 + _ ≤ _; exact Nat.le_of_eq rfl) (hb hby od82) (fun _ _ => ⟨rfl, rfl, (by decide : 2 + 0 ≤ _), (by decide : 5 + 0 ≤ _)⟩)
  dsimp only [Pt.U, Pt.locs, Pt.cells, Pt.slots] at X7 l7 y7 z7 st7 hQ7
  subst y7 z7
  obtain ⟨rfl, N7q, Kc7, S7c⟩ := hQ7
  have N7 := frE l7 N5 N7q
  refine ov T7 25 #[iv 97] [.ref x] st7 ?_
  have c8_V := V5c.keep Kc7 (ninS (Ne.symm (own_nea c6_E_x V5c (ow hw 52 rfl))) nin0)
  have K7x := K5x.trans Kc7 (allS (Or.inr sz_x) all0)
  refine own_retA X7 hx hlk hret rfl rfl (hb hby od83) ?_ (by decide) (by decide)
  exact ⟨_, _, _, rfl, N7, K7x, S7c, c8_V, sz_x⟩
set_option maxRecDepth 65536 in
set_option maxHeartbeats 40000000 in
theorem own_slh97 (l : Launch) (Z : State) (a0 : Array Value) (hw : ∀ d ∈ tables_1, d.before a0 Z = true) (ar : Addr) (k : ClassId) (h0 : Heap) (n0 : Nat) (Z0 : n0 ≤ h0.size) (V : Arv Z h0 ar k .byte 1 [.int 97] (.int 0)) :
    own_C l Z (⟨"java/lang/StringLatin1", "hashCode", "([B)I"⟩ : MethodName) jdk_43_method_21_code 1 (some .int) [] ({ frames := 0, cells := 0, slots := 0, locals := 0 } : Room) #[.ref ar] h0 (own_Qz (97 : Int32) h0 n0) := by
  refine MetFree.of_bodySF (plainFor_of_name own_pn6) hisR ?_
  intro p e s m args below meth c s₁ Bd hml hP hK
  obtain ⟨rfl, hZ, hh⟩ := hP
  obtain ⟨hx, hby, hlk, hret, hown, hnm, X0, e0⟩ := own_hd Bd hh
  have N0 := Fr.nil n0
  refine own_open (own_ef1 m ar) ?_
  refine s_aloadN X0 hx (hb hby od84) rfl rfl  ?_
  have vv1 := V
  obtain ⟨cl1, Ar1, qa1, Sz1, Ng1, Ha1, Ga1⟩ := vv1
  refine og s₁ 2 #[rv ar] [(.int cl1.slots.size.toInt32)] (fun _ k => X0.arraylength hx (by rw [e0]; exact Ar1.1) (State.isArrayOf_alike hZ.alike Ar1.2.1) (g := (mkF m 1 #[rv ar] [.ref ar])) rfl rfl (hb hby od85) _ k) ?_
  rw [len_of Sz1 Ng1]
  refine og s₁ 32 #[rv ar] [] (fun _ k => X0.lookupswitchHit hx (g := (mkF m 2 #[rv ar] [.int 1])) rfl rfl (hb hby od86) (by decide) (a := 1) (off := 30) (by decide) (show (0 : Int) ≤ ((2 : Nat) : Int) + 30 from by decide) _ k) ?_
  refine s_aloadN X0 hx (hb hby od87) rfl rfl  ?_
  refine s_iconst 0 X0 hx (hb hby od88) rfl ?_
  have vv2 := V
  obtain ⟨cl2, Ar2, qa2, Sz2, Ng2, Ha2, Ga2⟩ := vv2
  have hin2 : ¬ ((0 : Int32) < 0 ∨ cl2.slots.size ≤ ((0 : Int32)).toNatClampNeg) := inb_of Sz2 ⟨by decide, by decide⟩
  refine og s₁ 35 #[rv ar] [.int 97] (fun _ k => X0.baloadBytes hx (j := (0 : Int32)) (v := (.int 97)) (by rw [e0]; exact Ar2.1) (State.isArrayOf_alike hZ.alike Ar2.2.1) Ar2.2.2 hin2 (Ha2.at hin2 rfl) (g := (mkF m 34 #[rv ar] [.int 0, .ref ar])) rfl rfl (hb hby od89) _ k) ?_
  refine s_sipush 255 X0 hx (hb hby od90) rfl ?_
  refine og s₁ 39 #[rv ar] [.int 97] (fun _ k => XS.iand X0.here hx rfl (hb hby od91) rfl k) ?_
  refine s_goto 51 X0 hx (hb hby od92) (by decide) (by decide) ?_
  refine own_retI X0 hx hlk hret (hb hby od93) ?_ (by decide) (by decide)
  rw [e0]
  exact ⟨rfl, N0, rfl⟩
set_option maxRecDepth 65536 in
set_option maxHeartbeats 40000000 in
theorem own_hc97 (l : Launch) (Z : State) (a0 : Array Value) (hw : ∀ d ∈ tables_1, d.before a0 Z = true) (x : Addr) (ar : Addr) (k : ClassId) (cs : Int32) (h0 : Heap) (n0 : Nat) (Z0 : n0 ≤ h0.size) (E_x : Exa Z h0 x "java/lang/String") (F1 : Fld Z h0 x "java/lang/String" "value" "[B" (.ref ar)) (F2 : Fld Z h0 x "java/lang/String" "coder" "B" (.int 0)) (F3 : Fld Z h0 x "java/lang/String" "hash" "I" (.int 0)) (F4 : Fld Z h0 x "java/lang/String" "hashIsZero" "Z" (.int 0)) (V : Arv Z h0 ar k .byte 1 [.int 97] (.int 0)) (SC : Sta Z h0 "java/lang/String" "COMPACT_STRINGS" "Z" (.int cs)) (hcs : ¬ cs = (0 : Int32)) (g : n0 ≤ x) :
    own_C l Z (⟨"java/lang/String", "hashCode", "()I"⟩ : MethodName) jdk_42_method_78_code 2 (some .int) [] ({ frames := 1, cells := 0, slots := 0, locals := 12 } : Room) #[.ref x] h0 (own_Qx x (97 : Int32) h0 n0) := by
  refine MetFree.of_bodySF (plainFor_of_name own_pn5) hisR ?_
  intro p e s m args below meth c s₁ Bd hml hP hK
  obtain ⟨rfl, hZ, hh⟩ := hP
  obtain ⟨hx, hby, hlk, hret, hown, hnm, X0, e0⟩ := own_hd Bd hh
  have N0 := Fr.nil n0
  refine own_open (own_ef4 m x) ?_
  refine s_aloadN X0 hx (hb hby od94) rfl rfl  ?_
  obtain ⟨T1, X1, e1, st1⟩ := getF X0 hx hZ hown (host := "") (Or.inl (ow hw 91 rfl)) Via.refl e0 F3 (g := (mkF m 1 #[rv x, .unset] [.ref x])) rfl rfl (hb hby od95)
  refine og T1 4 #[rv x, .unset] [.int 0] st1 ?_
  refine og T1 5 #[rv x, iv 0] [] (fun _ k => XS.istoreN X1.here hx rfl (hb hby od96) rfl (l' := #[rv x, iv 0]) rfl k) ?_
  refine s_iloadN X1 hx (hb hby od97) rfl  ?_
  refine s_ifN X1 hx (hb hby od98) ((if0 _ _).trans (teq rfl).2) ?_
  refine s_aloadN X1 hx (hb hby od99) rfl rfl  ?_
  obtain ⟨T2, X2, e2, st2⟩ := getF X1 hx hZ hown (host := "") (Or.inl (ow hw 93 rfl)) Via.refl e1 F4 (g := (mkF m 10 #[rv x, iv 0] [.ref x])) rfl rfl (hb hby od100)
  refine og T2 13 #[rv x, iv 0] [.int 0] st2 ?_
  refine s_ifN X2 hx (hb hby od101) ((if0 _ _).trans (teq rfl).2) ?_
  refine s_aloadN X2 hx (hb hby od102) rfl rfl  ?_
  obtain ⟨cq3, kq3, q3a, q3b, q3c⟩ := isOf hZ e2 (E_x)
  obtain ⟨_, _, ⟨T3, L3, k3, n3⟩, -, X3, ⟨Lc3, hQ3, l3, y3, z3⟩, st3⟩ := X2.virtualBack hx hown (mvT hZ (ow hw 95 rfl)) (mvT hZ (ow hw 96 rfl)) (notFace_of_selects (args := #[]) (mvT hZ (ow hw 98 rfl))) (mvT hZ (ow hw 98 rfl)) (mvT hZ (ow hw 97 rfl)) (by decide) (backOf (W := 0) (own_isl l Z a0 hw x cs h0 n0 Z0 F2 SC hcs) hZ (ow hw 99 rfl) (ow hw 44 rfl) (by decide) (by decide)) q3a q3c (g := (mkF m 17 #[rv x, iv 0] [.ref x])) rfl (by rw [hml]; rfl) (Steps.refl _) (argsL := []) (rest := []) (lenOf own_pd4 rfl) rfl (by show 2 * 0 + _ ≤ _; exact Nat.le_of_eq rfl) (hb hby od103) (fun _ _ => ⟨rfl, e2, (by decide : 0 + 0 ≤ _), (by decide : 0 + 0 ≤ _)⟩)
  dsimp only [Pt.U, Pt.locs, Pt.cells, Pt.slots] at X3 l3 y3 z3 st3 hQ3
  subst y3 z3
  obtain ⟨rfl, N3q, hh3⟩ := hQ3
  have N3 := frE l3 N0 N3q
  refine ov T3 20 #[rv x, iv 0] [.int 1] st3 ?_
  refine s_ifN X3 hx (hb hby od104) ((if0 _ _).trans (feq (by decide)).1) ?_
  refine s_aloadN X3 hx (hb hby od105) rfl rfl  ?_
  obtain ⟨T4, X4, e4, st4⟩ := getF X3 hx hZ hown (host := "") (Or.inl (ow hw 62 rfl)) Via.refl hh3 F1 (g := (mkF m 24 #[rv x, iv 0] [.ref x])) rfl rfl (hb hby od106)
  refine og T4 27 #[rv x, iv 0] [.ref ar] st4 ?_
  obtain ⟨_, _, ⟨T5, L5, k5, n5⟩, -, X5, ⟨Lc5, hQ5, l5, y5, z5⟩, st5⟩ := Jvm.LawKit.callS X4 hx hown (mvT hZ (ow hw 100 rfl)) (mvT hZ (ow hw 101 rfl)) (mvT hZ (ow hw 49 rfl)) (mvT hZ (ow hw 102 rfl)) (by decide) (backOf (W := 0) (own_slh97 l Z a0 hw ar k h0 n0 Z0 V) hZ (ow hw 102 rfl) (ow hw 49 rfl) (by decide) (by decide)) (g := (mkF m 27 #[rv x, iv 0] [.ref ar])) rfl (by rw [hml]; rfl) (argsL := [.ref ar]) (rest := []) (lenOf own_pd5 rfl) rfl (by show 2 * 0 + _ ≤ _; exact Nat.le_of_eq rfl) (hb hby od107) (fun _ _ => ⟨rfl, e4, (by decide : 0 + 0 ≤ _), (by decide : 0 + 0 ≤ _)⟩)
  dsimp only [Pt.U, Pt.locs, Pt.cells, Pt.slots] at X5 l5 y5 z5 st5 hQ5
  subst y5 z5
  obtain ⟨rfl, N5q, hh5⟩ := hQ5
  have N5 := frE l5 N3 N5q
  refine og T5 30 #[rv x, iv 0] [.int 97] st5 ?_
  refine s_goto 40 X5 hx (hb hby od108) (by decide) (by decide) ?_
  refine og T5 41 #[rv x, iv 97] [] (fun _ k => XS.istoreN X5.here hx rfl (hb hby od109) rfl (l' := #[rv x, iv 97]) rfl k) ?_
  refine s_iloadN X5 hx (hb hby od110) rfl  ?_
  refine s_ifY 53 X5 hx (hb hby od111) ((if0 _ _).trans (feq (by decide)).2) (by decide) (by decide) ?_
  refine s_aloadN X5 hx (hb hby od112) rfl rfl  ?_
  refine s_iloadN X5 hx (hb hby od113) rfl  ?_
  obtain ⟨T6, h6, X6, e6, W6, st6⟩ := putF X5 hx hZ hown (host := "") (Or.inl (ow hw 91 rfl)) Via.refl hh5 F3 E_x (Or.inl (ow hw 92 rfl)) (ow hw 52 rfl) (ty := .int) (by decide) rfl rfl (g := (mkF m 55 #[rv x, iv 97] [.int 97, .ref x])) rfl rfl (hb hby od114)
  have N6 := Fr.snoc X6 N5 g
  refine og T6 58 #[rv x, iv 97] [] st6 ?_
  have n6_F3 := F3.same W6
  have c7_E_x := E_x.wr W6
  have K6 := (Keep.refl h0 [x]).wr W6 (Or.inl (List.mem_of_getElem? (i := 0) rfl))
  refine s_iloadN X6 hx (hb hby od115) rfl  ?_
  refine own_retI X6 hx hlk hret (hb hby od116) ?_ (by decide) (by decide)
  rw [e6]
  exact ⟨rfl, N6, K6⟩
set_option maxRecDepth 65536 in
set_option maxHeartbeats 40000000 in
theorem own_hash97 (l : Launch) (Z : State) (a0 : Array Value) (hw : ∀ d ∈ tables_1, d.before a0 Z = true) (x : Addr) (ar : Addr) (k : ClassId) (cs : Int32) (h0 : Heap) (n0 : Nat) (Z0 : n0 ≤ h0.size) (E_x : Exa Z h0 x "java/lang/String") (F1 : Fld Z h0 x "java/lang/String" "value" "[B" (.ref ar)) (F2 : Fld Z h0 x "java/lang/String" "coder" "B" (.int 0)) (F3 : Fld Z h0 x "java/lang/String" "hash" "I" (.int 0)) (F4 : Fld Z h0 x "java/lang/String" "hashIsZero" "Z" (.int 0)) (V : Arv Z h0 ar k .byte 1 [.int 97] (.int 0)) (SC : Sta Z h0 "java/lang/String" "COMPACT_STRINGS" "Z" (.int cs)) (hcs : ¬ cs = (0 : Int32)) (g : n0 ≤ x) :
    own_C l Z (⟨"java/util/HashMap", "hash", "(Ljava/lang/Object;)I"⟩ : MethodName) jdk_69_method_1_code 2 (some .int) [] ({ frames := 2, cells := 0, slots := 0, locals := 25 } : Room) #[.ref x] h0 (own_Qx x (97 : Int32) h0 n0) := by
  refine MetFree.of_bodySF (plainFor_of_name own_pn4) hisR ?_
  intro p e s m args below meth c s₁ Bd hml hP hK
  obtain ⟨rfl, hZ, hh⟩ := hP
  obtain ⟨hx, hby, hlk, hret, hown, hnm, X0, e0⟩ := own_hd Bd hh
  have N0 := Fr.nil n0
  refine own_open (own_ef4 m x) ?_
  refine s_aloadN X0 hx (hb hby od117) rfl rfl  ?_
  refine og s₁ 8 #[rv x, .unset] [] (fun _ k => XS.ifnonnullYes X0.here hx rfl (pc0 := 1) (pc' := 8) rfl (hb hby od118) rfl (by decide) (by decide) k) ?_
  refine s_aloadN X0 hx (hb hby od119) rfl rfl  ?_
  obtain ⟨cq1, kq1, q1a, q1b, q1c⟩ := isOf hZ e0 (E_x)
  obtain ⟨_, _, ⟨T1, L1, k1, n1⟩, -, X1, ⟨Lc1, hQ1, l1, y1, z1⟩, st1⟩ := X0.virtualBack hx hown (mvT hZ (ow hw 85 rfl)) (mvT hZ (ow hw 86 rfl)) (own_nf hZ (ow hw 331 rfl)) (mvT hZ (ow hw 88 rfl)) (mvT hZ (ow hw 89 rfl)) (by decide) (backOf (W := 0) (own_hc97 l Z a0 hw x ar k cs h0 n0 Z0 E_x F1 F2 F3 F4 V SC hcs g) hZ (ow hw 90 rfl) (ow hw 44 rfl) (by decide) (by decide)) q1a q1c (g := (mkF m 9 #[rv x, .unset] [.ref x])) rfl (by rw [hml]; rfl) (Steps.refl _) (argsL := []) (rest := []) (lenOf own_pd6 rfl) rfl (by show 2 * 0 + _ ≤ _; exact Nat.le_of_eq rfl) (hb hby od120) (fun _ _ => ⟨rfl, e0, (by decide : 0 + 0 ≤ _), (by decide : 0 + 0 ≤ _)⟩)
  dsimp only [Pt.U, Pt.locs, Pt.cells, Pt.slots] at X1 l1 y1 z1 st1 hQ1
  subst y1 z1
  obtain ⟨rfl, N1q, Kc1⟩ := hQ1
  have N1 := frE l1 N0 N1q
  refine ov T1 12 #[rv x, .unset] [.int 97] st1 ?_
  refine s_dup X1 hx (hb hby od121) rfl ?_
  refine og T1 14 #[rv x, iv 97] [.int 97] (fun _ k => XS.istoreN X1.here hx rfl (hb hby od122) rfl (l' := #[rv x, iv 97]) rfl k) ?_
  refine s_iloadN X1 hx (hb hby od123) rfl  ?_
  refine s_bipush 16 X1 hx (hb hby od124) rfl ?_
  refine og T1 18 #[rv x, iv 97] [.int 0, .int 97] (fun _ k => XS.iushr X1.here hx rfl (hb hby od125) rfl k) ?_
  refine og T1 19 #[rv x, iv 97] [.int 97] (fun _ k => XS.ixor X1.here hx rfl (hb hby od126) rfl k) ?_
  refine own_retI X1 hx hlk hret (hb hby od127) ?_ (by decide) (by decide)
  exact ⟨rfl, N1, Kc1⟩
set_option maxRecDepth 65536 in
set_option maxHeartbeats 40000000 in
theorem own_cen98 (l : Launch) (Z : State) (a0 : Array Value) (hw : ∀ d ∈ tables_1, d.before a0 Z = true)   (h0 : Heap) (n0 : Nat) (Z0 : n0 ≤ h0.size)  :
    own_C l Z (⟨"java/lang/StringLatin1", "canEncode", "(C)Z"⟩ : MethodName) jdk_43_method_3_code 1 (some .boolean) [] ({ frames := 0, cells := 0, slots := 0, locals := 0 } : Room) #[.int 98] h0 (own_Qz 1 h0 n0) := by
  refine MetFree.of_bodySF (plainFor_of_name own_pn6) hisR ?_
  intro p e s m args below meth c s₁ Bd hml hP hK
  obtain ⟨rfl, hZ, hh⟩ := hP
  obtain ⟨hx, hby, hlk, hret, hown, hnm, X0, e0⟩ := own_hd Bd hh
  have N0 := Fr.nil n0
  refine own_open (own_ef3 m ((98 : Int32))) ?_
  refine s_iloadN X0 hx (hb hby od58) rfl  ?_
  refine s_sipush 255 X0 hx (hb hby od59) rfl ?_
  refine s_icmpN X0 hx (hb hby od60) (flt (by decide)).2.2.1 ?_
  refine s_iconst 1 X0 hx (hb hby od61) rfl ?_
  refine s_goto 12 X0 hx (hb hby od62) (by decide) (by decide) ?_
  refine own_retZ X0 hx hlk (t := .boolean) hret (by simp) (hb hby od63) ?_ (by decide) (by decide)
  rw [e0]
  exact ⟨rfl, N0, rfl⟩
set_option maxRecDepth 65536 in
set_option maxHeartbeats 40000000 in
theorem own_tob98 (l : Launch) (Z : State) (a0 : Array Value) (hw : ∀ d ∈ tables_1, d.before a0 Z = true)   (h0 : Heap) (n0 : Nat) (Z0 : n0 ≤ h0.size)  :
    own_C l Z (⟨"java/lang/StringLatin1", "toBytes", "(C)[B"⟩ : MethodName) jdk_43_method_46_code 1 (some (.array .byte)) [] ({ frames := 0, cells := 1, slots := 1, locals := 0 } : Room) #[.int 98] h0 (own_Qt Z (98 : Int32) h0 n0) := by
  refine MetFree.of_bodySF (plainFor_of_name own_pn6) hisR ?_
  intro p e s m args below meth c s₁ Bd hml hP hK
  obtain ⟨rfl, hZ, hh⟩ := hP
  obtain ⟨hx, hby, hlk, hret, hown, hnm, X0, e0⟩ := own_hd Bd hh
  have N0 := Fr.nil n0
  refine own_open (own_ef3 m ((98 : Int32))) ?_
  refine s_iconst 1 X0 hx (hb hby od64) rfl ?_
  obtain ⟨T1, h1, k1, X1, e1, E1, A1, Ex1, st1⟩ := newPE X0 hx hZ (ow hw 56 rfl) e0 (g := (mkF m 1 #[iv 98] [.int 1])) rfl (hb hby od65) rfl (by decide) (cap := 1) (by decide) (by decide) (by decide) (by decide) (ad := "[B") (by decide +kernel)
  obtain ⟨r, g1⟩ : ∃ z, z = h0.size := ⟨_, rfl⟩
  rw [← g1] at A1 Ex1 st1
  have V1 : Arv Z h1 r k1 .byte (1 : Int32) [.int 0] (.int 0) := (Arv.new A1 (by decide)).pad (pad_rep [] (.int 0) 1)
  refine og T1 3 #[iv 98] [.ref r] st1 ?_
  have sz_r : h0.size ≤ r := Nat.le_trans (Keep.refl h0 []).1 (Nat.le_of_eq g1.symm)
  have gn_r : n0 ≤ r := Nat.le_trans Z0 sz_r
  have K1 := (Keep.refl h0 []).ext E1
  refine s_dup X1 hx (hb hby od66) rfl ?_
  refine s_iconst 0 X1 hx (hb hby od67) rfl ?_
  refine s_iloadN X1 hx (hb hby od68) rfl  ?_
  refine og T1 7 #[iv 98] [.int 98, .int 0, .ref r, .ref r] (fun _ k => XS.i2b X1.here hx rfl (hb hby od69) rfl k) ?_
  have vv3 := V1
  obtain ⟨cl3, Ar3, qa3, Sz3, Ng3, Ha3, Ga3⟩ := vv3
  have hin3 : ¬ ((0 : Int32) < 0 ∨ cl3.slots.size ≤ ((0 : Int32)).toNatClampNeg) := inb_of Sz3 ⟨by decide, by decide⟩
  obtain ⟨T4, h4, X4, e4, W4, st4⟩ := stB X1 hx hZ e1 Ar3 (j := (0 : Int32)) hin3 (g := (mkF m 7 #[iv 98] [.int 98, .int 0, .ref r, .ref r])) rfl rfl (hb hby od70)
  have V4 : Arv Z h4 r k1 .byte (1 : Int32) [.int (98 : Int32)] (.int 0) := Arv.set Ar3 qa3 Sz3 Ng3 Ha3 Ga3 rfl W4 0 rfl (Nat.le_of_ble_eq_true rfl)
  have N4 := Fr.snoc X4 N0 gn_r
  refine og T4 8 #[iv 98] [.ref r] st4 ?_
  have K4 := K1.wr W4 (Or.inr sz_r)
  refine own_retA X4 hx hlk hret rfl rfl (hb hby od71) ?_ (by decide) (by decide)
  rw [e4]
  exact ⟨_, _, rfl, N4, K4, V4, sz_r⟩
set_option maxRecDepth 65536 in
set_option maxHeartbeats 40000000 in
theorem own_vc98 (l : Launch) (Z : State) (a0 : Array Value) (hw : ∀ d ∈ tables_1, d.before a0 Z = true)  (cs : Int32) (h0 : Heap) (n0 : Nat) (Z0 : n0 ≤ h0.size) (SC : Sta Z h0 "java/lang/String" "COMPACT_STRINGS" "Z" (.int cs)) (hcs : ¬ cs = (0 : Int32)) :
    own_C l Z (⟨"java/lang/String", "valueOf", "(C)Ljava/lang/String;"⟩ : MethodName) jdk_42_method_139_code 1 (some (.object "java/lang/String")) [] ({ frames := 2, cells := 2, slots := 5, locals := 27 } : Room) #[.int 98] h0 (own_Qc Z (98 : Int32) h0 n0) := by
  refine MetFree.of_bodySF (plainFor_of_name own_pn5) hisR ?_
  intro p e s m args below meth c s₁ Bd hml hP hK
  obtain ⟨rfl, hZ, hh⟩ := hP
  obtain ⟨hx, hby, hlk, hret, hown, hnm, X0, e0⟩ := own_hd Bd hh
  have N0 := Fr.nil n0
  refine own_open (own_ef3 m ((98 : Int32))) ?_
  obtain ⟨T1, X1, e1, st1⟩ := getS2 X0 hx hZ hown (host := "") (Or.inl (ow hw 46 rfl)) Via.refl e0 SC (g := (mkF m 0 #[iv 98] [])) rfl (hb hby od72)
  refine og T1 3 #[iv 98] [.int cs] st1 ?_
  refine s_ifN X1 hx (hb hby od73) ((if0 _ _).trans (feq hcs).1) ?_
  refine s_iloadN X1 hx (hb hby od74) rfl  ?_
  obtain ⟨_, _, ⟨T2, L2, k2, n2⟩, -, X2, ⟨Lc2, hQ2, l2, y2, z2⟩, st2⟩ := Jvm.LawKit.callS X1 hx hown (mvT hZ (ow hw 47 rfl)) (mvT hZ (ow hw 48 rfl)) (mvT hZ (ow hw 49 rfl)) (mvT hZ (ow hw 50 rfl)) (by decide) (backOf (W := 0) (own_cen98 l Z a0 hw h0 n0 Z0) hZ (ow hw 50 rfl) (ow hw 49 rfl) (by decide) (by decide)) (g := (mkF m 7 #[iv 98] [.int 98])) rfl (by rw [hml]; rfl) (argsL := [.int 98]) (rest := []) (lenOf own_pd1 rfl) rfl (by show 2 * 0 + _ ≤ _; exact Nat.le_of_eq rfl) (hb hby od75) (fun _ _ => ⟨rfl, e1, (by decide : 0 + 0 ≤ _), (by decide : 0 + 0 ≤ _)⟩)
  dsimp only [Pt.U, Pt.locs, Pt.cells, Pt.slots] at X2 l2 y2 z2 st2 hQ2
  subst y2 z2
  obtain ⟨rfl, N2q, hh2⟩ := hQ2
  have N2 := frE l2 N0 N2q
  refine og T2 10 #[iv 98] [.int 1] st2 ?_
  refine s_ifN X2 hx (hb hby od76) ((if0 _ _).trans (feq (by decide)).1) ?_
  obtain ⟨T3, h3, X3, e3, E3, A3, D3, -, st3⟩ := newO X2 hx hZ hown (ow hw 51 rfl) (ow hw 52 rfl) (ow hw 44 rfl) hh2 (g := (mkF m 13 #[iv 98] [])) rfl (hb hby od77) (by decide) (by decide)
  obtain ⟨x, g3⟩ : ∃ z, z = h0.size := ⟨_, rfl⟩
  rw [← g3] at A3 D3 st3
  refine og T3 16 #[iv 98] [.ref x] st3 ?_
  have sz_x : h0.size ≤ x := Nat.le_trans (Keep.refl h0 []).1 (Nat.le_of_eq g3.symm)
  have gn_x : n0 ≤ x := Nat.le_trans Z0 sz_x
  have c4_SC := SC.ext E3
  have K3 := (Keep.refl h0 []).ext E3
  refine s_dup X3 hx (hb hby od78) rfl ?_
  refine s_iloadN X3 hx (hb hby od79) rfl  ?_
  obtain ⟨_, _, ⟨T5, L5, k5, n5⟩, -, X5, ⟨Lc5, hQ5, l5, y5, z5⟩, st5⟩ := Jvm.LawKit.callS X3 hx hown (mvT hZ (ow hw 53 rfl)) (mvT hZ (ow hw 54 rfl)) (mvT hZ (ow hw 49 rfl)) (mvT hZ (ow hw 55 rfl)) (by decide) (backOf (W := 2) (own_tob98 l Z a0 hw h3 n0 (Nat.le_trans Z0 K3.1)) hZ (ow hw 55 rfl) (ow hw 49 rfl) (by decide) (by decide)) (g := (mkF m 18 #[iv 98] [.int 98, .ref x, .ref x])) rfl (by rw [hml]; rfl) (argsL := [.int 98]) (rest := [.ref x, .ref x]) (lenOf own_pd2 rfl) rfl (by show 2 * 0 + _ ≤ _; exact Nat.le_of_eq rfl) (hb hby od80) (fun _ _ => ⟨rfl, e3, (by decide : 1 + 1 ≤ _), (by decide : 4 + 1 ≤ _)⟩)
  dsimp only [Pt.U, Pt.locs, Pt.cells, Pt.slots] at X5 l5 y5 z5 st5 hQ5
  subst y5 z5
  obtain ⟨r5, k5c, rfl, N5q, Kc5, V5c, s5c⟩ := hQ5
  have N5 := frE l5 N2 N5q
  refine og T5 21 #[iv 98] [.ref r5, .ref x, .ref x] st5 ?_
  have c6_E_x := A3.keep Kc5
  have c6_F1 := (D3 (Or.inr (ow hw 63 rfl)) (ty := (.array .byte)) (by decide)).keep Kc5 nin0
  have c6_F2 := (D3 (Or.inr (ow hw 65 rfl)) (ty := .byte) (by decide)).keep Kc5 nin0
  have c6_F3 := (D3 (Or.inl (ow hw 92 rfl)) (ty := .int) (by decide)).keep Kc5 nin0
  have c6_F4 := (D3 (Or.inl (ow hw 94 rfl)) (ty := .boolean) (by decide)).keep Kc5 nin0
  have K5x := K3.trans Kc5 all0
  refine s_iconst 0 X5 hx (hb hby od81) rfl ?_
  obtain ⟨_, _, ⟨T7, L7, k7, n7⟩, -, X7, ⟨Lc7, hQ7, l7, y7, z7⟩, st7⟩ := X5.specialBack hx (y := (⟨"java/lang/String", "<init>", "([BB)V"⟩ : MethodName)) rfl hown (mvT hZ (ow hw 57 rfl)) (mvT hZ (ow hw 58 rfl)) (mvT hZ (ow hw 60 rfl)) (by decide) (backOf (W := 1) (own_sti l Z a0 hw x r5 T5.heap n0 (Nat.le_trans Z0 K5x.1) c6_E_x c6_F1 c6_F2 c6_F3 c6_F4 gn_x) hZ (ow hw 60 rfl) (ow hw 44 rfl) (by decide) (by decide)) (g := (mkF m 22 #[iv 98] [.int 0, .ref r5, .ref x, .ref x])) rfl (by rw [hml]; rfl) (Steps.refl _) (a := x) (argsL := [.ref r5, .int 0]) (rest := [.ref x]) (lenOf own_pd3 rfl) rfl (by show 2 * 0 + _ ≤ _; exact Nat.le_of_eq rfl) (hb hby od82) (fun _ _ => ⟨rfl, rfl, (by decide : 2 + 0 ≤ _), (by decide : 5 + 0 ≤ _)⟩)
  dsimp only [Pt.U, Pt.locs, Pt.cells, Pt.slots] at X7 l7 y7 z7 st7 hQ7
  subst y7 z7
  obtain ⟨rfl, N7q, Kc7, S7c⟩ := hQ7
  have N7 := frE l7 N5 N7q
  refine ov T7 25 #[iv 98] [.ref x] st7 ?_
  have c8_V := V5c.keep Kc7 (ninS (Ne.symm (own_nea c6_E_x V5c (ow hw 52 rfl))) nin0)
  have K7x := K5x.trans Kc7 (allS (Or.inr sz_x) all0)
  refine own_retA X7 hx hlk hret rfl rfl (hb hby od83) ?_ (by decide) (by decide)
  exact ⟨_, _, _, rfl, N7, K7x, S7c, c8_V, sz_x⟩
set_option maxRecDepth 65536 in
set_option maxHeartbeats 40000000 in
theorem own_slh98 (l : Launch) (Z : State) (a0 : Array Value) (hw : ∀ d ∈ tables_1, d.before a0 Z = true) (ar : Addr) (k : ClassId) (h0 : Heap) (n0 : Nat) (Z0 : n0 ≤ h0.size) (V : Arv Z h0 ar k .byte 1 [.int 98] (.int 0)) :
    own_C l Z (⟨"java/lang/StringLatin1", "hashCode", "([B)I"⟩ : MethodName) jdk_43_method_21_code 1 (some .int) [] ({ frames := 0, cells := 0, slots := 0, locals := 0 } : Room) #[.ref ar] h0 (own_Qz (98 : Int32) h0 n0) := by
  refine MetFree.of_bodySF (plainFor_of_name own_pn6) hisR ?_
  intro p e s m args below meth c s₁ Bd hml hP hK
  obtain ⟨rfl, hZ, hh⟩ := hP
  obtain ⟨hx, hby, hlk, hret, hown, hnm, X0, e0⟩ := own_hd Bd hh
  have N0 := Fr.nil n0
  refine own_open (own_ef1 m ar) ?_
  refine s_aloadN X0 hx (hb hby od84) rfl rfl  ?_
  have vv1 := V
  obtain ⟨cl1, Ar1, qa1, Sz1, Ng1, Ha1, Ga1⟩ := vv1
  refine og s₁ 2 #[rv ar] [(.int cl1.slots.size.toInt32)] (fun _ k => X0.arraylength hx (by rw [e0]; exact Ar1.1) (State.isArrayOf_alike hZ.alike Ar1.2.1) (g := (mkF m 1 #[rv ar] [.ref ar])) rfl rfl (hb hby od85) _ k) ?_
  rw [len_of Sz1 Ng1]
  refine og s₁ 32 #[rv ar] [] (fun _ k => X0.lookupswitchHit hx (g := (mkF m 2 #[rv ar] [.int 1])) rfl rfl (hb hby od86) (by decide) (a := 1) (off := 30) (by decide) (show (0 : Int) ≤ ((2 : Nat) : Int) + 30 from by decide) _ k) ?_
  refine s_aloadN X0 hx (hb hby od87) rfl rfl  ?_
  refine s_iconst 0 X0 hx (hb hby od88) rfl ?_
  have vv2 := V
  obtain ⟨cl2, Ar2, qa2, Sz2, Ng2, Ha2, Ga2⟩ := vv2
  have hin2 : ¬ ((0 : Int32) < 0 ∨ cl2.slots.size ≤ ((0 : Int32)).toNatClampNeg) := inb_of Sz2 ⟨by decide, by decide⟩
  refine og s₁ 35 #[rv ar] [.int 98] (fun _ k => X0.baloadBytes hx (j := (0 : Int32)) (v := (.int 98)) (by rw [e0]; exact Ar2.1) (State.isArrayOf_alike hZ.alike Ar2.2.1) Ar2.2.2 hin2 (Ha2.at hin2 rfl) (g := (mkF m 34 #[rv ar] [.int 0, .ref ar])) rfl rfl (hb hby od89) _ k) ?_
  refine s_sipush 255 X0 hx (hb hby od90) rfl ?_
  refine og s₁ 39 #[rv ar] [.int 98] (fun _ k => XS.iand X0.here hx rfl (hb hby od91) rfl k) ?_
  refine s_goto 51 X0 hx (hb hby od92) (by decide) (by decide) ?_
  refine own_retI X0 hx hlk hret (hb hby od93) ?_ (by decide) (by decide)
  rw [e0]
  exact ⟨rfl, N0, rfl⟩
set_option maxRecDepth 65536 in
set_option maxHeartbeats 40000000 in
theorem own_hc98 (l : Launch) (Z : State) (a0 : Array Value) (hw : ∀ d ∈ tables_1, d.before a0 Z = true) (x : Addr) (ar : Addr) (k : ClassId) (cs : Int32) (h0 : Heap) (n0 : Nat) (Z0 : n0 ≤ h0.size) (E_x : Exa Z h0 x "java/lang/String") (F1 : Fld Z h0 x "java/lang/String" "value" "[B" (.ref ar)) (F2 : Fld Z h0 x "java/lang/String" "coder" "B" (.int 0)) (F3 : Fld Z h0 x "java/lang/String" "hash" "I" (.int 0)) (F4 : Fld Z h0 x "java/lang/String" "hashIsZero" "Z" (.int 0)) (V : Arv Z h0 ar k .byte 1 [.int 98] (.int 0)) (SC : Sta Z h0 "java/lang/String" "COMPACT_STRINGS" "Z" (.int cs)) (hcs : ¬ cs = (0 : Int32)) (g : n0 ≤ x) :
    own_C l Z (⟨"java/lang/String", "hashCode", "()I"⟩ : MethodName) jdk_42_method_78_code 2 (some .int) [] ({ frames := 1, cells := 0, slots := 0, locals := 12 } : Room) #[.ref x] h0 (own_Qx x (98 : Int32) h0 n0) := by
  refine MetFree.of_bodySF (plainFor_of_name own_pn5) hisR ?_
  intro p e s m args below meth c s₁ Bd hml hP hK
  obtain ⟨rfl, hZ, hh⟩ := hP
  obtain ⟨hx, hby, hlk, hret, hown, hnm, X0, e0⟩ := own_hd Bd hh
  have N0 := Fr.nil n0
  refine own_open (own_ef4 m x) ?_
  refine s_aloadN X0 hx (hb hby od94) rfl rfl  ?_
  obtain ⟨T1, X1, e1, st1⟩ := getF X0 hx hZ hown (host := "") (Or.inl (ow hw 91 rfl)) Via.refl e0 F3 (g := (mkF m 1 #[rv x, .unset] [.ref x])) rfl rfl (hb hby od95)
  refine og T1 4 #[rv x, .unset] [.int 0] st1 ?_
  refine og T1 5 #[rv x, iv 0] [] (fun _ k => XS.istoreN X1.here hx rfl (hb hby od96) rfl (l' := #[rv x, iv 0]) rfl k) ?_
  refine s_iloadN X1 hx (hb hby od97) rfl  ?_
  refine s_ifN X1 hx (hb hby od98) ((if0 _ _).trans (teq rfl).2) ?_
  refine s_aloadN X1 hx (hb hby od99) rfl rfl  ?_
  obtain ⟨T2, X2, e2, st2⟩ := getF X1 hx hZ hown (host := "") (Or.inl (ow hw 93 rfl)) Via.refl e1 F4 (g := (mkF m 10 #[rv x, iv 0] [.ref x])) rfl rfl (hb hby od100)
  refine og T2 13 #[rv x, iv 0] [.int 0] st2 ?_
  refine s_ifN X2 hx (hb hby od101) ((if0 _ _).trans (teq rfl).2) ?_
  refine s_aloadN X2 hx (hb hby od102) rfl rfl  ?_
  obtain ⟨cq3, kq3, q3a, q3b, q3c⟩ := isOf hZ e2 (E_x)
  obtain ⟨_, _, ⟨T3, L3, k3, n3⟩, -, X3, ⟨Lc3, hQ3, l3, y3, z3⟩, st3⟩ := X2.virtualBack hx hown (mvT hZ (ow hw 95 rfl)) (mvT hZ (ow hw 96 rfl)) (notFace_of_selects (args := #[]) (mvT hZ (ow hw 98 rfl))) (mvT hZ (ow hw 98 rfl)) (mvT hZ (ow hw 97 rfl)) (by decide) (backOf (W := 0) (own_isl l Z a0 hw x cs h0 n0 Z0 F2 SC hcs) hZ (ow hw 99 rfl) (ow hw 44 rfl) (by decide) (by decide)) q3a q3c (g := (mkF m 17 #[rv x, iv 0] [.ref x])) rfl (by rw [hml]; rfl) (Steps.refl _) (argsL := []) (rest := []) (lenOf own_pd4 rfl) rfl (by show 2 * 0 + _ ≤ _; exact Nat.le_of_eq rfl) (hb hby od103) (fun _ _ => ⟨rfl, e2, (by decide : 0 + 0 ≤ _), (by decide : 0 + 0 ≤ _)⟩)
  dsimp only [Pt.U, Pt.locs, Pt.cells, Pt.slots] at X3 l3 y3 z3 st3 hQ3
  subst y3 z3
  obtain ⟨rfl, N3q, hh3⟩ := hQ3
  have N3 := frE l3 N0 N3q
  refine ov T3 20 #[rv x, iv 0] [.int 1] st3 ?_
  refine s_ifN X3 hx (hb hby od104) ((if0 _ _).trans (feq (by decide)).1) ?_
  refine s_aloadN X3 hx (hb hby od105) rfl rfl  ?_
  obtain ⟨T4, X4, e4, st4⟩ := getF X3 hx hZ hown (host := "") (Or.inl (ow hw 62 rfl)) Via.refl hh3 F1 (g := (mkF m 24 #[rv x, iv 0] [.ref x])) rfl rfl (hb hby od106)
  refine og T4 27 #[rv x, iv 0] [.ref ar] st4 ?_
  obtain ⟨_, _, ⟨T5, L5, k5, n5⟩, -, X5, ⟨Lc5, hQ5, l5, y5, z5⟩, st5⟩ := Jvm.LawKit.callS X4 hx hown (mvT hZ (ow hw 100 rfl)) (mvT hZ (ow hw 101 rfl)) (mvT hZ (ow hw 49 rfl)) (mvT hZ (ow hw 102 rfl)) (by decide) (backOf (W := 0) (own_slh98 l Z a0 hw ar k h0 n0 Z0 V) hZ (ow hw 102 rfl) (ow hw 49 rfl) (by decide) (by decide)) (g := (mkF m 27 #[rv x, iv 0] [.ref ar])) rfl (by rw [hml]; rfl) (argsL := [.ref ar]) (rest := []) (lenOf own_pd5 rfl) rfl (by show 2 * 0 + _ ≤ _; exact Nat.le_of_eq rfl) (hb hby od107) (fun _ _ => ⟨rfl, e4, (by decide : 0 + 0 ≤ _), (by decide : 0 + 0 ≤ _)⟩)
  dsimp only [Pt.U, Pt.locs, Pt.cells, Pt.slots] at X5 l5 y5 z5 st5 hQ5
  subst y5 z5
  obtain ⟨rfl, N5q, hh5⟩ := hQ5
  have N5 := frE l5 N3 N5q
  refine og T5 30 #[rv x, iv 0] [.int 98] st5 ?_
  refine s_goto 40 X5 hx (hb hby od108) (by decide) (by decide) ?_
  refine og T5 41 #[rv x, iv 98] [] (fun _ k => XS.istoreN X5.here hx rfl (hb hby od109) rfl (l' := #[rv x, iv 98]) rfl k) ?_
  refine s_iloadN X5 hx (hb hby od110) rfl  ?_
  refine s_ifY 53 X5 hx (hb hby od111) ((if0 _ _).trans (feq (by decide)).2) (by decide) (by decide) ?_
  refine s_aloadN X5 hx (hb hby od112) rfl rfl  ?_
  refine s_iloadN X5 hx (hb hby od113) rfl  ?_
  obtain ⟨T6, h6, X6, e6, W6, st6⟩ := putF X5 hx hZ hown (host := "") (Or.inl (ow hw 91 rfl)) Via.refl hh5 F3 E_x (Or.inl (ow hw 92 rfl)) (ow hw 52 rfl) (ty := .int) (by decide) rfl rfl (g := (mkF m 55 #[rv x, iv 98] [.int 98, .ref x])) rfl rfl (hb hby od114)
  have N6 := Fr.snoc X6 N5 g
  refine og T6 58 #[rv x, iv 98] [] st6 ?_
  have n6_F3 := F3.same W6
  have c7_E_x := E_x.wr W6
  have K6 := (Keep.refl h0 [x]).wr W6 (Or.inl (List.mem_of_getElem? (i := 0) rfl))
  refine s_iloadN X6 hx (hb hby od115) rfl  ?_
  refine own_retI X6 hx hlk hret (hb hby od116) ?_ (by decide) (by decide)
  rw [e6]
  exact ⟨rfl, N6, K6⟩
set_option maxRecDepth 65536 in
set_option maxHeartbeats 40000000 in
theorem own_hash98 (l : Launch) (Z : State) (a0 : Array Value) (hw : ∀ d ∈ tables_1, d.before a0 Z = true) (x : Addr) (ar : Addr) (k : ClassId) (cs : Int32) (h0 : Heap) (n0 : Nat) (Z0 : n0 ≤ h0.size) (E_x : Exa Z h0 x "java/lang/String") (F1 : Fld Z h0 x "java/lang/String" "value" "[B" (.ref ar)) (F2 : Fld Z h0 x "java/lang/String" "coder" "B" (.int 0)) (F3 : Fld Z h0 x "java/lang/String" "hash" "I" (.int 0)) (F4 : Fld Z h0 x "java/lang/String" "hashIsZero" "Z" (.int 0)) (V : Arv Z h0 ar k .byte 1 [.int 98] (.int 0)) (SC : Sta Z h0 "java/lang/String" "COMPACT_STRINGS" "Z" (.int cs)) (hcs : ¬ cs = (0 : Int32)) (g : n0 ≤ x) :
    own_C l Z (⟨"java/util/HashMap", "hash", "(Ljava/lang/Object;)I"⟩ : MethodName) jdk_69_method_1_code 2 (some .int) [] ({ frames := 2, cells := 0, slots := 0, locals := 25 } : Room) #[.ref x] h0 (own_Qx x (98 : Int32) h0 n0) := by
  refine MetFree.of_bodySF (plainFor_of_name own_pn4) hisR ?_
  intro p e s m args below meth c s₁ Bd hml hP hK
  obtain ⟨rfl, hZ, hh⟩ := hP
  obtain ⟨hx, hby, hlk, hret, hown, hnm, X0, e0⟩ := own_hd Bd hh
  have N0 := Fr.nil n0
  refine own_open (own_ef4 m x) ?_
  refine s_aloadN X0 hx (hb hby od117) rfl rfl  ?_
  refine og s₁ 8 #[rv x, .unset] [] (fun _ k => XS.ifnonnullYes X0.here hx rfl (pc0 := 1) (pc' := 8) rfl (hb hby od118) rfl (by decide) (by decide) k) ?_
  refine s_aloadN X0 hx (hb hby od119) rfl rfl  ?_
  obtain ⟨cq1, kq1, q1a, q1b, q1c⟩ := isOf hZ e0 (E_x)
  obtain ⟨_, _, ⟨T1, L1, k1, n1⟩, -, X1, ⟨Lc1, hQ1, l1, y1, z1⟩, st1⟩ := X0.virtualBack hx hown (mvT hZ (ow hw 85 rfl)) (mvT hZ (ow hw 86 rfl)) (own_nf hZ (ow hw 331 rfl)) (mvT hZ (ow hw 88 rfl)) (mvT hZ (ow hw 89 rfl)) (by decide) (backOf (W := 0) (own_hc98 l Z a0 hw x ar k cs h0 n0 Z0 E_x F1 F2 F3 F4 V SC hcs g) hZ (ow hw 90 rfl) (ow hw 44 rfl) (by decide) (by decide)) q1a q1c (g := (mkF m 9 #[rv x, .unset] [.ref x])) rfl (by rw [hml]; rfl) (Steps.refl _) (argsL := []) (rest := []) (lenOf own_pd6 rfl) rfl (by show 2 * 0 + _ ≤ _; exact Nat.le_of_eq rfl) (hb hby od120) (fun _ _ => ⟨rfl, e0, (by decide : 0 + 0 ≤ _), (by decide : 0 + 0 ≤ _)⟩)
  dsimp only [Pt.U, Pt.locs, Pt.cells, Pt.slots] at X1 l1 y1 z1 st1 hQ1
  subst y1 z1
  obtain ⟨rfl, N1q, Kc1⟩ := hQ1
  have N1 := frE l1 N0 N1q
  refine ov T1 12 #[rv x, .unset] [.int 98] st1 ?_
  refine s_dup X1 hx (hb hby od121) rfl ?_
  refine og T1 14 #[rv x, iv 98] [.int 98] (fun _ k => XS.istoreN X1.here hx rfl (hb hby od122) rfl (l' := #[rv x, iv 98]) rfl k) ?_
  refine s_iloadN X1 hx (hb hby od123) rfl  ?_
  refine s_bipush 16 X1 hx (hb hby od124) rfl ?_
  refine og T1 18 #[rv x, iv 98] [.int 0, .int 98] (fun _ k => XS.iushr X1.here hx rfl (hb hby od125) rfl k) ?_
  refine og T1 19 #[rv x, iv 98] [.int 98] (fun _ k => XS.ixor X1.here hx rfl (hb hby od126) rfl k) ?_
  refine own_retI X1 hx hlk hret (hb hby od127) ?_ (by decide) (by decide)
  exact ⟨rfl, N1, Kc1⟩
set_option maxRecDepth 65536 in
set_option maxHeartbeats 40000000 in
theorem own_cen99 (l : Launch) (Z : State) (a0 : Array Value) (hw : ∀ d ∈ tables_1, d.before a0 Z = true)   (h0 : Heap) (n0 : Nat) (Z0 : n0 ≤ h0.size)  :
    own_C l Z (⟨"java/lang/StringLatin1", "canEncode", "(C)Z"⟩ : MethodName) jdk_43_method_3_code 1 (some .boolean) [] ({ frames := 0, cells := 0, slots := 0, locals := 0 } : Room) #[.int 99] h0 (own_Qz 1 h0 n0) := by
  refine MetFree.of_bodySF (plainFor_of_name own_pn6) hisR ?_
  intro p e s m args below meth c s₁ Bd hml hP hK
  obtain ⟨rfl, hZ, hh⟩ := hP
  obtain ⟨hx, hby, hlk, hret, hown, hnm, X0, e0⟩ := own_hd Bd hh
  have N0 := Fr.nil n0
  refine own_open (own_ef3 m ((99 : Int32))) ?_
  refine s_iloadN X0 hx (hb hby od58) rfl  ?_
  refine s_sipush 255 X0 hx (hb hby od59) rfl ?_
  refine s_icmpN X0 hx (hb hby od60) (flt (by decide)).2.2.1 ?_
  refine s_iconst 1 X0 hx (hb hby od61) rfl ?_
  refine s_goto 12 X0 hx (hb hby od62) (by decide) (by decide) ?_
  refine own_retZ X0 hx hlk (t := .boolean) hret (by simp) (hb hby od63) ?_ (by decide) (by decide)
  rw [e0]
  exact ⟨rfl, N0, rfl⟩
set_option maxRecDepth 65536 in
set_option maxHeartbeats 40000000 in
theorem own_tob99 (l : Launch) (Z : State) (a0 : Array Value) (hw : ∀ d ∈ tables_1, d.before a0 Z = true)   (h0 : Heap) (n0 : Nat) (Z0 : n0 ≤ h0.size)  :
    own_C l Z (⟨"java/lang/StringLatin1", "toBytes", "(C)[B"⟩ : MethodName) jdk_43_method_46_code 1 (some (.array .byte)) [] ({ frames := 0, cells := 1, slots := 1, locals := 0 } : Room) #[.int 99] h0 (own_Qt Z (99 : Int32) h0 n0) := by
  refine MetFree.of_bodySF (plainFor_of_name own_pn6) hisR ?_
  intro p e s m args below meth c s₁ Bd hml hP hK
  obtain ⟨rfl, hZ, hh⟩ := hP
  obtain ⟨hx, hby, hlk, hret, hown, hnm, X0, e0⟩ := own_hd Bd hh
  have N0 := Fr.nil n0
  refine own_open (own_ef3 m ((99 : Int32))) ?_
  refine s_iconst 1 X0 hx (hb hby od64) rfl ?_
  obtain ⟨T1, h1, k1, X1, e1, E1, A1, Ex1, st1⟩ := newPE X0 hx hZ (ow hw 56 rfl) e0 (g := (mkF m 1 #[iv 99] [.int 1])) rfl (hb hby od65) rfl (by decide) (cap := 1) (by decide) (by decide) (by decide) (by decide) (ad := "[B") (by decide +kernel)
  obtain ⟨r, g1⟩ : ∃ z, z = h0.size := ⟨_, rfl⟩
  rw [← g1] at A1 Ex1 st1
  have V1 : Arv Z h1 r k1 .byte (1 : Int32) [.int 0] (.int 0) := (Arv.new A1 (by decide)).pad (pad_rep [] (.int 0) 1)
  refine og T1 3 #[iv 99] [.ref r] st1 ?_
  have sz_r : h0.size ≤ r := Nat.le_trans (Keep.refl h0 []).1 (Nat.le_of_eq g1.symm)
  have gn_r : n0 ≤ r := Nat.le_trans Z0 sz_r
  have K1 := (Keep.refl h0 []).ext E1
  refine s_dup X1 hx (hb hby od66) rfl ?_
  refine s_iconst 0 X1 hx (hb hby od67) rfl ?_
  refine s_iloadN X1 hx (hb hby od68) rfl  ?_
  refine og T1 7 #[iv 99] [.int 99, .int 0, .ref r, .ref r] (fun _ k => XS.i2b X1.here hx rfl (hb hby od69) rfl k) ?_
  have vv3 := V1
  obtain ⟨cl3, Ar3, qa3, Sz3, Ng3, Ha3, Ga3⟩ := vv3
  have hin3 : ¬ ((0 : Int32) < 0 ∨ cl3.slots.size ≤ ((0 : Int32)).toNatClampNeg) := inb_of Sz3 ⟨by decide, by decide⟩
  obtain ⟨T4, h4, X4, e4, W4, st4⟩ := stB X1 hx hZ e1 Ar3 (j := (0 : Int32)) hin3 (g := (mkF m 7 #[iv 99] [.int 99, .int 0, .ref r, .ref r])) rfl rfl (hb hby od70)
  have V4 : Arv Z h4 r k1 .byte (1 : Int32) [.int (99 : Int32)] (.int 0) := Arv.set Ar3 qa3 Sz3 Ng3 Ha3 Ga3 rfl W4 0 rfl (Nat.le_of_ble_eq_true rfl)
  have N4 := Fr.snoc X4 N0 gn_r
  refine og T4 8 #[iv 99] [.ref r] st4 ?_
  have K4 := K1.wr W4 (Or.inr sz_r)
  refine own_retA X4 hx hlk hret rfl rfl (hb hby od71) ?_ (by decide) (by decide)
  rw [e4]
  exact ⟨_, _, rfl, N4, K4, V4, sz_r⟩
set_option maxRecDepth 65536 in
set_option maxHeartbeats 40000000 in
theorem own_vc99 (l : Launch) (Z : State) (a0 : Array Value) (hw : ∀ d ∈ tables_1, d.before a0 Z = true)  (cs : Int32) (h0 : Heap) (n0 : Nat) (Z0 : n0 ≤ h0.size) (SC : Sta Z h0 "java/lang/String" "COMPACT_STRINGS" "Z" (.int cs)) (hcs : ¬ cs = (0 : Int32)) :
    own_C l Z (⟨"java/lang/String", "valueOf", "(C)Ljava/lang/String;"⟩ : MethodName) jdk_42_method_139_code 1 (some (.object "java/lang/String")) [] ({ frames := 2, cells := 2, slots := 5, locals := 27 } : Room) #[.int 99] h0 (own_Qc Z (99 : Int32) h0 n0) := by
  refine MetFree.of_bodySF (plainFor_of_name own_pn5) hisR ?_
  intro p e s m args below meth c s₁ Bd hml hP hK
  obtain ⟨rfl, hZ, hh⟩ := hP
  obtain ⟨hx, hby, hlk, hret, hown, hnm, X0, e0⟩ := own_hd Bd hh
  have N0 := Fr.nil n0
  refine own_open (own_ef3 m ((99 : Int32))) ?_
  obtain ⟨T1, X1, e1, st1⟩ := getS2 X0 hx hZ hown (host := "") (Or.inl (ow hw 46 rfl)) Via.refl e0 SC (g := (mkF m 0 #[iv 99] [])) rfl (hb hby od72)
  refine og T1 3 #[iv 99] [.int cs] st1 ?_
  refine s_ifN X1 hx (hb hby od73) ((if0 _ _).trans (feq hcs).1) ?_
  refine s_iloadN X1 hx (hb hby od74) rfl  ?_
  obtain ⟨_, _, ⟨T2, L2, k2, n2⟩, -, X2, ⟨Lc2, hQ2, l2, y2, z2⟩, st2⟩ := Jvm.LawKit.callS X1 hx hown (mvT hZ (ow hw 47 rfl)) (mvT hZ (ow hw 48 rfl)) (mvT hZ (ow hw 49 rfl)) (mvT hZ (ow hw 50 rfl)) (by decide) (backOf (W := 0) (own_cen99 l Z a0 hw h0 n0 Z0) hZ (ow hw 50 rfl) (ow hw 49 rfl) (by decide) (by decide)) (g := (mkF m 7 #[iv 99] [.int 99])) rfl (by rw [hml]; rfl) (argsL := [.int 99]) (rest := []) (lenOf own_pd1 rfl) rfl (by show 2 * 0 + _ ≤ _; exact Nat.le_of_eq rfl) (hb hby od75) (fun _ _ => ⟨rfl, e1, (by decide : 0 + 0 ≤ _), (by decide : 0 + 0 ≤ _)⟩)
  dsimp only [Pt.U, Pt.locs, Pt.cells, Pt.slots] at X2 l2 y2 z2 st2 hQ2
  subst y2 z2
  obtain ⟨rfl, N2q, hh2⟩ := hQ2
  have N2 := frE l2 N0 N2q
  refine og T2 10 #[iv 99] [.int 1] st2 ?_
  refine s_ifN X2 hx (hb hby od76) ((if0 _ _).trans (feq (by decide)).1) ?_
  obtain ⟨T3, h3, X3, e3, E3, A3, D3, -, st3⟩ := newO X2 hx hZ hown (ow hw 51 rfl) (ow hw 52 rfl) (ow hw 44 rfl) hh2 (g := (mkF m 13 #[iv 99] [])) rfl (hb hby od77) (by decide) (by decide)
  obtain ⟨x, g3⟩ : ∃ z, z = h0.size := ⟨_, rfl⟩
  rw [← g3] at A3 D3 st3
  refine og T3 16 #[iv 99] [.ref x] st3 ?_
  have sz_x : h0.size ≤ x := Nat.le_trans (Keep.refl h0 []).1 (Nat.le_of_eq g3.symm)
  have gn_x : n0 ≤ x := Nat.le_trans Z0 sz_x
  have c4_SC := SC.ext E3
  have K3 := (Keep.refl h0 []).ext E3
  refine s_dup X3 hx (hb hby od78) rfl ?_
  refine s_iloadN X3 hx (hb hby od79) rfl  ?_
  obtain ⟨_, _, ⟨T5, L5, k5, n5⟩, -, X5, ⟨Lc5, hQ5, l5, y5, z5⟩, st5⟩ := Jvm.LawKit.callS X3 hx hown (mvT hZ (ow hw 53 rfl)) (mvT hZ (ow hw 54 rfl)) (mvT hZ (ow hw 49 rfl)) (mvT hZ (ow hw 55 rfl)) (by decide) (backOf (W := 2) (own_tob99 l Z a0 hw h3 n0 (Nat.le_trans Z0 K3.1)) hZ (ow hw 55 rfl) (ow hw 49 rfl) (by decide) (by decide)) (g := (mkF m 18 #[iv 99] [.int 99, .ref x, .ref x])) rfl (by rw [hml]; rfl) (argsL := [.int 99]) (rest := [.ref x, .ref x]) (lenOf own_pd2 rfl) rfl (by show 2 * 0 + _ ≤ _; exact Nat.le_of_eq rfl) (hb hby od80) (fun _ _ => ⟨rfl, e3, (by decide : 1 + 1 ≤ _), (by decide : 4 + 1 ≤ _)⟩)
  dsimp only [Pt.U, Pt.locs, Pt.cells, Pt.slots] at X5 l5 y5 z5 st5 hQ5
  subst y5 z5
  obtain ⟨r5, k5c, rfl, N5q, Kc5, V5c, s5c⟩ := hQ5
  have N5 := frE l5 N2 N5q
  refine og T5 21 #[iv 99] [.ref r5, .ref x, .ref x] st5 ?_
  have c6_E_x := A3.keep Kc5
  have c6_F1 := (D3 (Or.inr (ow hw 63 rfl)) (ty := (.array .byte)) (by decide)).keep Kc5 nin0
  have c6_F2 := (D3 (Or.inr (ow hw 65 rfl)) (ty := .byte) (by decide)).keep Kc5 nin0
  have c6_F3 := (D3 (Or.inl (ow hw 92 rfl)) (ty := .int) (by decide)).keep Kc5 nin0
  have c6_F4 := (D3 (Or.inl (ow hw 94 rfl)) (ty := .boolean) (by decide)).keep Kc5 nin0
  have K5x := K3.trans Kc5 all0
  refine s_iconst 0 X5 hx (hb hby od81) rfl ?_
  obtain ⟨_, _, ⟨T7, L7, k7, n7⟩, -, X7, ⟨Lc7, hQ7, l7, y7, z7⟩, st7⟩ := X5.specialBack hx (y := (⟨"java/lang/String", "<init>", "([BB)V"⟩ : MethodName)) rfl hown (mvT hZ (ow hw 57 rfl)) (mvT hZ (ow hw 58 rfl)) (mvT hZ (ow hw 60 rfl)) (by decide) (backOf (W := 1) (own_sti l Z a0 hw x r5 T5.heap n0 (Nat.le_trans Z0 K5x.1) c6_E_x c6_F1 c6_F2 c6_F3 c6_F4 gn_x) hZ (ow hw 60 rfl) (ow hw 44 rfl) (by decide) (by decide)) (g := (mkF m 22 #[iv 99] [.int 0, .ref r5, .ref x, .ref x])) rfl (by rw [hml]; rfl) (Steps.refl _) (a := x) (argsL := [.ref r5, .int 0]) (rest := [.ref x]) (lenOf own_pd3 rfl) rfl (by show 2 * 0 + _ ≤ _; exact Nat.le_of_eq rfl) (hb hby od82) (fun _ _ => ⟨rfl, rfl, (by decide : 2 + 0 ≤ _), (by decide : 5 + 0 ≤ _)⟩)
  dsimp only [Pt.U, Pt.locs, Pt.cells, Pt.slots] at X7 l7 y7 z7 st7 hQ7
  subst y7 z7
  obtain ⟨rfl, N7q, Kc7, S7c⟩ := hQ7
  have N7 := frE l7 N5 N7q
  refine ov T7 25 #[iv 99] [.ref x] st7 ?_
  have c8_V := V5c.keep Kc7 (ninS (Ne.symm (own_nea c6_E_x V5c (ow hw 52 rfl))) nin0)
  have K7x := K5x.trans Kc7 (allS (Or.inr sz_x) all0)
  refine own_retA X7 hx hlk hret rfl rfl (hb hby od83) ?_ (by decide) (by decide)
  exact ⟨_, _, _, rfl, N7, K7x, S7c, c8_V, sz_x⟩
set_option maxRecDepth 65536 in
set_option maxHeartbeats 40000000 in
theorem own_slh99 (l : Launch) (Z : State) (a0 : Array Value) (hw : ∀ d ∈ tables_1, d.before a0 Z = true) (ar : Addr) (k : ClassId) (h0 : Heap) (n0 : Nat) (Z0 : n0 ≤ h0.size) (V : Arv Z h0 ar k .byte 1 [.int 99] (.int 0)) :
    own_C l Z (⟨"java/lang/StringLatin1", "hashCode", "([B)I"⟩ : MethodName) jdk_43_method_21_code 1 (some .int) [] ({ frames := 0, cells := 0, slots := 0, locals := 0 } : Room) #[.ref ar] h0 (own_Qz (99 : Int32) h0 n0) := by
  refine MetFree.of_bodySF (plainFor_of_name own_pn6) hisR ?_
  intro p e s m args below meth c s₁ Bd hml hP hK
  obtain ⟨rfl, hZ, hh⟩ := hP
  obtain ⟨hx, hby, hlk, hret, hown, hnm, X0, e0⟩ := own_hd Bd hh
  have N0 := Fr.nil n0
  refine own_open (own_ef1 m ar) ?_
  refine s_aloadN X0 hx (hb hby od84) rfl rfl  ?_
  have vv1 := V
  obtain ⟨cl1, Ar1, qa1, Sz1, Ng1, Ha1, Ga1⟩ := vv1
  refine og s₁ 2 #[rv ar] [(.int cl1.slots.size.toInt32)] (fun _ k => X0.arraylength hx (by rw [e0]; exact Ar1.1) (State.isArrayOf_alike hZ.alike Ar1.2.1) (g := (mkF m 1 #[rv ar] [.ref ar])) rfl rfl (hb hby od85) _ k) ?_
  rw [len_of Sz1 Ng1]
  refine og s₁ 32 #[rv ar] [] (fun _ k => X0.lookupswitchHit hx (g := (mkF m 2 #[rv ar] [.int 1])) rfl rfl (hb hby od86) (by decide) (a := 1) (off := 30) (by decide) (show (0 : Int) ≤ ((2 : Nat) : Int) + 30 from by decide) _ k) ?_
  refine s_aloadN X0 hx (hb hby od87) rfl rfl  ?_
  refine s_iconst 0 X0 hx (hb hby od88) rfl ?_
  have vv2 := V
  obtain ⟨cl2, Ar2, qa2, Sz2, Ng2, Ha2, Ga2⟩ := vv2
  have hin2 : ¬ ((0 : Int32) < 0 ∨ cl2.slots.size ≤ ((0 : Int32)).toNatClampNeg) := inb_of Sz2 ⟨by decide, by decide⟩
  refine og s₁ 35 #[rv ar] [.int 99] (fun _ k => X0.baloadBytes hx (j := (0 : Int32)) (v := (.int 99)) (by rw [e0]; exact Ar2.1) (State.isArrayOf_alike hZ.alike Ar2.2.1) Ar2.2.2 hin2 (Ha2.at hin2 rfl) (g := (mkF m 34 #[rv ar] [.int 0, .ref ar])) rfl rfl (hb hby od89) _ k) ?_
  refine s_sipush 255 X0 hx (hb hby od90) rfl ?_
  refine og s₁ 39 #[rv ar] [.int 99] (fun _ k => XS.iand X0.here hx rfl (hb hby od91) rfl k) ?_
  refine s_goto 51 X0 hx (hb hby od92) (by decide) (by decide) ?_
  refine own_retI X0 hx hlk hret (hb hby od93) ?_ (by decide) (by decide)
  rw [e0]
  exact ⟨rfl, N0, rfl⟩
set_option maxRecDepth 65536 in
set_option maxHeartbeats 40000000 in
theorem own_hc99 (l : Launch) (Z : State) (a0 : Array Value) (hw : ∀ d ∈ tables_1, d.before a0 Z = true) (x : Addr) (ar : Addr) (k : ClassId) (cs : Int32) (h0 : Heap) (n0 : Nat) (Z0 : n0 ≤ h0.size) (E_x : Exa Z h0 x "java/lang/String") (F1 : Fld Z h0 x "java/lang/String" "value" "[B" (.ref ar)) (F2 : Fld Z h0 x "java/lang/String" "coder" "B" (.int 0)) (F3 : Fld Z h0 x "java/lang/String" "hash" "I" (.int 0)) (F4 : Fld Z h0 x "java/lang/String" "hashIsZero" "Z" (.int 0)) (V : Arv Z h0 ar k .byte 1 [.int 99] (.int 0)) (SC : Sta Z h0 "java/lang/String" "COMPACT_STRINGS" "Z" (.int cs)) (hcs : ¬ cs = (0 : Int32)) (g : n0 ≤ x) :
    own_C l Z (⟨"java/lang/String", "hashCode", "()I"⟩ : MethodName) jdk_42_method_78_code 2 (some .int) [] ({ frames := 1, cells := 0, slots := 0, locals := 12 } : Room) #[.ref x] h0 (own_Qx x (99 : Int32) h0 n0) := by
  refine MetFree.of_bodySF (plainFor_of_name own_pn5) hisR ?_
  intro p e s m args below meth c s₁ Bd hml hP hK
  obtain ⟨rfl, hZ, hh⟩ := hP
  obtain ⟨hx, hby, hlk, hret, hown, hnm, X0, e0⟩ := own_hd Bd hh
  have N0 := Fr.nil n0
  refine own_open (own_ef4 m x) ?_
  refine s_aloadN X0 hx (hb hby od94) rfl rfl  ?_
  obtain ⟨T1, X1, e1, st1⟩ := getF X0 hx hZ hown (host := "") (Or.inl (ow hw 91 rfl)) Via.refl e0 F3 (g := (mkF m 1 #[rv x, .unset] [.ref x])) rfl rfl (hb hby od95)
  refine og T1 4 #[rv x, .unset] [.int 0] st1 ?_
  refine og T1 5 #[rv x, iv 0] [] (fun _ k => XS.istoreN X1.here hx rfl (hb hby od96) rfl (l' := #[rv x, iv 0]) rfl k) ?_
  refine s_iloadN X1 hx (hb hby od97) rfl  ?_
  refine s_ifN X1 hx (hb hby od98) ((if0 _ _).trans (teq rfl).2) ?_
  refine s_aloadN X1 hx (hb hby od99) rfl rfl  ?_
  obtain ⟨T2, X2, e2, st2⟩ := getF X1 hx hZ hown (host := "") (Or.inl (ow hw 93 rfl)) Via.refl e1 F4 (g := (mkF m 10 #[rv x, iv 0] [.ref x])) rfl rfl (hb hby od100)
  refine og T2 13 #[rv x, iv 0] [.int 0] st2 ?_
  refine s_ifN X2 hx (hb hby od101) ((if0 _ _).trans (teq rfl).2) ?_
  refine s_aloadN X2 hx (hb hby od102) rfl rfl  ?_
  obtain ⟨cq3, kq3, q3a, q3b, q3c⟩ := isOf hZ e2 (E_x)
  obtain ⟨_, _, ⟨T3, L3, k3, n3⟩, -, X3, ⟨Lc3, hQ3, l3, y3, z3⟩, st3⟩ := X2.virtualBack hx hown (mvT hZ (ow hw 95 rfl)) (mvT hZ (ow hw 96 rfl)) (notFace_of_selects (args := #[]) (mvT hZ (ow hw 98 rfl))) (mvT hZ (ow hw 98 rfl)) (mvT hZ (ow hw 97 rfl)) (by decide) (backOf (W := 0) (own_isl l Z a0 hw x cs h0 n0 Z0 F2 SC hcs) hZ (ow hw 99 rfl) (ow hw 44 rfl) (by decide) (by decide)) q3a q3c (g := (mkF m 17 #[rv x, iv 0] [.ref x])) rfl (by rw [hml]; rfl) (Steps.refl _) (argsL := []) (rest := []) (lenOf own_pd4 rfl) rfl (by show 2 * 0 + _ ≤ _; exact Nat.le_of_eq rfl) (hb hby od103) (fun _ _ => ⟨rfl, e2, (by decide : 0 + 0 ≤ _), (by decide : 0 + 0 ≤ _)⟩)
  dsimp only [Pt.U, Pt.locs, Pt.cells, Pt.slots] at X3 l3 y3 z3 st3 hQ3
  subst y3 z3
  obtain ⟨rfl, N3q, hh3⟩ := hQ3
  have N3 := frE l3 N0 N3q
  refine ov T3 20 #[rv x, iv 0] [.int 1] st3 ?_
  refine s_ifN X3 hx (hb hby od104) ((if0 _ _).trans (feq (by decide)).1) ?_
  refine s_aloadN X3 hx (hb hby od105) rfl rfl  ?_
  obtain ⟨T4, X4, e4, st4⟩ := getF X3 hx hZ hown (host := "") (Or.inl (ow hw 62 rfl)) Via.refl hh3 F1 (g := (mkF m 24 #[rv x, iv 0] [.ref x])) rfl rfl (hb hby od106)
  refine og T4 27 #[rv x, iv 0] [.ref ar] st4 ?_
  obtain ⟨_, _, ⟨T5, L5, k5, n5⟩, -, X5, ⟨Lc5, hQ5, l5, y5, z5⟩, st5⟩ := Jvm.LawKit.callS X4 hx hown (mvT hZ (ow hw 100 rfl)) (mvT hZ (ow hw 101 rfl)) (mvT hZ (ow hw 49 rfl)) (mvT hZ (ow hw 102 rfl)) (by decide) (backOf (W := 0) (own_slh99 l Z a0 hw ar k h0 n0 Z0 V) hZ (ow hw 102 rfl) (ow hw 49 rfl) (by decide) (by decide)) (g := (mkF m 27 #[rv x, iv 0] [.ref ar])) rfl (by rw [hml]; rfl) (argsL := [.ref ar]) (rest := []) (lenOf own_pd5 rfl) rfl (by show 2 * 0 + _ ≤ _; exact Nat.le_of_eq rfl) (hb hby od107) (fun _ _ => ⟨rfl, e4, (by decide : 0 + 0 ≤ _), (by decide : 0 + 0 ≤ _)⟩)
  dsimp only [Pt.U, Pt.locs, Pt.cells, Pt.slots] at X5 l5 y5 z5 st5 hQ5
  subst y5 z5
  obtain ⟨rfl, N5q, hh5⟩ := hQ5
  have N5 := frE l5 N3 N5q
  refine og T5 30 #[rv x, iv 0] [.int 99] st5 ?_
  refine s_goto 40 X5 hx (hb hby od108) (by decide) (by decide) ?_
  refine og T5 41 #[rv x, iv 99] [] (fun _ k => XS.istoreN X5.here hx rfl (hb hby od109) rfl (l' := #[rv x, iv 99]) rfl k) ?_
  refine s_iloadN X5 hx (hb hby od110) rfl  ?_
  refine s_ifY 53 X5 hx (hb hby od111) ((if0 _ _).trans (feq (by decide)).2) (by decide) (by decide) ?_
  refine s_aloadN X5 hx (hb hby od112) rfl rfl  ?_
  refine s_iloadN X5 hx (hb hby od113) rfl  ?_
  obtain ⟨T6, h6, X6, e6, W6, st6⟩ := putF X5 hx hZ hown (host := "") (Or.inl (ow hw 91 rfl)) Via.refl hh5 F3 E_x (Or.inl (ow hw 92 rfl)) (ow hw 52 rfl) (ty := .int) (by decide) rfl rfl (g := (mkF m 55 #[rv x, iv 99] [.int 99, .ref x])) rfl rfl (hb hby od114)
  have N6 := Fr.snoc X6 N5 g
  refine og T6 58 #[rv x, iv 99] [] st6 ?_
  have n6_F3 := F3.same W6
  have c7_E_x := E_x.wr W6
  have K6 := (Keep.refl h0 [x]).wr W6 (Or.inl (List.mem_of_getElem? (i := 0) rfl))
  refine s_iloadN X6 hx (hb hby od115) rfl  ?_
  refine own_retI X6 hx hlk hret (hb hby od116) ?_ (by decide) (by decide)
  rw [e6]
  exact ⟨rfl, N6, K6⟩
set_option maxRecDepth 65536 in
set_option maxHeartbeats 40000000 in
theorem own_hash99 (l : Launch) (Z : State) (a0 : Array Value) (hw : ∀ d ∈ tables_1, d.before a0 Z = true) (x : Addr) (ar : Addr) (k : ClassId) (cs : Int32) (h0 : Heap) (n0 : Nat) (Z0 : n0 ≤ h0.size) (E_x : Exa Z h0 x "java/lang/String") (F1 : Fld Z h0 x "java/lang/String" "value" "[B" (.ref ar)) (F2 : Fld Z h0 x "java/lang/String" "coder" "B" (.int 0)) (F3 : Fld Z h0 x "java/lang/String" "hash" "I" (.int 0)) (F4 : Fld Z h0 x "java/lang/String" "hashIsZero" "Z" (.int 0)) (V : Arv Z h0 ar k .byte 1 [.int 99] (.int 0)) (SC : Sta Z h0 "java/lang/String" "COMPACT_STRINGS" "Z" (.int cs)) (hcs : ¬ cs = (0 : Int32)) (g : n0 ≤ x) :
    own_C l Z (⟨"java/util/HashMap", "hash", "(Ljava/lang/Object;)I"⟩ : MethodName) jdk_69_method_1_code 2 (some .int) [] ({ frames := 2, cells := 0, slots := 0, locals := 25 } : Room) #[.ref x] h0 (own_Qx x (99 : Int32) h0 n0) := by
  refine MetFree.of_bodySF (plainFor_of_name own_pn4) hisR ?_
  intro p e s m args below meth c s₁ Bd hml hP hK
  obtain ⟨rfl, hZ, hh⟩ := hP
  obtain ⟨hx, hby, hlk, hret, hown, hnm, X0, e0⟩ := own_hd Bd hh
  have N0 := Fr.nil n0
  refine own_open (own_ef4 m x) ?_
  refine s_aloadN X0 hx (hb hby od117) rfl rfl  ?_
  refine og s₁ 8 #[rv x, .unset] [] (fun _ k => XS.ifnonnullYes X0.here hx rfl (pc0 := 1) (pc' := 8) rfl (hb hby od118) rfl (by decide) (by decide) k) ?_
  refine s_aloadN X0 hx (hb hby od119) rfl rfl  ?_
  obtain ⟨cq1, kq1, q1a, q1b, q1c⟩ := isOf hZ e0 (E_x)
  obtain ⟨_, _, ⟨T1, L1, k1, n1⟩, -, X1, ⟨Lc1, hQ1, l1, y1, z1⟩, st1⟩ := X0.virtualBack hx hown (mvT hZ (ow hw 85 rfl)) (mvT hZ (ow hw 86 rfl)) (own_nf hZ (ow hw 331 rfl)) (mvT hZ (ow hw 88 rfl)) (mvT hZ (ow hw 89 rfl)) (by decide) (backOf (W := 0) (own_hc99 l Z a0 hw x ar k cs h0 n0 Z0 E_x F1 F2 F3 F4 V SC hcs g) hZ (ow hw 90 rfl) (ow hw 44 rfl) (by decide) (by decide)) q1a q1c (g := (mkF m 9 #[rv x, .unset] [.ref x])) rfl (by rw [hml]; rfl) (Steps.refl _) (argsL := []) (rest := []) (lenOf own_pd6 rfl) rfl (by show 2 * 0 + _ ≤ _; exact Nat.le_of_eq rfl) (hb hby od120) (fun _ _ => ⟨rfl, e0, (by decide : 0 + 0 ≤ _), (by decide : 0 + 0 ≤ _)⟩)
  dsimp only [Pt.U, Pt.locs, Pt.cells, Pt.slots] at X1 l1 y1 z1 st1 hQ1
  subst y1 z1
  obtain ⟨rfl, N1q, Kc1⟩ := hQ1
  have N1 := frE l1 N0 N1q
  refine ov T1 12 #[rv x, .unset] [.int 99] st1 ?_
  refine s_dup X1 hx (hb hby od121) rfl ?_
  refine og T1 14 #[rv x, iv 99] [.int 99] (fun _ k => XS.istoreN X1.here hx rfl (hb hby od122) rfl (l' := #[rv x, iv 99]) rfl k) ?_
  refine s_iloadN X1 hx (hb hby od123) rfl  ?_
  refine s_bipush 16 X1 hx (hb hby od124) rfl ?_
  refine og T1 18 #[rv x, iv 99] [.int 0, .int 99] (fun _ k => XS.iushr X1.here hx rfl (hb hby od125) rfl k) ?_
  refine og T1 19 #[rv x, iv 99] [.int 99] (fun _ k => XS.ixor X1.here hx rfl (hb hby od126) rfl k) ?_
  refine own_retI X1 hx hlk hret (hb hby od127) ?_ (by decide) (by decide)
  exact ⟨rfl, N1, Kc1⟩
set_option maxRecDepth 65536 in
set_option maxHeartbeats 40000000 in
theorem own_nui (l : Launch) (Z : State) (a0 : Array Value) (hw : ∀ d ∈ tables_1, d.before a0 Z = true) (a : Addr)  (h0 : Heap) (n0 : Nat) (Z0 : n0 ≤ h0.size)  :
    own_C l Z (⟨"java/lang/Number", "<init>", "()V"⟩ : MethodName) jdk_18_method_1_code 1 none [] ({ frames := 1, cells := 0, slots := 0, locals := 12 } : Room) #[.ref a] h0 (own_Qn h0 n0) := by
  refine MetFree.of_bodySF (plainFor_of_name own_pn7) hisR ?_
  intro p e s m args below meth c s₁ Bd hml hP hK
  obtain ⟨rfl, hZ, hh⟩ := hP
  obtain ⟨hx, hby, hlk, hret, hown, hnm, X0, e0⟩ := own_hd Bd hh
  have N0 := Fr.nil n0
  refine own_open (own_ef1 m a) ?_
  refine s_aloadN X0 hx (hb hby od128) rfl rfl  ?_
  obtain ⟨T1, X1, e1, st1⟩ := initO X0 hx hZ hown (ow hw 347 rfl) (ow hw 19 rfl) (ow hw 20 rfl) e0 (g := (mkF m 1 #[rv a] [.ref a])) rfl (by rw [hml]; rfl) rfl (hb hby od129) (by decide) (W := 0) (by show 2 * 0 + _ ≤ _; exact Nat.le_of_eq rfl) (by decide)
  refine og T1 4 #[rv a] [] st1 ?_
  refine own_retV X1 hx hlk hret (hb hby od130) ?_ (by decide) (by decide)
  rw [e1]
  exact ⟨rfl, N0, rfl⟩
set_option maxRecDepth 65536 in
set_option maxHeartbeats 40000000 in
theorem own_ini1 (l : Launch) (Z : State) (a0 : Array Value) (hw : ∀ d ∈ tables_1, d.before a0 Z = true) (r : Addr) (gr : Int32)  (h0 : Heap) (n0 : Nat) (Z0 : n0 ≤ h0.size) (E_r : Exa Z h0 r "java/lang/Integer") (F1 : Fld Z h0 r "java/lang/Integer" "value" "I" (.int 0)) (g : n0 ≤ r) :
    own_C l Z (⟨"java/lang/Integer", "<init>", "(I)V"⟩ : MethodName) jdk_33_method_23_code 2 none [] ({ frames := 2, cells := 0, slots := 0, locals := 24 } : Room) #[.ref r, .int gr] h0 (own_Qf Z r gr h0 n0) := by
  refine MetFree.of_bodySF (plainFor_of_name own_pn8) hisR ?_
  intro p e s m args below meth c s₁ Bd hml hP hK
  obtain ⟨rfl, hZ, hh⟩ := hP
  obtain ⟨hx, hby, hlk, hret, hown, hnm, X0, e0⟩ := own_hd Bd hh
  have N0 := Fr.nil n0
  refine own_open (own_ef5 m r gr) ?_
  refine s_aloadN X0 hx (hb hby od131) rfl rfl  ?_
  obtain ⟨_, _, ⟨T1, L1, k1, n1⟩, -, X1, ⟨Lc1, hQ1, l1, y1, z1⟩, st1⟩ := X0.specialBack hx (y := (⟨"java/lang/Number", "<init>", "()V"⟩ : MethodName)) rfl hown (mvT hZ (ow hw 341 rfl)) (mvT hZ (ow hw 342 rfl)) (mvT hZ (ow hw 346 rfl)) (by decide) (backOf (W := 0) (own_nui l Z a0 hw r h0 n0 Z0) hZ (ow hw 346 rfl) (ow hw 345 rfl) (by decide) (by decide)) (g := (mkF m 1 #[rv r, iv gr] [.ref r])) rfl (by rw [hml]; rfl) (Steps.refl _) (a := r) (argsL := []) (rest := []) (lenOf own_pd0 rfl) rfl (by show 2 * 0 + _ ≤ _; exact Nat.le_of_eq rfl) (hb hby od132) (fun _ _ => ⟨rfl, e0, (by decide : 0 + 0 ≤ _), (by decide : 0 + 0 ≤ _)⟩)
  dsimp only [Pt.U, Pt.locs, Pt.cells, Pt.slots] at X1 l1 y1 z1 st1 hQ1
  subst y1 z1
  obtain ⟨rfl, N1q, hh1⟩ := hQ1
  have N1 := frE l1 N0 N1q
  refine ov T1 4 #[rv r, iv gr] [] st1 ?_
  refine s_aloadN X1 hx (hb hby od133) rfl rfl  ?_
  refine s_iloadN X1 hx (hb hby od134) rfl  ?_
  obtain ⟨T2, h2, X2, e2, W2, st2⟩ := putF X1 hx hZ hown (host := "") (Or.inl (ow hw 264 rfl)) Via.refl hh1 F1 E_r (Or.inr ⟨(ow hw 265 rfl), rfl, hnm⟩) (ow hw 337 rfl) (ty := .int) (by decide) rfl rfl (g := (mkF m 6 #[rv r, iv gr] [.int gr, .ref r])) rfl rfl (hb hby od135)
  have N2 := Fr.snoc X2 N1 g
  refine og T2 9 #[rv r, iv gr] [] st2 ?_
  have n2_F1 := F1.same W2
  have c3_E_r := E_r.wr W2
  have K2 := (Keep.refl h0 [r]).wr W2 (Or.inl (List.mem_of_getElem? (i := 0) rfl))
  refine own_retV X2 hx hlk hret (hb hby od136) ?_ (by decide) (by decide)
  rw [e2]
  exact ⟨rfl, N2, K2, c3_E_r, n2_F1⟩
set_option maxRecDepth 65536 in
set_option maxHeartbeats 40000000 in
theorem own_vi (l : Launch) (Z : State) (a0 : Array Value) (hw : ∀ d ∈ tables_1, d.before a0 Z = true) (gr : Int32) (ca : Addr) (cl : Cell) (h0 : Heap) (n0 : Nat) (Z0 : n0 ≤ h0.size) (SH : Sta Z h0 "java/lang/Integer$IntegerCache" "high" "I" (.int 127)) (SA : Sta Z h0 "java/lang/Integer$IntegerCache" "cache" "[Ljava/lang/Integer;" (.ref ca)) (B : Bxs Z ca cl "java/lang/Integer" "I" 256 (fun j => .int (j - 128))) (O : Old Z n0 h0) :
    own_C l Z (⟨"java/lang/Integer", "valueOf", "(I)Ljava/lang/Integer;"⟩ : MethodName) jdk_33_method_22_code 1 (some (.object "java/lang/Integer")) [] ({ frames := 3, cells := 1, slots := 1, locals := 38 } : Room) #[.int gr] h0 (own_Qb Z gr h0 n0) := by
  refine MetFree.of_bodySF (plainFor_of_name own_pn8) hisR ?_
  intro p e s m args below meth c s₁ Bd hml hP hK
  obtain ⟨rfl, hZ, hh⟩ := hP
  obtain ⟨hx, hby, hlk, hret, hown, hnm, X0, e0⟩ := own_hd Bd hh
  have N0 := Fr.nil n0
  refine own_open (own_ef3 m gr) ?_
  refine s_iloadN X0 hx (hb hby od137) rfl  ?_
  refine s_bipush (-128) X0 hx (hb hby od138) rfl ?_
  by_cases h3 : gr < (-128 : Int32)
  · skip
    refine s_icmpY 23 X0 hx (hb hby od139) (tlt h3).1 (by decide) (by decide) ?_
    obtain ⟨T1, h1, X1, e1, E1, A1, D1, -, st1⟩ := newO X0 hx hZ hown (ow hw 336 rfl) (ow hw 337 rfl) (ow hw 68 rfl) e0 (g := (mkF m 23 #[iv gr] [])) rfl (hb hby od140) (by decide) (by decide)
    obtain ⟨r, g1⟩ : ∃ z, z = h0.size := ⟨_, rfl⟩
    rw [← g1] at A1 D1 st1
    refine og T1 26 #[iv gr] [.ref r] st1 ?_
    have sz_r : h0.size ≤ r := Nat.le_trans (Keep.refl h0 []).1 (Nat.le_of_eq g1.symm)
    have gn_r : n0 ≤ r := Nat.le_trans Z0 sz_r
    have K1 := (Keep.refl h0 []).ext E1
    refine s_dup X1 hx (hb hby od141) rfl ?_
    refine s_iloadN X1 hx (hb hby od142) rfl  ?_
    obtain ⟨_, _, ⟨T3, L3, k3, n3⟩, -, X3, ⟨Lc3, hQ3, l3, y3, z3⟩, st3⟩ := X1.specialBack hx (y := (⟨"java/lang/Integer", "<init>", "(I)V"⟩ : MethodName)) rfl hown (mvT hZ (ow hw 338 rfl)) (mvT hZ (ow hw 339 rfl)) (mvT hZ (ow hw 340 rfl)) (by decide) (backOf (W := 1) (own_ini1 l Z a0 hw r gr h1 n0 (Nat.le_trans Z0 K1.1) A1 (D1 (Or.inr (ow hw 265 rfl)) (ty := .int) (by decide)) gn_r) hZ (ow hw 340 rfl) (ow hw 68 rfl) (by decide) (by decide)) (g := (mkF m 28 #[iv gr] [.int gr, .ref r, .ref r])) rfl (by rw [hml]; rfl) (Steps.refl _) (a := r) (argsL := [.int gr]) (rest := [.ref r]) (lenOf own_pd7 rfl) rfl (by show 2 * 0 + _ ≤ _; exact Nat.le_of_eq rfl) (hb hby od143) (fun _ _ => ⟨rfl, e1, (by decide : 1 + 0 ≤ _), (by decide : 1 + 0 ≤ _)⟩)
    dsimp only [Pt.U, Pt.locs, Pt.cells, Pt.slots] at X3 l3 y3 z3 st3 hQ3
    subst y3 z3
    obtain ⟨rfl, N3q, Kc3, E3c, F3c⟩ := hQ3
    have N3 := frE l3 N0 N3q
    refine ov T3 31 #[iv gr] [.ref r] st3 ?_
    have K3x := K1.trans Kc3 (allS (Or.inr sz_r) all0)
    refine own_retA X3 hx hlk hret rfl rfl (hb hby od144) ?_ (by decide) (by decide)
    exact ⟨_, rfl, N3, K3x, E3c, F3c⟩
  · skip
    refine s_icmpN X0 hx (hb hby od139) (flt h3).1 ?_
    refine s_iloadN X0 hx (hb hby od145) rfl  ?_
    obtain ⟨T4, X4, e4, st4⟩ := getS2 X0 hx hZ hown (host := "") (Or.inl (ow hw 70 rfl)) Via.refl e0 SH (g := (mkF m 7 #[iv gr] [.int gr])) rfl (hb hby od146)
    refine og T4 10 #[iv gr] [.int 127, .int gr] st4 ?_
    by_cases h10 : (127 : Int32) < gr
    · skip
      refine s_icmpY 23 X4 hx (hb hby od147) (tlt h10).2.2.1 (by decide) (by decide) ?_
      obtain ⟨T5, h5, X5, e5, E5, A5, D5, -, st5⟩ := newO X4 hx hZ hown (ow hw 336 rfl) (ow hw 337 rfl) (ow hw 68 rfl) e4 (g := (mkF m 23 #[iv gr] [])) rfl (hb hby od140) (by decide) (by decide)
      obtain ⟨r, g5⟩ : ∃ z, z = h0.size := ⟨_, rfl⟩
      rw [← g5] at A5 D5 st5
      refine og T5 26 #[iv gr] [.ref r] st5 ?_
      have sz_r : h0.size ≤ r := Nat.le_trans (Keep.refl h0 []).1 (Nat.le_of_eq g5.symm)
      have gn_r : n0 ≤ r := Nat.le_trans Z0 sz_r
      have K5 := (Keep.refl h0 []).ext E5
      refine s_dup X5 hx (hb hby od141) rfl ?_
      refine s_iloadN X5 hx (hb hby od142) rfl  ?_
      obtain ⟨_, _, ⟨T7, L7, k7, n7⟩, -, X7, ⟨Lc7, hQ7, l7, y7, z7⟩, st7⟩ := X5.specialBack hx (y := (⟨"java/lang/Integer", "<init>", "(I)V"⟩ : MethodName)) rfl hown (mvT hZ (ow hw 338 rfl)) (mvT hZ (ow hw 339 rfl)) (mvT hZ (ow hw 340 rfl)) (by decide) (backOf (W := 1) (own_ini1 l Z a0 hw r gr h5 n0 (Nat.le_trans Z0 K5.1) A5 (D5 (Or.inr (ow hw 265 rfl)) (ty := .int) (by decide)) gn_r) hZ (ow hw 340 rfl) (ow hw 68 rfl) (by decide) (by decide)) (g := (mkF m 28 #[iv gr] [.int gr, .ref r, .ref r])) rfl (by rw [hml]; rfl) (Steps.refl _) (a := r) (argsL := [.int gr]) (rest := [.ref r]) (lenOf own_pd7 rfl) rfl (by show 2 * 0 + _ ≤ _; exact Nat.le_of_eq rfl) (hb hby od143) (fun _ _ => ⟨rfl, e5, (by decide : 1 + 0 ≤ _), (by decide : 1 + 0 ≤ _)⟩)
      dsimp only [Pt.U, Pt.locs, Pt.cells, Pt.slots] at X7 l7 y7 z7 st7 hQ7
      subst y7 z7
      obtain ⟨rfl, N7q, Kc7, E7c, F7c⟩ := hQ7
      have N7 := frE l7 N0 N7q
      refine ov T7 31 #[iv gr] [.ref r] st7 ?_
      have K7x := K5.trans Kc7 (allS (Or.inr sz_r) all0)
      refine own_retA X7 hx hlk hret rfl rfl (hb hby od144) ?_ (by decide) (by decide)
      exact ⟨_, rfl, N7, K7x, E7c, F7c⟩
    · skip
      refine s_icmpN X4 hx (hb hby od147) (flt h10).2.2.1 ?_
      obtain ⟨T8, X8, e8, st8⟩ := getS2 X4 hx hZ hown (host := "") (Or.inl (ow hw 72 rfl)) Via.refl e4 SA (g := (mkF m 13 #[iv gr] [])) rfl (hb hby od148)
      refine og T8 16 #[iv gr] [.ref ca] st8 ?_
      refine s_iloadN X8 hx (hb hby od149) rfl  ?_
      refine s_sipush 128 X8 hx (hb hby od150) rfl ?_
      refine og T8 21 #[iv gr] [(.int (gr + (128 : Int32))), .ref ca] (fun _ k => XS.iadd X8.here hx rfl (hb hby od151) rfl k) ?_
      have ci := own_cidx h3 h10
      have hin : ¬ (gr + (128 : Int32) < 0 ∨ cl.slots.size ≤ (gr + (128 : Int32)).toNatClampNeg) := inb_of B.2.1 ⟨ci.1, ci.2.1⟩
      obtain ⟨bx, hat, Eb, Fb⟩ := B.2.2.2 _ hin
      have Ab := B.1.ext O.2
      have Eb := Eb.ext O.2
      have Fb := Fb.ext O.2
      dsimp only at Fb
      rw [ci.2.2] at Fb
      refine og T8 22 #[iv gr] [.ref bx] (fun _ k => X8.aaload hx (j := gr + (128 : Int32)) (v := .ref bx) (by rw [e8]; exact Ab.1) (State.isArrayOf_alike hZ.alike Ab.2.1) rfl Ab.2.2 hin hat (g := (mkF m 21 #[iv gr] [(.int (gr + (128 : Int32))), .ref ca])) rfl rfl (hb hby od152) _ k) ?_
      refine own_retA X8 hx hlk hret rfl rfl (hb hby od153) ?_ (by decide) (by decide)
      rw [e8]
      exact ⟨_, rfl, N0, Keep.refl _ _, Eb, Fb⟩
set_option maxRecDepth 65536 in
set_option maxHeartbeats 40000000 in
theorem own_nod (l : Launch) (Z : State) (a0 : Array Value) (hw : ∀ d ∈ tables_1, d.before a0 Z = true) (nd : Addr) (hs : Int32) (ky : Addr) (vl : Addr)  (h0 : Heap) (n0 : Nat) (Z0 : n0 ≤ h0.size) (E_n : Exa Z h0 nd "java/util/HashMap$Node") (F1 : Fld Z h0 nd "java/util/HashMap$Node" "hash" "I" (.int 0)) (F2 : Fld Z h0 nd "java/util/HashMap$Node" "key" "Ljava/lang/Object;" .null) (F3 : Fld Z h0 nd "java/util/HashMap$Node" "value" "Ljava/lang/Object;" .null) (F4 : Fld Z h0 nd "java/util/HashMap$Node" "next" "Ljava/util/HashMap$Node;" .null) (g : n0 ≤ nd) :
    own_C l Z (⟨"java/util/HashMap$Node", "<init>", "(ILjava/lang/Object;Ljava/lang/Object;Ljava/util/HashMap$Node;)V"⟩ : MethodName) jdk_70_method_1_code 5 none [] ({ frames := 1, cells := 0, slots := 0, locals := 12 } : Room) #[.ref nd, .int hs, .ref ky, .ref vl, .null] h0 (own_Qo Z nd vl h0 n0) := by
  refine MetFree.of_bodySF (plainFor_of_name own_pn9) hisR ?_
  intro p e s m args below meth c s₁ Bd hml hP hK
  obtain ⟨rfl, hZ, hh⟩ := hP
  obtain ⟨hx, hby, hlk, hret, hown, hnm, X0, e0⟩ := own_hd Bd hh
  have N0 := Fr.nil n0
  refine own_open (own_ef6 m nd hs ky vl) ?_
  refine s_aloadN X0 hx (hb hby od154) rfl rfl  ?_
  obtain ⟨T1, X1, e1, st1⟩ := initO X0 hx hZ hown (ow hw 130 rfl) (ow hw 19 rfl) (ow hw 20 rfl) e0 (g := (mkF m 1 #[rv nd, iv hs, rv ky, rv vl, .val .null] [.ref nd])) rfl (by rw [hml]; rfl) rfl (hb hby od155) (by decide) (W := 0) (by show 2 * 0 + _ ≤ _; exact Nat.le_of_eq rfl) (by decide)
  refine og T1 4 #[rv nd, iv hs, rv ky, rv vl, .val .null] [] st1 ?_
  refine s_aloadN X1 hx (hb hby od156) rfl rfl  ?_
  refine s_iloadN X1 hx (hb hby od157) rfl  ?_
  obtain ⟨T2, h2, X2, e2, W2, st2⟩ := putF X1 hx hZ hown (host := "") (Or.inl (ow hw 131 rfl)) Via.refl e1 F1 E_n (Or.inr ⟨(ow hw 132 rfl), rfl, hnm⟩) (ow hw 124 rfl) (ty := .int) (by decide) rfl rfl (g := (mkF m 6 #[rv nd, iv hs, rv ky, rv vl, .val .null] [.int hs, .ref nd])) rfl rfl (hb hby od158)
  have N2 := Fr.snoc X2 N0 g
  refine og T2 9 #[rv nd, iv hs, rv ky, rv vl, .val .null] [] st2 ?_
  have n2_F1 := F1.same W2
  have c3_E_n := E_n.wr W2
  have c3_F2 := F2.other W2 (Or.inr (os14 hw))
  have c3_F3 := F3.other W2 (Or.inr (os15 hw))
  have c3_F4 := F4.other W2 (Or.inr (os16 hw))
  have K2 := (Keep.refl h0 [nd]).wr W2 (Or.inl (List.mem_of_getElem? (i := 0) rfl))
  refine s_aloadN X2 hx (hb hby od159) rfl rfl  ?_
  refine s_aloadN X2 hx (hb hby od160) rfl rfl  ?_
  obtain ⟨T4, h4, X4, e4, W4, st4⟩ := putF X2 hx hZ hown (host := "") (Or.inl (ow hw 133 rfl)) Via.refl e2 c3_F2 c3_E_n (Or.inr ⟨(ow hw 134 rfl), rfl, hnm⟩) (ow hw 124 rfl) (ty := (.object "java/lang/Object")) (by decide) rfl rfl (g := (mkF m 11 #[rv nd, iv hs, rv ky, rv vl, .val .null] [.ref ky, .ref nd])) rfl rfl (hb hby od161)
  have N4 := Fr.snoc X4 N2 g
  refine og T4 14 #[rv nd, iv hs, rv ky, rv vl, .val .null] [] st4 ?_
  have n4_F2 := c3_F2.same W4
  have c5_E_n := c3_E_n.wr W4
  have c5_F3 := c3_F3.other W4 (Or.inr (os17 hw))
  have c5_F4 := c3_F4.other W4 (Or.inr (os18 hw))
  have K4 := K2.wr W4 (Or.inl (List.mem_of_getElem? (i := 0) rfl))
  refine s_aloadN X4 hx (hb hby od162) rfl rfl  ?_
  refine s_aloadN X4 hx (hb hby od163) rfl rfl  ?_
  obtain ⟨T6, h6, X6, e6, W6, st6⟩ := putF X4 hx hZ hown (host := "") (Or.inl (ow hw 135 rfl)) Via.refl e4 c5_F3 c5_E_n (Or.inl (ow hw 136 rfl)) (ow hw 124 rfl) (ty := (.object "java/lang/Object")) (by decide) rfl rfl (g := (mkF m 16 #[rv nd, iv hs, rv ky, rv vl, .val .null] [.ref vl, .ref nd])) rfl rfl (hb hby od164)
  have N6 := Fr.snoc X6 N4 g
  refine og T6 19 #[rv nd, iv hs, rv ky, rv vl, .val .null] [] st6 ?_
  have n6_F3 := c5_F3.same W6
  have c7_E_n := c5_E_n.wr W6
  have c7_F4 := c5_F4.other W6 (Or.inr (os19 hw))
  have K6 := K4.wr W6 (Or.inl (List.mem_of_getElem? (i := 0) rfl))
  refine s_aloadN X6 hx (hb hby od165) rfl rfl  ?_
  refine s_aload X6 hx (hb hby od166) rfl rfl  ?_
  obtain ⟨T8, h8, X8, e8, W8, st8⟩ := putF X6 hx hZ hown (host := "") (Or.inl (ow hw 137 rfl)) Via.refl e6 c7_F4 c7_E_n (Or.inl (ow hw 138 rfl)) (ow hw 124 rfl) (ty := (.object "java/util/HashMap$Node")) (by decide) rfl rfl (g := (mkF m 22 #[rv nd, iv hs, rv ky, rv vl, .val .null] [.null, .ref nd])) rfl rfl (hb hby od167)
  have N8 := Fr.snoc X8 N6 g
  refine og T8 25 #[rv nd, iv hs, rv ky, rv vl, .val .null] [] st8 ?_
  have n8_F4 := c7_F4.same W8
  have c9_E_n := c7_E_n.wr W8
  have c9_F3 := n6_F3.other W8 (Or.inr (os20 hw))
  have K8 := K6.wr W8 (Or.inl (List.mem_of_getElem? (i := 0) rfl))
  refine own_retV X8 hx hlk hret (hb hby od168) ?_ (by decide) (by decide)
  rw [e8]
  exact ⟨rfl, N8, K8, ⟨c9_E_n, c9_F3, n8_F4⟩⟩
set_option maxRecDepth 65536 in
set_option maxHeartbeats 40000000 in
theorem own_nn (l : Launch) (Z : State) (a0 : Array Value) (hw : ∀ d ∈ tables_1, d.before a0 Z = true) (hm : Addr) (hs : Int32) (ky : Addr) (vl : Addr)  (h0 : Heap) (n0 : Nat) (Z0 : n0 ≤ h0.size)  :
    own_C l Z (⟨"java/util/HashMap", "newNode", "(ILjava/lang/Object;Ljava/lang/Object;Ljava/util/HashMap$Node;)Ljava/util/HashMap$Node;"⟩ : MethodName) jdk_69_method_46_code 5 (some (.object "java/util/HashMap$Node")) [] ({ frames := 2, cells := 1, slots := 4, locals := 29 } : Room) #[.ref hm, .int hs, .ref ky, .ref vl, .null] h0 (own_Qw Z vl h0 n0) := by
  refine MetFree.of_bodySF (plainFor_of_name own_pn4) hisR ?_
  intro p e s m args below meth c s₁ Bd hml hP hK
  obtain ⟨rfl, hZ, hh⟩ := hP
  obtain ⟨hx, hby, hlk, hret, hown, hnm, X0, e0⟩ := own_hd Bd hh
  have N0 := Fr.nil n0
  refine own_open (own_ef6 m hm hs ky vl) ?_
  obtain ⟨T1, h1, X1, e1, E1, A1, D1, -, st1⟩ := newO X0 hx hZ hown (ow hw 117 rfl) (ow hw 124 rfl) (ow hw 125 rfl) e0 (g := (mkF m 0 #[rv hm, iv hs, rv ky, rv vl, .val .null] [])) rfl (hb hby od169) (by decide) (by decide)
  obtain ⟨nd, g1⟩ : ∃ z, z = h0.size := ⟨_, rfl⟩
  rw [← g1] at A1 D1 st1
  refine og T1 3 #[rv hm, iv hs, rv ky, rv vl, .val .null] [.ref nd] st1 ?_
  have sz_nd : h0.size ≤ nd := Nat.le_trans (Keep.refl h0 []).1 (Nat.le_of_eq g1.symm)
  have gn_nd : n0 ≤ nd := Nat.le_trans Z0 sz_nd
  have K1 := (Keep.refl h0 []).ext E1
  refine s_dup X1 hx (hb hby od170) rfl ?_
  refine s_iloadN X1 hx (hb hby od171) rfl  ?_
  refine s_aloadN X1 hx (hb hby od172) rfl rfl  ?_
  refine s_aloadN X1 hx (hb hby od173) rfl rfl  ?_
  refine s_aload X1 hx (hb hby od174) rfl rfl  ?_
  obtain ⟨_, _, ⟨T3, L3, k3, n3⟩, -, X3, ⟨Lc3, hQ3, l3, y3, z3⟩, st3⟩ := X1.specialBack hx (y := (⟨"java/util/HashMap$Node", "<init>", "(ILjava/lang/Object;Ljava/lang/Object;Ljava/util/HashMap$Node;)V"⟩ : MethodName)) rfl hown (mvT hZ (ow hw 126 rfl)) (mvT hZ (ow hw 127 rfl)) (mvT hZ (ow hw 129 rfl)) (by decide) (backOf (W := 1) (own_nod l Z a0 hw nd hs ky vl h1 n0 (Nat.le_trans Z0 K1.1) A1 (D1 (Or.inr (ow hw 132 rfl)) (ty := .int) (by decide)) (D1 (Or.inr (ow hw 134 rfl)) (ty := (.object "java/lang/Object")) (by decide)) (D1 (Or.inl (ow hw 136 rfl)) (ty := (.object "java/lang/Object")) (by decide)) (D1 (Or.inl (ow hw 138 rfl)) (ty := (.object "java/util/HashMap$Node")) (by decide)) gn_nd) hZ (ow hw 129 rfl) (ow hw 125 rfl) (by decide) (by decide)) (g := (mkF m 9 #[rv hm, iv hs, rv ky, rv vl, .val .null] [.null, .ref vl, .ref ky, .int hs, .ref nd, .ref nd])) rfl (by rw [hml]; rfl) (Steps.refl _) (a := nd) (argsL := [.int hs, .ref ky, .ref vl, .null]) (rest := [.ref nd]) (lenOf own_pd8 rfl) rfl (by show 2 * 0 + _ ≤ _; exact Nat.le_of_eq rfl) (hb hby od175) (fun _ _ => ⟨rfl, e1, (by decide : 1 + 0 ≤ _), (by decide : 4 + 0 ≤ _)⟩)
  dsimp only [Pt.U, Pt.locs, Pt.cells, Pt.slots] at X3 l3 y3 z3 st3 hQ3
  subst y3 z3
  obtain ⟨rfl, N3q, Kc3, N3c⟩ := hQ3
  have N3 := frE l3 N0 N3q
  refine ov T3 12 #[rv hm, iv hs, rv ky, rv vl, .val .null] [.ref nd] st3 ?_
  have K3x := K1.trans Kc3 (allS (Or.inr sz_nd) all0)
  refine own_retA X3 hx hlk hret rfl rfl (hb hby od176) ?_ (by decide) (by decide)
  exact ⟨_, rfl, N3, K3x, N3c, sz_nd⟩
set_option maxRecDepth 65536 in
set_option maxHeartbeats 40000000 in
theorem own_rs (l : Launch) (Z : State) (a0 : Array Value) (hw : ∀ d ∈ tables_1, d.before a0 Z = true) (hm : Addr)  (h0 : Heap) (n0 : Nat) (Z0 : n0 ≤ h0.size) (E_m : Exa Z h0 hm "java/util/HashMap") (Ft : Fld Z h0 hm "java/util/HashMap" "table" "[Ljava/util/HashMap$Node;" .null) (Fz : Fld Z h0 hm "java/util/HashMap" "size" "I" (.int 0)) (Fo : Fld Z h0 hm "java/util/HashMap" "modCount" "I" (.int 0)) (Fh : Fld Z h0 hm "java/util/HashMap" "threshold" "I" (.int 0)) (Fv : Fld Z h0 hm "java/util/AbstractMap" "values" "Ljava/util/Collection;" .null) (g : n0 ≤ hm) :
    own_C l Z (⟨"java/util/HashMap", "resize", "()[Ljava/util/HashMap$Node;"⟩ : MethodName) jdk_69_method_17_code 14 (some (.array (.object "java/util/HashMap$Node"))) [] ({ frames := 0, cells := 1, slots := 16, locals := 0 } : Room) #[.ref hm] h0 (own_Qg Z hm .null h0 n0) := by
  refine MetFree.of_bodySF (plainFor_of_name own_pn4) hisR ?_
  intro p e s m args below meth c s₁ Bd hml hP hK
  obtain ⟨rfl, hZ, hh⟩ := hP
  obtain ⟨hx, hby, hlk, hret, hown, hnm, X0, e0⟩ := own_hd Bd hh
  have N0 := Fr.nil n0
  refine own_open (own_ef7 m hm) ?_
  refine s_aloadN X0 hx (hb hby od177) rfl rfl  ?_
  obtain ⟨T1, X1, e1, st1⟩ := getF X0 hx hZ hown (host := "") (Or.inl (ow hw 108 rfl)) Via.refl e0 Ft (g := (mkF m 1 #[rv hm, .unset, .unset, .unset, .unset, .unset, .unset, .unset, .unset, .unset, .unset, .unset, .unset, .unset] [.ref hm])) rfl rfl (hb hby od178)
  refine og T1 4 #[rv hm, .unset, .unset, .unset, .unset, .unset, .unset, .unset, .unset, .unset, .unset, .unset, .unset, .unset] [.null] st1 ?_
  refine og T1 5 #[rv hm, .val .null, .unset, .unset, .unset, .unset, .unset, .unset, .unset, .unset, .unset, .unset, .unset, .unset] [] (fun _ k => XS.astoreN X1.here hx rfl (hb hby od179) rfl rfl (l' := #[rv hm, .val .null, .unset, .unset, .unset, .unset, .unset, .unset, .unset, .unset, .unset, .unset, .unset, .unset]) rfl k) ?_
  refine s_aloadN X1 hx (hb hby od180) rfl rfl  ?_
  refine og T1 9 #[rv hm, .val .null, .unset, .unset, .unset, .unset, .unset, .unset, .unset, .unset, .unset, .unset, .unset, .unset] [] (fun _ k => XS.ifnonnullNo X1.here hx rfl (hb hby od181) rfl k) ?_
  refine s_iconst 0 X1 hx (hb hby od182) rfl ?_
  refine s_goto 15 X1 hx (hb hby od183) (by decide) (by decide) ?_
  refine og T1 16 #[rv hm, .val .null, iv 0, .unset, .unset, .unset, .unset, .unset, .unset, .unset, .unset, .unset, .unset, .unset] [] (fun _ k => XS.istoreN X1.here hx rfl (hb hby od184) rfl (l' := #[rv hm, .val .null, iv 0, .unset, .unset, .unset, .unset, .unset, .unset, .unset, .unset, .unset, .unset, .unset]) rfl k) ?_
  refine s_aloadN X1 hx (hb hby od185) rfl rfl  ?_
  obtain ⟨T2, X2, e2, st2⟩ := getF X1 hx hZ hown (host := "") (Or.inl (ow hw 115 rfl)) Via.refl e1 Fh (g := (mkF m 17 #[rv hm, .val .null, iv 0, .unset, .unset, .unset, .unset, .unset, .unset, .unset, .unset, .unset, .unset, .unset] [.ref hm])) rfl rfl (hb hby od186)
  refine og T2 20 #[rv hm, .val .null, iv 0, .unset, .unset, .unset, .unset, .unset, .unset, .unset, .unset, .unset, .unset, .unset] [.int 0] st2 ?_
  refine og T2 21 #[rv hm, .val .null, iv 0, iv 0, .unset, .unset, .unset, .unset, .unset, .unset, .unset, .unset, .unset, .unset] [] (fun _ k => XS.istoreN X2.here hx rfl (hb hby od187) rfl (l' := #[rv hm, .val .null, iv 0, iv 0, .unset, .unset, .unset, .unset, .unset, .unset, .unset, .unset, .unset, .unset]) rfl k) ?_
  refine s_iconst 0 X2 hx (hb hby od188) rfl ?_
  refine og T2 24 #[rv hm, .val .null, iv 0, iv 0, .unset, iv 0, .unset, .unset, .unset, .unset, .unset, .unset, .unset, .unset] [] (fun _ k => XS.istore X2.here hx rfl (hb hby od189) rfl (l' := #[rv hm, .val .null, iv 0, iv 0, .unset, iv 0, .unset, .unset, .unset, .unset, .unset, .unset, .unset, .unset]) rfl k) ?_
  refine s_iloadN X2 hx (hb hby od190) rfl  ?_
  refine s_ifY 67 X2 hx (hb hby od191) ((if0 _ _).trans (flt (by decide)).2.2.2) (by decide) (by decide) ?_
  refine s_iloadN X2 hx (hb hby od192) rfl  ?_
  refine s_ifY 77 X2 hx (hb hby od193) ((if0 _ _).trans (flt (by decide)).2.2.2) (by decide) (by decide) ?_
  refine s_bipush 16 X2 hx (hb hby od194) rfl ?_
  refine og T2 81 #[rv hm, .val .null, iv 0, iv 0, iv 16, iv 0, .unset, .unset, .unset, .unset, .unset, .unset, .unset, .unset] [] (fun _ k => XS.istore X2.here hx rfl (hb hby od195) rfl (l' := #[rv hm, .val .null, iv 0, iv 0, iv 16, iv 0, .unset, .unset, .unset, .unset, .unset, .unset, .unset, .unset]) rfl k) ?_
  refine s_bipush 12 X2 hx (hb hby od196) rfl ?_
  refine og T2 85 #[rv hm, .val .null, iv 0, iv 0, iv 16, iv 12, .unset, .unset, .unset, .unset, .unset, .unset, .unset, .unset] [] (fun _ k => XS.istore X2.here hx rfl (hb hby od197) rfl (l' := #[rv hm, .val .null, iv 0, iv 0, iv 16, iv 12, .unset, .unset, .unset, .unset, .unset, .unset, .unset, .unset]) rfl k) ?_
  refine s_iload X2 hx (hb hby od198) rfl  ?_
  refine s_ifY 125 X2 hx (hb hby od199) ((if0 _ _).trans (feq (by decide)).2) (by decide) (by decide) ?_
  refine s_aloadN X2 hx (hb hby od200) rfl rfl  ?_
  refine s_iload X2 hx (hb hby od201) rfl  ?_
  obtain ⟨T3, h3, X3, e3, W3, st3⟩ := putF X2 hx hZ hown (host := "") (Or.inl (ow hw 115 rfl)) Via.refl e2 Fh E_m (Or.inl (ow hw 116 rfl)) (ow hw 27 rfl) (ty := .int) (by decide) rfl rfl (g := (mkF m 128 #[rv hm, .val .null, iv 0, iv 0, iv 16, iv 12, .unset, .unset, .unset, .unset, .unset, .unset, .unset, .unset] [.int 12, .ref hm])) rfl rfl (hb hby od202)
  have N3 := Fr.snoc X3 N0 g
  refine og T3 131 #[rv hm, .val .null, iv 0, iv 0, iv 16, iv 12, .unset, .unset, .unset, .unset, .unset, .unset, .unset, .unset] [] st3 ?_
  have n3_Fh := Fh.same W3
  have c4_E_m := E_m.wr W3
  have c4_Ft := Ft.other W3 (Or.inr (os21 hw))
  have c4_Fz := Fz.other W3 (Or.inr (os22 hw))
  have c4_Fo := Fo.other W3 (Or.inr (os23 hw))
  have c4_Fv := Fv.other W3 (Or.inr (os24 hw))
  have K3 := (Keep.refl h0 [hm]).wr W3 (Or.inl (List.mem_of_getElem? (i := 0) rfl))
  refine s_iload X3 hx (hb hby od203) rfl  ?_
  obtain ⟨T5, h5, k5, X5, e5, E5, A5, Ex5, O5, st5⟩ := newRE X3 hx hZ hown (ow hw 117 rfl) (ow hw 118 rfl) e3 (g := (mkF m 133 #[rv hm, .val .null, iv 0, iv 0, iv 16, iv 12, .unset, .unset, .unset, .unset, .unset, .unset, .unset, .unset] [.int 16])) rfl (hb hby od204) rfl (by decide) (cap := 16) (by decide) (by decide) (by decide) (by decide) (ad := "[Ljava/util/HashMap$Node;") (by decide +kernel)
  obtain ⟨tb, g5⟩ : ∃ z, z = h3.size := ⟨_, rfl⟩
  rw [← g5] at A5 Ex5 st5
  have V5 : Arv Z h5 tb k5 (.object "java/util/HashMap$Node") (16 : Int32) [.null, .null, .null, .null, .null, .null, .null, .null, .null, .null, .null, .null, .null, .null, .null, .null] .null := (Arv.new A5 (by decide)).pad (pad_rep [] .null 16)
  refine og T5 136 #[rv hm, .val .null, iv 0, iv 0, iv 16, iv 12, .unset, .unset, .unset, .unset, .unset, .unset, .unset, .unset] [.ref tb] st5 ?_
  have sz_tb : h0.size ≤ tb := Nat.le_trans K3.1 (Nat.le_of_eq g5.symm)
  have gn_tb : n0 ≤ tb := Nat.le_trans Z0 sz_tb
  have ne_hm_tb : hm ≠ tb := Nat.ne_of_lt (Nat.lt_of_lt_of_le c4_E_m.lt (Nat.le_of_eq g5.symm))
  have c6_E_m := c4_E_m.ext E5
  have c6_Ft := c4_Ft.ext E5
  have c6_Fz := c4_Fz.ext E5
  have c6_Fo := c4_Fo.ext E5
  have c6_Fv := c4_Fv.ext E5
  have c6_Fh := n3_Fh.ext E5
  have K5 := K3.ext E5
  refine og T5 138 #[rv hm, .val .null, iv 0, iv 0, iv 16, iv 12, rv tb, .unset, .unset, .unset, .unset, .unset, .unset, .unset] [] (fun _ k => XS.astore X5.here hx rfl (hb hby od205) rfl rfl (l' := #[rv hm, .val .null, iv 0, iv 0, iv 16, iv 12, rv tb, .unset, .unset, .unset, .unset, .unset, .unset, .unset]) rfl k) ?_
  refine s_aloadN X5 hx (hb hby od206) rfl rfl  ?_
  refine s_aload X5 hx (hb hby od207) rfl rfl  ?_
  obtain ⟨T7, h7, X7, e7, W7, st7⟩ := putF X5 hx hZ hown (host := "") (Or.inl (ow hw 108 rfl)) Via.refl e5 c6_Ft c6_E_m (Or.inl (ow hw 109 rfl)) (ow hw 27 rfl) (ty := (.array (.object "java/util/HashMap$Node"))) (by decide) rfl rfl (g := (mkF m 141 #[rv hm, .val .null, iv 0, iv 0, iv 16, iv 12, rv tb, .unset, .unset, .unset, .unset, .unset, .unset, .unset] [.ref tb, .ref hm])) rfl rfl (hb hby od208)
  have N7 := Fr.snoc X7 N3 g
  refine og T7 144 #[rv hm, .val .null, iv 0, iv 0, iv 16, iv 12, rv tb, .unset, .unset, .unset, .unset, .unset, .unset, .unset] [] st7 ?_
  have n7_Ft := c6_Ft.same W7
  have c8_E_m := c6_E_m.wr W7
  have c8_Fz := c6_Fz.other W7 (Or.inr (os25 hw))
  have c8_Fo := c6_Fo.other W7 (Or.inr (os26 hw))
  have c8_Fv := c6_Fv.other W7 (Or.inr (os27 hw))
  have c8_Fh := c6_Fh.other W7 (Or.inr (os28 hw))
  have c8_V := V5.other W7 (Ne.symm ne_hm_tb)
  have K7 := K5.wr W7 (Or.inl (List.mem_of_getElem? (i := 0) rfl))
  refine s_aloadN X7 hx (hb hby od209) rfl rfl  ?_
  refine og T7 353 #[rv hm, .val .null, iv 0, iv 0, iv 16, iv 12, rv tb, .unset, .unset, .unset, .unset, .unset, .unset, .unset] [] (fun _ k => XS.ifnullYes X7.here hx rfl (pc0 := 145) (pc' := 353) rfl (hb hby od210) rfl (by decide) (by decide) k) ?_
  refine s_aload X7 hx (hb hby od211) rfl rfl  ?_
  refine own_retA X7 hx hlk hret rfl rfl (hb hby od212) ?_ (by decide) (by decide)
  rw [e7]
  exact ⟨_, _, rfl, N7, K7, ⟨c8_E_m, n7_Ft, c8_Fz, c8_Fo, c8_Fh, c8_Fv⟩, c8_V, O5, sz_tb⟩
set_option maxRecDepth 65536 in
set_option maxHeartbeats 40000000 in
theorem own_ani (l : Launch) (Z : State) (a0 : Array Value) (hw : ∀ d ∈ tables_1, d.before a0 Z = true) (hm : Addr)  (h0 : Heap) (n0 : Nat) (Z0 : n0 ≤ h0.size)  :
    own_C l Z (⟨"java/util/HashMap", "afterNodeInsertion", "(Z)V"⟩ : MethodName) jdk_69_method_52_code 2 none [] ({ frames := 0, cells := 0, slots := 0, locals := 0 } : Room) #[.ref hm, .int 1] h0 (own_Qn h0 n0) := by
  refine MetFree.of_bodySF (plainFor_of_name own_pn4) hisR ?_
  intro p e s m args below meth c s₁ Bd hml hP hK
  obtain ⟨rfl, hZ, hh⟩ := hP
  obtain ⟨hx, hby, hlk, hret, hown, hnm, X0, e0⟩ := own_hd Bd hh
  have N0 := Fr.nil n0
  refine own_open (own_ef5 m hm ((1 : Int32))) ?_
  refine own_retV X0 hx hlk hret (hb hby od213) ?_ (by decide) (by decide)
  rw [e0]
  exact ⟨rfl, N0, rfl⟩
set_option maxRecDepth 65536 in
set_option maxHeartbeats 40000000 in
theorem own_pv1 (l : Launch) (Z : State) (a0 : Array Value) (hw : ∀ d ∈ tables_1, d.before a0 Z = true) (hm : Addr) (ky : Addr) (vl : Addr)  (h0 : Heap) (n0 : Nat) (Z0 : n0 ≤ h0.size) (E_m : Exa Z h0 hm "java/util/HashMap") (Ft : Fld Z h0 hm "java/util/HashMap" "table" "[Ljava/util/HashMap$Node;" .null) (Fz : Fld Z h0 hm "java/util/HashMap" "size" "I" (.int 0)) (Fo : Fld Z h0 hm "java/util/HashMap" "modCount" "I" (.int 0)) (Fh : Fld Z h0 hm "java/util/HashMap" "threshold" "I" (.int 0)) (Fv : Fld Z h0 hm "java/util/AbstractMap" "values" "Ljava/util/Collection;" .null) (g : n0 ≤ hm) :
    own_C l Z (⟨"java/util/HashMap", "putVal", "(ILjava/lang/Object;Ljava/lang/Object;ZZ)Ljava/lang/Object;"⟩ : MethodName) jdk_69_method_16_code 13 (some (.object "java/lang/Object")) [] ({ frames := 3, cells := 2, slots := 20, locals := 49 } : Room) #[.ref hm, .int 97, .ref ky, .ref vl, .int 0, .int 1] h0 (own_Qp1 Z [hm] hm vl .null h0 n0) := by
  refine MetFree.of_bodySF (plainFor_of_name own_pn4) hisR ?_
  intro p e s m args below meth c s₁ Bd hml hP hK
  obtain ⟨rfl, hZ, hh⟩ := hP
  obtain ⟨hx, hby, hlk, hret, hown, hnm, X0, e0⟩ := own_hd Bd hh
  have N0 := Fr.nil n0
  refine own_open (own_ef8 m hm ((97 : Int32)) ky vl ((0 : Int32)) ((1 : Int32))) ?_
  refine s_aloadN X0 hx (hb hby od214) rfl rfl  ?_
  obtain ⟨T1, X1, e1, st1⟩ := getF X0 hx hZ hown (host := "") (Or.inl (ow hw 108 rfl)) Via.refl e0 Ft (g := (mkF m 1 #[rv hm, iv 97, rv ky, rv vl, iv 0, iv 1, .unset, .unset, .unset, .unset, .unset, .unset, .unset] [.ref hm])) rfl rfl (hb hby od215)
  refine og T1 4 #[rv hm, iv 97, rv ky, rv vl, iv 0, iv 1, .unset, .unset, .unset, .unset, .unset, .unset, .unset] [.null] st1 ?_
  refine s_dup X1 hx (hb hby od216) rfl ?_
  refine og T1 7 #[rv hm, iv 97, rv ky, rv vl, iv 0, iv 1, .val .null, .unset, .unset, .unset, .unset, .unset, .unset] [.null] (fun _ k => XS.astore X1.here hx rfl (hb hby od217) rfl rfl (l' := #[rv hm, iv 97, rv ky, rv vl, iv 0, iv 1, .val .null, .unset, .unset, .unset, .unset, .unset, .unset]) rfl k) ?_
  refine og T1 19 #[rv hm, iv 97, rv ky, rv vl, iv 0, iv 1, .val .null, .unset, .unset, .unset, .unset, .unset, .unset] [] (fun _ k => XS.ifnullYes X1.here hx rfl (pc0 := 7) (pc' := 19) rfl (hb hby od218) rfl (by decide) (by decide) k) ?_
  refine s_aloadN X1 hx (hb hby od219) rfl rfl  ?_
  obtain ⟨cq2, kq2, q2a, q2b, q2c⟩ := isOf hZ e1 (E_m)
  obtain ⟨_, _, ⟨T2, L2, k2, n2⟩, -, X2, ⟨Lc2, hQ2, l2, y2, z2⟩, st2⟩ := X1.virtualBack hx hown (mvT hZ (ow hw 110 rfl)) (mvT hZ (ow hw 111 rfl)) (notFace_of_selects (args := #[]) (mvT hZ (ow hw 113 rfl))) (mvT hZ (ow hw 113 rfl)) (mvT hZ (ow hw 112 rfl)) (by decide) (backOf (W := 0) (own_rs l Z a0 hw hm h0 n0 Z0 E_m Ft Fz Fo Fh Fv g) hZ (ow hw 114 rfl) (ow hw 28 rfl) (by decide) (by decide)) q2a q2c (g := (mkF m 20 #[rv hm, iv 97, rv ky, rv vl, iv 0, iv 1, .val .null, .unset, .unset, .unset, .unset, .unset, .unset] [.ref hm])) rfl (by rw [hml]; rfl) (Steps.refl _) (argsL := []) (rest := []) (lenOf own_pd9 rfl) rfl (by show 2 * 0 + _ ≤ _; exact Nat.le_of_eq rfl) (hb hby od220) (fun _ _ => ⟨rfl, e1, (by decide : 0 + 1 ≤ _), (by decide : 0 + 16 ≤ _)⟩)
  dsimp only [Pt.U, Pt.locs, Pt.cells, Pt.slots] at X2 l2 y2 z2 st2 hQ2
  subst y2 z2
  obtain ⟨tb, k2c, rfl, N2q, Kc2, H2c, V2c, O2c, s2c⟩ := hQ2
  have N2 := frE l2 N0 N2q
  refine ov T2 23 #[rv hm, iv 97, rv ky, rv vl, iv 0, iv 1, .val .null, .unset, .unset, .unset, .unset, .unset, .unset] [.ref tb] st2 ?_
  have K2x := (Keep.refl h0 [hm]).trans Kc2 (allS (Or.inl (List.mem_of_getElem? (i := 0) rfl)) all0)
  obtain ⟨H3_E_m, H3_Ft, H3_Fz, H3_Fo, H3_Fh, H3_Fv⟩ := H2c
  have gt := Nat.le_trans Z0 s2c
  refine s_dup X2 hx (hb hby od221) rfl ?_
  refine og T2 26 #[rv hm, iv 97, rv ky, rv vl, iv 0, iv 1, rv tb, .unset, .unset, .unset, .unset, .unset, .unset] [.ref tb] (fun _ k => XS.astore X2.here hx rfl (hb hby od222) rfl rfl (l' := #[rv hm, iv 97, rv ky, rv vl, iv 0, iv 1, rv tb, .unset, .unset, .unset, .unset, .unset, .unset]) rfl k) ?_
  have vv4 := V2c
  obtain ⟨cl4, Ar4, qa4, Sz4, Ng4, Ha4, Ga4⟩ := vv4
  refine og T2 27 #[rv hm, iv 97, rv ky, rv vl, iv 0, iv 1, rv tb, .unset, .unset, .unset, .unset, .unset, .unset] [(.int cl4.slots.size.toInt32)] (fun _ k => X2.arraylength hx Ar4.1 (State.isArrayOf_alike hZ.alike Ar4.2.1) (g := (mkF m 26 #[rv hm, iv 97, rv ky, rv vl, iv 0, iv 1, rv tb, .unset, .unset, .unset, .unset, .unset, .unset] [.ref tb])) rfl rfl (hb hby od223) _ k) ?_
  rw [len_of Sz4 Ng4]
  refine og T2 29 #[rv hm, iv 97, rv ky, rv vl, iv 0, iv 1, rv tb, .unset, iv 16, .unset, .unset, .unset, .unset] [] (fun _ k => XS.istore X2.here hx rfl (hb hby od224) rfl (l' := #[rv hm, iv 97, rv ky, rv vl, iv 0, iv 1, rv tb, .unset, iv 16, .unset, .unset, .unset, .unset]) rfl k) ?_
  refine s_aload X2 hx (hb hby od225) rfl rfl  ?_
  refine s_iload X2 hx (hb hby od226) rfl  ?_
  refine s_iconst 1 X2 hx (hb hby od227) rfl ?_
  refine og T2 35 #[rv hm, iv 97, rv ky, rv vl, iv 0, iv 1, rv tb, .unset, iv 16, .unset, .unset, .unset, .unset] [.int 15, .ref tb] (fun _ k => XS.isub X2.here hx rfl (hb hby od228) rfl k) ?_
  refine s_iloadN X2 hx (hb hby od229) rfl  ?_
  refine og T2 37 #[rv hm, iv 97, rv ky, rv vl, iv 0, iv 1, rv tb, .unset, iv 16, .unset, .unset, .unset, .unset] [.int 1, .ref tb] (fun _ k => XS.iand X2.here hx rfl (hb hby od230) rfl k) ?_
  refine s_dup X2 hx (hb hby od231) rfl ?_
  refine og T2 40 #[rv hm, iv 97, rv ky, rv vl, iv 0, iv 1, rv tb, .unset, iv 16, iv 1, .unset, .unset, .unset] [.int 1, .ref tb] (fun _ k => XS.istore X2.here hx rfl (hb hby od232) rfl (l' := #[rv hm, iv 97, rv ky, rv vl, iv 0, iv 1, rv tb, .unset, iv 16, iv 1, .unset, .unset, .unset]) rfl k) ?_
  have vv5 := V2c
  obtain ⟨cl5, Ar5, qa5, Sz5, Ng5, Ha5, Ga5⟩ := vv5
  have hin5 : ¬ ((1 : Int32) < 0 ∨ cl5.slots.size ≤ ((1 : Int32)).toNatClampNeg) := inb_of Sz5 ⟨by decide, by decide⟩
  refine og T2 41 #[rv hm, iv 97, rv ky, rv vl, iv 0, iv 1, rv tb, .unset, iv 16, iv 1, .unset, .unset, .unset] [.null] (fun _ k => X2.aaload hx (j := (1 : Int32)) (v := .null) Ar5.1 (State.isArrayOf_alike hZ.alike Ar5.2.1) rfl Ar5.2.2 hin5 (Ha5.at hin5 rfl) (g := (mkF m 40 #[rv hm, iv 97, rv ky, rv vl, iv 0, iv 1, rv tb, .unset, iv 16, iv 1, .unset, .unset, .unset] [.int 1, .ref tb])) rfl rfl (hb hby od233) _ k) ?_
  refine s_dup X2 hx (hb hby od234) rfl ?_
  refine og T2 44 #[rv hm, iv 97, rv ky, rv vl, iv 0, iv 1, rv tb, .val .null, iv 16, iv 1, .unset, .unset, .unset] [.null] (fun _ k => XS.astore X2.here hx rfl (hb hby od235) rfl rfl (l' := #[rv hm, iv 97, rv ky, rv vl, iv 0, iv 1, rv tb, .val .null, iv 16, iv 1, .unset, .unset, .unset]) rfl k) ?_
  refine og T2 47 #[rv hm, iv 97, rv ky, rv vl, iv 0, iv 1, rv tb, .val .null, iv 16, iv 1, .unset, .unset, .unset] [] (fun _ k => XS.ifnonnullNo X2.here hx rfl (hb hby od236) rfl k) ?_
  refine s_aload X2 hx (hb hby od237) rfl rfl  ?_
  refine s_iload X2 hx (hb hby od238) rfl  ?_
  refine s_aloadN X2 hx (hb hby od239) rfl rfl  ?_
  refine s_iloadN X2 hx (hb hby od240) rfl  ?_
  refine s_aloadN X2 hx (hb hby od241) rfl rfl  ?_
  refine s_aloadN X2 hx (hb hby od242) rfl rfl  ?_
  refine s_anull X2 hx (hb hby od243) ?_
  obtain ⟨cq6, kq6, q6a, q6b, q6c⟩ := isOf hZ rfl (H3_E_m)
  obtain ⟨_, _, ⟨T6, L6, k6, n6⟩, -, X6, ⟨Lc6, hQ6, l6, y6, z6⟩, st6⟩ := X2.virtualBack hx hown (mvT hZ (ow hw 119 rfl)) (mvT hZ (ow hw 120 rfl)) (notFace_of_selects (args := #[]) (mvT hZ (ow hw 122 rfl))) (mvT hZ (ow hw 122 rfl)) (mvT hZ (ow hw 121 rfl)) (by decide) (backOf (W := 2) (own_nn l Z a0 hw hm (97 : Int32) ky vl T2.heap n0 (Nat.le_trans Z0 K2x.1)) hZ (ow hw 123 rfl) (ow hw 28 rfl) (by decide) (by decide)) q6a q6c (g := (mkF m 56 #[rv hm, iv 97, rv ky, rv vl, iv 0, iv 1, rv tb, .val .null, iv 16, iv 1, .unset, .unset, .unset] [.null, .ref vl, .ref ky, .int 97, .ref hm, .int 1, .ref tb])) rfl (by rw [hml]; rfl) (Steps.refl _) (argsL := [.int 97, .ref ky, .ref vl, .null]) (rest := [.int 1, .ref tb]) (lenOf own_pd10 rfl) rfl (by show 2 * 0 + _ ≤ _; exact Nat.le_of_eq rfl) (hb hby od244) (fun _ _ => ⟨rfl, rfl, (by decide : 1 + 1 ≤ _), (by decide : 16 + 4 ≤ _)⟩)
  dsimp only [Pt.U, Pt.locs, Pt.cells, Pt.slots] at X6 l6 y6 z6 st6 hQ6
  subst y6 z6
  obtain ⟨nd, rfl, N6q, Kc6, N6c, s6c⟩ := hQ6
  have N6 := frE l6 N2 N6q
  refine ov T6 59 #[rv hm, iv 97, rv ky, rv vl, iv 0, iv 1, rv tb, .val .null, iv 16, iv 1, .unset, .unset, .unset] [.ref nd, .int 1, .ref tb] st6 ?_
  have snd : h0.size ≤ nd := Nat.le_trans K2x.1 s6c
  have c7_E_m := H3_E_m.keep Kc6
  have c7_Ft := H3_Ft.keep Kc6 nin0
  have c7_Fz := H3_Fz.keep Kc6 nin0
  have c7_Fo := H3_Fo.keep Kc6 nin0
  have c7_Fh := H3_Fh.keep Kc6 nin0
  have c7_Fv := H3_Fv.keep Kc6 nin0
  have c7_V := V2c.keep Kc6 nin0
  have K6x := K2x.trans Kc6 all0
  obtain ⟨En, Nv, Nx⟩ := N6c
  have vv8 := c7_V
  obtain ⟨cl8, Ar8, qa8, Sz8, Ng8, Ha8, Ga8⟩ := vv8
  have hin8 : ¬ ((1 : Int32) < 0 ∨ cl8.slots.size ≤ ((1 : Int32)).toNatClampNeg) := inb_of Sz8 ⟨by decide, by decide⟩
  obtain ⟨T9, h9, X9, e9, W9, st9⟩ := stR X6 hx hZ rfl Ar8 (j := (1 : Int32)) hin8 rfl (Sto.ofV Ar8 qa8 O2c (Ins.self En)) (g := (mkF m 59 #[rv hm, iv 97, rv ky, rv vl, iv 0, iv 1, rv tb, .val .null, iv 16, iv 1, .unset, .unset, .unset] [.ref nd, .int 1, .ref tb])) rfl rfl (hb hby od245)
  have V9 := Arv.set Ar8 qa8 Sz8 Ng8 Ha8 Ga8 (v := (.ref nd)) rfl W9 1 rfl (Nat.le_of_ble_eq_true rfl)
  have N9 := Fr.snoc X9 N6 gt
  refine og T9 60 #[rv hm, iv 97, rv ky, rv vl, iv 0, iv 1, rv tb, .val .null, iv 16, iv 1, .unset, .unset, .unset] [] st9 ?_
  have c10_E_m := c7_E_m.wr W9
  have c10_Ft := c7_Ft.other W9 (Or.inl (own_nea c7_E_m c7_V (ow hw 27 rfl)))
  have c10_Fz := c7_Fz.other W9 (Or.inl (own_nea c7_E_m c7_V (ow hw 27 rfl)))
  have c10_Fo := c7_Fo.other W9 (Or.inl (own_nea c7_E_m c7_V (ow hw 27 rfl)))
  have c10_Fh := c7_Fh.other W9 (Or.inl (own_nea c7_E_m c7_V (ow hw 27 rfl)))
  have c10_Fv := c7_Fv.other W9 (Or.inl (own_nea c7_E_m c7_V (ow hw 27 rfl)))
  have c10_En := En.wr W9
  have c10_Nv := Nv.other W9 (Or.inl (own_nea En c7_V (ow hw 124 rfl)))
  have c10_Nx := Nx.other W9 (Or.inl (own_nea En c7_V (ow hw 124 rfl)))
  have K9 := K6x.wr W9 (Or.inr s2c)
  refine s_goto 259 X9 hx (hb hby od246) (by decide) (by decide) ?_
  refine s_aloadN X9 hx (hb hby od247) rfl rfl  ?_
  refine s_dup X9 hx (hb hby od248) rfl ?_
  obtain ⟨T11, X11, e11, st11⟩ := getF X9 hx hZ hown (host := "") (Or.inl (ow hw 139 rfl)) Via.refl e9 c10_Fo (g := (mkF m 261 #[rv hm, iv 97, rv ky, rv vl, iv 0, iv 1, rv tb, .val .null, iv 16, iv 1, .unset, .unset, .unset] [.ref hm, .ref hm])) rfl rfl (hb hby od249)
  refine og T11 264 #[rv hm, iv 97, rv ky, rv vl, iv 0, iv 1, rv tb, .val .null, iv 16, iv 1, .unset, .unset, .unset] [.int 0, .ref hm] st11 ?_
  refine s_iconst 1 X11 hx (hb hby od250) rfl ?_
  refine og T11 266 #[rv hm, iv 97, rv ky, rv vl, iv 0, iv 1, rv tb, .val .null, iv 16, iv 1, .unset, .unset, .unset] [.int 1, .ref hm] (fun _ k => XS.iadd X11.here hx rfl (hb hby od251) rfl k) ?_
  obtain ⟨T12, h12, X12, e12, W12, st12⟩ := putF X11 hx hZ hown (host := "") (Or.inl (ow hw 139 rfl)) Via.refl e11 c10_Fo c10_E_m (Or.inl (ow hw 140 rfl)) (ow hw 27 rfl) (ty := .int) (by decide) rfl rfl (g := (mkF m 266 #[rv hm, iv 97, rv ky, rv vl, iv 0, iv 1, rv tb, .val .null, iv 16, iv 1, .unset, .unset, .unset] [.int 1, .ref hm])) rfl rfl (hb hby od252)
  have N12 := Fr.snoc X12 N9 g
  refine og T12 269 #[rv hm, iv 97, rv ky, rv vl, iv 0, iv 1, rv tb, .val .null, iv 16, iv 1, .unset, .unset, .unset] [] st12 ?_
  have n12_Fo := c10_Fo.same W12
  have c13_E_m := c10_E_m.wr W12
  have c13_Ft := c10_Ft.other W12 (Or.inr (os29 hw))
  have c13_Fz := c10_Fz.other W12 (Or.inr (os30 hw))
  have c13_Fh := c10_Fh.other W12 (Or.inr (os31 hw))
  have c13_Fv := c10_Fv.other W12 (Or.inr (os32 hw))
  have c13_En := c10_En.wr W12
  have c13_Nv := c10_Nv.other W12 (Or.inl (ne_exa c10_En c10_E_m (by decide)))
  have c13_Nx := c10_Nx.other W12 (Or.inl (ne_exa c10_En c10_E_m (by decide)))
  have c13_V := V9.other W12 (Ne.symm (own_nea c10_E_m V9 (ow hw 27 rfl)))
  have K12 := K9.wr W12 (Or.inl (List.mem_of_getElem? (i := 0) rfl))
  refine s_aloadN X12 hx (hb hby od253) rfl rfl  ?_
  refine s_dup X12 hx (hb hby od254) rfl ?_
  obtain ⟨T14, X14, e14, st14⟩ := getF X12 hx hZ hown (host := "") (Or.inl (ow hw 141 rfl)) Via.refl e12 c13_Fz (g := (mkF m 271 #[rv hm, iv 97, rv ky, rv vl, iv 0, iv 1, rv tb, .val .null, iv 16, iv 1, .unset, .unset, .unset] [.ref hm, .ref hm])) rfl rfl (hb hby od255)
  refine og T14 274 #[rv hm, iv 97, rv ky, rv vl, iv 0, iv 1, rv tb, .val .null, iv 16, iv 1, .unset, .unset, .unset] [.int 0, .ref hm] st14 ?_
  refine s_iconst 1 X14 hx (hb hby od256) rfl ?_
  refine og T14 276 #[rv hm, iv 97, rv ky, rv vl, iv 0, iv 1, rv tb, .val .null, iv 16, iv 1, .unset, .unset, .unset] [.int 1, .ref hm] (fun _ k => XS.iadd X14.here hx rfl (hb hby od257) rfl k) ?_
  refine og T14 277 #[rv hm, iv 97, rv ky, rv vl, iv 0, iv 1, rv tb, .val .null, iv 16, iv 1, .unset, .unset, .unset] [.int 1, .ref hm, .int 1] (fun _ k => XS.dupX1 X14.here hx rfl (hb hby od258) rfl rfl rfl k) ?_
  obtain ⟨T15, h15, X15, e15, W15, st15⟩ := putF X14 hx hZ hown (host := "") (Or.inl (ow hw 141 rfl)) Via.refl e14 c13_Fz c13_E_m (Or.inl (ow hw 142 rfl)) (ow hw 27 rfl) (ty := .int) (by decide) rfl rfl (g := (mkF m 277 #[rv hm, iv 97, rv ky, rv vl, iv 0, iv 1, rv tb, .val .null, iv 16, iv 1, .unset, .unset, .unset] [.int 1, .ref hm, .int 1])) rfl rfl (hb hby od259)
  have N15 := Fr.snoc X15 N12 g
  refine og T15 280 #[rv hm, iv 97, rv ky, rv vl, iv 0, iv 1, rv tb, .val .null, iv 16, iv 1, .unset, .unset, .unset] [.int 1] st15 ?_
  have n15_Fz := c13_Fz.same W15
  have c16_E_m := c13_E_m.wr W15
  have c16_Ft := c13_Ft.other W15 (Or.inr (os33 hw))
  have c16_Fh := c13_Fh.other W15 (Or.inr (os34 hw))
  have c16_Fv := c13_Fv.other W15 (Or.inr (os35 hw))
  have c16_En := c13_En.wr W15
  have c16_Nv := c13_Nv.other W15 (Or.inl (ne_exa c13_En c13_E_m (by decide)))
  have c16_Nx := c13_Nx.other W15 (Or.inl (ne_exa c13_En c13_E_m (by decide)))
  have c16_V := c13_V.other W15 (Ne.symm (own_nea c13_E_m c13_V (ow hw 27 rfl)))
  have c16_Fo := n12_Fo.other W15 (Or.inr (os36 hw))
  have K15 := K12.wr W15 (Or.inl (List.mem_of_getElem? (i := 0) rfl))
  refine s_aloadN X15 hx (hb hby od260) rfl rfl  ?_
  obtain ⟨T17, X17, e17, st17⟩ := getF X15 hx hZ hown (host := "") (Or.inl (ow hw 115 rfl)) Via.refl e15 c16_Fh (g := (mkF m 281 #[rv hm, iv 97, rv ky, rv vl, iv 0, iv 1, rv tb, .val .null, iv 16, iv 1, .unset, .unset, .unset] [.ref hm, .int 1])) rfl rfl (hb hby od261)
  refine og T17 284 #[rv hm, iv 97, rv ky, rv vl, iv 0, iv 1, rv tb, .val .null, iv 16, iv 1, .unset, .unset, .unset] [.int 12, .int 1] st17 ?_
  refine s_icmpY 292 X17 hx (hb hby od262) (flt (by decide)).2.2.2 (by decide) (by decide) ?_
  refine s_aloadN X17 hx (hb hby od263) rfl rfl  ?_
  refine s_iload X17 hx (hb hby od264) rfl  ?_
  obtain ⟨cq18, kq18, q18a, q18b, q18c⟩ := isOf hZ e17 (c16_E_m)
  obtain ⟨_, _, ⟨T18, L18, k18, n18⟩, -, X18, ⟨Lc18, hQ18, l18, y18, z18⟩, st18⟩ := X17.virtualBack hx hown (mvT hZ (ow hw 143 rfl)) (mvT hZ (ow hw 144 rfl)) (notFace_of_selects (args := #[]) (mvT hZ (ow hw 146 rfl))) (mvT hZ (ow hw 146 rfl)) (mvT hZ (ow hw 145 rfl)) (by decide) (backOf (W := 0) (own_ani l Z a0 hw hm h15 n0 (Nat.le_trans Z0 K15.1)) hZ (ow hw 147 rfl) (ow hw 28 rfl) (by decide) (by decide)) q18a q18c (g := (mkF m 295 #[rv hm, iv 97, rv ky, rv vl, iv 0, iv 1, rv tb, .val .null, iv 16, iv 1, .unset, .unset, .unset] [.int 1, .ref hm])) rfl (by rw [hml]; rfl) (Steps.refl _) (argsL := [.int 1]) (rest := []) (lenOf own_pd11 rfl) rfl (by show 2 * 0 + _ ≤ _; exact Nat.le_of_eq rfl) (hb hby od265) (fun _ _ => ⟨rfl, e17, (by decide : 2 + 0 ≤ _), (by decide : 20 + 0 ≤ _)⟩)
  dsimp only [Pt.U, Pt.locs, Pt.cells, Pt.slots] at X18 l18 y18 z18 st18 hQ18
  subst y18 z18
  obtain ⟨rfl, N18q, hh18⟩ := hQ18
  have N18 := frE l18 N15 N18q
  refine ov T18 298 #[rv hm, iv 97, rv ky, rv vl, iv 0, iv 1, rv tb, .val .null, iv 16, iv 1, .unset, .unset, .unset] [] st18 ?_
  refine s_anull X18 hx (hb hby od266) ?_
  refine own_retA X18 hx hlk hret rfl rfl (hb hby od267) ?_ (by decide) (by decide)
  rw [hh18]
  exact ⟨rfl, N18, K15, _, _, _, ⟨c16_E_m, c16_Ft, n15_Fz, c16_Fo, c16_Fh, c16_Fv⟩, c16_V, O2c, ⟨c16_En, c16_Nv, c16_Nx⟩, s2c, snd⟩
set_option maxRecDepth 65536 in
set_option maxHeartbeats 40000000 in
theorem own_put1 (l : Launch) (Z : State) (a0 : Array Value) (hw : ∀ d ∈ tables_1, d.before a0 Z = true) (hm : Addr) (ky : Addr) (vl : Addr)  (ar : Addr) (kb : ClassId) (cs : Int32) (h0 : Heap) (n0 : Nat) (Z0 : n0 ≤ h0.size) (E_m : Exa Z h0 hm "java/util/HashMap") (Ft : Fld Z h0 hm "java/util/HashMap" "table" "[Ljava/util/HashMap$Node;" .null) (Fz : Fld Z h0 hm "java/util/HashMap" "size" "I" (.int 0)) (Fo : Fld Z h0 hm "java/util/HashMap" "modCount" "I" (.int 0)) (Fh : Fld Z h0 hm "java/util/HashMap" "threshold" "I" (.int 0)) (Fv : Fld Z h0 hm "java/util/AbstractMap" "values" "Ljava/util/Collection;" .null) (E_k : Exa Z h0 ky "java/lang/String") (SF1 : Fld Z h0 ky "java/lang/String" "value" "[B" (.ref ar)) (SF2 : Fld Z h0 ky "java/lang/String" "coder" "B" (.int 0)) (SF3 : Fld Z h0 ky "java/lang/String" "hash" "I" (.int 0)) (SF4 : Fld Z h0 ky "java/lang/String" "hashIsZero" "Z" (.int 0)) (VB : Arv Z h0 ar kb .byte 1 [.int 97] (.int 0)) (SC : Sta Z h0 "java/lang/String" "COMPACT_STRINGS" "Z" (.int cs)) (g : n0 ≤ hm) (hcs : ¬ cs = (0 : Int32)) (gk : n0 ≤ ky) :
    own_C l Z (⟨"java/util/HashMap", "put", "(Ljava/lang/Object;Ljava/lang/Object;)Ljava/lang/Object;"⟩ : MethodName) jdk_69_method_15_code 3 (some (.object "java/lang/Object")) [] ({ frames := 4, cells := 2, slots := 20, locals := 73 } : Room) #[.ref hm, .ref ky, .ref vl] h0 (own_Qp1 Z [ky, hm] hm vl .null h0 n0) := by
  refine MetFree.of_bodySF (plainFor_of_name own_pn4) hisR ?_
  intro p e s m args below meth c s₁ Bd hml hP hK
  obtain ⟨rfl, hZ, hh⟩ := hP
  obtain ⟨hx, hby, hlk, hret, hown, hnm, X0, e0⟩ := own_hd Bd hh
  have N0 := Fr.nil n0
  refine own_open (own_ef9 m hm ky vl) ?_
  refine s_aloadN X0 hx (hb hby od268) rfl rfl  ?_
  refine s_aloadN X0 hx (hb hby od269) rfl rfl  ?_
  obtain ⟨_, _, ⟨T1, L1, k1, n1⟩, -, X1, ⟨Lc1, hQ1, l1, y1, z1⟩, st1⟩ := Jvm.LawKit.callS X0 hx hown (mvT hZ (ow hw 82 rfl)) (mvT hZ (ow hw 83 rfl)) (mvT hZ (ow hw 28 rfl)) (mvT hZ (ow hw 84 rfl)) (by decide) (backOf (W := 1) (own_hash97 l Z a0 hw ky ar kb cs h0 n0 Z0 E_k SF1 SF2 SF3 SF4 VB SC hcs gk) hZ (ow hw 84 rfl) (ow hw 28 rfl) (by decide) (by decide)) (g := (mkF m 2 #[rv hm, rv ky, rv vl] [.ref ky, .ref hm])) rfl (by rw [hml]; rfl) (argsL := [.ref ky]) (rest := [.ref hm]) (lenOf own_pd12 rfl) rfl (by show 2 * 0 + _ ≤ _; exact Nat.le_of_eq rfl) (hb hby od270) (fun _ _ => ⟨rfl, e0, (by decide : 0 + 0 ≤ _), (by decide : 0 + 0 ≤ _)⟩)
  dsimp only [Pt.U, Pt.locs, Pt.cells, Pt.slots] at X1 l1 y1 z1 st1 hQ1
  subst y1 z1
  obtain ⟨rfl, N1q, Kc1⟩ := hQ1
  have N1 := frE l1 N0 N1q
  refine og T1 5 #[rv hm, rv ky, rv vl] [.int 97, .ref hm] st1 ?_
  have c2_E_m := E_m.keep Kc1
  have c2_Ft := Ft.keep Kc1 (ninS (ne_exa E_m E_k (by decide)) nin0)
  have c2_Fz := Fz.keep Kc1 (ninS (ne_exa E_m E_k (by decide)) nin0)
  have c2_Fo := Fo.keep Kc1 (ninS (ne_exa E_m E_k (by decide)) nin0)
  have c2_Fh := Fh.keep Kc1 (ninS (ne_exa E_m E_k (by decide)) nin0)
  have c2_Fv := Fv.keep Kc1 (ninS (ne_exa E_m E_k (by decide)) nin0)
  have c2_E_k := E_k.keep Kc1
  have K1x := (Keep.refl h0 [ky, hm]).trans Kc1 (allS (Or.inl (List.mem_of_getElem? (i := 0) rfl)) all0)
  refine s_aloadN X1 hx (hb hby od271) rfl rfl  ?_
  refine s_aloadN X1 hx (hb hby od272) rfl rfl  ?_
  refine s_iconst 0 X1 hx (hb hby od273) rfl ?_
  refine s_iconst 1 X1 hx (hb hby od274) rfl ?_
  obtain ⟨cq3, kq3, q3a, q3b, q3c⟩ := isOf hZ rfl (c2_E_m)
  obtain ⟨_, _, ⟨T3, L3, k3, n3⟩, -, X3, ⟨Lc3, hQ3, l3, y3, z3⟩, st3⟩ := X1.virtualBack hx hown (mvT hZ (ow hw 103 rfl)) (mvT hZ (ow hw 104 rfl)) (notFace_of_selects (args := #[]) (mvT hZ (ow hw 106 rfl))) (mvT hZ (ow hw 106 rfl)) (mvT hZ (ow hw 105 rfl)) (by decide) (backOf (W := 0) (own_pv1 l Z a0 hw hm ky vl  T1.heap n0 (Nat.le_trans Z0 K1x.1) c2_E_m c2_Ft c2_Fz c2_Fo c2_Fh c2_Fv g) hZ (ow hw 107 rfl) (ow hw 28 rfl) (by decide) (by decide)) q3a q3c (g := (mkF m 9 #[rv hm, rv ky, rv vl] [.int 1, .int 0, .ref vl, .ref ky, .int 97, .ref hm])) rfl (by rw [hml]; rfl) (Steps.refl _) (argsL := [.int 97, .ref ky, .ref vl, .int 0, .int 1]) (rest := []) (lenOf own_pd13 rfl) rfl (by show 2 * 0 + _ ≤ _; exact Nat.le_of_eq rfl) (hb hby od275) (fun _ _ => ⟨rfl, rfl, (by decide : 0 + 2 ≤ _), (by decide : 0 + 20 ≤ _)⟩)
  dsimp only [Pt.U, Pt.locs, Pt.cells, Pt.slots] at X3 l3 y3 z3 st3 hQ3
  subst y3 z3
  obtain ⟨rfl, N3q, Kc3, tb, kt, nd, H3c, V3c, O3c, N3c, st3c, sn3c⟩ := hQ3
  have N3 := frE l3 N1 N3q
  refine ov T3 12 #[rv hm, rv ky, rv vl] [.null] st3 ?_
  have K3x := K1x.trans Kc3 (allS (Or.inl (List.mem_of_getElem? (i := 1) rfl)) all0)
  refine own_retA X3 hx hlk hret rfl rfl (hb hby od276) ?_ (by decide) (by decide)
  exact ⟨rfl, N3, K3x, _, _, _, H3c, V3c, O3c, N3c, Nat.le_trans K1x.1 st3c, Nat.le_trans K1x.1 sn3c⟩
set_option maxRecDepth 65536 in
set_option maxHeartbeats 40000000 in
theorem own_pv2 (l : Launch) (Z : State) (a0 : Array Value) (hw : ∀ d ∈ tables_1, d.before a0 Z = true) (hm : Addr) (ky : Addr) (vl : Addr) (tb : Addr) (k : ClassId) (n1 : Addr) (h0 : Heap) (n0 : Nat) (Z0 : n0 ≤ h0.size) (E_m : Exa Z h0 hm "java/util/HashMap") (Ft : Fld Z h0 hm "java/util/HashMap" "table" "[Ljava/util/HashMap$Node;" (.ref tb)) (Fz : Fld Z h0 hm "java/util/HashMap" "size" "I" (.int 1)) (Fo : Fld Z h0 hm "java/util/HashMap" "modCount" "I" (.int 1)) (Fh : Fld Z h0 hm "java/util/HashMap" "threshold" "I" (.int 12)) (Fv : Fld Z h0 hm "java/util/AbstractMap" "values" "Ljava/util/Collection;" .null) (V : Arv Z h0 tb k (.object "java/util/HashMap$Node") 16 [.null, .ref n1, .null, .null, .null, .null, .null, .null, .null, .null, .null, .null, .null, .null, .null, .null] .null) (Ov : Ovr Z k "java/util/HashMap$Node") (gt : n0 ≤ tb) (g : n0 ≤ hm) :
    own_C l Z (⟨"java/util/HashMap", "putVal", "(ILjava/lang/Object;Ljava/lang/Object;ZZ)Ljava/lang/Object;"⟩ : MethodName) jdk_69_method_16_code 13 (some (.object "java/lang/Object")) [] ({ frames := 3, cells := 1, slots := 4, locals := 49 } : Room) #[.ref hm, .int 98, .ref ky, .ref vl, .int 0, .int 1] h0 (own_Qp2 Z [hm, tb] hm tb k n1 vl .null h0 n0) := by
  refine MetFree.of_bodySF (plainFor_of_name own_pn4) hisR ?_
  intro p e s m args below meth c s₁ Bd hml hP hK
  obtain ⟨rfl, hZ, hh⟩ := hP
  obtain ⟨hx, hby, hlk, hret, hown, hnm, X0, e0⟩ := own_hd Bd hh
  have N0 := Fr.nil n0
  refine own_open (own_ef8 m hm ((98 : Int32)) ky vl ((0 : Int32)) ((1 : Int32))) ?_
  refine s_aloadN X0 hx (hb hby od214) rfl rfl  ?_
  obtain ⟨T1, X1, e1, st1⟩ := getF X0 hx hZ hown (host := "") (Or.inl (ow hw 108 rfl)) Via.refl e0 Ft (g := (mkF m 1 #[rv hm, iv 98, rv ky, rv vl, iv 0, iv 1, .unset, .unset, .unset, .unset, .unset, .unset, .unset] [.ref hm])) rfl rfl (hb hby od215)
  refine og T1 4 #[rv hm, iv 98, rv ky, rv vl, iv 0, iv 1, .unset, .unset, .unset, .unset, .unset, .unset, .unset] [.ref tb] st1 ?_
  refine s_dup X1 hx (hb hby od216) rfl ?_
  refine og T1 7 #[rv hm, iv 98, rv ky, rv vl, iv 0, iv 1, rv tb, .unset, .unset, .unset, .unset, .unset, .unset] [.ref tb] (fun _ k => XS.astore X1.here hx rfl (hb hby od217) rfl rfl (l' := #[rv hm, iv 98, rv ky, rv vl, iv 0, iv 1, rv tb, .unset, .unset, .unset, .unset, .unset, .unset]) rfl k) ?_
  refine og T1 10 #[rv hm, iv 98, rv ky, rv vl, iv 0, iv 1, rv tb, .unset, .unset, .unset, .unset, .unset, .unset] [] (fun _ k => XS.ifnullNo X1.here hx rfl (hb hby od218) rfl k) ?_
  refine s_aload X1 hx (hb hby od277) rfl rfl  ?_
  have vv2 := V
  obtain ⟨cl2, Ar2, qa2, Sz2, Ng2, Ha2, Ga2⟩ := vv2
  refine og T1 13 #[rv hm, iv 98, rv ky, rv vl, iv 0, iv 1, rv tb, .unset, .unset, .unset, .unset, .unset, .unset] [(.int cl2.slots.size.toInt32)] (fun _ k => X1.arraylength hx (by rw [e1]; exact Ar2.1) (State.isArrayOf_alike hZ.alike Ar2.2.1) (g := (mkF m 12 #[rv hm, iv 98, rv ky, rv vl, iv 0, iv 1, rv tb, .unset, .unset, .unset, .unset, .unset, .unset] [.ref tb])) rfl rfl (hb hby od278) _ k) ?_
  rw [len_of Sz2 Ng2]
  refine s_dup X1 hx (hb hby od279) rfl ?_
  refine og T1 16 #[rv hm, iv 98, rv ky, rv vl, iv 0, iv 1, rv tb, .unset, iv 16, .unset, .unset, .unset, .unset] [.int 16] (fun _ k => XS.istore X1.here hx rfl (hb hby od280) rfl (l' := #[rv hm, iv 98, rv ky, rv vl, iv 0, iv 1, rv tb, .unset, iv 16, .unset, .unset, .unset, .unset]) rfl k) ?_
  refine s_ifY 29 X1 hx (hb hby od281) ((if0 _ _).trans (feq (by decide)).2) (by decide) (by decide) ?_
  refine s_aload X1 hx (hb hby od225) rfl rfl  ?_
  refine s_iload X1 hx (hb hby od226) rfl  ?_
  refine s_iconst 1 X1 hx (hb hby od227) rfl ?_
  refine og T1 35 #[rv hm, iv 98, rv ky, rv vl, iv 0, iv 1, rv tb, .unset, iv 16, .unset, .unset, .unset, .unset] [.int 15, .ref tb] (fun _ k => XS.isub X1.here hx rfl (hb hby od228) rfl k) ?_
  refine s_iloadN X1 hx (hb hby od229) rfl  ?_
  refine og T1 37 #[rv hm, iv 98, rv ky, rv vl, iv 0, iv 1, rv tb, .unset, iv 16, .unset, .unset, .unset, .unset] [.int 2, .ref tb] (fun _ k => XS.iand X1.here hx rfl (hb hby od230) rfl k) ?_
  refine s_dup X1 hx (hb hby od231) rfl ?_
  refine og T1 40 #[rv hm, iv 98, rv ky, rv vl, iv 0, iv 1, rv tb, .unset, iv 16, iv 2, .unset, .unset, .unset] [.int 2, .ref tb] (fun _ k => XS.istore X1.here hx rfl (hb hby od232) rfl (l' := #[rv hm, iv 98, rv ky, rv vl, iv 0, iv 1, rv tb, .unset, iv 16, iv 2, .unset, .unset, .unset]) rfl k) ?_
  have vv3 := V
  obtain ⟨cl3, Ar3, qa3, Sz3, Ng3, Ha3, Ga3⟩ := vv3
  have hin3 : ¬ ((2 : Int32) < 0 ∨ cl3.slots.size ≤ ((2 : Int32)).toNatClampNeg) := inb_of Sz3 ⟨by decide, by decide⟩
  refine og T1 41 #[rv hm, iv 98, rv ky, rv vl, iv 0, iv 1, rv tb, .unset, iv 16, iv 2, .unset, .unset, .unset] [.null] (fun _ k => X1.aaload hx (j := (2 : Int32)) (v := .null) (by rw [e1]; exact Ar3.1) (State.isArrayOf_alike hZ.alike Ar3.2.1) rfl Ar3.2.2 hin3 (Ha3.at hin3 rfl) (g := (mkF m 40 #[rv hm, iv 98, rv ky, rv vl, iv 0, iv 1, rv tb, .unset, iv 16, iv 2, .unset, .unset, .unset] [.int 2, .ref tb])) rfl rfl (hb hby od233) _ k) ?_
  refine s_dup X1 hx (hb hby od234) rfl ?_
  refine og T1 44 #[rv hm, iv 98, rv ky, rv vl, iv 0, iv 1, rv tb, .val .null, iv 16, iv 2, .unset, .unset, .unset] [.null] (fun _ k => XS.astore X1.here hx rfl (hb hby od235) rfl rfl (l' := #[rv hm, iv 98, rv ky, rv vl, iv 0, iv 1, rv tb, .val .null, iv 16, iv 2, .unset, .unset, .unset]) rfl k) ?_
  refine og T1 47 #[rv hm, iv 98, rv ky, rv vl, iv 0, iv 1, rv tb, .val .null, iv 16, iv 2, .unset, .unset, .unset] [] (fun _ k => XS.ifnonnullNo X1.here hx rfl (hb hby od236) rfl k) ?_
  refine s_aload X1 hx (hb hby od237) rfl rfl  ?_
  refine s_iload X1 hx (hb hby od238) rfl  ?_
  refine s_aloadN X1 hx (hb hby od239) rfl rfl  ?_
  refine s_iloadN X1 hx (hb hby od240) rfl  ?_
  refine s_aloadN X1 hx (hb hby od241) rfl rfl  ?_
  refine s_aloadN X1 hx (hb hby od242) rfl rfl  ?_
  refine s_anull X1 hx (hb hby od243) ?_
  obtain ⟨cq4, kq4, q4a, q4b, q4c⟩ := isOf hZ e1 (E_m)
  obtain ⟨_, _, ⟨T4, L4, k4, n4⟩, -, X4, ⟨Lc4, hQ4, l4, y4, z4⟩, st4⟩ := X1.virtualBack hx hown (mvT hZ (ow hw 119 rfl)) (mvT hZ (ow hw 120 rfl)) (notFace_of_selects (args := #[]) (mvT hZ (ow hw 122 rfl))) (mvT hZ (ow hw 122 rfl)) (mvT hZ (ow hw 121 rfl)) (by decide) (backOf (W := 2) (own_nn l Z a0 hw hm (98 : Int32) ky vl h0 n0 Z0) hZ (ow hw 123 rfl) (ow hw 28 rfl) (by decide) (by decide)) q4a q4c (g := (mkF m 56 #[rv hm, iv 98, rv ky, rv vl, iv 0, iv 1, rv tb, .val .null, iv 16, iv 2, .unset, .unset, .unset] [.null, .ref vl, .ref ky, .int 98, .ref hm, .int 2, .ref tb])) rfl (by rw [hml]; rfl) (Steps.refl _) (argsL := [.int 98, .ref ky, .ref vl, .null]) (rest := [.int 2, .ref tb]) (lenOf own_pd10 rfl) rfl (by show 2 * 0 + _ ≤ _; exact Nat.le_of_eq rfl) (hb hby od244) (fun _ _ => ⟨rfl, e1, (by decide : 0 + 1 ≤ _), (by decide : 0 + 4 ≤ _)⟩)
  dsimp only [Pt.U, Pt.locs, Pt.cells, Pt.slots] at X4 l4 y4 z4 st4 hQ4
  subst y4 z4
  obtain ⟨nd, rfl, N4q, Kc4, N4c, s4c⟩ := hQ4
  have N4 := frE l4 N0 N4q
  refine ov T4 59 #[rv hm, iv 98, rv ky, rv vl, iv 0, iv 1, rv tb, .val .null, iv 16, iv 2, .unset, .unset, .unset] [.ref nd, .int 2, .ref tb] st4 ?_
  have snd : h0.size ≤ nd := Nat.le_trans (Keep.refl h0 [hm, tb]).1 s4c
  have c5_E_m := E_m.keep Kc4
  have c5_Ft := Ft.keep Kc4 nin0
  have c5_Fz := Fz.keep Kc4 nin0
  have c5_Fo := Fo.keep Kc4 nin0
  have c5_Fh := Fh.keep Kc4 nin0
  have c5_Fv := Fv.keep Kc4 nin0
  have c5_V := V.keep Kc4 nin0
  have K4x := (Keep.refl h0 [hm, tb]).trans Kc4 all0
  obtain ⟨En, Nv, Nx⟩ := N4c
  have vv6 := c5_V
  obtain ⟨cl6, Ar6, qa6, Sz6, Ng6, Ha6, Ga6⟩ := vv6
  have hin6 : ¬ ((2 : Int32) < 0 ∨ cl6.slots.size ≤ ((2 : Int32)).toNatClampNeg) := inb_of Sz6 ⟨by decide, by decide⟩
  obtain ⟨T7, h7, X7, e7, W7, st7⟩ := stR X4 hx hZ rfl Ar6 (j := (2 : Int32)) hin6 rfl (Sto.ofV Ar6 qa6 Ov (Ins.self En)) (g := (mkF m 59 #[rv hm, iv 98, rv ky, rv vl, iv 0, iv 1, rv tb, .val .null, iv 16, iv 2, .unset, .unset, .unset] [.ref nd, .int 2, .ref tb])) rfl rfl (hb hby od245)
  have V7 := Arv.set Ar6 qa6 Sz6 Ng6 Ha6 Ga6 (v := (.ref nd)) rfl W7 2 rfl (Nat.le_of_ble_eq_true rfl)
  have N7 := Fr.snoc X7 N4 gt
  refine og T7 60 #[rv hm, iv 98, rv ky, rv vl, iv 0, iv 1, rv tb, .val .null, iv 16, iv 2, .unset, .unset, .unset] [] st7 ?_
  have c8_E_m := c5_E_m.wr W7
  have c8_Ft := c5_Ft.other W7 (Or.inl (own_nea c5_E_m c5_V (ow hw 27 rfl)))
  have c8_Fz := c5_Fz.other W7 (Or.inl (own_nea c5_E_m c5_V (ow hw 27 rfl)))
  have c8_Fo := c5_Fo.other W7 (Or.inl (own_nea c5_E_m c5_V (ow hw 27 rfl)))
  have c8_Fh := c5_Fh.other W7 (Or.inl (own_nea c5_E_m c5_V (ow hw 27 rfl)))
  have c8_Fv := c5_Fv.other W7 (Or.inl (own_nea c5_E_m c5_V (ow hw 27 rfl)))
  have c8_En := En.wr W7
  have c8_Nv := Nv.other W7 (Or.inl (own_nea En c5_V (ow hw 124 rfl)))
  have c8_Nx := Nx.other W7 (Or.inl (own_nea En c5_V (ow hw 124 rfl)))
  have K7 := K4x.wr W7 (Or.inl (List.mem_of_getElem? (i := 1) rfl))
  refine s_goto 259 X7 hx (hb hby od246) (by decide) (by decide) ?_
  refine s_aloadN X7 hx (hb hby od247) rfl rfl  ?_
  refine s_dup X7 hx (hb hby od248) rfl ?_
  obtain ⟨T9, X9, e9, st9⟩ := getF X7 hx hZ hown (host := "") (Or.inl (ow hw 139 rfl)) Via.refl e7 c8_Fo (g := (mkF m 261 #[rv hm, iv 98, rv ky, rv vl, iv 0, iv 1, rv tb, .val .null, iv 16, iv 2, .unset, .unset, .unset] [.ref hm, .ref hm])) rfl rfl (hb hby od249)
  refine og T9 264 #[rv hm, iv 98, rv ky, rv vl, iv 0, iv 1, rv tb, .val .null, iv 16, iv 2, .unset, .unset, .unset] [.int 1, .ref hm] st9 ?_
  refine s_iconst 1 X9 hx (hb hby od250) rfl ?_
  refine og T9 266 #[rv hm, iv 98, rv ky, rv vl, iv 0, iv 1, rv tb, .val .null, iv 16, iv 2, .unset, .unset, .unset] [.int 2, .ref hm] (fun _ k => XS.iadd X9.here hx rfl (hb hby od251) rfl k) ?_
  obtain ⟨T10, h10, X10, e10, W10, st10⟩ := putF X9 hx hZ hown (host := "") (Or.inl (ow hw 139 rfl)) Via.refl e9 c8_Fo c8_E_m (Or.inl (ow hw 140 rfl)) (ow hw 27 rfl) (ty := .int) (by decide) rfl rfl (g := (mkF m 266 #[rv hm, iv 98, rv ky, rv vl, iv 0, iv 1, rv tb, .val .null, iv 16, iv 2, .unset, .unset, .unset] [.int 2, .ref hm])) rfl rfl (hb hby od252)
  have N10 := Fr.snoc X10 N7 g
  refine og T10 269 #[rv hm, iv 98, rv ky, rv vl, iv 0, iv 1, rv tb, .val .null, iv 16, iv 2, .unset, .unset, .unset] [] st10 ?_
  have n10_Fo := c8_Fo.same W10
  have c11_E_m := c8_E_m.wr W10
  have c11_Ft := c8_Ft.other W10 (Or.inr (os29 hw))
  have c11_Fz := c8_Fz.other W10 (Or.inr (os30 hw))
  have c11_Fh := c8_Fh.other W10 (Or.inr (os31 hw))
  have c11_Fv := c8_Fv.other W10 (Or.inr (os32 hw))
  have c11_En := c8_En.wr W10
  have c11_Nv := c8_Nv.other W10 (Or.inl (ne_exa c8_En c8_E_m (by decide)))
  have c11_Nx := c8_Nx.other W10 (Or.inl (ne_exa c8_En c8_E_m (by decide)))
  have c11_V := V7.other W10 (Ne.symm (own_nea c8_E_m V7 (ow hw 27 rfl)))
  have K10 := K7.wr W10 (Or.inl (List.mem_of_getElem? (i := 0) rfl))
  refine s_aloadN X10 hx (hb hby od253) rfl rfl  ?_
  refine s_dup X10 hx (hb hby od254) rfl ?_
  obtain ⟨T12, X12, e12, st12⟩ := getF X10 hx hZ hown (host := "") (Or.inl (ow hw 141 rfl)) Via.refl e10 c11_Fz (g := (mkF m 271 #[rv hm, iv 98, rv ky, rv vl, iv 0, iv 1, rv tb, .val .null, iv 16, iv 2, .unset, .unset, .unset] [.ref hm, .ref hm])) rfl rfl (hb hby od255)
  refine og T12 274 #[rv hm, iv 98, rv ky, rv vl, iv 0, iv 1, rv tb, .val .null, iv 16, iv 2, .unset, .unset, .unset] [.int 1, .ref hm] st12 ?_
  refine s_iconst 1 X12 hx (hb hby od256) rfl ?_
  refine og T12 276 #[rv hm, iv 98, rv ky, rv vl, iv 0, iv 1, rv tb, .val .null, iv 16, iv 2, .unset, .unset, .unset] [.int 2, .ref hm] (fun _ k => XS.iadd X12.here hx rfl (hb hby od257) rfl k) ?_
  refine og T12 277 #[rv hm, iv 98, rv ky, rv vl, iv 0, iv 1, rv tb, .val .null, iv 16, iv 2, .unset, .unset, .unset] [.int 2, .ref hm, .int 2] (fun _ k => XS.dupX1 X12.here hx rfl (hb hby od258) rfl rfl rfl k) ?_
  obtain ⟨T13, h13, X13, e13, W13, st13⟩ := putF X12 hx hZ hown (host := "") (Or.inl (ow hw 141 rfl)) Via.refl e12 c11_Fz c11_E_m (Or.inl (ow hw 142 rfl)) (ow hw 27 rfl) (ty := .int) (by decide) rfl rfl (g := (mkF m 277 #[rv hm, iv 98, rv ky, rv vl, iv 0, iv 1, rv tb, .val .null, iv 16, iv 2, .unset, .unset, .unset] [.int 2, .ref hm, .int 2])) rfl rfl (hb hby od259)
  have N13 := Fr.snoc X13 N10 g
  refine og T13 280 #[rv hm, iv 98, rv ky, rv vl, iv 0, iv 1, rv tb, .val .null, iv 16, iv 2, .unset, .unset, .unset] [.int 2] st13 ?_
  have n13_Fz := c11_Fz.same W13
  have c14_E_m := c11_E_m.wr W13
  have c14_Ft := c11_Ft.other W13 (Or.inr (os33 hw))
  have c14_Fh := c11_Fh.other W13 (Or.inr (os34 hw))
  have c14_Fv := c11_Fv.other W13 (Or.inr (os35 hw))
  have c14_En := c11_En.wr W13
  have c14_Nv := c11_Nv.other W13 (Or.inl (ne_exa c11_En c11_E_m (by decide)))
  have c14_Nx := c11_Nx.other W13 (Or.inl (ne_exa c11_En c11_E_m (by decide)))
  have c14_V := c11_V.other W13 (Ne.symm (own_nea c11_E_m c11_V (ow hw 27 rfl)))
  have c14_Fo := n10_Fo.other W13 (Or.inr (os36 hw))
  have K13 := K10.wr W13 (Or.inl (List.mem_of_getElem? (i := 0) rfl))
  refine s_aloadN X13 hx (hb hby od260) rfl rfl  ?_
  obtain ⟨T15, X15, e15, st15⟩ := getF X13 hx hZ hown (host := "") (Or.inl (ow hw 115 rfl)) Via.refl e13 c14_Fh (g := (mkF m 281 #[rv hm, iv 98, rv ky, rv vl, iv 0, iv 1, rv tb, .val .null, iv 16, iv 2, .unset, .unset, .unset] [.ref hm, .int 2])) rfl rfl (hb hby od261)
  refine og T15 284 #[rv hm, iv 98, rv ky, rv vl, iv 0, iv 1, rv tb, .val .null, iv 16, iv 2, .unset, .unset, .unset] [.int 12, .int 2] st15 ?_
  refine s_icmpY 292 X15 hx (hb hby od262) (flt (by decide)).2.2.2 (by decide) (by decide) ?_
  refine s_aloadN X15 hx (hb hby od263) rfl rfl  ?_
  refine s_iload X15 hx (hb hby od264) rfl  ?_
  obtain ⟨cq16, kq16, q16a, q16b, q16c⟩ := isOf hZ e15 (c14_E_m)
  obtain ⟨_, _, ⟨T16, L16, k16, n16⟩, -, X16, ⟨Lc16, hQ16, l16, y16, z16⟩, st16⟩ := X15.virtualBack hx hown (mvT hZ (ow hw 143 rfl)) (mvT hZ (ow hw 144 rfl)) (notFace_of_selects (args := #[]) (mvT hZ (ow hw 146 rfl))) (mvT hZ (ow hw 146 rfl)) (mvT hZ (ow hw 145 rfl)) (by decide) (backOf (W := 0) (own_ani l Z a0 hw hm h13 n0 (Nat.le_trans Z0 K13.1)) hZ (ow hw 147 rfl) (ow hw 28 rfl) (by decide) (by decide)) q16a q16c (g := (mkF m 295 #[rv hm, iv 98, rv ky, rv vl, iv 0, iv 1, rv tb, .val .null, iv 16, iv 2, .unset, .unset, .unset] [.int 1, .ref hm])) rfl (by rw [hml]; rfl) (Steps.refl _) (argsL := [.int 1]) (rest := []) (lenOf own_pd11 rfl) rfl (by show 2 * 0 + _ ≤ _; exact Nat.le_of_eq rfl) (hb hby od265) (fun _ _ => ⟨rfl, e15, (by decide : 1 + 0 ≤ _), (by decide : 4 + 0 ≤ _)⟩)
  dsimp only [Pt.U, Pt.locs, Pt.cells, Pt.slots] at X16 l16 y16 z16 st16 hQ16
  subst y16 z16
  obtain ⟨rfl, N16q, hh16⟩ := hQ16
  have N16 := frE l16 N13 N16q
  refine ov T16 298 #[rv hm, iv 98, rv ky, rv vl, iv 0, iv 1, rv tb, .val .null, iv 16, iv 2, .unset, .unset, .unset] [] st16 ?_
  refine s_anull X16 hx (hb hby od266) ?_
  refine own_retA X16 hx hlk hret rfl rfl (hb hby od267) ?_ (by decide) (by decide)
  rw [hh16]
  exact ⟨rfl, N16, K13, _, ⟨c14_E_m, c14_Ft, n13_Fz, c14_Fo, c14_Fh, c14_Fv⟩, c14_V, ⟨c14_En, c14_Nv, c14_Nx⟩, snd⟩
set_option maxRecDepth 65536 in
set_option maxHeartbeats 40000000 in
theorem own_put2 (l : Launch) (Z : State) (a0 : Array Value) (hw : ∀ d ∈ tables_1, d.before a0 Z = true) (hm : Addr) (ky : Addr) (vl : Addr) (tb : Addr) (k : ClassId) (n1 : Addr) (ar : Addr) (kb : ClassId) (cs : Int32) (h0 : Heap) (n0 : Nat) (Z0 : n0 ≤ h0.size) (E_m : Exa Z h0 hm "java/util/HashMap") (Ft : Fld Z h0 hm "java/util/HashMap" "table" "[Ljava/util/HashMap$Node;" (.ref tb)) (Fz : Fld Z h0 hm "java/util/HashMap" "size" "I" (.int 1)) (Fo : Fld Z h0 hm "java/util/HashMap" "modCount" "I" (.int 1)) (Fh : Fld Z h0 hm "java/util/HashMap" "threshold" "I" (.int 12)) (Fv : Fld Z h0 hm "java/util/AbstractMap" "values" "Ljava/util/Collection;" .null) (V : Arv Z h0 tb k (.object "java/util/HashMap$Node") 16 [.null, .ref n1, .null, .null, .null, .null, .null, .null, .null, .null, .null, .null, .null, .null, .null, .null] .null) (E_k : Exa Z h0 ky "java/lang/String") (SF1 : Fld Z h0 ky "java/lang/String" "value" "[B" (.ref ar)) (SF2 : Fld Z h0 ky "java/lang/String" "coder" "B" (.int 0)) (SF3 : Fld Z h0 ky "java/lang/String" "hash" "I" (.int 0)) (SF4 : Fld Z h0 ky "java/lang/String" "hashIsZero" "Z" (.int 0)) (VB : Arv Z h0 ar kb .byte 1 [.int 98] (.int 0)) (SC : Sta Z h0 "java/lang/String" "COMPACT_STRINGS" "Z" (.int cs)) (Ov : Ovr Z k "java/util/HashMap$Node") (gt : n0 ≤ tb) (g : n0 ≤ hm) (hcs : ¬ cs = (0 : Int32)) (gk : n0 ≤ ky) :
    own_C l Z (⟨"java/util/HashMap", "put", "(Ljava/lang/Object;Ljava/lang/Object;)Ljava/lang/Object;"⟩ : MethodName) jdk_69_method_15_code 3 (some (.object "java/lang/Object")) [] ({ frames := 4, cells := 1, slots := 4, locals := 73 } : Room) #[.ref hm, .ref ky, .ref vl] h0 (own_Qp2 Z [ky, hm, tb] hm tb k n1 vl .null h0 n0) := by
  refine MetFree.of_bodySF (plainFor_of_name own_pn4) hisR ?_
  intro p e s m args below meth c s₁ Bd hml hP hK
  obtain ⟨rfl, hZ, hh⟩ := hP
  obtain ⟨hx, hby, hlk, hret, hown, hnm, X0, e0⟩ := own_hd Bd hh
  have N0 := Fr.nil n0
  refine own_open (own_ef9 m hm ky vl) ?_
  refine s_aloadN X0 hx (hb hby od268) rfl rfl  ?_
  refine s_aloadN X0 hx (hb hby od269) rfl rfl  ?_
  obtain ⟨_, _, ⟨T1, L1, k1, n1⟩, -, X1, ⟨Lc1, hQ1, l1, y1, z1⟩, st1⟩ := Jvm.LawKit.callS X0 hx hown (mvT hZ (ow hw 82 rfl)) (mvT hZ (ow hw 83 rfl)) (mvT hZ (ow hw 28 rfl)) (mvT hZ (ow hw 84 rfl)) (by decide) (backOf (W := 1) (own_hash98 l Z a0 hw ky ar kb cs h0 n0 Z0 E_k SF1 SF2 SF3 SF4 VB SC hcs gk) hZ (ow hw 84 rfl) (ow hw 28 rfl) (by decide) (by decide)) (g := (mkF m 2 #[rv hm, rv ky, rv vl] [.ref ky, .ref hm])) rfl (by rw [hml]; rfl) (argsL := [.ref ky]) (rest := [.ref hm]) (lenOf own_pd12 rfl) rfl (by show 2 * 0 + _ ≤ _; exact Nat.le_of_eq rfl) (hb hby od270) (fun _ _ => ⟨rfl, e0, (by decide : 0 + 0 ≤ _), (by decide : 0 + 0 ≤ _)⟩)
  dsimp only [Pt.U, Pt.locs, Pt.cells, Pt.slots] at X1 l1 y1 z1 st1 hQ1
  subst y1 z1
  obtain ⟨rfl, N1q, Kc1⟩ := hQ1
  have N1 := frE l1 N0 N1q
  refine og T1 5 #[rv hm, rv ky, rv vl] [.int 98, .ref hm] st1 ?_
  have c2_E_m := E_m.keep Kc1
  have c2_Ft := Ft.keep Kc1 (ninS (ne_exa E_m E_k (by decide)) nin0)
  have c2_Fz := Fz.keep Kc1 (ninS (ne_exa E_m E_k (by decide)) nin0)
  have c2_Fo := Fo.keep Kc1 (ninS (ne_exa E_m E_k (by decide)) nin0)
  have c2_Fh := Fh.keep Kc1 (ninS (ne_exa E_m E_k (by decide)) nin0)
  have c2_Fv := Fv.keep Kc1 (ninS (ne_exa E_m E_k (by decide)) nin0)
  have c2_V := V.keep Kc1 (ninS (Ne.symm (own_nea E_k V (ow hw 52 rfl))) nin0)
  have c2_E_k := E_k.keep Kc1
  have K1x := (Keep.refl h0 [ky, hm, tb]).trans Kc1 (allS (Or.inl (List.mem_of_getElem? (i := 0) rfl)) all0)
  refine s_aloadN X1 hx (hb hby od271) rfl rfl  ?_
  refine s_aloadN X1 hx (hb hby od272) rfl rfl  ?_
  refine s_iconst 0 X1 hx (hb hby od273) rfl ?_
  refine s_iconst 1 X1 hx (hb hby od274) rfl ?_
  obtain ⟨cq3, kq3, q3a, q3b, q3c⟩ := isOf hZ rfl (c2_E_m)
  obtain ⟨_, _, ⟨T3, L3, k3, n3⟩, -, X3, ⟨Lc3, hQ3, l3, y3, z3⟩, st3⟩ := X1.virtualBack hx hown (mvT hZ (ow hw 103 rfl)) (mvT hZ (ow hw 104 rfl)) (notFace_of_selects (args := #[]) (mvT hZ (ow hw 106 rfl))) (mvT hZ (ow hw 106 rfl)) (mvT hZ (ow hw 105 rfl)) (by decide) (backOf (W := 0) (own_pv2 l Z a0 hw hm ky vl tb k n1 T1.heap n0 (Nat.le_trans Z0 K1x.1) c2_E_m c2_Ft c2_Fz c2_Fo c2_Fh c2_Fv c2_V Ov gt g) hZ (ow hw 107 rfl) (ow hw 28 rfl) (by decide) (by decide)) q3a q3c (g := (mkF m 9 #[rv hm, rv ky, rv vl] [.int 1, .int 0, .ref vl, .ref ky, .int 98, .ref hm])) rfl (by rw [hml]; rfl) (Steps.refl _) (argsL := [.int 98, .ref ky, .ref vl, .int 0, .int 1]) (rest := []) (lenOf own_pd13 rfl) rfl (by show 2 * 0 + _ ≤ _; exact Nat.le_of_eq rfl) (hb hby od275) (fun _ _ => ⟨rfl, rfl, (by decide : 0 + 1 ≤ _), (by decide : 0 + 4 ≤ _)⟩)
  dsimp only [Pt.U, Pt.locs, Pt.cells, Pt.slots] at X3 l3 y3 z3 st3 hQ3
  subst y3 z3
  obtain ⟨rfl, N3q, Kc3, nd, H3c, V3c, N3c, sn3c⟩ := hQ3
  have N3 := frE l3 N1 N3q
  refine ov T3 12 #[rv hm, rv ky, rv vl] [.null] st3 ?_
  have K3x := K1x.trans Kc3 (allS (Or.inl (List.mem_of_getElem? (i := 1) rfl)) (allS (Or.inl (List.mem_of_getElem? (i := 2) rfl)) all0))
  refine own_retA X3 hx hlk hret rfl rfl (hb hby od276) ?_ (by decide) (by decide)
  exact ⟨rfl, N3, K3x, _, H3c, V3c, N3c, Nat.le_trans K1x.1 sn3c⟩
set_option maxRecDepth 65536 in
set_option maxHeartbeats 40000000 in
theorem own_pv3 (l : Launch) (Z : State) (a0 : Array Value) (hw : ∀ d ∈ tables_1, d.before a0 Z = true) (hm : Addr) (ky : Addr) (vl : Addr) (tb : Addr) (k : ClassId) (n1 n2 : Addr) (h0 : Heap) (n0 : Nat) (Z0 : n0 ≤ h0.size) (E_m : Exa Z h0 hm "java/util/HashMap") (Ft : Fld Z h0 hm "java/util/HashMap" "table" "[Ljava/util/HashMap$Node;" (.ref tb)) (Fz : Fld Z h0 hm "java/util/HashMap" "size" "I" (.int 2)) (Fo : Fld Z h0 hm "java/util/HashMap" "modCount" "I" (.int 2)) (Fh : Fld Z h0 hm "java/util/HashMap" "threshold" "I" (.int 12)) (Fv : Fld Z h0 hm "java/util/AbstractMap" "values" "Ljava/util/Collection;" .null) (V : Arv Z h0 tb k (.object "java/util/HashMap$Node") 16 [.null, .ref n1, .ref n2, .null, .null, .null, .null, .null, .null, .null, .null, .null, .null, .null, .null, .null] .null) (Ov : Ovr Z k "java/util/HashMap$Node") (gt : n0 ≤ tb) (g : n0 ≤ hm) :
    own_C l Z (⟨"java/util/HashMap", "putVal", "(ILjava/lang/Object;Ljava/lang/Object;ZZ)Ljava/lang/Object;"⟩ : MethodName) jdk_69_method_16_code 13 (some (.object "java/lang/Object")) [] ({ frames := 3, cells := 1, slots := 4, locals := 49 } : Room) #[.ref hm, .int 99, .ref ky, .ref vl, .int 0, .int 1] h0 (own_Qp3 Z [hm, tb] hm tb k n1 n2 vl .null h0 n0) := by
  refine MetFree.of_bodySF (plainFor_of_name own_pn4) hisR ?_
  intro p e s m args below meth c s₁ Bd hml hP hK
  obtain ⟨rfl, hZ, hh⟩ := hP
  obtain ⟨hx, hby, hlk, hret, hown, hnm, X0, e0⟩ := own_hd Bd hh
  have N0 := Fr.nil n0
  refine own_open (own_ef8 m hm ((99 : Int32)) ky vl ((0 : Int32)) ((1 : Int32))) ?_
  refine s_aloadN X0 hx (hb hby od214) rfl rfl  ?_
  obtain ⟨T1, X1, e1, st1⟩ := getF X0 hx hZ hown (host := "") (Or.inl (ow hw 108 rfl)) Via.refl e0 Ft (g := (mkF m 1 #[rv hm, iv 99, rv ky, rv vl, iv 0, iv 1, .unset, .unset, .unset, .unset, .unset, .unset, .unset] [.ref hm])) rfl rfl (hb hby od215)
  refine og T1 4 #[rv hm, iv 99, rv ky, rv vl, iv 0, iv 1, .unset, .unset, .unset, .unset, .unset, .unset, .unset] [.ref tb] st1 ?_
  refine s_dup X1 hx (hb hby od216) rfl ?_
  refine og T1 7 #[rv hm, iv 99, rv ky, rv vl, iv 0, iv 1, rv tb, .unset, .unset, .unset, .unset, .unset, .unset] [.ref tb] (fun _ k => XS.astore X1.here hx rfl (hb hby od217) rfl rfl (l' := #[rv hm, iv 99, rv ky, rv vl, iv 0, iv 1, rv tb, .unset, .unset, .unset, .unset, .unset, .unset]) rfl k) ?_
  refine og T1 10 #[rv hm, iv 99, rv ky, rv vl, iv 0, iv 1, rv tb, .unset, .unset, .unset, .unset, .unset, .unset] [] (fun _ k => XS.ifnullNo X1.here hx rfl (hb hby od218) rfl k) ?_
  refine s_aload X1 hx (hb hby od277) rfl rfl  ?_
  have vv2 := V
  obtain ⟨cl2, Ar2, qa2, Sz2, Ng2, Ha2, Ga2⟩ := vv2
  refine og T1 13 #[rv hm, iv 99, rv ky, rv vl, iv 0, iv 1, rv tb, .unset, .unset, .unset, .unset, .unset, .unset] [(.int cl2.slots.size.toInt32)] (fun _ k => X1.arraylength hx (by rw [e1]; exact Ar2.1) (State.isArrayOf_alike hZ.alike Ar2.2.1) (g := (mkF m 12 #[rv hm, iv 99, rv ky, rv vl, iv 0, iv 1, rv tb, .unset, .unset, .unset, .unset, .unset, .unset] [.ref tb])) rfl rfl (hb hby od278) _ k) ?_
  rw [len_of Sz2 Ng2]
  refine s_dup X1 hx (hb hby od279) rfl ?_
  refine og T1 16 #[rv hm, iv 99, rv ky, rv vl, iv 0, iv 1, rv tb, .unset, iv 16, .unset, .unset, .unset, .unset] [.int 16] (fun _ k => XS.istore X1.here hx rfl (hb hby od280) rfl (l' := #[rv hm, iv 99, rv ky, rv vl, iv 0, iv 1, rv tb, .unset, iv 16, .unset, .unset, .unset, .unset]) rfl k) ?_
  refine s_ifY 29 X1 hx (hb hby od281) ((if0 _ _).trans (feq (by decide)).2) (by decide) (by decide) ?_
  refine s_aload X1 hx (hb hby od225) rfl rfl  ?_
  refine s_iload X1 hx (hb hby od226) rfl  ?_
  refine s_iconst 1 X1 hx (hb hby od227) rfl ?_
  refine og T1 35 #[rv hm, iv 99, rv ky, rv vl, iv 0, iv 1, rv tb, .unset, iv 16, .unset, .unset, .unset, .unset] [.int 15, .ref tb] (fun _ k => XS.isub X1.here hx rfl (hb hby od228) rfl k) ?_
  refine s_iloadN X1 hx (hb hby od229) rfl  ?_
  refine og T1 37 #[rv hm, iv 99, rv ky, rv vl, iv 0, iv 1, rv tb, .unset, iv 16, .unset, .unset, .unset, .unset] [.int 3, .ref tb] (fun _ k => XS.iand X1.here hx rfl (hb hby od230) rfl k) ?_
  refine s_dup X1 hx (hb hby od231) rfl ?_
  refine og T1 40 #[rv hm, iv 99, rv ky, rv vl, iv 0, iv 1, rv tb, .unset, iv 16, iv 3, .unset, .unset, .unset] [.int 3, .ref tb] (fun _ k => XS.istore X1.here hx rfl (hb hby od232) rfl (l' := #[rv hm, iv 99, rv ky, rv vl, iv 0, iv 1, rv tb, .unset, iv 16, iv 3, .unset, .unset, .unset]) rfl k) ?_
  have vv3 := V
  obtain ⟨cl3, Ar3, qa3, Sz3, Ng3, Ha3, Ga3⟩ := vv3
  have hin3 : ¬ ((3 : Int32) < 0 ∨ cl3.slots.size ≤ ((3 : Int32)).toNatClampNeg) := inb_of Sz3 ⟨by decide, by decide⟩
  refine og T1 41 #[rv hm, iv 99, rv ky, rv vl, iv 0, iv 1, rv tb, .unset, iv 16, iv 3, .unset, .unset, .unset] [.null] (fun _ k => X1.aaload hx (j := (3 : Int32)) (v := .null) (by rw [e1]; exact Ar3.1) (State.isArrayOf_alike hZ.alike Ar3.2.1) rfl Ar3.2.2 hin3 (Ha3.at hin3 rfl) (g := (mkF m 40 #[rv hm, iv 99, rv ky, rv vl, iv 0, iv 1, rv tb, .unset, iv 16, iv 3, .unset, .unset, .unset] [.int 3, .ref tb])) rfl rfl (hb hby od233) _ k) ?_
  refine s_dup X1 hx (hb hby od234) rfl ?_
  refine og T1 44 #[rv hm, iv 99, rv ky, rv vl, iv 0, iv 1, rv tb, .val .null, iv 16, iv 3, .unset, .unset, .unset] [.null] (fun _ k => XS.astore X1.here hx rfl (hb hby od235) rfl rfl (l' := #[rv hm, iv 99, rv ky, rv vl, iv 0, iv 1, rv tb, .val .null, iv 16, iv 3, .unset, .unset, .unset]) rfl k) ?_
  refine og T1 47 #[rv hm, iv 99, rv ky, rv vl, iv 0, iv 1, rv tb, .val .null, iv 16, iv 3, .unset, .unset, .unset] [] (fun _ k => XS.ifnonnullNo X1.here hx rfl (hb hby od236) rfl k) ?_
  refine s_aload X1 hx (hb hby od237) rfl rfl  ?_
  refine s_iload X1 hx (hb hby od238) rfl  ?_
  refine s_aloadN X1 hx (hb hby od239) rfl rfl  ?_
  refine s_iloadN X1 hx (hb hby od240) rfl  ?_
  refine s_aloadN X1 hx (hb hby od241) rfl rfl  ?_
  refine s_aloadN X1 hx (hb hby od242) rfl rfl  ?_
  refine s_anull X1 hx (hb hby od243) ?_
  obtain ⟨cq4, kq4, q4a, q4b, q4c⟩ := isOf hZ e1 (E_m)
  obtain ⟨_, _, ⟨T4, L4, k4, n4⟩, -, X4, ⟨Lc4, hQ4, l4, y4, z4⟩, st4⟩ := X1.virtualBack hx hown (mvT hZ (ow hw 119 rfl)) (mvT hZ (ow hw 120 rfl)) (notFace_of_selects (args := #[]) (mvT hZ (ow hw 122 rfl))) (mvT hZ (ow hw 122 rfl)) (mvT hZ (ow hw 121 rfl)) (by decide) (backOf (W := 2) (own_nn l Z a0 hw hm (99 : Int32) ky vl h0 n0 Z0) hZ (ow hw 123 rfl) (ow hw 28 rfl) (by decide) (by decide)) q4a q4c (g := (mkF m 56 #[rv hm, iv 99, rv ky, rv vl, iv 0, iv 1, rv tb, .val .null, iv 16, iv 3, .unset, .unset, .unset] [.null, .ref vl, .ref ky, .int 99, .ref hm, .int 3, .ref tb])) rfl (by rw [hml]; rfl) (Steps.refl _) (argsL := [.int 99, .ref ky, .ref vl, .null]) (rest := [.int 3, .ref tb]) (lenOf own_pd10 rfl) rfl (by show 2 * 0 + _ ≤ _; exact Nat.le_of_eq rfl) (hb hby od244) (fun _ _ => ⟨rfl, e1, (by decide : 0 + 1 ≤ _), (by decide : 0 + 4 ≤ _)⟩)
  dsimp only [Pt.U, Pt.locs, Pt.cells, Pt.slots] at X4 l4 y4 z4 st4 hQ4
  subst y4 z4
  obtain ⟨nd, rfl, N4q, Kc4, N4c, s4c⟩ := hQ4
  have N4 := frE l4 N0 N4q
  refine ov T4 59 #[rv hm, iv 99, rv ky, rv vl, iv 0, iv 1, rv tb, .val .null, iv 16, iv 3, .unset, .unset, .unset] [.ref nd, .int 3, .ref tb] st4 ?_
  have snd : h0.size ≤ nd := Nat.le_trans (Keep.refl h0 [hm, tb]).1 s4c
  have c5_E_m := E_m.keep Kc4
  have c5_Ft := Ft.keep Kc4 nin0
  have c5_Fz := Fz.keep Kc4 nin0
  have c5_Fo := Fo.keep Kc4 nin0
  have c5_Fh := Fh.keep Kc4 nin0
  have c5_Fv := Fv.keep Kc4 nin0
  have c5_V := V.keep Kc4 nin0
  have K4x := (Keep.refl h0 [hm, tb]).trans Kc4 all0
  obtain ⟨En, Nv, Nx⟩ := N4c
  have vv6 := c5_V
  obtain ⟨cl6, Ar6, qa6, Sz6, Ng6, Ha6, Ga6⟩ := vv6
  have hin6 : ¬ ((3 : Int32) < 0 ∨ cl6.slots.size ≤ ((3 : Int32)).toNatClampNeg) := inb_of Sz6 ⟨by decide, by decide⟩
  obtain ⟨T7, h7, X7, e7, W7, st7⟩ := stR X4 hx hZ rfl Ar6 (j := (3 : Int32)) hin6 rfl (Sto.ofV Ar6 qa6 Ov (Ins.self En)) (g := (mkF m 59 #[rv hm, iv 99, rv ky, rv vl, iv 0, iv 1, rv tb, .val .null, iv 16, iv 3, .unset, .unset, .unset] [.ref nd, .int 3, .ref tb])) rfl rfl (hb hby od245)
  have V7 := Arv.set Ar6 qa6 Sz6 Ng6 Ha6 Ga6 (v := (.ref nd)) rfl W7 3 rfl (Nat.le_of_ble_eq_true rfl)
  have N7 := Fr.snoc X7 N4 gt
  refine og T7 60 #[rv hm, iv 99, rv ky, rv vl, iv 0, iv 1, rv tb, .val .null, iv 16, iv 3, .unset, .unset, .unset] [] st7 ?_
  have c8_E_m := c5_E_m.wr W7
  have c8_Ft := c5_Ft.other W7 (Or.inl (own_nea c5_E_m c5_V (ow hw 27 rfl)))
  have c8_Fz := c5_Fz.other W7 (Or.inl (own_nea c5_E_m c5_V (ow hw 27 rfl)))
  have c8_Fo := c5_Fo.other W7 (Or.inl (own_nea c5_E_m c5_V (ow hw 27 rfl)))
  have c8_Fh := c5_Fh.other W7 (Or.inl (own_nea c5_E_m c5_V (ow hw 27 rfl)))
  have c8_Fv := c5_Fv.other W7 (Or.inl (own_nea c5_E_m c5_V (ow hw 27 rfl)))
  have c8_En := En.wr W7
  have c8_Nv := Nv.other W7 (Or.inl (own_nea En c5_V (ow hw 124 rfl)))
  have c8_Nx := Nx.other W7 (Or.inl (own_nea En c5_V (ow hw 124 rfl)))
  have K7 := K4x.wr W7 (Or.inl (List.mem_of_getElem? (i := 1) rfl))
  refine s_goto 259 X7 hx (hb hby od246) (by decide) (by decide) ?_
  refine s_aloadN X7 hx (hb hby od247) rfl rfl  ?_
  refine s_dup X7 hx (hb hby od248) rfl ?_
  obtain ⟨T9, X9, e9, st9⟩ := getF X7 hx hZ hown (host := "") (Or.inl (ow hw 139 rfl)) Via.refl e7 c8_Fo (g := (mkF m 261 #[rv hm, iv 99, rv ky, rv vl, iv 0, iv 1, rv tb, .val .null, iv 16, iv 3, .unset, .unset, .unset] [.ref hm, .ref hm])) rfl rfl (hb hby od249)
  refine og T9 264 #[rv hm, iv 99, rv ky, rv vl, iv 0, iv 1, rv tb, .val .null, iv 16, iv 3, .unset, .unset, .unset] [.int 2, .ref hm] st9 ?_
  refine s_iconst 1 X9 hx (hb hby od250) rfl ?_
  refine og T9 266 #[rv hm, iv 99, rv ky, rv vl, iv 0, iv 1, rv tb, .val .null, iv 16, iv 3, .unset, .unset, .unset] [.int 3, .ref hm] (fun _ k => XS.iadd X9.here hx rfl (hb hby od251) rfl k) ?_
  obtain ⟨T10, h10, X10, e10, W10, st10⟩ := putF X9 hx hZ hown (host := "") (Or.inl (ow hw 139 rfl)) Via.refl e9 c8_Fo c8_E_m (Or.inl (ow hw 140 rfl)) (ow hw 27 rfl) (ty := .int) (by decide) rfl rfl (g := (mkF m 266 #[rv hm, iv 99, rv ky, rv vl, iv 0, iv 1, rv tb, .val .null, iv 16, iv 3, .unset, .unset, .unset] [.int 3, .ref hm])) rfl rfl (hb hby od252)
  have N10 := Fr.snoc X10 N7 g
  refine og T10 269 #[rv hm, iv 99, rv ky, rv vl, iv 0, iv 1, rv tb, .val .null, iv 16, iv 3, .unset, .unset, .unset] [] st10 ?_
  have n10_Fo := c8_Fo.same W10
  have c11_E_m := c8_E_m.wr W10
  have c11_Ft := c8_Ft.other W10 (Or.inr (os29 hw))
  have c11_Fz := c8_Fz.other W10 (Or.inr (os30 hw))
  have c11_Fh := c8_Fh.other W10 (Or.inr (os31 hw))
  have c11_Fv := c8_Fv.other W10 (Or.inr (os32 hw))
  have c11_En := c8_En.wr W10
  have c11_Nv := c8_Nv.other W10 (Or.inl (ne_exa c8_En c8_E_m (by decide)))
  have c11_Nx := c8_Nx.other W10 (Or.inl (ne_exa c8_En c8_E_m (by decide)))
  have c11_V := V7.other W10 (Ne.symm (own_nea c8_E_m V7 (ow hw 27 rfl)))
  have K10 := K7.wr W10 (Or.inl (List.mem_of_getElem? (i := 0) rfl))
  refine s_aloadN X10 hx (hb hby od253) rfl rfl  ?_
  refine s_dup X10 hx (hb hby od254) rfl ?_
  obtain ⟨T12, X12, e12, st12⟩ := getF X10 hx hZ hown (host := "") (Or.inl (ow hw 141 rfl)) Via.refl e10 c11_Fz (g := (mkF m 271 #[rv hm, iv 99, rv ky, rv vl, iv 0, iv 1, rv tb, .val .null, iv 16, iv 3, .unset, .unset, .unset] [.ref hm, .ref hm])) rfl rfl (hb hby od255)
  refine og T12 274 #[rv hm, iv 99, rv ky, rv vl, iv 0, iv 1, rv tb, .val .null, iv 16, iv 3, .unset, .unset, .unset] [.int 2, .ref hm] st12 ?_
  refine s_iconst 1 X12 hx (hb hby od256) rfl ?_
  refine og T12 276 #[rv hm, iv 99, rv ky, rv vl, iv 0, iv 1, rv tb, .val .null, iv 16, iv 3, .unset, .unset, .unset] [.int 3, .ref hm] (fun _ k => XS.iadd X12.here hx rfl (hb hby od257) rfl k) ?_
  refine og T12 277 #[rv hm, iv 99, rv ky, rv vl, iv 0, iv 1, rv tb, .val .null, iv 16, iv 3, .unset, .unset, .unset] [.int 3, .ref hm, .int 3] (fun _ k => XS.dupX1 X12.here hx rfl (hb hby od258) rfl rfl rfl k) ?_
  obtain ⟨T13, h13, X13, e13, W13, st13⟩ := putF X12 hx hZ hown (host := "") (Or.inl (ow hw 141 rfl)) Via.refl e12 c11_Fz c11_E_m (Or.inl (ow hw 142 rfl)) (ow hw 27 rfl) (ty := .int) (by decide) rfl rfl (g := (mkF m 277 #[rv hm, iv 99, rv ky, rv vl, iv 0, iv 1, rv tb, .val .null, iv 16, iv 3, .unset, .unset, .unset] [.int 3, .ref hm, .int 3])) rfl rfl (hb hby od259)
  have N13 := Fr.snoc X13 N10 g
  refine og T13 280 #[rv hm, iv 99, rv ky, rv vl, iv 0, iv 1, rv tb, .val .null, iv 16, iv 3, .unset, .unset, .unset] [.int 3] st13 ?_
  have n13_Fz := c11_Fz.same W13
  have c14_E_m := c11_E_m.wr W13
  have c14_Ft := c11_Ft.other W13 (Or.inr (os33 hw))
  have c14_Fh := c11_Fh.other W13 (Or.inr (os34 hw))
  have c14_Fv := c11_Fv.other W13 (Or.inr (os35 hw))
  have c14_En := c11_En.wr W13
  have c14_Nv := c11_Nv.other W13 (Or.inl (ne_exa c11_En c11_E_m (by decide)))
  have c14_Nx := c11_Nx.other W13 (Or.inl (ne_exa c11_En c11_E_m (by decide)))
  have c14_V := c11_V.other W13 (Ne.symm (own_nea c11_E_m c11_V (ow hw 27 rfl)))
  have c14_Fo := n10_Fo.other W13 (Or.inr (os36 hw))
  have K13 := K10.wr W13 (Or.inl (List.mem_of_getElem? (i := 0) rfl))
  refine s_aloadN X13 hx (hb hby od260) rfl rfl  ?_
  obtain ⟨T15, X15, e15, st15⟩ := getF X13 hx hZ hown (host := "") (Or.inl (ow hw 115 rfl)) Via.refl e13 c14_Fh (g := (mkF m 281 #[rv hm, iv 99, rv ky, rv vl, iv 0, iv 1, rv tb, .val .null, iv 16, iv 3, .unset, .unset, .unset] [.ref hm, .int 3])) rfl rfl (hb hby od261)
  refine og T15 284 #[rv hm, iv 99, rv ky, rv vl, iv 0, iv 1, rv tb, .val .null, iv 16, iv 3, .unset, .unset, .unset] [.int 12, .int 3] st15 ?_
  refine s_icmpY 292 X15 hx (hb hby od262) (flt (by decide)).2.2.2 (by decide) (by decide) ?_
  refine s_aloadN X15 hx (hb hby od263) rfl rfl  ?_
  refine s_iload X15 hx (hb hby od264) rfl  ?_
  obtain ⟨cq16, kq16, q16a, q16b, q16c⟩ := isOf hZ e15 (c14_E_m)
  obtain ⟨_, _, ⟨T16, L16, k16, n16⟩, -, X16, ⟨Lc16, hQ16, l16, y16, z16⟩, st16⟩ := X15.virtualBack hx hown (mvT hZ (ow hw 143 rfl)) (mvT hZ (ow hw 144 rfl)) (notFace_of_selects (args := #[]) (mvT hZ (ow hw 146 rfl))) (mvT hZ (ow hw 146 rfl)) (mvT hZ (ow hw 145 rfl)) (by decide) (backOf (W := 0) (own_ani l Z a0 hw hm h13 n0 (Nat.le_trans Z0 K13.1)) hZ (ow hw 147 rfl) (ow hw 28 rfl) (by decide) (by decide)) q16a q16c (g := (mkF m 295 #[rv hm, iv 99, rv ky, rv vl, iv 0, iv 1, rv tb, .val .null, iv 16, iv 3, .unset, .unset, .unset] [.int 1, .ref hm])) rfl (by rw [hml]; rfl) (Steps.refl _) (argsL := [.int 1]) (rest := []) (lenOf own_pd11 rfl) rfl (by show 2 * 0 + _ ≤ _; exact Nat.le_of_eq rfl) (hb hby od265) (fun _ _ => ⟨rfl, e15, (by decide : 1 + 0 ≤ _), (by decide : 4 + 0 ≤ _)⟩)
  dsimp only [Pt.U, Pt.locs, Pt.cells, Pt.slots] at X16 l16 y16 z16 st16 hQ16
  subst y16 z16
  obtain ⟨rfl, N16q, hh16⟩ := hQ16
  have N16 := frE l16 N13 N16q
  refine ov T16 298 #[rv hm, iv 99, rv ky, rv vl, iv 0, iv 1, rv tb, .val .null, iv 16, iv 3, .unset, .unset, .unset] [] st16 ?_
  refine s_anull X16 hx (hb hby od266) ?_
  refine own_retA X16 hx hlk hret rfl rfl (hb hby od267) ?_ (by decide) (by decide)
  rw [hh16]
  exact ⟨rfl, N16, K13, _, ⟨c14_E_m, c14_Ft, n13_Fz, c14_Fo, c14_Fh, c14_Fv⟩, c14_V, ⟨c14_En, c14_Nv, c14_Nx⟩, snd⟩
set_option maxRecDepth 65536 in
set_option maxHeartbeats 40000000 in
theorem own_put3 (l : Launch) (Z : State) (a0 : Array Value) (hw : ∀ d ∈ tables_1, d.before a0 Z = true) (hm : Addr) (ky : Addr) (vl : Addr) (tb : Addr) (k : ClassId) (n1 n2 : Addr) (ar : Addr) (kb : ClassId) (cs : Int32) (h0 : Heap) (n0 : Nat) (Z0 : n0 ≤ h0.size) (E_m : Exa Z h0 hm "java/util/HashMap") (Ft : Fld Z h0 hm "java/util/HashMap" "table" "[Ljava/util/HashMap$Node;" (.ref tb)) (Fz : Fld Z h0 hm "java/util/HashMap" "size" "I" (.int 2)) (Fo : Fld Z h0 hm "java/util/HashMap" "modCount" "I" (.int 2)) (Fh : Fld Z h0 hm "java/util/HashMap" "threshold" "I" (.int 12)) (Fv : Fld Z h0 hm "java/util/AbstractMap" "values" "Ljava/util/Collection;" .null) (V : Arv Z h0 tb k (.object "java/util/HashMap$Node") 16 [.null, .ref n1, .ref n2, .null, .null, .null, .null, .null, .null, .null, .null, .null, .null, .null, .null, .null] .null) (E_k : Exa Z h0 ky "java/lang/String") (SF1 : Fld Z h0 ky "java/lang/String" "value" "[B" (.ref ar)) (SF2 : Fld Z h0 ky "java/lang/String" "coder" "B" (.int 0)) (SF3 : Fld Z h0 ky "java/lang/String" "hash" "I" (.int 0)) (SF4 : Fld Z h0 ky "java/lang/String" "hashIsZero" "Z" (.int 0)) (VB : Arv Z h0 ar kb .byte 1 [.int 99] (.int 0)) (SC : Sta Z h0 "java/lang/String" "COMPACT_STRINGS" "Z" (.int cs)) (Ov : Ovr Z k "java/util/HashMap$Node") (gt : n0 ≤ tb) (g : n0 ≤ hm) (hcs : ¬ cs = (0 : Int32)) (gk : n0 ≤ ky) :
    own_C l Z (⟨"java/util/HashMap", "put", "(Ljava/lang/Object;Ljava/lang/Object;)Ljava/lang/Object;"⟩ : MethodName) jdk_69_method_15_code 3 (some (.object "java/lang/Object")) [] ({ frames := 4, cells := 1, slots := 4, locals := 73 } : Room) #[.ref hm, .ref ky, .ref vl] h0 (own_Qp3 Z [ky, hm, tb] hm tb k n1 n2 vl .null h0 n0) := by
  refine MetFree.of_bodySF (plainFor_of_name own_pn4) hisR ?_
  intro p e s m args below meth c s₁ Bd hml hP hK
  obtain ⟨rfl, hZ, hh⟩ := hP
  obtain ⟨hx, hby, hlk, hret, hown, hnm, X0, e0⟩ := own_hd Bd hh
  have N0 := Fr.nil n0
  refine own_open (own_ef9 m hm ky vl) ?_
  refine s_aloadN X0 hx (hb hby od268) rfl rfl  ?_
  refine s_aloadN X0 hx (hb hby od269) rfl rfl  ?_
  obtain ⟨_, _, ⟨T1, L1, k1, n1⟩, -, X1, ⟨Lc1, hQ1, l1, y1, z1⟩, st1⟩ := Jvm.LawKit.callS X0 hx hown (mvT hZ (ow hw 82 rfl)) (mvT hZ (ow hw 83 rfl)) (mvT hZ (ow hw 28 rfl)) (mvT hZ (ow hw 84 rfl)) (by decide) (backOf (W := 1) (own_hash99 l Z a0 hw ky ar kb cs h0 n0 Z0 E_k SF1 SF2 SF3 SF4 VB SC hcs gk) hZ (ow hw 84 rfl) (ow hw 28 rfl) (by decide) (by decide)) (g := (mkF m 2 #[rv hm, rv ky, rv vl] [.ref ky, .ref hm])) rfl (by rw [hml]; rfl) (argsL := [.ref ky]) (rest := [.ref hm]) (lenOf own_pd12 rfl) rfl (by show 2 * 0 + _ ≤ _; exact Nat.le_of_eq rfl) (hb hby od270) (fun _ _ => ⟨rfl, e0, (by decide : 0 + 0 ≤ _), (by decide : 0 + 0 ≤ _)⟩)
  dsimp only [Pt.U, Pt.locs, Pt.cells, Pt.slots] at X1 l1 y1 z1 st1 hQ1
  subst y1 z1
  obtain ⟨rfl, N1q, Kc1⟩ := hQ1
  have N1 := frE l1 N0 N1q
  refine og T1 5 #[rv hm, rv ky, rv vl] [.int 99, .ref hm] st1 ?_
  have c2_E_m := E_m.keep Kc1
  have c2_Ft := Ft.keep Kc1 (ninS (ne_exa E_m E_k (by decide)) nin0)
  have c2_Fz := Fz.keep Kc1 (ninS (ne_exa E_m E_k (by decide)) nin0)
  have c2_Fo := Fo.keep Kc1 (ninS (ne_exa E_m E_k (by decide)) nin0)
  have c2_Fh := Fh.keep Kc1 (ninS (ne_exa E_m E_k (by decide)) nin0)
  have c2_Fv := Fv.keep Kc1 (ninS (ne_exa E_m E_k (by decide)) nin0)
  have c2_V := V.keep Kc1 (ninS (Ne.symm (own_nea E_k V (ow hw 52 rfl))) nin0)
  have c2_E_k := E_k.keep Kc1
  have K1x := (Keep.refl h0 [ky, hm, tb]).trans Kc1 (allS (Or.inl (List.mem_of_getElem? (i := 0) rfl)) all0)
  refine s_aloadN X1 hx (hb hby od271) rfl rfl  ?_
  refine s_aloadN X1 hx (hb hby od272) rfl rfl  ?_
  refine s_iconst 0 X1 hx (hb hby od273) rfl ?_
  refine s_iconst 1 X1 hx (hb hby od274) rfl ?_
  obtain ⟨cq3, kq3, q3a, q3b, q3c⟩ := isOf hZ rfl (c2_E_m)
  obtain ⟨_, _, ⟨T3, L3, k3, n3⟩, -, X3, ⟨Lc3, hQ3, l3, y3, z3⟩, st3⟩ := X1.virtualBack hx hown (mvT hZ (ow hw 103 rfl)) (mvT hZ (ow hw 104 rfl)) (notFace_of_selects (args := #[]) (mvT hZ (ow hw 106 rfl))) (mvT hZ (ow hw 106 rfl)) (mvT hZ (ow hw 105 rfl)) (by decide) (backOf (W := 0) (own_pv3 l Z a0 hw hm ky vl tb k n1 n2 T1.heap n0 (Nat.le_trans Z0 K1x.1) c2_E_m c2_Ft c2_Fz c2_Fo c2_Fh c2_Fv c2_V Ov gt g) hZ (ow hw 107 rfl) (ow hw 28 rfl) (by decide) (by decide)) q3a q3c (g := (mkF m 9 #[rv hm, rv ky, rv vl] [.int 1, .int 0, .ref vl, .ref ky, .int 99, .ref hm])) rfl (by rw [hml]; rfl) (Steps.refl _) (argsL := [.int 99, .ref ky, .ref vl, .int 0, .int 1]) (rest := []) (lenOf own_pd13 rfl) rfl (by show 2 * 0 + _ ≤ _; exact Nat.le_of_eq rfl) (hb hby od275) (fun _ _ => ⟨rfl, rfl, (by decide : 0 + 1 ≤ _), (by decide : 0 + 4 ≤ _)⟩)
  dsimp only [Pt.U, Pt.locs, Pt.cells, Pt.slots] at X3 l3 y3 z3 st3 hQ3
  subst y3 z3
  obtain ⟨rfl, N3q, Kc3, nd, H3c, V3c, N3c, sn3c⟩ := hQ3
  have N3 := frE l3 N1 N3q
  refine ov T3 12 #[rv hm, rv ky, rv vl] [.null] st3 ?_
  have K3x := K1x.trans Kc3 (allS (Or.inl (List.mem_of_getElem? (i := 1) rfl)) (allS (Or.inl (List.mem_of_getElem? (i := 2) rfl)) all0))
  refine own_retA X3 hx hlk hret rfl rfl (hb hby od276) ?_ (by decide) (by decide)
  exact ⟨rfl, N3, K3x, _, H3c, V3c, N3c, Nat.le_trans K1x.1 sn3c⟩
set_option maxRecDepth 65536 in
set_option maxHeartbeats 40000000 in
theorem own_vsi (l : Launch) (Z : State) (a0 : Array Value) (hw : ∀ d ∈ tables_1, d.before a0 Z = true) (x : Addr) (hm : Addr)  (h0 : Heap) (n0 : Nat) (Z0 : n0 ≤ h0.size) (E_x : Exa Z h0 x "java/util/HashMap$Values") (F1 : Fld Z h0 x "java/util/HashMap$Values" "this$0" "Ljava/util/HashMap;" .null) (g : n0 ≤ x) :
    own_C l Z (⟨"java/util/HashMap$Values", "<init>", "(Ljava/util/HashMap;)V"⟩ : MethodName) jdk_2571_method_1_code 2 none [] ({ frames := 2, cells := 0, slots := 0, locals := 24 } : Room) #[.ref x, .ref hm] h0 (own_Qk Z x hm h0 n0) := by
  refine MetFree.of_bodySF (plainFor_of_name own_pn10) hisR ?_
  intro p e s m args below meth c s₁ Bd hml hP hK
  obtain ⟨rfl, hZ, hh⟩ := hP
  obtain ⟨hx, hby, hlk, hret, hown, hnm, X0, e0⟩ := own_hd Bd hh
  have N0 := Fr.nil n0
  refine own_open (own_ef10 m x hm) ?_
  refine s_aloadN X0 hx (hb hby od282) rfl rfl  ?_
  refine s_aloadN X0 hx (hb hby od283) rfl rfl  ?_
  obtain ⟨T1, h1, X1, e1, W1, st1⟩ := putF X0 hx hZ hown (host := "") (Or.inl (ow hw 192 rfl)) Via.refl e0 F1 E_x (Or.inr ⟨(ow hw 193 rfl), rfl, hnm⟩) (ow hw 186 rfl) (ty := (.object "java/util/HashMap")) (by decide) rfl rfl (g := (mkF m 2 #[rv x, rv hm] [.ref hm, .ref x])) rfl rfl (hb hby od284)
  have N1 := Fr.snoc X1 N0 g
  refine og T1 5 #[rv x, rv hm] [] st1 ?_
  have n1_F1 := F1.same W1
  have c2_E_x := E_x.wr W1
  have K1 := (Keep.refl h0 [x]).wr W1 (Or.inl (List.mem_of_getElem? (i := 0) rfl))
  refine s_aloadN X1 hx (hb hby od285) rfl rfl  ?_
  obtain ⟨_, _, ⟨T3, L3, k3, n3⟩, -, X3, ⟨Lc3, hQ3, l3, y3, z3⟩, st3⟩ := X1.specialBack hx (y := (⟨"java/util/AbstractCollection", "<init>", "()V"⟩ : MethodName)) rfl hown (mvT hZ (ow hw 194 rfl)) (mvT hZ (ow hw 13 rfl)) (mvT hZ (ow hw 17 rfl)) (by decide) (backOf (W := 0) (own_aci l Z a0 hw x h1 n0 (Nat.le_trans Z0 K1.1)) hZ (ow hw 17 rfl) (ow hw 16 rfl) (by decide) (by decide)) (g := (mkF m 6 #[rv x, rv hm] [.ref x])) rfl (by rw [hml]; rfl) (Steps.refl _) (a := x) (argsL := []) (rest := []) (lenOf own_pd0 rfl) rfl (by show 2 * 0 + _ ≤ _; exact Nat.le_of_eq rfl) (hb hby od286) (fun _ _ => ⟨rfl, e1, (by decide : 0 + 0 ≤ _), (by decide : 0 + 0 ≤ _)⟩)
  dsimp only [Pt.U, Pt.locs, Pt.cells, Pt.slots] at X3 l3 y3 z3 st3 hQ3
  subst y3 z3
  obtain ⟨rfl, N3q, hh3⟩ := hQ3
  have N3 := frE l3 N1 N3q
  refine ov T3 9 #[rv x, rv hm] [] st3 ?_
  refine own_retV X3 hx hlk hret (hb hby od287) ?_ (by decide) (by decide)
  rw [hh3]
  exact ⟨rfl, N3, K1, c2_E_x, n1_F1⟩
set_option maxRecDepth 65536 in
set_option maxHeartbeats 40000000 in
theorem own_val1 (l : Launch) (Z : State) (a0 : Array Value) (hw : ∀ d ∈ tables_1, d.before a0 Z = true) (hm : Addr) (tb : Addr) (h0 : Heap) (n0 : Nat) (Z0 : n0 ≤ h0.size) (E_m : Exa Z h0 hm "java/util/HashMap") (Ft : Fld Z h0 hm "java/util/HashMap" "table" "[Ljava/util/HashMap$Node;" (.ref tb)) (Fz : Fld Z h0 hm "java/util/HashMap" "size" "I" (.int 3)) (Fo : Fld Z h0 hm "java/util/HashMap" "modCount" "I" (.int 3)) (Fh : Fld Z h0 hm "java/util/HashMap" "threshold" "I" (.int 12)) (Fv : Fld Z h0 hm "java/util/AbstractMap" "values" "Ljava/util/Collection;" .null) (g : n0 ≤ hm) :
    own_C l Z (⟨"java/util/HashMap", "values", "()Ljava/util/Collection;"⟩ : MethodName) jdk_69_method_28_code 2 (some (.object "java/util/Collection")) [] ({ frames := 3, cells := 1, slots := 1, locals := 38 } : Room) #[.ref hm] h0 (own_Qv Z hm tb h0 n0) := by
  refine MetFree.of_bodySF (plainFor_of_name own_pn4) hisR ?_
  intro p e s m args below meth c s₁ Bd hml hP hK
  obtain ⟨rfl, hZ, hh⟩ := hP
  obtain ⟨hx, hby, hlk, hret, hown, hnm, X0, e0⟩ := own_hd Bd hh
  have N0 := Fr.nil n0
  refine own_open (own_ef4 m hm) ?_
  refine s_aloadN X0 hx (hb hby od288) rfl rfl  ?_
  obtain ⟨T1, X1, e1, st1⟩ := getF X0 hx hZ hown (host := "") (Or.inl (ow hw 182 rfl)) (Via.of (ow hw 183 rfl)) e0 Fv (g := (mkF m 1 #[rv hm, .unset] [.ref hm])) rfl rfl (hb hby od289)
  refine og T1 4 #[rv hm, .unset] [.null] st1 ?_
  refine og T1 5 #[rv hm, .val .null] [] (fun _ k => XS.astoreN X1.here hx rfl (hb hby od290) rfl rfl (l' := #[rv hm, .val .null]) rfl k) ?_
  refine s_aloadN X1 hx (hb hby od291) rfl rfl  ?_
  refine og T1 9 #[rv hm, .val .null] [] (fun _ k => XS.ifnonnullNo X1.here hx rfl (hb hby od292) rfl k) ?_
  obtain ⟨T2, h2, X2, e2, E2, A2, D2, -, st2⟩ := newO X1 hx hZ hown (ow hw 185 rfl) (ow hw 186 rfl) (ow hw 187 rfl) e1 (g := (mkF m 9 #[rv hm, .val .null] [])) rfl (hb hby od293) (by decide) (by decide)
  obtain ⟨x, g2⟩ : ∃ z, z = h0.size := ⟨_, rfl⟩
  rw [← g2] at A2 D2 st2
  refine og T2 12 #[rv hm, .val .null] [.ref x] st2 ?_
  have sz_x : h0.size ≤ x := Nat.le_trans (Keep.refl h0 [hm]).1 (Nat.le_of_eq g2.symm)
  have gn_x : n0 ≤ x := Nat.le_trans Z0 sz_x
  have ne_hm_x : hm ≠ x := Nat.ne_of_lt (Nat.lt_of_lt_of_le E_m.lt (Nat.le_of_eq g2.symm))
  have c3_E_m := E_m.ext E2
  have c3_Ft := Ft.ext E2
  have c3_Fz := Fz.ext E2
  have c3_Fo := Fo.ext E2
  have c3_Fh := Fh.ext E2
  have c3_Fv := Fv.ext E2
  have K2 := (Keep.refl h0 [hm]).ext E2
  refine s_dup X2 hx (hb hby od294) rfl ?_
  refine s_aloadN X2 hx (hb hby od295) rfl rfl  ?_
  obtain ⟨_, _, ⟨T4, L4, k4, n4⟩, -, X4, ⟨Lc4, hQ4, l4, y4, z4⟩, st4⟩ := X2.specialBack hx (y := (⟨"java/util/HashMap$Values", "<init>", "(Ljava/util/HashMap;)V"⟩ : MethodName)) rfl hown (mvT hZ (ow hw 188 rfl)) (mvT hZ (ow hw 189 rfl)) (mvT hZ (ow hw 191 rfl)) (by decide) (backOf (W := 1) (own_vsi l Z a0 hw x hm h2 n0 (Nat.le_trans Z0 K2.1) A2 (D2 (Or.inr (ow hw 193 rfl)) (ty := (.object "java/util/HashMap")) (by decide)) gn_x) hZ (ow hw 191 rfl) (ow hw 187 rfl) (by decide) (by decide)) (g := (mkF m 14 #[rv hm, .val .null] [.ref hm, .ref x, .ref x])) rfl (by rw [hml]; rfl) (Steps.refl _) (a := x) (argsL := [.ref hm]) (rest := [.ref x]) (lenOf own_pd14 rfl) rfl (by show 2 * 0 + _ ≤ _; exact Nat.le_of_eq rfl) (hb hby od296) (fun _ _ => ⟨rfl, e2, (by decide : 1 + 0 ≤ _), (by decide : 1 + 0 ≤ _)⟩)
  dsimp only [Pt.U, Pt.locs, Pt.cells, Pt.slots] at X4 l4 y4 z4 st4 hQ4
  subst y4 z4
  obtain ⟨rfl, N4q, Kc4, E4c, F4c⟩ := hQ4
  have N4 := frE l4 N0 N4q
  refine ov T4 17 #[rv hm, .val .null] [.ref x] st4 ?_
  have c5_E_m := c3_E_m.keep Kc4
  have c5_Ft := c3_Ft.keep Kc4 (ninS ne_hm_x nin0)
  have c5_Fz := c3_Fz.keep Kc4 (ninS ne_hm_x nin0)
  have c5_Fo := c3_Fo.keep Kc4 (ninS ne_hm_x nin0)
  have c5_Fh := c3_Fh.keep Kc4 (ninS ne_hm_x nin0)
  have c5_Fv := c3_Fv.keep Kc4 (ninS ne_hm_x nin0)
  have K4x := K2.trans Kc4 (allS (Or.inr sz_x) all0)
  refine og T4 18 #[rv hm, rv x] [] (fun _ k => XS.astoreN X4.here hx rfl (hb hby od297) rfl rfl (l' := #[rv hm, rv x]) rfl k) ?_
  refine s_aloadN X4 hx (hb hby od298) rfl rfl  ?_
  refine s_aloadN X4 hx (hb hby od299) rfl rfl  ?_
  obtain ⟨T6, h6, X6, e6, W6, st6⟩ := putF X4 hx hZ hown (host := "") (Or.inl (ow hw 182 rfl)) (Via.of (ow hw 183 rfl)) rfl c5_Fv c5_E_m (Or.inl (ow hw 184 rfl)) (ow hw 27 rfl) (ty := (.object "java/util/Collection")) (by decide) rfl rfl (g := (mkF m 20 #[rv hm, rv x] [.ref x, .ref hm])) rfl rfl (hb hby od300)
  have N6 := Fr.snoc X6 N4 g
  refine og T6 23 #[rv hm, rv x] [] st6 ?_
  have n6_Fv := c5_Fv.same W6
  have c7_E_m := c5_E_m.wr W6
  have c7_Ft := c5_Ft.other W6 (Or.inr (os37 hw))
  have c7_Fz := c5_Fz.other W6 (Or.inr (os38 hw))
  have c7_Fo := c5_Fo.other W6 (Or.inr (os39 hw))
  have c7_Fh := c5_Fh.other W6 (Or.inr (os40 hw))
  have c7_E_x := E4c.wr W6
  have c7_F1 := F4c.other W6 (Or.inl (Ne.symm ne_hm_x))
  have K6 := K4x.wr W6 (Or.inl (List.mem_of_getElem? (i := 0) rfl))
  refine s_aloadN X6 hx (hb hby od301) rfl rfl  ?_
  refine own_retA X6 hx hlk hret rfl rfl (hb hby od302) ?_ (by decide) (by decide)
  rw [e6]
  exact ⟨_, rfl, N6, K6, ⟨c7_E_m, c7_Ft, c7_Fz, c7_Fo, c7_Fh, n6_Fv⟩, c7_E_x, c7_F1, sz_x⟩
set_option maxRecDepth 65536 in
set_option maxHeartbeats 40000000 in
theorem own_val2 (l : Launch) (Z : State) (a0 : Array Value) (hw : ∀ d ∈ tables_1, d.before a0 Z = true) (hm : Addr) (x : Addr) (h0 : Heap) (n0 : Nat) (Z0 : n0 ≤ h0.size) (Fv : Fld Z h0 hm "java/util/AbstractMap" "values" "Ljava/util/Collection;" (.ref x)) :
    own_C l Z (⟨"java/util/HashMap", "values", "()Ljava/util/Collection;"⟩ : MethodName) jdk_69_method_28_code 2 (some (.object "java/util/Collection")) [] ({ frames := 0, cells := 0, slots := 0, locals := 0 } : Room) #[.ref hm] h0 (own_Qr x h0 n0) := by
  refine MetFree.of_bodySF (plainFor_of_name own_pn4) hisR ?_
  intro p e s m args below meth c s₁ Bd hml hP hK
  obtain ⟨rfl, hZ, hh⟩ := hP
  obtain ⟨hx, hby, hlk, hret, hown, hnm, X0, e0⟩ := own_hd Bd hh
  have N0 := Fr.nil n0
  refine own_open (own_ef4 m hm) ?_
  refine s_aloadN X0 hx (hb hby od288) rfl rfl  ?_
  obtain ⟨T1, X1, e1, st1⟩ := getF X0 hx hZ hown (host := "") (Or.inl (ow hw 182 rfl)) (Via.of (ow hw 183 rfl)) e0 Fv (g := (mkF m 1 #[rv hm, .unset] [.ref hm])) rfl rfl (hb hby od289)
  refine og T1 4 #[rv hm, .unset] [.ref x] st1 ?_
  refine og T1 5 #[rv hm, rv x] [] (fun _ k => XS.astoreN X1.here hx rfl (hb hby od290) rfl rfl (l' := #[rv hm, rv x]) rfl k) ?_
  refine s_aloadN X1 hx (hb hby od291) rfl rfl  ?_
  refine og T1 23 #[rv hm, rv x] [] (fun _ k => XS.ifnonnullYes X1.here hx rfl (pc0 := 6) (pc' := 23) rfl (hb hby od292) rfl (by decide) (by decide) k) ?_
  refine s_aloadN X1 hx (hb hby od301) rfl rfl  ?_
  refine own_retA X1 hx hlk hret rfl rfl (hb hby od302) ?_ (by decide) (by decide)
  rw [e1]
  exact ⟨rfl, N0, rfl⟩
set_option maxRecDepth 65536 in
set_option maxHeartbeats 40000000 in
theorem own_hii (l : Launch) (Z : State) (a0 : Array Value) (hw : ∀ d ∈ tables_1, d.before a0 Z = true) (it : Addr) (hm : Addr) (tb : Addr) (k : ClassId) (n1 n2 n3 : Addr) (h0 : Heap) (n0 : Nat) (Z0 : n0 ≤ h0.size) (E_i : Exa Z h0 it "java/util/HashMap$ValueIterator") (I0 : Fld Z h0 it "java/util/HashMap$HashIterator" "this$0" "Ljava/util/HashMap;" .null) (I1 : Fld Z h0 it "java/util/HashMap$HashIterator" "expectedModCount" "I" (.int 0)) (I2 : Fld Z h0 it "java/util/HashMap$HashIterator" "next" "Ljava/util/HashMap$Node;" .null) (I3 : Fld Z h0 it "java/util/HashMap$HashIterator" "current" "Ljava/util/HashMap$Node;" .null) (I4 : Fld Z h0 it "java/util/HashMap$HashIterator" "index" "I" (.int 0)) (Ft : Fld Z h0 hm "java/util/HashMap" "table" "[Ljava/util/HashMap$Node;" (.ref tb)) (Fz : Fld Z h0 hm "java/util/HashMap" "size" "I" (.int 3)) (Fo : Fld Z h0 hm "java/util/HashMap" "modCount" "I" (.int 3)) (E_m : Exa Z h0 hm "java/util/HashMap") (V : Arv Z h0 tb k (.object "java/util/HashMap$Node") 16 [.null, .ref n1, .ref n2, .ref n3, .null, .null, .null, .null, .null, .null, .null, .null, .null, .null, .null, .null] .null) (g : n0 ≤ it) :
    own_C l Z (⟨"java/util/HashMap$HashIterator", "<init>", "(Ljava/util/HashMap;)V"⟩ : MethodName) jdk_99_method_1_code 3 none [] ({ frames := 1, cells := 0, slots := 0, locals := 12 } : Room) #[.ref it, .ref hm] h0 (own_Ql Z it hm n1 h0 n0) := by
  refine MetFree.of_bodySF (plainFor_of_name own_pn11) hisR ?_
  intro p e s m args below meth c s₁ Bd hml hP hK
  obtain ⟨rfl, hZ, hh⟩ := hP
  obtain ⟨hx, hby, hlk, hret, hown, hnm, X0, e0⟩ := own_hd Bd hh
  have N0 := Fr.nil n0
  refine own_open (own_ef11 m it hm) ?_
  refine s_aloadN X0 hx (hb hby od303) rfl rfl  ?_
  refine s_aloadN X0 hx (hb hby od304) rfl rfl  ?_
  obtain ⟨T1, h1, X1, e1, W1, st1⟩ := putF X0 hx hZ hown (host := "") (Or.inl (ow hw 218 rfl)) Via.refl e0 I0 E_i (Or.inr ⟨(ow hw 219 rfl), rfl, hnm⟩) (ow hw 206 rfl) (ty := (.object "java/util/HashMap")) (by decide) rfl rfl (g := (mkF m 2 #[rv it, rv hm, .unset] [.ref hm, .ref it])) rfl rfl (hb hby od305)
  have N1 := Fr.snoc X1 N0 g
  refine og T1 5 #[rv it, rv hm, .unset] [] st1 ?_
  have n1_I0 := I0.same W1
  have c2_E_i := E_i.wr W1
  have c2_I1 := I1.other W1 (Or.inr (os41 hw))
  have c2_I2 := I2.other W1 (Or.inr (os42 hw))
  have c2_I3 := I3.other W1 (Or.inr (os43 hw))
  have c2_I4 := I4.other W1 (Or.inr (os44 hw))
  have c2_Ft := Ft.other W1 (Or.inl (ne_exa E_m E_i (by decide)))
  have c2_Fz := Fz.other W1 (Or.inl (ne_exa E_m E_i (by decide)))
  have c2_Fo := Fo.other W1 (Or.inl (ne_exa E_m E_i (by decide)))
  have c2_E_m := E_m.wr W1
  have c2_V := V.other W1 (Ne.symm (own_nea E_i V (ow hw 206 rfl)))
  have K1 := (Keep.refl h0 [it]).wr W1 (Or.inl (List.mem_of_getElem? (i := 0) rfl))
  refine s_aloadN X1 hx (hb hby od306) rfl rfl  ?_
  obtain ⟨T3, X3, e3, st3⟩ := initO X1 hx hZ hown (ow hw 220 rfl) (ow hw 19 rfl) (ow hw 20 rfl) e1 (g := (mkF m 6 #[rv it, rv hm, .unset] [.ref it])) rfl (by rw [hml]; rfl) rfl (hb hby od307) (by decide) (W := 0) (by show 2 * 0 + _ ≤ _; exact Nat.le_of_eq rfl) (by decide)
  refine og T3 9 #[rv it, rv hm, .unset] [] st3 ?_
  refine s_aloadN X3 hx (hb hby od308) rfl rfl  ?_
  refine s_aloadN X3 hx (hb hby od309) rfl rfl  ?_
  obtain ⟨T4, X4, e4, st4⟩ := getF X3 hx hZ hown (host := "") (Or.inl (ow hw 221 rfl)) Via.refl e3 c2_Fo (g := (mkF m 11 #[rv it, rv hm, .unset] [.ref hm, .ref it])) rfl rfl (hb hby od310)
  refine og T4 14 #[rv it, rv hm, .unset] [.int 3, .ref it] st4 ?_
  obtain ⟨T5, h5, X5, e5, W5, st5⟩ := putF X4 hx hZ hown (host := "") (Or.inl (ow hw 222 rfl)) Via.refl e4 c2_I1 c2_E_i (Or.inl (ow hw 223 rfl)) (ow hw 206 rfl) (ty := .int) (by decide) rfl rfl (g := (mkF m 14 #[rv it, rv hm, .unset] [.int 3, .ref it])) rfl rfl (hb hby od311)
  have N5 := Fr.snoc X5 N1 g
  refine og T5 17 #[rv it, rv hm, .unset] [] st5 ?_
  have n5_I1 := c2_I1.same W5
  have c6_E_i := c2_E_i.wr W5
  have c6_I2 := c2_I2.other W5 (Or.inr (os45 hw))
  have c6_I3 := c2_I3.other W5 (Or.inr (os46 hw))
  have c6_I4 := c2_I4.other W5 (Or.inr (os47 hw))
  have c6_Ft := c2_Ft.other W5 (Or.inl (ne_exa c2_E_m c2_E_i (by decide)))
  have c6_Fz := c2_Fz.other W5 (Or.inl (ne_exa c2_E_m c2_E_i (by decide)))
  have c6_Fo := c2_Fo.other W5 (Or.inl (ne_exa c2_E_m c2_E_i (by decide)))
  have c6_E_m := c2_E_m.wr W5
  have c6_V := c2_V.other W5 (Ne.symm (own_nea c2_E_i c2_V (ow hw 206 rfl)))
  have c6_I0 := n1_I0.other W5 (Or.inr (os48 hw))
  have K5 := K1.wr W5 (Or.inl (List.mem_of_getElem? (i := 0) rfl))
  refine s_aloadN X5 hx (hb hby od312) rfl rfl  ?_
  obtain ⟨T7, X7, e7, st7⟩ := getF X5 hx hZ hown (host := "") (Or.inl (ow hw 224 rfl)) Via.refl e5 c6_Ft (g := (mkF m 18 #[rv it, rv hm, .unset] [.ref hm])) rfl rfl (hb hby od313)
  refine og T7 21 #[rv it, rv hm, .unset] [.ref tb] st7 ?_
  refine og T7 22 #[rv it, rv hm, rv tb] [] (fun _ k => XS.astoreN X7.here hx rfl (hb hby od314) rfl rfl (l' := #[rv it, rv hm, rv tb]) rfl k) ?_
  refine s_aloadN X7 hx (hb hby od315) rfl rfl  ?_
  refine s_aloadN X7 hx (hb hby od316) rfl rfl  ?_
  refine s_anull X7 hx (hb hby od317) ?_
  refine og T7 26 #[rv it, rv hm, rv tb] [.null, .ref it, .null, .ref it] (fun _ k => XS.dupX1 X7.here hx rfl (hb hby od318) rfl rfl rfl k) ?_
  obtain ⟨T8, h8, X8, e8, W8, st8⟩ := putF X7 hx hZ hown (host := "") (Or.inl (ow hw 225 rfl)) Via.refl e7 c6_I2 c6_E_i (Or.inl (ow hw 226 rfl)) (ow hw 206 rfl) (ty := (.object "java/util/HashMap$Node")) (by decide) rfl rfl (g := (mkF m 26 #[rv it, rv hm, rv tb] [.null, .ref it, .null, .ref it])) rfl rfl (hb hby od319)
  have N8 := Fr.snoc X8 N5 g
  refine og T8 29 #[rv it, rv hm, rv tb] [.null, .ref it] st8 ?_
  have n8_I2 := c6_I2.same W8
  have c9_E_i := c6_E_i.wr W8
  have c9_I3 := c6_I3.other W8 (Or.inr (os49 hw))
  have c9_I4 := c6_I4.other W8 (Or.inr (os50 hw))
  have c9_Fz := c6_Fz.other W8 (Or.inl (ne_exa c6_E_m c6_E_i (by decide)))
  have c9_E_m := c6_E_m.wr W8
  have c9_V := c6_V.other W8 (Ne.symm (own_nea c6_E_i c6_V (ow hw 206 rfl)))
  have c9_I0 := c6_I0.other W8 (Or.inr (os51 hw))
  have c9_I1 := n5_I1.other W8 (Or.inr (os52 hw))
  have K8 := K5.wr W8 (Or.inl (List.mem_of_getElem? (i := 0) rfl))
  obtain ⟨T10, h10, X10, e10, W10, st10⟩ := putF X8 hx hZ hown (host := "") (Or.inl (ow hw 227 rfl)) Via.refl e8 c9_I3 c9_E_i (Or.inl (ow hw 228 rfl)) (ow hw 206 rfl) (ty := (.object "java/util/HashMap$Node")) (by decide) rfl rfl (g := (mkF m 29 #[rv it, rv hm, rv tb] [.null, .ref it])) rfl rfl (hb hby od320)
  have N10 := Fr.snoc X10 N8 g
  refine og T10 32 #[rv it, rv hm, rv tb] [] st10 ?_
  have n10_I3 := c9_I3.same W10
  have c11_E_i := c9_E_i.wr W10
  have c11_I4 := c9_I4.other W10 (Or.inr (os53 hw))
  have c11_Fz := c9_Fz.other W10 (Or.inl (ne_exa c9_E_m c9_E_i (by decide)))
  have c11_E_m := c9_E_m.wr W10
  have c11_V := c9_V.other W10 (Ne.symm (own_nea c9_E_i c9_V (ow hw 206 rfl)))
  have c11_I0 := c9_I0.other W10 (Or.inr (os54 hw))
  have c11_I1 := c9_I1.other W10 (Or.inr (os55 hw))
  have c11_I2 := n8_I2.other W10 (Or.inr (os56 hw))
  have K10 := K8.wr W10 (Or.inl (List.mem_of_getElem? (i := 0) rfl))
  refine s_aloadN X10 hx (hb hby od321) rfl rfl  ?_
  refine s_iconst 0 X10 hx (hb hby od322) rfl ?_
  obtain ⟨T12, h12, X12, e12, W12, st12⟩ := putF X10 hx hZ hown (host := "") (Or.inl (ow hw 229 rfl)) Via.refl e10 c11_I4 c11_E_i (Or.inl (ow hw 230 rfl)) (ow hw 206 rfl) (ty := .int) (by decide) rfl rfl (g := (mkF m 34 #[rv it, rv hm, rv tb] [.int 0, .ref it])) rfl rfl (hb hby od323)
  have N12 := Fr.snoc X12 N10 g
  refine og T12 37 #[rv it, rv hm, rv tb] [] st12 ?_
  have n12_I4 := c11_I4.same W12
  have c13_E_i := c11_E_i.wr W12
  have c13_Fz := c11_Fz.other W12 (Or.inl (ne_exa c11_E_m c11_E_i (by decide)))
  have c13_E_m := c11_E_m.wr W12
  have c13_V := c11_V.other W12 (Ne.symm (own_nea c11_E_i c11_V (ow hw 206 rfl)))
  have c13_I0 := c11_I0.other W12 (Or.inr (os57 hw))
  have c13_I1 := c11_I1.other W12 (Or.inr (os58 hw))
  have c13_I2 := c11_I2.other W12 (Or.inr (os59 hw))
  have c13_I3 := n10_I3.other W12 (Or.inr (os60 hw))
  have K12 := K10.wr W12 (Or.inl (List.mem_of_getElem? (i := 0) rfl))
  refine s_aloadN X12 hx (hb hby od324) rfl rfl  ?_
  refine og T12 41 #[rv it, rv hm, rv tb] [] (fun _ k => XS.ifnullNo X12.here hx rfl (hb hby od325) rfl k) ?_
  refine s_aloadN X12 hx (hb hby od326) rfl rfl  ?_
  obtain ⟨T14, X14, e14, st14⟩ := getF X12 hx hZ hown (host := "") (Or.inl (ow hw 231 rfl)) Via.refl e12 c13_Fz (g := (mkF m 42 #[rv it, rv hm, rv tb] [.ref hm])) rfl rfl (hb hby od327)
  refine og T14 45 #[rv it, rv hm, rv tb] [.int 3] st14 ?_
  refine s_ifN X14 hx (hb hby od328) ((if0 _ _).trans (tlt (by decide)).2.2.2) ?_
  refine s_aloadN X14 hx (hb hby od329) rfl rfl  ?_
  obtain ⟨T15, X15, e15, st15⟩ := getF X14 hx hZ hown (host := "") (Or.inl (ow hw 229 rfl)) Via.refl e14 n12_I4 (g := (mkF m 49 #[rv it, rv hm, rv tb] [.ref it])) rfl rfl (hb hby od330)
  refine og T15 52 #[rv it, rv hm, rv tb] [.int 0] st15 ?_
  refine s_aloadN X15 hx (hb hby od331) rfl rfl  ?_
  have vv16 := c13_V
  obtain ⟨cl16, Ar16, qa16, Sz16, Ng16, Ha16, Ga16⟩ := vv16
  refine og T15 54 #[rv it, rv hm, rv tb] [(.int cl16.slots.size.toInt32), .int 0] (fun _ k => X15.arraylength hx (by rw [e15]; exact Ar16.1) (State.isArrayOf_alike hZ.alike Ar16.2.1) (g := (mkF m 53 #[rv it, rv hm, rv tb] [.ref tb, .int 0])) rfl rfl (hb hby od332) _ k) ?_
  rw [len_of Sz16 Ng16]
  refine s_icmpN X15 hx (hb hby od333) (tlt (by decide)).2.1 ?_
  refine s_aloadN X15 hx (hb hby od334) rfl rfl  ?_
  refine s_aloadN X15 hx (hb hby od335) rfl rfl  ?_
  refine s_aloadN X15 hx (hb hby od336) rfl rfl  ?_
  refine s_dup X15 hx (hb hby od337) rfl ?_
  obtain ⟨T17, X17, e17, st17⟩ := getF X15 hx hZ hown (host := "") (Or.inl (ow hw 229 rfl)) Via.refl e15 n12_I4 (g := (mkF m 61 #[rv it, rv hm, rv tb] [.ref it, .ref it, .ref tb, .ref it])) rfl rfl (hb hby od338)
  refine og T17 64 #[rv it, rv hm, rv tb] [.int 0, .ref it, .ref tb, .ref it] st17 ?_
  refine og T17 65 #[rv it, rv hm, rv tb] [.int 0, .ref it, .int 0, .ref tb, .ref it] (fun _ k => XS.dupX1 X17.here hx rfl (hb hby od339) rfl rfl rfl k) ?_
  refine s_iconst 1 X17 hx (hb hby od340) rfl ?_
  refine og T17 67 #[rv it, rv hm, rv tb] [.int 1, .ref it, .int 0, .ref tb, .ref it] (fun _ k => XS.iadd X17.here hx rfl (hb hby od341) rfl k) ?_
  obtain ⟨T18, h18, X18, e18, W18, st18⟩ := putF X17 hx hZ hown (host := "") (Or.inl (ow hw 229 rfl)) Via.refl e17 n12_I4 c13_E_i (Or.inl (ow hw 230 rfl)) (ow hw 206 rfl) (ty := .int) (by decide) rfl rfl (g := (mkF m 67 #[rv it, rv hm, rv tb] [.int 1, .ref it, .int 0, .ref tb, .ref it])) rfl rfl (hb hby od342)
  have N18 := Fr.snoc X18 N12 g
  refine og T18 70 #[rv it, rv hm, rv tb] [.int 0, .ref tb, .ref it] st18 ?_
  have n18_I4 := n12_I4.same W18
  have c19_E_i := c13_E_i.wr W18
  have c19_E_m := c13_E_m.wr W18
  have c19_V := c13_V.other W18 (Ne.symm (own_nea c13_E_i c13_V (ow hw 206 rfl)))
  have c19_I0 := c13_I0.other W18 (Or.inr (os57 hw))
  have c19_I1 := c13_I1.other W18 (Or.inr (os58 hw))
  have c19_I2 := c13_I2.other W18 (Or.inr (os59 hw))
  have c19_I3 := c13_I3.other W18 (Or.inr (os60 hw))
  have K18 := K12.wr W18 (Or.inl (List.mem_of_getElem? (i := 0) rfl))
  have vv20 := c19_V
  obtain ⟨cl20, Ar20, qa20, Sz20, Ng20, Ha20, Ga20⟩ := vv20
  have hin20 : ¬ ((0 : Int32) < 0 ∨ cl20.slots.size ≤ ((0 : Int32)).toNatClampNeg) := inb_of Sz20 ⟨by decide, by decide⟩
  refine og T18 71 #[rv it, rv hm, rv tb] [.null, .ref it] (fun _ k => X18.aaload hx (j := (0 : Int32)) (v := .null) (by rw [e18]; exact Ar20.1) (State.isArrayOf_alike hZ.alike Ar20.2.1) rfl Ar20.2.2 hin20 (Ha20.at hin20 rfl) (g := (mkF m 70 #[rv it, rv hm, rv tb] [.int 0, .ref tb, .ref it])) rfl rfl (hb hby od343) _ k) ?_
  refine og T18 72 #[rv it, rv hm, rv tb] [.null, .ref it, .null] (fun _ k => XS.dupX1 X18.here hx rfl (hb hby od344) rfl rfl rfl k) ?_
  obtain ⟨T21, h21, X21, e21, W21, st21⟩ := putF X18 hx hZ hown (host := "") (Or.inl (ow hw 225 rfl)) Via.refl e18 c19_I2 c19_E_i (Or.inl (ow hw 226 rfl)) (ow hw 206 rfl) (ty := (.object "java/util/HashMap$Node")) (by decide) rfl rfl (g := (mkF m 72 #[rv it, rv hm, rv tb] [.null, .ref it, .null])) rfl rfl (hb hby od345)
  have N21 := Fr.snoc X21 N18 g
  refine og T21 75 #[rv it, rv hm, rv tb] [.null] st21 ?_
  have n21_I2 := c19_I2.same W21
  have c22_E_i := c19_E_i.wr W21
  have c22_E_m := c19_E_m.wr W21
  have c22_V := c19_V.other W21 (Ne.symm (own_nea c19_E_i c19_V (ow hw 206 rfl)))
  have c22_I0 := c19_I0.other W21 (Or.inr (os51 hw))
  have c22_I1 := c19_I1.other W21 (Or.inr (os52 hw))
  have c22_I3 := c19_I3.other W21 (Or.inr (os49 hw))
  have c22_I4 := n18_I4.other W21 (Or.inr (os50 hw))
  have K21 := K18.wr W21 (Or.inl (List.mem_of_getElem? (i := 0) rfl))
  refine og T21 48 #[rv it, rv hm, rv tb] [] (fun _ k => XS.ifnullYes X21.here hx rfl (pc0 := 75) (pc' := 48) rfl (hb hby od346) rfl (by decide) (by decide) k) ?_
  refine s_aloadN X21 hx (hb hby od329) rfl rfl  ?_
  obtain ⟨T23, X23, e23, st23⟩ := getF X21 hx hZ hown (host := "") (Or.inl (ow hw 229 rfl)) Via.refl e21 c22_I4 (g := (mkF m 49 #[rv it, rv hm, rv tb] [.ref it])) rfl rfl (hb hby od330)
  refine og T23 52 #[rv it, rv hm, rv tb] [.int 1] st23 ?_
  refine s_aloadN X23 hx (hb hby od331) rfl rfl  ?_
  have vv24 := c22_V
  obtain ⟨cl24, Ar24, qa24, Sz24, Ng24, Ha24, Ga24⟩ := vv24
  refine og T23 54 #[rv it, rv hm, rv tb] [(.int cl24.slots.size.toInt32), .int 1] (fun _ k => X23.arraylength hx (by rw [e23]; exact Ar24.1) (State.isArrayOf_alike hZ.alike Ar24.2.1) (g := (mkF m 53 #[rv it, rv hm, rv tb] [.ref tb, .int 1])) rfl rfl (hb hby od332) _ k) ?_
  rw [len_of Sz24 Ng24]
  refine s_icmpN X23 hx (hb hby od333) (tlt (by decide)).2.1 ?_
  refine s_aloadN X23 hx (hb hby od334) rfl rfl  ?_
  refine s_aloadN X23 hx (hb hby od335) rfl rfl  ?_
  refine s_aloadN X23 hx (hb hby od336) rfl rfl  ?_
  refine s_dup X23 hx (hb hby od337) rfl ?_
  obtain ⟨T25, X25, e25, st25⟩ := getF X23 hx hZ hown (host := "") (Or.inl (ow hw 229 rfl)) Via.refl e23 c22_I4 (g := (mkF m 61 #[rv it, rv hm, rv tb] [.ref it, .ref it, .ref tb, .ref it])) rfl rfl (hb hby od338)
  refine og T25 64 #[rv it, rv hm, rv tb] [.int 1, .ref it, .ref tb, .ref it] st25 ?_
  refine og T25 65 #[rv it, rv hm, rv tb] [.int 1, .ref it, .int 1, .ref tb, .ref it] (fun _ k => XS.dupX1 X25.here hx rfl (hb hby od339) rfl rfl rfl k) ?_
  refine s_iconst 1 X25 hx (hb hby od340) rfl ?_
  refine og T25 67 #[rv it, rv hm, rv tb] [.int 2, .ref it, .int 1, .ref tb, .ref it] (fun _ k => XS.iadd X25.here hx rfl (hb hby od341) rfl k) ?_
  obtain ⟨T26, h26, X26, e26, W26, st26⟩ := putF X25 hx hZ hown (host := "") (Or.inl (ow hw 229 rfl)) Via.refl e25 c22_I4 c22_E_i (Or.inl (ow hw 230 rfl)) (ow hw 206 rfl) (ty := .int) (by decide) rfl rfl (g := (mkF m 67 #[rv it, rv hm, rv tb] [.int 2, .ref it, .int 1, .ref tb, .ref it])) rfl rfl (hb hby od342)
  have N26 := Fr.snoc X26 N21 g
  refine og T26 70 #[rv it, rv hm, rv tb] [.int 1, .ref tb, .ref it] st26 ?_
  have n26_I4 := c22_I4.same W26
  have c27_E_i := c22_E_i.wr W26
  have c27_E_m := c22_E_m.wr W26
  have c27_V := c22_V.other W26 (Ne.symm (own_nea c22_E_i c22_V (ow hw 206 rfl)))
  have c27_I0 := c22_I0.other W26 (Or.inr (os57 hw))
  have c27_I1 := c22_I1.other W26 (Or.inr (os58 hw))
  have c27_I3 := c22_I3.other W26 (Or.inr (os60 hw))
  have c27_I2 := n21_I2.other W26 (Or.inr (os59 hw))
  have K26 := K21.wr W26 (Or.inl (List.mem_of_getElem? (i := 0) rfl))
  have vv28 := c27_V
  obtain ⟨cl28, Ar28, qa28, Sz28, Ng28, Ha28, Ga28⟩ := vv28
  have hin28 : ¬ ((1 : Int32) < 0 ∨ cl28.slots.size ≤ ((1 : Int32)).toNatClampNeg) := inb_of Sz28 ⟨by decide, by decide⟩
  refine og T26 71 #[rv it, rv hm, rv tb] [.ref n1, .ref it] (fun _ k => X26.aaload hx (j := (1 : Int32)) (v := (.ref n1)) (by rw [e26]; exact Ar28.1) (State.isArrayOf_alike hZ.alike Ar28.2.1) rfl Ar28.2.2 hin28 (Ha28.at hin28 rfl) (g := (mkF m 70 #[rv it, rv hm, rv tb] [.int 1, .ref tb, .ref it])) rfl rfl (hb hby od343) _ k) ?_
  refine og T26 72 #[rv it, rv hm, rv tb] [.ref n1, .ref it, .ref n1] (fun _ k => XS.dupX1 X26.here hx rfl (hb hby od344) rfl rfl rfl k) ?_
  obtain ⟨T29, h29, X29, e29, W29, st29⟩ := putF X26 hx hZ hown (host := "") (Or.inl (ow hw 225 rfl)) Via.refl e26 c27_I2 c27_E_i (Or.inl (ow hw 226 rfl)) (ow hw 206 rfl) (ty := (.object "java/util/HashMap$Node")) (by decide) rfl rfl (g := (mkF m 72 #[rv it, rv hm, rv tb] [.ref n1, .ref it, .ref n1])) rfl rfl (hb hby od345)
  have N29 := Fr.snoc X29 N26 g
  refine og T29 75 #[rv it, rv hm, rv tb] [.ref n1] st29 ?_
  have n29_I2 := c27_I2.same W29
  have c30_E_i := c27_E_i.wr W29
  have c30_E_m := c27_E_m.wr W29
  have c30_V := c27_V.other W29 (Ne.symm (own_nea c27_E_i c27_V (ow hw 206 rfl)))
  have c30_I0 := c27_I0.other W29 (Or.inr (os51 hw))
  have c30_I1 := c27_I1.other W29 (Or.inr (os52 hw))
  have c30_I3 := c27_I3.other W29 (Or.inr (os49 hw))
  have c30_I4 := n26_I4.other W29 (Or.inr (os50 hw))
  have K29 := K26.wr W29 (Or.inl (List.mem_of_getElem? (i := 0) rfl))
  refine og T29 78 #[rv it, rv hm, rv tb] [] (fun _ k => XS.ifnullNo X29.here hx rfl (hb hby od346) rfl k) ?_
  refine own_retV X29 hx hlk hret (hb hby od347) ?_ (by decide) (by decide)
  rw [e29]
  exact ⟨rfl, N29, K29, ⟨c30_E_i, c30_I0, c30_I1, n29_I2, c30_I3, c30_I4⟩⟩
set_option maxRecDepth 65536 in
set_option maxHeartbeats 40000000 in
theorem own_vii (l : Launch) (Z : State) (a0 : Array Value) (hw : ∀ d ∈ tables_1, d.before a0 Z = true) (it : Addr) (hm : Addr) (tb : Addr) (k : ClassId) (n1 n2 n3 : Addr) (h0 : Heap) (n0 : Nat) (Z0 : n0 ≤ h0.size) (E_i : Exa Z h0 it "java/util/HashMap$ValueIterator") (I0 : Fld Z h0 it "java/util/HashMap$HashIterator" "this$0" "Ljava/util/HashMap;" .null) (I1 : Fld Z h0 it "java/util/HashMap$HashIterator" "expectedModCount" "I" (.int 0)) (I2 : Fld Z h0 it "java/util/HashMap$HashIterator" "next" "Ljava/util/HashMap$Node;" .null) (I3 : Fld Z h0 it "java/util/HashMap$HashIterator" "current" "Ljava/util/HashMap$Node;" .null) (I4 : Fld Z h0 it "java/util/HashMap$HashIterator" "index" "I" (.int 0)) (Ft : Fld Z h0 hm "java/util/HashMap" "table" "[Ljava/util/HashMap$Node;" (.ref tb)) (Fz : Fld Z h0 hm "java/util/HashMap" "size" "I" (.int 3)) (Fo : Fld Z h0 hm "java/util/HashMap" "modCount" "I" (.int 3)) (E_m : Exa Z h0 hm "java/util/HashMap") (V : Arv Z h0 tb k (.object "java/util/HashMap$Node") 16 [.null, .ref n1, .ref n2, .ref n3, .null, .null, .null, .null, .null, .null, .null, .null, .null, .null, .null, .null] .null) (g : n0 ≤ it) :
    own_C l Z (⟨"java/util/HashMap$ValueIterator", "<init>", "(Ljava/util/HashMap;)V"⟩ : MethodName) jdk_2569_method_1_code 2 none [] ({ frames := 2, cells := 0, slots := 0, locals := 26 } : Room) #[.ref it, .ref hm] h0 (own_Ql Z it hm n1 h0 n0) := by
  refine MetFree.of_bodySF (plainFor_of_name own_pn12) hisR ?_
  intro p e s m args below meth c s₁ Bd hml hP hK
  obtain ⟨rfl, hZ, hh⟩ := hP
  obtain ⟨hx, hby, hlk, hret, hown, hnm, X0, e0⟩ := own_hd Bd hh
  have N0 := Fr.nil n0
  refine own_open (own_ef10 m it hm) ?_
  refine s_aloadN X0 hx (hb hby od348) rfl rfl  ?_
  refine s_aloadN X0 hx (hb hby od349) rfl rfl  ?_
  obtain ⟨_, _, ⟨T1, L1, k1, n1⟩, -, X1, ⟨Lc1, hQ1, l1, y1, z1⟩, st1⟩ := X0.specialBack hx (y := (⟨"java/util/HashMap$HashIterator", "<init>", "(Ljava/util/HashMap;)V"⟩ : MethodName)) rfl hown (mvT hZ (ow hw 212 rfl)) (mvT hZ (ow hw 213 rfl)) (mvT hZ (ow hw 217 rfl)) (by decide) (backOf (W := 0) (own_hii l Z a0 hw it hm tb k n1 n2 n3 h0 n0 Z0 E_i I0 I1 I2 I3 I4 Ft Fz Fo E_m V g) hZ (ow hw 217 rfl) (ow hw 216 rfl) (by decide) (by decide)) (g := (mkF m 2 #[rv it, rv hm] [.ref hm, .ref it])) rfl (by rw [hml]; rfl) (Steps.refl _) (a := it) (argsL := [.ref hm]) (rest := []) (lenOf own_pd14 rfl) rfl (by show 2 * 0 + _ ≤ _; exact Nat.le_of_eq rfl) (hb hby od350) (fun _ _ => ⟨rfl, e0, (by decide : 0 + 0 ≤ _), (by decide : 0 + 0 ≤ _)⟩)
  dsimp only [Pt.U, Pt.locs, Pt.cells, Pt.slots] at X1 l1 y1 z1 st1 hQ1
  subst y1 z1
  obtain ⟨rfl, N1q, Kc1, I1c⟩ := hQ1
  have N1 := frE l1 N0 N1q
  refine ov T1 5 #[rv it, rv hm] [] st1 ?_
  refine own_retV X1 hx hlk hret (hb hby od351) ?_ (by decide) (by decide)
  exact ⟨rfl, N1, Kc1, I1c⟩
set_option maxRecDepth 65536 in
set_option maxHeartbeats 40000000 in
theorem own_itr (l : Launch) (Z : State) (a0 : Array Value) (hw : ∀ d ∈ tables_1, d.before a0 Z = true) (x : Addr) (hm tb : Addr) (k : ClassId) (n1 n2 n3 : Addr) (h0 : Heap) (n0 : Nat) (Z0 : n0 ≤ h0.size) (E_x : Exa Z h0 x "java/util/HashMap$Values") (F1 : Fld Z h0 x "java/util/HashMap$Values" "this$0" "Ljava/util/HashMap;" (.ref hm)) (Ft : Fld Z h0 hm "java/util/HashMap" "table" "[Ljava/util/HashMap$Node;" (.ref tb)) (Fz : Fld Z h0 hm "java/util/HashMap" "size" "I" (.int 3)) (Fo : Fld Z h0 hm "java/util/HashMap" "modCount" "I" (.int 3)) (E_m : Exa Z h0 hm "java/util/HashMap") (V : Arv Z h0 tb k (.object "java/util/HashMap$Node") 16 [.null, .ref n1, .ref n2, .ref n3, .null, .null, .null, .null, .null, .null, .null, .null, .null, .null, .null, .null] .null) :
    own_C l Z (⟨"java/util/HashMap$Values", "iterator", "()Ljava/util/Iterator;"⟩ : MethodName) jdk_2571_method_4_code 1 (some (.object "java/util/Iterator")) [] ({ frames := 3, cells := 1, slots := 5, locals := 40 } : Room) #[.ref x] h0 (own_Qy Z hm n1 h0 n0) := by
  refine MetFree.of_bodySF (plainFor_of_name own_pn10) hisR ?_
  intro p e s m args below meth c s₁ Bd hml hP hK
  obtain ⟨rfl, hZ, hh⟩ := hP
  obtain ⟨hx, hby, hlk, hret, hown, hnm, X0, e0⟩ := own_hd Bd hh
  have N0 := Fr.nil n0
  refine own_open (own_ef1 m x) ?_
  obtain ⟨T1, h1, X1, e1, E1, A1, D1, -, st1⟩ := newO X0 hx hZ hown (ow hw 205 rfl) (ow hw 206 rfl) (ow hw 207 rfl) e0 (g := (mkF m 0 #[rv x] [])) rfl (hb hby od352) (by decide) (by decide)
  obtain ⟨it, g1⟩ : ∃ z, z = h0.size := ⟨_, rfl⟩
  rw [← g1] at A1 D1 st1
  refine og T1 3 #[rv x] [.ref it] st1 ?_
  have sz_it : h0.size ≤ it := Nat.le_trans (Keep.refl h0 []).1 (Nat.le_of_eq g1.symm)
  have gn_it : n0 ≤ it := Nat.le_trans Z0 sz_it
  have ne_x_it : x ≠ it := Nat.ne_of_lt (Nat.lt_of_lt_of_le E_x.lt (Nat.le_of_eq g1.symm))
  have ne_hm_it : hm ≠ it := Nat.ne_of_lt (Nat.lt_of_lt_of_le E_m.lt (Nat.le_of_eq g1.symm))
  have ne_tb_it : tb ≠ it := Nat.ne_of_lt (Nat.lt_of_lt_of_le V.lt (Nat.le_of_eq g1.symm))
  have c2_E_x := E_x.ext E1
  have c2_F1 := F1.ext E1
  have c2_Ft := Ft.ext E1
  have c2_Fz := Fz.ext E1
  have c2_Fo := Fo.ext E1
  have c2_E_m := E_m.ext E1
  have c2_V := V.ext E1
  have K1 := (Keep.refl h0 []).ext E1
  refine s_dup X1 hx (hb hby od353) rfl ?_
  refine s_aloadN X1 hx (hb hby od354) rfl rfl  ?_
  obtain ⟨T3, X3, e3, st3⟩ := getF X1 hx hZ hown (host := "") (Or.inl (ow hw 192 rfl)) Via.refl e1 c2_F1 (g := (mkF m 5 #[rv x] [.ref x, .ref it, .ref it])) rfl rfl (hb hby od355)
  refine og T3 8 #[rv x] [.ref hm, .ref it, .ref it] st3 ?_
  obtain ⟨_, _, ⟨T4, L4, k4, n4⟩, -, X4, ⟨Lc4, hQ4, l4, y4, z4⟩, st4⟩ := X3.specialBack hx (y := (⟨"java/util/HashMap$ValueIterator", "<init>", "(Ljava/util/HashMap;)V"⟩ : MethodName)) rfl hown (mvT hZ (ow hw 208 rfl)) (mvT hZ (ow hw 209 rfl)) (mvT hZ (ow hw 211 rfl)) (by decide) (backOf (W := 1) (own_vii l Z a0 hw it hm tb k n1 n2 n3 h1 n0 (Nat.le_trans Z0 K1.1) A1 (D1 (Or.inr (ow hw 219 rfl)) (ty := (.object "java/util/HashMap")) (by decide)) (D1 (Or.inl (ow hw 223 rfl)) (ty := .int) (by decide)) (D1 (Or.inl (ow hw 226 rfl)) (ty := (.object "java/util/HashMap$Node")) (by decide)) (D1 (Or.inl (ow hw 228 rfl)) (ty := (.object "java/util/HashMap$Node")) (by decide)) (D1 (Or.inl (ow hw 230 rfl)) (ty := .int) (by decide)) c2_Ft c2_Fz c2_Fo c2_E_m c2_V gn_it) hZ (ow hw 211 rfl) (ow hw 207 rfl) (by decide) (by decide)) (g := (mkF m 8 #[rv x] [.ref hm, .ref it, .ref it])) rfl (by rw [hml]; rfl) (Steps.refl _) (a := it) (argsL := [.ref hm]) (rest := [.ref it]) (lenOf own_pd14 rfl) rfl (by show 2 * 0 + _ ≤ _; exact Nat.le_of_eq rfl) (hb hby od356) (fun _ _ => ⟨rfl, e3, (by decide : 1 + 0 ≤ _), (by decide : 5 + 0 ≤ _)⟩)
  dsimp only [Pt.U, Pt.locs, Pt.cells, Pt.slots] at X4 l4 y4 z4 st4 hQ4
  subst y4 z4
  obtain ⟨rfl, N4q, Kc4, I4c⟩ := hQ4
  have N4 := frE l4 N0 N4q
  refine ov T4 11 #[rv x] [.ref it] st4 ?_
  have K4x := K1.trans Kc4 (allS (Or.inr sz_it) all0)
  refine own_retA X4 hx hlk hret rfl rfl (hb hby od357) ?_ (by decide) (by decide)
  exact ⟨_, rfl, N4, K4x, I4c, sz_it⟩
set_option maxRecDepth 65536 in
set_option maxHeartbeats 40000000 in
theorem own_hn1 (l : Launch) (Z : State) (a0 : Array Value) (hw : ∀ d ∈ tables_1, d.before a0 Z = true) (it : Addr) (nx : Addr) (h0 : Heap) (n0 : Nat) (Z0 : n0 ≤ h0.size) (I2 : Fld Z h0 it "java/util/HashMap$HashIterator" "next" "Ljava/util/HashMap$Node;" (.ref nx)) :
    own_C l Z (⟨"java/util/HashMap$HashIterator", "hasNext", "()Z"⟩ : MethodName) jdk_99_method_2_code 1 (some .boolean) [] ({ frames := 0, cells := 0, slots := 0, locals := 0 } : Room) #[.ref it] h0 (own_Qz (1 : Int32) h0 n0) := by
  refine MetFree.of_bodySF (plainFor_of_name own_pn11) hisR ?_
  intro p e s m args below meth c s₁ Bd hml hP hK
  obtain ⟨rfl, hZ, hh⟩ := hP
  obtain ⟨hx, hby, hlk, hret, hown, hnm, X0, e0⟩ := own_hd Bd hh
  have N0 := Fr.nil n0
  refine own_open (own_ef1 m it) ?_
  refine s_aloadN X0 hx (hb hby od358) rfl rfl  ?_
  obtain ⟨T1, X1, e1, st1⟩ := getF X0 hx hZ hown (host := "") (Or.inl (ow hw 225 rfl)) Via.refl e0 I2 (g := (mkF m 1 #[rv it] [.ref it])) rfl rfl (hb hby od359)
  refine og T1 4 #[rv it] [.ref nx] st1 ?_
  refine og T1 7 #[rv it] [] (fun _ k => XS.ifnullNo X1.here hx rfl (hb hby od360) rfl k) ?_
  refine s_iconst 1 X1 hx (hb hby od361) rfl ?_
  refine s_goto 12 X1 hx (hb hby od362) (by decide) (by decide) ?_
  refine own_retZ X1 hx hlk (t := .boolean) hret (by simp) (hb hby od363) ?_ (by decide) (by decide)
  rw [e1]
  exact ⟨rfl, N0, rfl⟩
set_option maxRecDepth 65536 in
set_option maxHeartbeats 40000000 in
theorem own_hn0 (l : Launch) (Z : State) (a0 : Array Value) (hw : ∀ d ∈ tables_1, d.before a0 Z = true) (it : Addr)  (h0 : Heap) (n0 : Nat) (Z0 : n0 ≤ h0.size) (I2 : Fld Z h0 it "java/util/HashMap$HashIterator" "next" "Ljava/util/HashMap$Node;" .null) :
    own_C l Z (⟨"java/util/HashMap$HashIterator", "hasNext", "()Z"⟩ : MethodName) jdk_99_method_2_code 1 (some .boolean) [] ({ frames := 0, cells := 0, slots := 0, locals := 0 } : Room) #[.ref it] h0 (own_Qz (0 : Int32) h0 n0) := by
  refine MetFree.of_bodySF (plainFor_of_name own_pn11) hisR ?_
  intro p e s m args below meth c s₁ Bd hml hP hK
  obtain ⟨rfl, hZ, hh⟩ := hP
  obtain ⟨hx, hby, hlk, hret, hown, hnm, X0, e0⟩ := own_hd Bd hh
  have N0 := Fr.nil n0
  refine own_open (own_ef1 m it) ?_
  refine s_aloadN X0 hx (hb hby od358) rfl rfl  ?_
  obtain ⟨T1, X1, e1, st1⟩ := getF X0 hx hZ hown (host := "") (Or.inl (ow hw 225 rfl)) Via.refl e0 I2 (g := (mkF m 1 #[rv it] [.ref it])) rfl rfl (hb hby od359)
  refine og T1 4 #[rv it] [.null] st1 ?_
  refine og T1 11 #[rv it] [] (fun _ k => XS.ifnullYes X1.here hx rfl (pc0 := 4) (pc' := 11) rfl (hb hby od360) rfl (by decide) (by decide) k) ?_
  refine s_iconst 0 X1 hx (hb hby od364) rfl ?_
  refine own_retZ X1 hx hlk (t := .boolean) hret (by simp) (hb hby od363) ?_ (by decide) (by decide)
  rw [e1]
  exact ⟨rfl, N0, rfl⟩
set_option maxRecDepth 65536 in
set_option maxHeartbeats 40000000 in
theorem own_nno1 (l : Launch) (Z : State) (a0 : Array Value) (hw : ∀ d ∈ tables_1, d.before a0 Z = true) (it : Addr) (hm : Addr) (tb : Addr) (k : ClassId) (n1 n2 n3 : Addr) (h0 : Heap) (n0 : Nat) (Z0 : n0 ≤ h0.size) (E_i : Exa Z h0 it "java/util/HashMap$ValueIterator") (I0 : Fld Z h0 it "java/util/HashMap$HashIterator" "this$0" "Ljava/util/HashMap;" (.ref hm)) (I1 : Fld Z h0 it "java/util/HashMap$HashIterator" "expectedModCount" "I" (.int 3)) (I2 : Fld Z h0 it "java/util/HashMap$HashIterator" "next" "Ljava/util/HashMap$Node;" (.ref n1)) (I3 : Fld Z h0 it "java/util/HashMap$HashIterator" "current" "Ljava/util/HashMap$Node;" .null) (I4 : Fld Z h0 it "java/util/HashMap$HashIterator" "index" "I" (.int 2)) (Ft : Fld Z h0 hm "java/util/HashMap" "table" "[Ljava/util/HashMap$Node;" (.ref tb)) (Fo : Fld Z h0 hm "java/util/HashMap" "modCount" "I" (.int 3)) (E_m : Exa Z h0 hm "java/util/HashMap") (V : Arv Z h0 tb k (.object "java/util/HashMap$Node") 16 [.null, .ref n1, .ref n2, .ref n3, .null, .null, .null, .null, .null, .null, .null, .null, .null, .null, .null, .null] .null) (E_n : Exa Z h0 n1 "java/util/HashMap$Node") (Nx : Fld Z h0 n1 "java/util/HashMap$Node" "next" "Ljava/util/HashMap$Node;" .null) (g : n0 ≤ it) :
    own_C l Z (⟨"java/util/HashMap$HashIterator", "nextNode", "()Ljava/util/HashMap$Node;"⟩ : MethodName) jdk_99_method_3_code 3 (some (.object "java/util/HashMap$Node")) [] ({ frames := 0, cells := 0, slots := 0, locals := 0 } : Room) #[.ref it] h0 (own_Qu Z n1 it hm (.ref n2) (.ref n1) (3 : Int32) h0 n0) := by
  refine MetFree.of_bodySF (plainFor_of_name own_pn11) hisR ?_
  intro p e s m args below meth c s₁ Bd hml hP hK
  obtain ⟨rfl, hZ, hh⟩ := hP
  obtain ⟨hx, hby, hlk, hret, hown, hnm, X0, e0⟩ := own_hd Bd hh
  have N0 := Fr.nil n0
  refine own_open (own_ef12 m it) ?_
  refine s_aloadN X0 hx (hb hby od365) rfl rfl  ?_
  obtain ⟨T1, X1, e1, st1⟩ := getF X0 hx hZ hown (host := "") (Or.inl (ow hw 225 rfl)) Via.refl e0 I2 (g := (mkF m 1 #[rv it, .unset, .unset] [.ref it])) rfl rfl (hb hby od366)
  refine og T1 4 #[rv it, .unset, .unset] [.ref n1] st1 ?_
  refine og T1 5 #[rv it, .unset, rv n1] [] (fun _ k => XS.astoreN X1.here hx rfl (hb hby od367) rfl rfl (l' := #[rv it, .unset, rv n1]) rfl k) ?_
  refine s_aloadN X1 hx (hb hby od368) rfl rfl  ?_
  obtain ⟨T2, X2, e2, st2⟩ := getF X1 hx hZ hown (host := "") (Or.inl (ow hw 218 rfl)) Via.refl e1 I0 (g := (mkF m 6 #[rv it, .unset, rv n1] [.ref it])) rfl rfl (hb hby od369)
  refine og T2 9 #[rv it, .unset, rv n1] [.ref hm] st2 ?_
  obtain ⟨T3, X3, e3, st3⟩ := getF X2 hx hZ hown (host := "") (Or.inl (ow hw 221 rfl)) Via.refl e2 Fo (g := (mkF m 9 #[rv it, .unset, rv n1] [.ref hm])) rfl rfl (hb hby od370)
  refine og T3 12 #[rv it, .unset, rv n1] [.int 3] st3 ?_
  refine s_aloadN X3 hx (hb hby od371) rfl rfl  ?_
  obtain ⟨T4, X4, e4, st4⟩ := getF X3 hx hZ hown (host := "") (Or.inl (ow hw 222 rfl)) Via.refl e3 I1 (g := (mkF m 13 #[rv it, .unset, rv n1] [.ref it, .int 3])) rfl rfl (hb hby od372)
  refine og T4 16 #[rv it, .unset, rv n1] [.int 3, .int 3] st4 ?_
  refine s_icmpY 27 X4 hx (hb hby od373) (teq rfl).1 (by decide) (by decide) ?_
  refine s_aloadN X4 hx (hb hby od374) rfl rfl  ?_
  refine og T4 39 #[rv it, .unset, rv n1] [] (fun _ k => XS.ifnonnullYes X4.here hx rfl (pc0 := 28) (pc' := 39) rfl (hb hby od375) rfl (by decide) (by decide) k) ?_
  refine s_aloadN X4 hx (hb hby od376) rfl rfl  ?_
  refine s_aloadN X4 hx (hb hby od377) rfl rfl  ?_
  refine s_aloadN X4 hx (hb hby od378) rfl rfl  ?_
  refine og T4 43 #[rv it, .unset, rv n1] [.ref n1, .ref it, .ref n1, .ref it] (fun _ k => XS.dupX1 X4.here hx rfl (hb hby od379) rfl rfl rfl k) ?_
  obtain ⟨T5, h5, X5, e5, W5, st5⟩ := putF X4 hx hZ hown (host := "") (Or.inl (ow hw 227 rfl)) Via.refl e4 I3 E_i (Or.inl (ow hw 228 rfl)) (ow hw 206 rfl) (ty := (.object "java/util/HashMap$Node")) (by decide) rfl rfl (g := (mkF m 43 #[rv it, .unset, rv n1] [.ref n1, .ref it, .ref n1, .ref it])) rfl rfl (hb hby od380)
  have N5 := Fr.snoc X5 N0 g
  refine og T5 46 #[rv it, .unset, rv n1] [.ref n1, .ref it] st5 ?_
  have n5_I3 := I3.same W5
  have c6_E_i := E_i.wr W5
  have c6_I0 := I0.other W5 (Or.inr (os54 hw))
  have c6_I1 := I1.other W5 (Or.inr (os55 hw))
  have c6_I2 := I2.other W5 (Or.inr (os56 hw))
  have c6_I4 := I4.other W5 (Or.inr (os53 hw))
  have c6_Ft := Ft.other W5 (Or.inl (ne_exa E_m E_i (by decide)))
  have c6_E_m := E_m.wr W5
  have c6_V := V.other W5 (Ne.symm (own_nea E_i V (ow hw 206 rfl)))
  have c6_E_n := E_n.wr W5
  have c6_Nx := Nx.other W5 (Or.inl (ne_exa E_n E_i (by decide)))
  have K5 := (Keep.refl h0 [it]).wr W5 (Or.inl (List.mem_of_getElem? (i := 0) rfl))
  obtain ⟨T7, X7, e7, st7⟩ := getF X5 hx hZ hown (host := "") (Or.inl (ow hw 255 rfl)) Via.refl e5 c6_Nx (g := (mkF m 46 #[rv it, .unset, rv n1] [.ref n1, .ref it])) rfl rfl (hb hby od381)
  refine og T7 49 #[rv it, .unset, rv n1] [.null, .ref it] st7 ?_
  refine og T7 50 #[rv it, .unset, rv n1] [.null, .ref it, .null] (fun _ k => XS.dupX1 X7.here hx rfl (hb hby od382) rfl rfl rfl k) ?_
  obtain ⟨T8, h8, X8, e8, W8, st8⟩ := putF X7 hx hZ hown (host := "") (Or.inl (ow hw 225 rfl)) Via.refl e7 c6_I2 c6_E_i (Or.inl (ow hw 226 rfl)) (ow hw 206 rfl) (ty := (.object "java/util/HashMap$Node")) (by decide) rfl rfl (g := (mkF m 50 #[rv it, .unset, rv n1] [.null, .ref it, .null])) rfl rfl (hb hby od383)
  have N8 := Fr.snoc X8 N5 g
  refine og T8 53 #[rv it, .unset, rv n1] [.null] st8 ?_
  have n8_I2 := c6_I2.same W8
  have c9_E_i := c6_E_i.wr W8
  have c9_I0 := c6_I0.other W8 (Or.inr (os51 hw))
  have c9_I1 := c6_I1.other W8 (Or.inr (os52 hw))
  have c9_I4 := c6_I4.other W8 (Or.inr (os50 hw))
  have c9_Ft := c6_Ft.other W8 (Or.inl (ne_exa c6_E_m c6_E_i (by decide)))
  have c9_E_m := c6_E_m.wr W8
  have c9_V := c6_V.other W8 (Ne.symm (own_nea c6_E_i c6_V (ow hw 206 rfl)))
  have c9_E_n := c6_E_n.wr W8
  have c9_I3 := n5_I3.other W8 (Or.inr (os49 hw))
  have K8 := K5.wr W8 (Or.inl (List.mem_of_getElem? (i := 0) rfl))
  refine og T8 56 #[rv it, .unset, rv n1] [] (fun _ k => XS.ifnonnullNo X8.here hx rfl (hb hby od384) rfl k) ?_
  refine s_aloadN X8 hx (hb hby od385) rfl rfl  ?_
  obtain ⟨T10, X10, e10, st10⟩ := getF X8 hx hZ hown (host := "") (Or.inl (ow hw 218 rfl)) Via.refl e8 c9_I0 (g := (mkF m 57 #[rv it, .unset, rv n1] [.ref it])) rfl rfl (hb hby od386)
  refine og T10 60 #[rv it, .unset, rv n1] [.ref hm] st10 ?_
  obtain ⟨T11, X11, e11, st11⟩ := getF X10 hx hZ hown (host := "") (Or.inl (ow hw 224 rfl)) Via.refl e10 c9_Ft (g := (mkF m 60 #[rv it, .unset, rv n1] [.ref hm])) rfl rfl (hb hby od387)
  refine og T11 63 #[rv it, .unset, rv n1] [.ref tb] st11 ?_
  refine s_dup X11 hx (hb hby od388) rfl ?_
  refine og T11 65 #[rv it, rv tb, rv n1] [.ref tb] (fun _ k => XS.astoreN X11.here hx rfl (hb hby od389) rfl rfl (l' := #[rv it, rv tb, rv n1]) rfl k) ?_
  refine og T11 68 #[rv it, rv tb, rv n1] [] (fun _ k => XS.ifnullNo X11.here hx rfl (hb hby od390) rfl k) ?_
  refine s_aloadN X11 hx (hb hby od391) rfl rfl  ?_
  obtain ⟨T12, X12, e12, st12⟩ := getF X11 hx hZ hown (host := "") (Or.inl (ow hw 229 rfl)) Via.refl e11 c9_I4 (g := (mkF m 69 #[rv it, rv tb, rv n1] [.ref it])) rfl rfl (hb hby od392)
  refine og T12 72 #[rv it, rv tb, rv n1] [.int 2] st12 ?_
  refine s_aloadN X12 hx (hb hby od393) rfl rfl  ?_
  have vv13 := c9_V
  obtain ⟨cl13, Ar13, qa13, Sz13, Ng13, Ha13, Ga13⟩ := vv13
  refine og T12 74 #[rv it, rv tb, rv n1] [(.int cl13.slots.size.toInt32), .int 2] (fun _ k => X12.arraylength hx (by rw [e12]; exact Ar13.1) (State.isArrayOf_alike hZ.alike Ar13.2.1) (g := (mkF m 73 #[rv it, rv tb, rv n1] [.ref tb, .int 2])) rfl rfl (hb hby od394) _ k) ?_
  rw [len_of Sz13 Ng13]
  refine s_icmpN X12 hx (hb hby od395) (tlt (by decide)).2.1 ?_
  refine s_aloadN X12 hx (hb hby od396) rfl rfl  ?_
  refine s_aloadN X12 hx (hb hby od397) rfl rfl  ?_
  refine s_aloadN X12 hx (hb hby od398) rfl rfl  ?_
  refine s_dup X12 hx (hb hby od399) rfl ?_
  obtain ⟨T14, X14, e14, st14⟩ := getF X12 hx hZ hown (host := "") (Or.inl (ow hw 229 rfl)) Via.refl e12 c9_I4 (g := (mkF m 81 #[rv it, rv tb, rv n1] [.ref it, .ref it, .ref tb, .ref it])) rfl rfl (hb hby od400)
  refine og T14 84 #[rv it, rv tb, rv n1] [.int 2, .ref it, .ref tb, .ref it] st14 ?_
  refine og T14 85 #[rv it, rv tb, rv n1] [.int 2, .ref it, .int 2, .ref tb, .ref it] (fun _ k => XS.dupX1 X14.here hx rfl (hb hby od401) rfl rfl rfl k) ?_
  refine s_iconst 1 X14 hx (hb hby od402) rfl ?_
  refine og T14 87 #[rv it, rv tb, rv n1] [.int 3, .ref it, .int 2, .ref tb, .ref it] (fun _ k => XS.iadd X14.here hx rfl (hb hby od403) rfl k) ?_
  obtain ⟨T15, h15, X15, e15, W15, st15⟩ := putF X14 hx hZ hown (host := "") (Or.inl (ow hw 229 rfl)) Via.refl e14 c9_I4 c9_E_i (Or.inl (ow hw 230 rfl)) (ow hw 206 rfl) (ty := .int) (by decide) rfl rfl (g := (mkF m 87 #[rv it, rv tb, rv n1] [.int 3, .ref it, .int 2, .ref tb, .ref it])) rfl rfl (hb hby od404)
  have N15 := Fr.snoc X15 N8 g
  refine og T15 90 #[rv it, rv tb, rv n1] [.int 2, .ref tb, .ref it] st15 ?_
  have n15_I4 := c9_I4.same W15
  have c16_E_i := c9_E_i.wr W15
  have c16_I0 := c9_I0.other W15 (Or.inr (os57 hw))
  have c16_I1 := c9_I1.other W15 (Or.inr (os58 hw))
  have c16_E_m := c9_E_m.wr W15
  have c16_V := c9_V.other W15 (Ne.symm (own_nea c9_E_i c9_V (ow hw 206 rfl)))
  have c16_I3 := c9_I3.other W15 (Or.inr (os60 hw))
  have c16_I2 := n8_I2.other W15 (Or.inr (os59 hw))
  have K15 := K8.wr W15 (Or.inl (List.mem_of_getElem? (i := 0) rfl))
  have vv17 := c16_V
  obtain ⟨cl17, Ar17, qa17, Sz17, Ng17, Ha17, Ga17⟩ := vv17
  have hin17 : ¬ ((2 : Int32) < 0 ∨ cl17.slots.size ≤ ((2 : Int32)).toNatClampNeg) := inb_of Sz17 ⟨by decide, by decide⟩
  refine og T15 91 #[rv it, rv tb, rv n1] [.ref n2, .ref it] (fun _ k => X15.aaload hx (j := (2 : Int32)) (v := (.ref n2)) (by rw [e15]; exact Ar17.1) (State.isArrayOf_alike hZ.alike Ar17.2.1) rfl Ar17.2.2 hin17 (Ha17.at hin17 rfl) (g := (mkF m 90 #[rv it, rv tb, rv n1] [.int 2, .ref tb, .ref it])) rfl rfl (hb hby od405) _ k) ?_
  refine og T15 92 #[rv it, rv tb, rv n1] [.ref n2, .ref it, .ref n2] (fun _ k => XS.dupX1 X15.here hx rfl (hb hby od406) rfl rfl rfl k) ?_
  obtain ⟨T18, h18, X18, e18, W18, st18⟩ := putF X15 hx hZ hown (host := "") (Or.inl (ow hw 225 rfl)) Via.refl e15 c16_I2 c16_E_i (Or.inl (ow hw 226 rfl)) (ow hw 206 rfl) (ty := (.object "java/util/HashMap$Node")) (by decide) rfl rfl (g := (mkF m 92 #[rv it, rv tb, rv n1] [.ref n2, .ref it, .ref n2])) rfl rfl (hb hby od407)
  have N18 := Fr.snoc X18 N15 g
  refine og T18 95 #[rv it, rv tb, rv n1] [.ref n2] st18 ?_
  have n18_I2 := c16_I2.same W18
  have c19_E_i := c16_E_i.wr W18
  have c19_I0 := c16_I0.other W18 (Or.inr (os51 hw))
  have c19_I1 := c16_I1.other W18 (Or.inr (os52 hw))
  have c19_E_m := c16_E_m.wr W18
  have c19_V := c16_V.other W18 (Ne.symm (own_nea c16_E_i c16_V (ow hw 206 rfl)))
  have c19_I3 := c16_I3.other W18 (Or.inr (os49 hw))
  have c19_I4 := n15_I4.other W18 (Or.inr (os50 hw))
  have K18 := K15.wr W18 (Or.inl (List.mem_of_getElem? (i := 0) rfl))
  refine og T18 98 #[rv it, rv tb, rv n1] [] (fun _ k => XS.ifnullNo X18.here hx rfl (hb hby od408) rfl k) ?_
  refine s_aloadN X18 hx (hb hby od409) rfl rfl  ?_
  refine own_retA X18 hx hlk hret rfl rfl (hb hby od410) ?_ (by decide) (by decide)
  rw [e18]
  exact ⟨rfl, N18, K18, ⟨c19_E_i, c19_I0, c19_I1, n18_I2, c19_I3, c19_I4⟩⟩
set_option maxRecDepth 65536 in
set_option maxHeartbeats 40000000 in
theorem own_nxt1 (l : Launch) (Z : State) (a0 : Array Value) (hw : ∀ d ∈ tables_1, d.before a0 Z = true) (it : Addr) (hm : Addr) (tb : Addr) (k : ClassId) (n1 n2 n3 : Addr) (vl : Addr) (h0 : Heap) (n0 : Nat) (Z0 : n0 ≤ h0.size) (E_i : Exa Z h0 it "java/util/HashMap$ValueIterator") (I0 : Fld Z h0 it "java/util/HashMap$HashIterator" "this$0" "Ljava/util/HashMap;" (.ref hm)) (I1 : Fld Z h0 it "java/util/HashMap$HashIterator" "expectedModCount" "I" (.int 3)) (I2 : Fld Z h0 it "java/util/HashMap$HashIterator" "next" "Ljava/util/HashMap$Node;" (.ref n1)) (I3 : Fld Z h0 it "java/util/HashMap$HashIterator" "current" "Ljava/util/HashMap$Node;" .null) (I4 : Fld Z h0 it "java/util/HashMap$HashIterator" "index" "I" (.int 2)) (Ft : Fld Z h0 hm "java/util/HashMap" "table" "[Ljava/util/HashMap$Node;" (.ref tb)) (Fo : Fld Z h0 hm "java/util/HashMap" "modCount" "I" (.int 3)) (E_m : Exa Z h0 hm "java/util/HashMap") (V : Arv Z h0 tb k (.object "java/util/HashMap$Node") 16 [.null, .ref n1, .ref n2, .ref n3, .null, .null, .null, .null, .null, .null, .null, .null, .null, .null, .null, .null] .null) (E_n : Exa Z h0 n1 "java/util/HashMap$Node") (Nx : Fld Z h0 n1 "java/util/HashMap$Node" "next" "Ljava/util/HashMap$Node;" .null) (Nv : Fld Z h0 n1 "java/util/HashMap$Node" "value" "Ljava/lang/Object;" (.ref vl)) (g : n0 ≤ it) :
    own_C l Z (⟨"java/util/HashMap$ValueIterator", "next", "()Ljava/lang/Object;"⟩ : MethodName) jdk_2569_method_2_code 1 (some (.object "java/lang/Object")) [] ({ frames := 1, cells := 0, slots := 0, locals := 14 } : Room) #[.ref it] h0 (own_Qu Z vl it hm (.ref n2) (.ref n1) (3 : Int32) h0 n0) := by
  refine MetFree.of_bodySF (plainFor_of_name own_pn12) hisR ?_
  intro p e s m args below meth c s₁ Bd hml hP hK
  obtain ⟨rfl, hZ, hh⟩ := hP
  obtain ⟨hx, hby, hlk, hret, hown, hnm, X0, e0⟩ := own_hd Bd hh
  have N0 := Fr.nil n0
  refine own_open (own_ef1 m it) ?_
  refine s_aloadN X0 hx (hb hby od411) rfl rfl  ?_
  obtain ⟨cq1, kq1, q1a, q1b, q1c⟩ := isOf hZ e0 (E_i)
  obtain ⟨_, _, ⟨T1, L1, k1, n1⟩, -, X1, ⟨Lc1, hQ1, l1, y1, z1⟩, st1⟩ := X0.virtualBackUp hx (owner := "java/util/HashMap$HashIterator") (x := (⟨"java/util/HashMap$ValueIterator", "nextNode", "()Ljava/util/HashMap$Node;"⟩ : MethodName)) (y := (⟨"java/util/HashMap$HashIterator", "nextNode", "()Ljava/util/HashMap$Node;"⟩ : MethodName)) hown (mvT hZ (ow hw 249 rfl)) (mvT hZ (ow hw 250 rfl)) (mvT hZ (ow hw 251 rfl)) (by decide) (mvT hZ (ow hw 253 rfl)) (mvT hZ (ow hw 252 rfl)) (backOf (W := 0) (own_nno1 l Z a0 hw it hm tb k n1 n2 n3 h0 n0 Z0 E_i I0 I1 I2 I3 I4 Ft Fo E_m V E_n Nx g) hZ (ow hw 254 rfl) (ow hw 216 rfl) (by decide) (by decide)) q1a q1c (g := (mkF m 1 #[rv it] [.ref it])) rfl (by rw [hml]; rfl) (Steps.refl _) (argsL := []) (rest := []) (lenOf own_pd15 rfl) rfl (by show 2 * 0 + _ ≤ _; exact Nat.le_of_eq rfl) (hb hby od412) (fun _ _ => ⟨rfl, e0, (by decide : 0 + 0 ≤ _), (by decide : 0 + 0 ≤ _)⟩)
  dsimp only [Pt.U, Pt.locs, Pt.cells, Pt.slots] at X1 l1 y1 z1 st1 hQ1
  subst y1 z1
  obtain ⟨rfl, N1q, Kc1, I1c⟩ := hQ1
  have N1 := frE l1 N0 N1q
  refine ov T1 4 #[rv it] [.ref n1] st1 ?_
  have Nv2 := Nv.keep Kc1 (ninS (ne_exa E_n E_i (by decide)) nin0)
  obtain ⟨T2, X2, e2, st2⟩ := getF X1 hx hZ hown (host := "") (Or.inl (ow hw 256 rfl)) Via.refl rfl Nv2 (g := (mkF m 4 #[rv it] [.ref n1])) rfl rfl (hb hby od413)
  refine og T2 7 #[rv it] [.ref vl] st2 ?_
  refine own_retA X2 hx hlk hret rfl rfl (hb hby od414) ?_ (by decide) (by decide)
  rw [e2]
  exact ⟨rfl, N1, Kc1, I1c⟩
set_option maxRecDepth 65536 in
set_option maxHeartbeats 40000000 in
theorem own_nno2 (l : Launch) (Z : State) (a0 : Array Value) (hw : ∀ d ∈ tables_1, d.before a0 Z = true) (it : Addr) (hm : Addr) (tb : Addr) (k : ClassId) (n1 n2 n3 : Addr) (h0 : Heap) (n0 : Nat) (Z0 : n0 ≤ h0.size) (E_i : Exa Z h0 it "java/util/HashMap$ValueIterator") (I0 : Fld Z h0 it "java/util/HashMap$HashIterator" "this$0" "Ljava/util/HashMap;" (.ref hm)) (I1 : Fld Z h0 it "java/util/HashMap$HashIterator" "expectedModCount" "I" (.int 3)) (I2 : Fld Z h0 it "java/util/HashMap$HashIterator" "next" "Ljava/util/HashMap$Node;" (.ref n2)) (I3 : Fld Z h0 it "java/util/HashMap$HashIterator" "current" "Ljava/util/HashMap$Node;" (.ref n1)) (I4 : Fld Z h0 it "java/util/HashMap$HashIterator" "index" "I" (.int 3)) (Ft : Fld Z h0 hm "java/util/HashMap" "table" "[Ljava/util/HashMap$Node;" (.ref tb)) (Fo : Fld Z h0 hm "java/util/HashMap" "modCount" "I" (.int 3)) (E_m : Exa Z h0 hm "java/util/HashMap") (V : Arv Z h0 tb k (.object "java/util/HashMap$Node") 16 [.null, .ref n1, .ref n2, .ref n3, .null, .null, .null, .null, .null, .null, .null, .null, .null, .null, .null, .null] .null) (E_n : Exa Z h0 n2 "java/util/HashMap$Node") (Nx : Fld Z h0 n2 "java/util/HashMap$Node" "next" "Ljava/util/HashMap$Node;" .null) (g : n0 ≤ it) :
    own_C l Z (⟨"java/util/HashMap$HashIterator", "nextNode", "()Ljava/util/HashMap$Node;"⟩ : MethodName) jdk_99_method_3_code 3 (some (.object "java/util/HashMap$Node")) [] ({ frames := 0, cells := 0, slots := 0, locals := 0 } : Room) #[.ref it] h0 (own_Qu Z n2 it hm (.ref n3) (.ref n2) (4 : Int32) h0 n0) := by
  refine MetFree.of_bodySF (plainFor_of_name own_pn11) hisR ?_
  intro p e s m args below meth c s₁ Bd hml hP hK
  obtain ⟨rfl, hZ, hh⟩ := hP
  obtain ⟨hx, hby, hlk, hret, hown, hnm, X0, e0⟩ := own_hd Bd hh
  have N0 := Fr.nil n0
  refine own_open (own_ef12 m it) ?_
  refine s_aloadN X0 hx (hb hby od365) rfl rfl  ?_
  obtain ⟨T1, X1, e1, st1⟩ := getF X0 hx hZ hown (host := "") (Or.inl (ow hw 225 rfl)) Via.refl e0 I2 (g := (mkF m 1 #[rv it, .unset, .unset] [.ref it])) rfl rfl (hb hby od366)
  refine og T1 4 #[rv it, .unset, .unset] [.ref n2] st1 ?_
  refine og T1 5 #[rv it, .unset, rv n2] [] (fun _ k => XS.astoreN X1.here hx rfl (hb hby od367) rfl rfl (l' := #[rv it, .unset, rv n2]) rfl k) ?_
  refine s_aloadN X1 hx (hb hby od368) rfl rfl  ?_
  obtain ⟨T2, X2, e2, st2⟩ := getF X1 hx hZ hown (host := "") (Or.inl (ow hw 218 rfl)) Via.refl e1 I0 (g := (mkF m 6 #[rv it, .unset, rv n2] [.ref it])) rfl rfl (hb hby od369)
  refine og T2 9 #[rv it, .unset, rv n2] [.ref hm] st2 ?_
  obtain ⟨T3, X3, e3, st3⟩ := getF X2 hx hZ hown (host := "") (Or.inl (ow hw 221 rfl)) Via.refl e2 Fo (g := (mkF m 9 #[rv it, .unset, rv n2] [.ref hm])) rfl rfl (hb hby od370)
  refine og T3 12 #[rv it, .unset, rv n2] [.int 3] st3 ?_
  refine s_aloadN X3 hx (hb hby od371) rfl rfl  ?_
  obtain ⟨T4, X4, e4, st4⟩ := getF X3 hx hZ hown (host := "") (Or.inl (ow hw 222 rfl)) Via.refl e3 I1 (g := (mkF m 13 #[rv it, .unset, rv n2] [.ref it, .int 3])) rfl rfl (hb hby od372)
  refine og T4 16 #[rv it, .unset, rv n2] [.int 3, .int 3] st4 ?_
  refine s_icmpY 27 X4 hx (hb hby od373) (teq rfl).1 (by decide) (by decide) ?_
  refine s_aloadN X4 hx (hb hby od374) rfl rfl  ?_
  refine og T4 39 #[rv it, .unset, rv n2] [] (fun _ k => XS.ifnonnullYes X4.here hx rfl (pc0 := 28) (pc' := 39) rfl (hb hby od375) rfl (by decide) (by decide) k) ?_
  refine s_aloadN X4 hx (hb hby od376) rfl rfl  ?_
  refine s_aloadN X4 hx (hb hby od377) rfl rfl  ?_
  refine s_aloadN X4 hx (hb hby od378) rfl rfl  ?_
  refine og T4 43 #[rv it, .unset, rv n2] [.ref n2, .ref it, .ref n2, .ref it] (fun _ k => XS.dupX1 X4.here hx rfl (hb hby od379) rfl rfl rfl k) ?_
  obtain ⟨T5, h5, X5, e5, W5, st5⟩ := putF X4 hx hZ hown (host := "") (Or.inl (ow hw 227 rfl)) Via.refl e4 I3 E_i (Or.inl (ow hw 228 rfl)) (ow hw 206 rfl) (ty := (.object "java/util/HashMap$Node")) (by decide) rfl rfl (g := (mkF m 43 #[rv it, .unset, rv n2] [.ref n2, .ref it, .ref n2, .ref it])) rfl rfl (hb hby od380)
  have N5 := Fr.snoc X5 N0 g
  refine og T5 46 #[rv it, .unset, rv n2] [.ref n2, .ref it] st5 ?_
  have n5_I3 := I3.same W5
  have c6_E_i := E_i.wr W5
  have c6_I0 := I0.other W5 (Or.inr (os54 hw))
  have c6_I1 := I1.other W5 (Or.inr (os55 hw))
  have c6_I2 := I2.other W5 (Or.inr (os56 hw))
  have c6_I4 := I4.other W5 (Or.inr (os53 hw))
  have c6_Ft := Ft.other W5 (Or.inl (ne_exa E_m E_i (by decide)))
  have c6_E_m := E_m.wr W5
  have c6_V := V.other W5 (Ne.symm (own_nea E_i V (ow hw 206 rfl)))
  have c6_E_n := E_n.wr W5
  have c6_Nx := Nx.other W5 (Or.inl (ne_exa E_n E_i (by decide)))
  have K5 := (Keep.refl h0 [it]).wr W5 (Or.inl (List.mem_of_getElem? (i := 0) rfl))
  obtain ⟨T7, X7, e7, st7⟩ := getF X5 hx hZ hown (host := "") (Or.inl (ow hw 255 rfl)) Via.refl e5 c6_Nx (g := (mkF m 46 #[rv it, .unset, rv n2] [.ref n2, .ref it])) rfl rfl (hb hby od381)
  refine og T7 49 #[rv it, .unset, rv n2] [.null, .ref it] st7 ?_
  refine og T7 50 #[rv it, .unset, rv n2] [.null, .ref it, .null] (fun _ k => XS.dupX1 X7.here hx rfl (hb hby od382) rfl rfl rfl k) ?_
  obtain ⟨T8, h8, X8, e8, W8, st8⟩ := putF X7 hx hZ hown (host := "") (Or.inl (ow hw 225 rfl)) Via.refl e7 c6_I2 c6_E_i (Or.inl (ow hw 226 rfl)) (ow hw 206 rfl) (ty := (.object "java/util/HashMap$Node")) (by decide) rfl rfl (g := (mkF m 50 #[rv it, .unset, rv n2] [.null, .ref it, .null])) rfl rfl (hb hby od383)
  have N8 := Fr.snoc X8 N5 g
  refine og T8 53 #[rv it, .unset, rv n2] [.null] st8 ?_
  have n8_I2 := c6_I2.same W8
  have c9_E_i := c6_E_i.wr W8
  have c9_I0 := c6_I0.other W8 (Or.inr (os51 hw))
  have c9_I1 := c6_I1.other W8 (Or.inr (os52 hw))
  have c9_I4 := c6_I4.other W8 (Or.inr (os50 hw))
  have c9_Ft := c6_Ft.other W8 (Or.inl (ne_exa c6_E_m c6_E_i (by decide)))
  have c9_E_m := c6_E_m.wr W8
  have c9_V := c6_V.other W8 (Ne.symm (own_nea c6_E_i c6_V (ow hw 206 rfl)))
  have c9_E_n := c6_E_n.wr W8
  have c9_I3 := n5_I3.other W8 (Or.inr (os49 hw))
  have K8 := K5.wr W8 (Or.inl (List.mem_of_getElem? (i := 0) rfl))
  refine og T8 56 #[rv it, .unset, rv n2] [] (fun _ k => XS.ifnonnullNo X8.here hx rfl (hb hby od384) rfl k) ?_
  refine s_aloadN X8 hx (hb hby od385) rfl rfl  ?_
  obtain ⟨T10, X10, e10, st10⟩ := getF X8 hx hZ hown (host := "") (Or.inl (ow hw 218 rfl)) Via.refl e8 c9_I0 (g := (mkF m 57 #[rv it, .unset, rv n2] [.ref it])) rfl rfl (hb hby od386)
  refine og T10 60 #[rv it, .unset, rv n2] [.ref hm] st10 ?_
  obtain ⟨T11, X11, e11, st11⟩ := getF X10 hx hZ hown (host := "") (Or.inl (ow hw 224 rfl)) Via.refl e10 c9_Ft (g := (mkF m 60 #[rv it, .unset, rv n2] [.ref hm])) rfl rfl (hb hby od387)
  refine og T11 63 #[rv it, .unset, rv n2] [.ref tb] st11 ?_
  refine s_dup X11 hx (hb hby od388) rfl ?_
  refine og T11 65 #[rv it, rv tb, rv n2] [.ref tb] (fun _ k => XS.astoreN X11.here hx rfl (hb hby od389) rfl rfl (l' := #[rv it, rv tb, rv n2]) rfl k) ?_
  refine og T11 68 #[rv it, rv tb, rv n2] [] (fun _ k => XS.ifnullNo X11.here hx rfl (hb hby od390) rfl k) ?_
  refine s_aloadN X11 hx (hb hby od391) rfl rfl  ?_
  obtain ⟨T12, X12, e12, st12⟩ := getF X11 hx hZ hown (host := "") (Or.inl (ow hw 229 rfl)) Via.refl e11 c9_I4 (g := (mkF m 69 #[rv it, rv tb, rv n2] [.ref it])) rfl rfl (hb hby od392)
  refine og T12 72 #[rv it, rv tb, rv n2] [.int 3] st12 ?_
  refine s_aloadN X12 hx (hb hby od393) rfl rfl  ?_
  have vv13 := c9_V
  obtain ⟨cl13, Ar13, qa13, Sz13, Ng13, Ha13, Ga13⟩ := vv13
  refine og T12 74 #[rv it, rv tb, rv n2] [(.int cl13.slots.size.toInt32), .int 3] (fun _ k => X12.arraylength hx (by rw [e12]; exact Ar13.1) (State.isArrayOf_alike hZ.alike Ar13.2.1) (g := (mkF m 73 #[rv it, rv tb, rv n2] [.ref tb, .int 3])) rfl rfl (hb hby od394) _ k) ?_
  rw [len_of Sz13 Ng13]
  refine s_icmpN X12 hx (hb hby od395) (tlt (by decide)).2.1 ?_
  refine s_aloadN X12 hx (hb hby od396) rfl rfl  ?_
  refine s_aloadN X12 hx (hb hby od397) rfl rfl  ?_
  refine s_aloadN X12 hx (hb hby od398) rfl rfl  ?_
  refine s_dup X12 hx (hb hby od399) rfl ?_
  obtain ⟨T14, X14, e14, st14⟩ := getF X12 hx hZ hown (host := "") (Or.inl (ow hw 229 rfl)) Via.refl e12 c9_I4 (g := (mkF m 81 #[rv it, rv tb, rv n2] [.ref it, .ref it, .ref tb, .ref it])) rfl rfl (hb hby od400)
  refine og T14 84 #[rv it, rv tb, rv n2] [.int 3, .ref it, .ref tb, .ref it] st14 ?_
  refine og T14 85 #[rv it, rv tb, rv n2] [.int 3, .ref it, .int 3, .ref tb, .ref it] (fun _ k => XS.dupX1 X14.here hx rfl (hb hby od401) rfl rfl rfl k) ?_
  refine s_iconst 1 X14 hx (hb hby od402) rfl ?_
  refine og T14 87 #[rv it, rv tb, rv n2] [.int 4, .ref it, .int 3, .ref tb, .ref it] (fun _ k => XS.iadd X14.here hx rfl (hb hby od403) rfl k) ?_
  obtain ⟨T15, h15, X15, e15, W15, st15⟩ := putF X14 hx hZ hown (host := "") (Or.inl (ow hw 229 rfl)) Via.refl e14 c9_I4 c9_E_i (Or.inl (ow hw 230 rfl)) (ow hw 206 rfl) (ty := .int) (by decide) rfl rfl (g := (mkF m 87 #[rv it, rv tb, rv n2] [.int 4, .ref it, .int 3, .ref tb, .ref it])) rfl rfl (hb hby od404)
  have N15 := Fr.snoc X15 N8 g
  refine og T15 90 #[rv it, rv tb, rv n2] [.int 3, .ref tb, .ref it] st15 ?_
  have n15_I4 := c9_I4.same W15
  have c16_E_i := c9_E_i.wr W15
  have c16_I0 := c9_I0.other W15 (Or.inr (os57 hw))
  have c16_I1 := c9_I1.other W15 (Or.inr (os58 hw))
  have c16_E_m := c9_E_m.wr W15
  have c16_V := c9_V.other W15 (Ne.symm (own_nea c9_E_i c9_V (ow hw 206 rfl)))
  have c16_I3 := c9_I3.other W15 (Or.inr (os60 hw))
  have c16_I2 := n8_I2.other W15 (Or.inr (os59 hw))
  have K15 := K8.wr W15 (Or.inl (List.mem_of_getElem? (i := 0) rfl))
  have vv17 := c16_V
  obtain ⟨cl17, Ar17, qa17, Sz17, Ng17, Ha17, Ga17⟩ := vv17
  have hin17 : ¬ ((3 : Int32) < 0 ∨ cl17.slots.size ≤ ((3 : Int32)).toNatClampNeg) := inb_of Sz17 ⟨by decide, by decide⟩
  refine og T15 91 #[rv it, rv tb, rv n2] [.ref n3, .ref it] (fun _ k => X15.aaload hx (j := (3 : Int32)) (v := (.ref n3)) (by rw [e15]; exact Ar17.1) (State.isArrayOf_alike hZ.alike Ar17.2.1) rfl Ar17.2.2 hin17 (Ha17.at hin17 rfl) (g := (mkF m 90 #[rv it, rv tb, rv n2] [.int 3, .ref tb, .ref it])) rfl rfl (hb hby od405) _ k) ?_
  refine og T15 92 #[rv it, rv tb, rv n2] [.ref n3, .ref it, .ref n3] (fun _ k => XS.dupX1 X15.here hx rfl (hb hby od406) rfl rfl rfl k) ?_
  obtain ⟨T18, h18, X18, e18, W18, st18⟩ := putF X15 hx hZ hown (host := "") (Or.inl (ow hw 225 rfl)) Via.refl e15 c16_I2 c16_E_i (Or.inl (ow hw 226 rfl)) (ow hw 206 rfl) (ty := (.object "java/util/HashMap$Node")) (by decide) rfl rfl (g := (mkF m 92 #[rv it, rv tb, rv n2] [.ref n3, .ref it, .ref n3])) rfl rfl (hb hby od407)
  have N18 := Fr.snoc X18 N15 g
  refine og T18 95 #[rv it, rv tb, rv n2] [.ref n3] st18 ?_
  have n18_I2 := c16_I2.same W18
  have c19_E_i := c16_E_i.wr W18
  have c19_I0 := c16_I0.other W18 (Or.inr (os51 hw))
  have c19_I1 := c16_I1.other W18 (Or.inr (os52 hw))
  have c19_E_m := c16_E_m.wr W18
  have c19_V := c16_V.other W18 (Ne.symm (own_nea c16_E_i c16_V (ow hw 206 rfl)))
  have c19_I3 := c16_I3.other W18 (Or.inr (os49 hw))
  have c19_I4 := n15_I4.other W18 (Or.inr (os50 hw))
  have K18 := K15.wr W18 (Or.inl (List.mem_of_getElem? (i := 0) rfl))
  refine og T18 98 #[rv it, rv tb, rv n2] [] (fun _ k => XS.ifnullNo X18.here hx rfl (hb hby od408) rfl k) ?_
  refine s_aloadN X18 hx (hb hby od409) rfl rfl  ?_
  refine own_retA X18 hx hlk hret rfl rfl (hb hby od410) ?_ (by decide) (by decide)
  rw [e18]
  exact ⟨rfl, N18, K18, ⟨c19_E_i, c19_I0, c19_I1, n18_I2, c19_I3, c19_I4⟩⟩
set_option maxRecDepth 65536 in
set_option maxHeartbeats 40000000 in
theorem own_nxt2 (l : Launch) (Z : State) (a0 : Array Value) (hw : ∀ d ∈ tables_1, d.before a0 Z = true) (it : Addr) (hm : Addr) (tb : Addr) (k : ClassId) (n1 n2 n3 : Addr) (vl : Addr) (h0 : Heap) (n0 : Nat) (Z0 : n0 ≤ h0.size) (E_i : Exa Z h0 it "java/util/HashMap$ValueIterator") (I0 : Fld Z h0 it "java/util/HashMap$HashIterator" "this$0" "Ljava/util/HashMap;" (.ref hm)) (I1 : Fld Z h0 it "java/util/HashMap$HashIterator" "expectedModCount" "I" (.int 3)) (I2 : Fld Z h0 it "java/util/HashMap$HashIterator" "next" "Ljava/util/HashMap$Node;" (.ref n2)) (I3 : Fld Z h0 it "java/util/HashMap$HashIterator" "current" "Ljava/util/HashMap$Node;" (.ref n1)) (I4 : Fld Z h0 it "java/util/HashMap$HashIterator" "index" "I" (.int 3)) (Ft : Fld Z h0 hm "java/util/HashMap" "table" "[Ljava/util/HashMap$Node;" (.ref tb)) (Fo : Fld Z h0 hm "java/util/HashMap" "modCount" "I" (.int 3)) (E_m : Exa Z h0 hm "java/util/HashMap") (V : Arv Z h0 tb k (.object "java/util/HashMap$Node") 16 [.null, .ref n1, .ref n2, .ref n3, .null, .null, .null, .null, .null, .null, .null, .null, .null, .null, .null, .null] .null) (E_n : Exa Z h0 n2 "java/util/HashMap$Node") (Nx : Fld Z h0 n2 "java/util/HashMap$Node" "next" "Ljava/util/HashMap$Node;" .null) (Nv : Fld Z h0 n2 "java/util/HashMap$Node" "value" "Ljava/lang/Object;" (.ref vl)) (g : n0 ≤ it) :
    own_C l Z (⟨"java/util/HashMap$ValueIterator", "next", "()Ljava/lang/Object;"⟩ : MethodName) jdk_2569_method_2_code 1 (some (.object "java/lang/Object")) [] ({ frames := 1, cells := 0, slots := 0, locals := 14 } : Room) #[.ref it] h0 (own_Qu Z vl it hm (.ref n3) (.ref n2) (4 : Int32) h0 n0) := by
  refine MetFree.of_bodySF (plainFor_of_name own_pn12) hisR ?_
  intro p e s m args below meth c s₁ Bd hml hP hK
  obtain ⟨rfl, hZ, hh⟩ := hP
  obtain ⟨hx, hby, hlk, hret, hown, hnm, X0, e0⟩ := own_hd Bd hh
  have N0 := Fr.nil n0
  refine own_open (own_ef1 m it) ?_
  refine s_aloadN X0 hx (hb hby od411) rfl rfl  ?_
  obtain ⟨cq1, kq1, q1a, q1b, q1c⟩ := isOf hZ e0 (E_i)
  obtain ⟨_, _, ⟨T1, L1, k1, n1⟩, -, X1, ⟨Lc1, hQ1, l1, y1, z1⟩, st1⟩ := X0.virtualBackUp hx (owner := "java/util/HashMap$HashIterator") (x := (⟨"java/util/HashMap$ValueIterator", "nextNode", "()Ljava/util/HashMap$Node;"⟩ : MethodName)) (y := (⟨"java/util/HashMap$HashIterator", "nextNode", "()Ljava/util/HashMap$Node;"⟩ : MethodName)) hown (mvT hZ (ow hw 249 rfl)) (mvT hZ (ow hw 250 rfl)) (mvT hZ (ow hw 251 rfl)) (by decide) (mvT hZ (ow hw 253 rfl)) (mvT hZ (ow hw 252 rfl)) (backOf (W := 0) (own_nno2 l Z a0 hw it hm tb k n1 n2 n3 h0 n0 Z0 E_i I0 I1 I2 I3 I4 Ft Fo E_m V E_n Nx g) hZ (ow hw 254 rfl) (ow hw 216 rfl) (by decide) (by decide)) q1a q1c (g := (mkF m 1 #[rv it] [.ref it])) rfl (by rw [hml]; rfl) (Steps.refl _) (argsL := []) (rest := []) (lenOf own_pd15 rfl) rfl (by show 2 * 0 + _ ≤ _; exact Nat.le_of_eq rfl) (hb hby od412) (fun _ _ => ⟨rfl, e0, (by decide : 0 + 0 ≤ _), (by decide : 0 + 0 ≤ _)⟩)
  dsimp only [Pt.U, Pt.locs, Pt.cells, Pt.slots] at X1 l1 y1 z1 st1 hQ1
  subst y1 z1
  obtain ⟨rfl, N1q, Kc1, I1c⟩ := hQ1
  have N1 := frE l1 N0 N1q
  refine ov T1 4 #[rv it] [.ref n2] st1 ?_
  have Nv2 := Nv.keep Kc1 (ninS (ne_exa E_n E_i (by decide)) nin0)
  obtain ⟨T2, X2, e2, st2⟩ := getF X1 hx hZ hown (host := "") (Or.inl (ow hw 256 rfl)) Via.refl rfl Nv2 (g := (mkF m 4 #[rv it] [.ref n2])) rfl rfl (hb hby od413)
  refine og T2 7 #[rv it] [.ref vl] st2 ?_
  refine own_retA X2 hx hlk hret rfl rfl (hb hby od414) ?_ (by decide) (by decide)
  rw [e2]
  exact ⟨rfl, N1, Kc1, I1c⟩
set_option maxRecDepth 65536 in
set_option maxHeartbeats 40000000 in
theorem own_nno3 (l : Launch) (Z : State) (a0 : Array Value) (hw : ∀ d ∈ tables_1, d.before a0 Z = true) (it : Addr) (hm : Addr) (tb : Addr) (k : ClassId) (n1 n2 n3 : Addr) (h0 : Heap) (n0 : Nat) (Z0 : n0 ≤ h0.size) (E_i : Exa Z h0 it "java/util/HashMap$ValueIterator") (I0 : Fld Z h0 it "java/util/HashMap$HashIterator" "this$0" "Ljava/util/HashMap;" (.ref hm)) (I1 : Fld Z h0 it "java/util/HashMap$HashIterator" "expectedModCount" "I" (.int 3)) (I2 : Fld Z h0 it "java/util/HashMap$HashIterator" "next" "Ljava/util/HashMap$Node;" (.ref n3)) (I3 : Fld Z h0 it "java/util/HashMap$HashIterator" "current" "Ljava/util/HashMap$Node;" (.ref n2)) (I4 : Fld Z h0 it "java/util/HashMap$HashIterator" "index" "I" (.int 4)) (Ft : Fld Z h0 hm "java/util/HashMap" "table" "[Ljava/util/HashMap$Node;" (.ref tb)) (Fo : Fld Z h0 hm "java/util/HashMap" "modCount" "I" (.int 3)) (E_m : Exa Z h0 hm "java/util/HashMap") (V : Arv Z h0 tb k (.object "java/util/HashMap$Node") 16 [.null, .ref n1, .ref n2, .ref n3, .null, .null, .null, .null, .null, .null, .null, .null, .null, .null, .null, .null] .null) (E_n : Exa Z h0 n3 "java/util/HashMap$Node") (Nx : Fld Z h0 n3 "java/util/HashMap$Node" "next" "Ljava/util/HashMap$Node;" .null) (g : n0 ≤ it) :
    own_C l Z (⟨"java/util/HashMap$HashIterator", "nextNode", "()Ljava/util/HashMap$Node;"⟩ : MethodName) jdk_99_method_3_code 3 (some (.object "java/util/HashMap$Node")) [] ({ frames := 0, cells := 0, slots := 0, locals := 0 } : Room) #[.ref it] h0 (own_Qu Z n3 it hm .null (.ref n3) (16 : Int32) h0 n0) := by
  refine MetFree.of_bodySF (plainFor_of_name own_pn11) hisR ?_
  intro p e s m args below meth c s₁ Bd hml hP hK
  obtain ⟨rfl, hZ, hh⟩ := hP
  obtain ⟨hx, hby, hlk, hret, hown, hnm, X0, e0⟩ := own_hd Bd hh
  have N0 := Fr.nil n0
  refine own_open (own_ef12 m it) ?_
  refine s_aloadN X0 hx (hb hby od365) rfl rfl  ?_
  obtain ⟨T1, X1, e1, st1⟩ := getF X0 hx hZ hown (host := "") (Or.inl (ow hw 225 rfl)) Via.refl e0 I2 (g := (mkF m 1 #[rv it, .unset, .unset] [.ref it])) rfl rfl (hb hby od366)
  refine og T1 4 #[rv it, .unset, .unset] [.ref n3] st1 ?_
  refine og T1 5 #[rv it, .unset, rv n3] [] (fun _ k => XS.astoreN X1.here hx rfl (hb hby od367) rfl rfl (l' := #[rv it, .unset, rv n3]) rfl k) ?_
  refine s_aloadN X1 hx (hb hby od368) rfl rfl  ?_
  obtain ⟨T2, X2, e2, st2⟩ := getF X1 hx hZ hown (host := "") (Or.inl (ow hw 218 rfl)) Via.refl e1 I0 (g := (mkF m 6 #[rv it, .unset, rv n3] [.ref it])) rfl rfl (hb hby od369)
  refine og T2 9 #[rv it, .unset, rv n3] [.ref hm] st2 ?_
  obtain ⟨T3, X3, e3, st3⟩ := getF X2 hx hZ hown (host := "") (Or.inl (ow hw 221 rfl)) Via.refl e2 Fo (g := (mkF m 9 #[rv it, .unset, rv n3] [.ref hm])) rfl rfl (hb hby od370)
  refine og T3 12 #[rv it, .unset, rv n3] [.int 3] st3 ?_
  refine s_aloadN X3 hx (hb hby od371) rfl rfl  ?_
  obtain ⟨T4, X4, e4, st4⟩ := getF X3 hx hZ hown (host := "") (Or.inl (ow hw 222 rfl)) Via.refl e3 I1 (g := (mkF m 13 #[rv it, .unset, rv n3] [.ref it, .int 3])) rfl rfl (hb hby od372)
  refine og T4 16 #[rv it, .unset, rv n3] [.int 3, .int 3] st4 ?_
  refine s_icmpY 27 X4 hx (hb hby od373) (teq rfl).1 (by decide) (by decide) ?_
  refine s_aloadN X4 hx (hb hby od374) rfl rfl  ?_
  refine og T4 39 #[rv it, .unset, rv n3] [] (fun _ k => XS.ifnonnullYes X4.here hx rfl (pc0 := 28) (pc' := 39) rfl (hb hby od375) rfl (by decide) (by decide) k) ?_
  refine s_aloadN X4 hx (hb hby od376) rfl rfl  ?_
  refine s_aloadN X4 hx (hb hby od377) rfl rfl  ?_
  refine s_aloadN X4 hx (hb hby od378) rfl rfl  ?_
  refine og T4 43 #[rv it, .unset, rv n3] [.ref n3, .ref it, .ref n3, .ref it] (fun _ k => XS.dupX1 X4.here hx rfl (hb hby od379) rfl rfl rfl k) ?_
  obtain ⟨T5, h5, X5, e5, W5, st5⟩ := putF X4 hx hZ hown (host := "") (Or.inl (ow hw 227 rfl)) Via.refl e4 I3 E_i (Or.inl (ow hw 228 rfl)) (ow hw 206 rfl) (ty := (.object "java/util/HashMap$Node")) (by decide) rfl rfl (g := (mkF m 43 #[rv it, .unset, rv n3] [.ref n3, .ref it, .ref n3, .ref it])) rfl rfl (hb hby od380)
  have N5 := Fr.snoc X5 N0 g
  refine og T5 46 #[rv it, .unset, rv n3] [.ref n3, .ref it] st5 ?_
  have n5_I3 := I3.same W5
  have c6_E_i := E_i.wr W5
  have c6_I0 := I0.other W5 (Or.inr (os54 hw))
  have c6_I1 := I1.other W5 (Or.inr (os55 hw))
  have c6_I2 := I2.other W5 (Or.inr (os56 hw))
  have c6_I4 := I4.other W5 (Or.inr (os53 hw))
  have c6_Ft := Ft.other W5 (Or.inl (ne_exa E_m E_i (by decide)))
  have c6_E_m := E_m.wr W5
  have c6_V := V.other W5 (Ne.symm (own_nea E_i V (ow hw 206 rfl)))
  have c6_E_n := E_n.wr W5
  have c6_Nx := Nx.other W5 (Or.inl (ne_exa E_n E_i (by decide)))
  have K5 := (Keep.refl h0 [it]).wr W5 (Or.inl (List.mem_of_getElem? (i := 0) rfl))
  obtain ⟨T7, X7, e7, st7⟩ := getF X5 hx hZ hown (host := "") (Or.inl (ow hw 255 rfl)) Via.refl e5 c6_Nx (g := (mkF m 46 #[rv it, .unset, rv n3] [.ref n3, .ref it])) rfl rfl (hb hby od381)
  refine og T7 49 #[rv it, .unset, rv n3] [.null, .ref it] st7 ?_
  refine og T7 50 #[rv it, .unset, rv n3] [.null, .ref it, .null] (fun _ k => XS.dupX1 X7.here hx rfl (hb hby od382) rfl rfl rfl k) ?_
  obtain ⟨T8, h8, X8, e8, W8, st8⟩ := putF X7 hx hZ hown (host := "") (Or.inl (ow hw 225 rfl)) Via.refl e7 c6_I2 c6_E_i (Or.inl (ow hw 226 rfl)) (ow hw 206 rfl) (ty := (.object "java/util/HashMap$Node")) (by decide) rfl rfl (g := (mkF m 50 #[rv it, .unset, rv n3] [.null, .ref it, .null])) rfl rfl (hb hby od383)
  have N8 := Fr.snoc X8 N5 g
  refine og T8 53 #[rv it, .unset, rv n3] [.null] st8 ?_
  have n8_I2 := c6_I2.same W8
  have c9_E_i := c6_E_i.wr W8
  have c9_I0 := c6_I0.other W8 (Or.inr (os51 hw))
  have c9_I1 := c6_I1.other W8 (Or.inr (os52 hw))
  have c9_I4 := c6_I4.other W8 (Or.inr (os50 hw))
  have c9_Ft := c6_Ft.other W8 (Or.inl (ne_exa c6_E_m c6_E_i (by decide)))
  have c9_E_m := c6_E_m.wr W8
  have c9_V := c6_V.other W8 (Ne.symm (own_nea c6_E_i c6_V (ow hw 206 rfl)))
  have c9_E_n := c6_E_n.wr W8
  have c9_I3 := n5_I3.other W8 (Or.inr (os49 hw))
  have K8 := K5.wr W8 (Or.inl (List.mem_of_getElem? (i := 0) rfl))
  refine og T8 56 #[rv it, .unset, rv n3] [] (fun _ k => XS.ifnonnullNo X8.here hx rfl (hb hby od384) rfl k) ?_
  refine s_aloadN X8 hx (hb hby od385) rfl rfl  ?_
  obtain ⟨T10, X10, e10, st10⟩ := getF X8 hx hZ hown (host := "") (Or.inl (ow hw 218 rfl)) Via.refl e8 c9_I0 (g := (mkF m 57 #[rv it, .unset, rv n3] [.ref it])) rfl rfl (hb hby od386)
  refine og T10 60 #[rv it, .unset, rv n3] [.ref hm] st10 ?_
  obtain ⟨T11, X11, e11, st11⟩ := getF X10 hx hZ hown (host := "") (Or.inl (ow hw 224 rfl)) Via.refl e10 c9_Ft (g := (mkF m 60 #[rv it, .unset, rv n3] [.ref hm])) rfl rfl (hb hby od387)
  refine og T11 63 #[rv it, .unset, rv n3] [.ref tb] st11 ?_
  refine s_dup X11 hx (hb hby od388) rfl ?_
  refine og T11 65 #[rv it, rv tb, rv n3] [.ref tb] (fun _ k => XS.astoreN X11.here hx rfl (hb hby od389) rfl rfl (l' := #[rv it, rv tb, rv n3]) rfl k) ?_
  refine og T11 68 #[rv it, rv tb, rv n3] [] (fun _ k => XS.ifnullNo X11.here hx rfl (hb hby od390) rfl k) ?_
  refine s_aloadN X11 hx (hb hby od391) rfl rfl  ?_
  obtain ⟨T12, X12, e12, st12⟩ := getF X11 hx hZ hown (host := "") (Or.inl (ow hw 229 rfl)) Via.refl e11 c9_I4 (g := (mkF m 69 #[rv it, rv tb, rv n3] [.ref it])) rfl rfl (hb hby od392)
  refine og T12 72 #[rv it, rv tb, rv n3] [.int 4] st12 ?_
  refine s_aloadN X12 hx (hb hby od393) rfl rfl  ?_
  have vv13 := c9_V
  obtain ⟨cl13, Ar13, qa13, Sz13, Ng13, Ha13, Ga13⟩ := vv13
  refine og T12 74 #[rv it, rv tb, rv n3] [(.int cl13.slots.size.toInt32), .int 4] (fun _ k => X12.arraylength hx (by rw [e12]; exact Ar13.1) (State.isArrayOf_alike hZ.alike Ar13.2.1) (g := (mkF m 73 #[rv it, rv tb, rv n3] [.ref tb, .int 4])) rfl rfl (hb hby od394) _ k) ?_
  rw [len_of Sz13 Ng13]
  refine s_icmpN X12 hx (hb hby od395) (tlt (by decide)).2.1 ?_
  refine s_aloadN X12 hx (hb hby od396) rfl rfl  ?_
  refine s_aloadN X12 hx (hb hby od397) rfl rfl  ?_
  refine s_aloadN X12 hx (hb hby od398) rfl rfl  ?_
  refine s_dup X12 hx (hb hby od399) rfl ?_
  obtain ⟨T14, X14, e14, st14⟩ := getF X12 hx hZ hown (host := "") (Or.inl (ow hw 229 rfl)) Via.refl e12 c9_I4 (g := (mkF m 81 #[rv it, rv tb, rv n3] [.ref it, .ref it, .ref tb, .ref it])) rfl rfl (hb hby od400)
  refine og T14 84 #[rv it, rv tb, rv n3] [.int 4, .ref it, .ref tb, .ref it] st14 ?_
  refine og T14 85 #[rv it, rv tb, rv n3] [.int 4, .ref it, .int 4, .ref tb, .ref it] (fun _ k => XS.dupX1 X14.here hx rfl (hb hby od401) rfl rfl rfl k) ?_
  refine s_iconst 1 X14 hx (hb hby od402) rfl ?_
  refine og T14 87 #[rv it, rv tb, rv n3] [.int 5, .ref it, .int 4, .ref tb, .ref it] (fun _ k => XS.iadd X14.here hx rfl (hb hby od403) rfl k) ?_
  obtain ⟨T15, h15, X15, e15, W15, st15⟩ := putF X14 hx hZ hown (host := "") (Or.inl (ow hw 229 rfl)) Via.refl e14 c9_I4 c9_E_i (Or.inl (ow hw 230 rfl)) (ow hw 206 rfl) (ty := .int) (by decide) rfl rfl (g := (mkF m 87 #[rv it, rv tb, rv n3] [.int 5, .ref it, .int 4, .ref tb, .ref it])) rfl rfl (hb hby od404)
  have N15 := Fr.snoc X15 N8 g
  refine og T15 90 #[rv it, rv tb, rv n3] [.int 4, .ref tb, .ref it] st15 ?_
  have n15_I4 := c9_I4.same W15
  have c16_E_i := c9_E_i.wr W15
  have c16_I0 := c9_I0.other W15 (Or.inr (os57 hw))
  have c16_I1 := c9_I1.other W15 (Or.inr (os58 hw))
  have c16_E_m := c9_E_m.wr W15
  have c16_V := c9_V.other W15 (Ne.symm (own_nea c9_E_i c9_V (ow hw 206 rfl)))
  have c16_I3 := c9_I3.other W15 (Or.inr (os60 hw))
  have c16_I2 := n8_I2.other W15 (Or.inr (os59 hw))
  have K15 := K8.wr W15 (Or.inl (List.mem_of_getElem? (i := 0) rfl))
  have vv17 := c16_V
  obtain ⟨cl17, Ar17, qa17, Sz17, Ng17, Ha17, Ga17⟩ := vv17
  have hin17 : ¬ ((4 : Int32) < 0 ∨ cl17.slots.size ≤ ((4 : Int32)).toNatClampNeg) := inb_of Sz17 ⟨by decide, by decide⟩
  refine og T15 91 #[rv it, rv tb, rv n3] [.null, .ref it] (fun _ k => X15.aaload hx (j := (4 : Int32)) (v := .null) (by rw [e15]; exact Ar17.1) (State.isArrayOf_alike hZ.alike Ar17.2.1) rfl Ar17.2.2 hin17 (Ha17.at hin17 rfl) (g := (mkF m 90 #[rv it, rv tb, rv n3] [.int 4, .ref tb, .ref it])) rfl rfl (hb hby od405) _ k) ?_
  refine og T15 92 #[rv it, rv tb, rv n3] [.null, .ref it, .null] (fun _ k => XS.dupX1 X15.here hx rfl (hb hby od406) rfl rfl rfl k) ?_
  obtain ⟨T18, h18, X18, e18, W18, st18⟩ := putF X15 hx hZ hown (host := "") (Or.inl (ow hw 225 rfl)) Via.refl e15 c16_I2 c16_E_i (Or.inl (ow hw 226 rfl)) (ow hw 206 rfl) (ty := (.object "java/util/HashMap$Node")) (by decide) rfl rfl (g := (mkF m 92 #[rv it, rv tb, rv n3] [.null, .ref it, .null])) rfl rfl (hb hby od407)
  have N18 := Fr.snoc X18 N15 g
  refine og T18 95 #[rv it, rv tb, rv n3] [.null] st18 ?_
  have n18_I2 := c16_I2.same W18
  have c19_E_i := c16_E_i.wr W18
  have c19_I0 := c16_I0.other W18 (Or.inr (os51 hw))
  have c19_I1 := c16_I1.other W18 (Or.inr (os52 hw))
  have c19_E_m := c16_E_m.wr W18
  have c19_V := c16_V.other W18 (Ne.symm (own_nea c16_E_i c16_V (ow hw 206 rfl)))
  have c19_I3 := c16_I3.other W18 (Or.inr (os49 hw))
  have c19_I4 := n15_I4.other W18 (Or.inr (os50 hw))
  have K18 := K15.wr W18 (Or.inl (List.mem_of_getElem? (i := 0) rfl))
  refine og T18 68 #[rv it, rv tb, rv n3] [] (fun _ k => XS.ifnullYes X18.here hx rfl (pc0 := 95) (pc' := 68) rfl (hb hby od408) rfl (by decide) (by decide) k) ?_
  refine s_aloadN X18 hx (hb hby od391) rfl rfl  ?_
  obtain ⟨T20, X20, e20, st20⟩ := getF X18 hx hZ hown (host := "") (Or.inl (ow hw 229 rfl)) Via.refl e18 c19_I4 (g := (mkF m 69 #[rv it, rv tb, rv n3] [.ref it])) rfl rfl (hb hby od392)
  refine og T20 72 #[rv it, rv tb, rv n3] [.int 5] st20 ?_
  refine s_aloadN X20 hx (hb hby od393) rfl rfl  ?_
  have vv21 := c19_V
  obtain ⟨cl21, Ar21, qa21, Sz21, Ng21, Ha21, Ga21⟩ := vv21
  refine og T20 74 #[rv it, rv tb, rv n3] [(.int cl21.slots.size.toInt32), .int 5] (fun _ k => X20.arraylength hx (by rw [e20]; exact Ar21.1) (State.isArrayOf_alike hZ.alike Ar21.2.1) (g := (mkF m 73 #[rv it, rv tb, rv n3] [.ref tb, .int 5])) rfl rfl (hb hby od394) _ k) ?_
  rw [len_of Sz21 Ng21]
  refine s_icmpN X20 hx (hb hby od395) (tlt (by decide)).2.1 ?_
  refine s_aloadN X20 hx (hb hby od396) rfl rfl  ?_
  refine s_aloadN X20 hx (hb hby od397) rfl rfl  ?_
  refine s_aloadN X20 hx (hb hby od398) rfl rfl  ?_
  refine s_dup X20 hx (hb hby od399) rfl ?_
  obtain ⟨T22, X22, e22, st22⟩ := getF X20 hx hZ hown (host := "") (Or.inl (ow hw 229 rfl)) Via.refl e20 c19_I4 (g := (mkF m 81 #[rv it, rv tb, rv n3] [.ref it, .ref it, .ref tb, .ref it])) rfl rfl (hb hby od400)
  refine og T22 84 #[rv it, rv tb, rv n3] [.int 5, .ref it, .ref tb, .ref it] st22 ?_
  refine og T22 85 #[rv it, rv tb, rv n3] [.int 5, .ref it, .int 5, .ref tb, .ref it] (fun _ k => XS.dupX1 X22.here hx rfl (hb hby od401) rfl rfl rfl k) ?_
  refine s_iconst 1 X22 hx (hb hby od402) rfl ?_
  refine og T22 87 #[rv it, rv tb, rv n3] [.int 6, .ref it, .int 5, .ref tb, .ref it] (fun _ k => XS.iadd X22.here hx rfl (hb hby od403) rfl k) ?_
  obtain ⟨T23, h23, X23, e23, W23, st23⟩ := putF X22 hx hZ hown (host := "") (Or.inl (ow hw 229 rfl)) Via.refl e22 c19_I4 c19_E_i (Or.inl (ow hw 230 rfl)) (ow hw 206 rfl) (ty := .int) (by decide) rfl rfl (g := (mkF m 87 #[rv it, rv tb, rv n3] [.int 6, .ref it, .int 5, .ref tb, .ref it])) rfl rfl (hb hby od404)
  have N23 := Fr.snoc X23 N18 g
  refine og T23 90 #[rv it, rv tb, rv n3] [.int 5, .ref tb, .ref it] st23 ?_
  have n23_I4 := c19_I4.same W23
  have c24_E_i := c19_E_i.wr W23
  have c24_I0 := c19_I0.other W23 (Or.inr (os57 hw))
  have c24_I1 := c19_I1.other W23 (Or.inr (os58 hw))
  have c24_E_m := c19_E_m.wr W23
  have c24_V := c19_V.other W23 (Ne.symm (own_nea c19_E_i c19_V (ow hw 206 rfl)))
  have c24_I3 := c19_I3.other W23 (Or.inr (os60 hw))
  have c24_I2 := n18_I2.other W23 (Or.inr (os59 hw))
  have K23 := K18.wr W23 (Or.inl (List.mem_of_getElem? (i := 0) rfl))
  have vv25 := c24_V
  obtain ⟨cl25, Ar25, qa25, Sz25, Ng25, Ha25, Ga25⟩ := vv25
  have hin25 : ¬ ((5 : Int32) < 0 ∨ cl25.slots.size ≤ ((5 : Int32)).toNatClampNeg) := inb_of Sz25 ⟨by decide, by decide⟩
  refine og T23 91 #[rv it, rv tb, rv n3] [.null, .ref it] (fun _ k => X23.aaload hx (j := (5 : Int32)) (v := .null) (by rw [e23]; exact Ar25.1) (State.isArrayOf_alike hZ.alike Ar25.2.1) rfl Ar25.2.2 hin25 (Ha25.at hin25 rfl) (g := (mkF m 90 #[rv it, rv tb, rv n3] [.int 5, .ref tb, .ref it])) rfl rfl (hb hby od405) _ k) ?_
  refine og T23 92 #[rv it, rv tb, rv n3] [.null, .ref it, .null] (fun _ k => XS.dupX1 X23.here hx rfl (hb hby od406) rfl rfl rfl k) ?_
  obtain ⟨T26, h26, X26, e26, W26, st26⟩ := putF X23 hx hZ hown (host := "") (Or.inl (ow hw 225 rfl)) Via.refl e23 c24_I2 c24_E_i (Or.inl (ow hw 226 rfl)) (ow hw 206 rfl) (ty := (.object "java/util/HashMap$Node")) (by decide) rfl rfl (g := (mkF m 92 #[rv it, rv tb, rv n3] [.null, .ref it, .null])) rfl rfl (hb hby od407)
  have N26 := Fr.snoc X26 N23 g
  refine og T26 95 #[rv it, rv tb, rv n3] [.null] st26 ?_
  have n26_I2 := c24_I2.same W26
  have c27_E_i := c24_E_i.wr W26
  have c27_I0 := c24_I0.other W26 (Or.inr (os51 hw))
  have c27_I1 := c24_I1.other W26 (Or.inr (os52 hw))
  have c27_E_m := c24_E_m.wr W26
  have c27_V := c24_V.other W26 (Ne.symm (own_nea c24_E_i c24_V (ow hw 206 rfl)))
  have c27_I3 := c24_I3.other W26 (Or.inr (os49 hw))
  have c27_I4 := n23_I4.other W26 (Or.inr (os50 hw))
  have K26 := K23.wr W26 (Or.inl (List.mem_of_getElem? (i := 0) rfl))
  refine og T26 68 #[rv it, rv tb, rv n3] [] (fun _ k => XS.ifnullYes X26.here hx rfl (pc0 := 95) (pc' := 68) rfl (hb hby od408) rfl (by decide) (by decide) k) ?_
  refine s_aloadN X26 hx (hb hby od391) rfl rfl  ?_
  obtain ⟨T28, X28, e28, st28⟩ := getF X26 hx hZ hown (host := "") (Or.inl (ow hw 229 rfl)) Via.refl e26 c27_I4 (g := (mkF m 69 #[rv it, rv tb, rv n3] [.ref it])) rfl rfl (hb hby od392)
  refine og T28 72 #[rv it, rv tb, rv n3] [.int 6] st28 ?_
  refine s_aloadN X28 hx (hb hby od393) rfl rfl  ?_
  have vv29 := c27_V
  obtain ⟨cl29, Ar29, qa29, Sz29, Ng29, Ha29, Ga29⟩ := vv29
  refine og T28 74 #[rv it, rv tb, rv n3] [(.int cl29.slots.size.toInt32), .int 6] (fun _ k => X28.arraylength hx (by rw [e28]; exact Ar29.1) (State.isArrayOf_alike hZ.alike Ar29.2.1) (g := (mkF m 73 #[rv it, rv tb, rv n3] [.ref tb, .int 6])) rfl rfl (hb hby od394) _ k) ?_
  rw [len_of Sz29 Ng29]
  refine s_icmpN X28 hx (hb hby od395) (tlt (by decide)).2.1 ?_
  refine s_aloadN X28 hx (hb hby od396) rfl rfl  ?_
  refine s_aloadN X28 hx (hb hby od397) rfl rfl  ?_
  refine s_aloadN X28 hx (hb hby od398) rfl rfl  ?_
  refine s_dup X28 hx (hb hby od399) rfl ?_
  obtain ⟨T30, X30, e30, st30⟩ := getF X28 hx hZ hown (host := "") (Or.inl (ow hw 229 rfl)) Via.refl e28 c27_I4 (g := (mkF m 81 #[rv it, rv tb, rv n3] [.ref it, .ref it, .ref tb, .ref it])) rfl rfl (hb hby od400)
  refine og T30 84 #[rv it, rv tb, rv n3] [.int 6, .ref it, .ref tb, .ref it] st30 ?_
  refine og T30 85 #[rv it, rv tb, rv n3] [.int 6, .ref it, .int 6, .ref tb, .ref it] (fun _ k => XS.dupX1 X30.here hx rfl (hb hby od401) rfl rfl rfl k) ?_
  refine s_iconst 1 X30 hx (hb hby od402) rfl ?_
  refine og T30 87 #[rv it, rv tb, rv n3] [.int 7, .ref it, .int 6, .ref tb, .ref it] (fun _ k => XS.iadd X30.here hx rfl (hb hby od403) rfl k) ?_
  obtain ⟨T31, h31, X31, e31, W31, st31⟩ := putF X30 hx hZ hown (host := "") (Or.inl (ow hw 229 rfl)) Via.refl e30 c27_I4 c27_E_i (Or.inl (ow hw 230 rfl)) (ow hw 206 rfl) (ty := .int) (by decide) rfl rfl (g := (mkF m 87 #[rv it, rv tb, rv n3] [.int 7, .ref it, .int 6, .ref tb, .ref it])) rfl rfl (hb hby od404)
  have N31 := Fr.snoc X31 N26 g
  refine og T31 90 #[rv it, rv tb, rv n3] [.int 6, .ref tb, .ref it] st31 ?_
  have n31_I4 := c27_I4.same W31
  have c32_E_i := c27_E_i.wr W31
  have c32_I0 := c27_I0.other W31 (Or.inr (os57 hw))
  have c32_I1 := c27_I1.other W31 (Or.inr (os58 hw))
  have c32_E_m := c27_E_m.wr W31
  have c32_V := c27_V.other W31 (Ne.symm (own_nea c27_E_i c27_V (ow hw 206 rfl)))
  have c32_I3 := c27_I3.other W31 (Or.inr (os60 hw))
  have c32_I2 := n26_I2.other W31 (Or.inr (os59 hw))
  have K31 := K26.wr W31 (Or.inl (List.mem_of_getElem? (i := 0) rfl))
  have vv33 := c32_V
  obtain ⟨cl33, Ar33, qa33, Sz33, Ng33, Ha33, Ga33⟩ := vv33
  have hin33 : ¬ ((6 : Int32) < 0 ∨ cl33.slots.size ≤ ((6 : Int32)).toNatClampNeg) := inb_of Sz33 ⟨by decide, by decide⟩
  refine og T31 91 #[rv it, rv tb, rv n3] [.null, .ref it] (fun _ k => X31.aaload hx (j := (6 : Int32)) (v := .null) (by rw [e31]; exact Ar33.1) (State.isArrayOf_alike hZ.alike Ar33.2.1) rfl Ar33.2.2 hin33 (Ha33.at hin33 rfl) (g := (mkF m 90 #[rv it, rv tb, rv n3] [.int 6, .ref tb, .ref it])) rfl rfl (hb hby od405) _ k) ?_
  refine og T31 92 #[rv it, rv tb, rv n3] [.null, .ref it, .null] (fun _ k => XS.dupX1 X31.here hx rfl (hb hby od406) rfl rfl rfl k) ?_
  obtain ⟨T34, h34, X34, e34, W34, st34⟩ := putF X31 hx hZ hown (host := "") (Or.inl (ow hw 225 rfl)) Via.refl e31 c32_I2 c32_E_i (Or.inl (ow hw 226 rfl)) (ow hw 206 rfl) (ty := (.object "java/util/HashMap$Node")) (by decide) rfl rfl (g := (mkF m 92 #[rv it, rv tb, rv n3] [.null, .ref it, .null])) rfl rfl (hb hby od407)
  have N34 := Fr.snoc X34 N31 g
  refine og T34 95 #[rv it, rv tb, rv n3] [.null] st34 ?_
  have n34_I2 := c32_I2.same W34
  have c35_E_i := c32_E_i.wr W34
  have c35_I0 := c32_I0.other W34 (Or.inr (os51 hw))
  have c35_I1 := c32_I1.other W34 (Or.inr (os52 hw))
  have c35_E_m := c32_E_m.wr W34
  have c35_V := c32_V.other W34 (Ne.symm (own_nea c32_E_i c32_V (ow hw 206 rfl)))
  have c35_I3 := c32_I3.other W34 (Or.inr (os49 hw))
  have c35_I4 := n31_I4.other W34 (Or.inr (os50 hw))
  have K34 := K31.wr W34 (Or.inl (List.mem_of_getElem? (i := 0) rfl))
  refine og T34 68 #[rv it, rv tb, rv n3] [] (fun _ k => XS.ifnullYes X34.here hx rfl (pc0 := 95) (pc' := 68) rfl (hb hby od408) rfl (by decide) (by decide) k) ?_
  refine s_aloadN X34 hx (hb hby od391) rfl rfl  ?_
  obtain ⟨T36, X36, e36, st36⟩ := getF X34 hx hZ hown (host := "") (Or.inl (ow hw 229 rfl)) Via.refl e34 c35_I4 (g := (mkF m 69 #[rv it, rv tb, rv n3] [.ref it])) rfl rfl (hb hby od392)
  refine og T36 72 #[rv it, rv tb, rv n3] [.int 7] st36 ?_
  refine s_aloadN X36 hx (hb hby od393) rfl rfl  ?_
  have vv37 := c35_V
  obtain ⟨cl37, Ar37, qa37, Sz37, Ng37, Ha37, Ga37⟩ := vv37
  refine og T36 74 #[rv it, rv tb, rv n3] [(.int cl37.slots.size.toInt32), .int 7] (fun _ k => X36.arraylength hx (by rw [e36]; exact Ar37.1) (State.isArrayOf_alike hZ.alike Ar37.2.1) (g := (mkF m 73 #[rv it, rv tb, rv n3] [.ref tb, .int 7])) rfl rfl (hb hby od394) _ k) ?_
  rw [len_of Sz37 Ng37]
  refine s_icmpN X36 hx (hb hby od395) (tlt (by decide)).2.1 ?_
  refine s_aloadN X36 hx (hb hby od396) rfl rfl  ?_
  refine s_aloadN X36 hx (hb hby od397) rfl rfl  ?_
  refine s_aloadN X36 hx (hb hby od398) rfl rfl  ?_
  refine s_dup X36 hx (hb hby od399) rfl ?_
  obtain ⟨T38, X38, e38, st38⟩ := getF X36 hx hZ hown (host := "") (Or.inl (ow hw 229 rfl)) Via.refl e36 c35_I4 (g := (mkF m 81 #[rv it, rv tb, rv n3] [.ref it, .ref it, .ref tb, .ref it])) rfl rfl (hb hby od400)
  refine og T38 84 #[rv it, rv tb, rv n3] [.int 7, .ref it, .ref tb, .ref it] st38 ?_
  refine og T38 85 #[rv it, rv tb, rv n3] [.int 7, .ref it, .int 7, .ref tb, .ref it] (fun _ k => XS.dupX1 X38.here hx rfl (hb hby od401) rfl rfl rfl k) ?_
  refine s_iconst 1 X38 hx (hb hby od402) rfl ?_
  refine og T38 87 #[rv it, rv tb, rv n3] [.int 8, .ref it, .int 7, .ref tb, .ref it] (fun _ k => XS.iadd X38.here hx rfl (hb hby od403) rfl k) ?_
  obtain ⟨T39, h39, X39, e39, W39, st39⟩ := putF X38 hx hZ hown (host := "") (Or.inl (ow hw 229 rfl)) Via.refl e38 c35_I4 c35_E_i (Or.inl (ow hw 230 rfl)) (ow hw 206 rfl) (ty := .int) (by decide) rfl rfl (g := (mkF m 87 #[rv it, rv tb, rv n3] [.int 8, .ref it, .int 7, .ref tb, .ref it])) rfl rfl (hb hby od404)
  have N39 := Fr.snoc X39 N34 g
  refine og T39 90 #[rv it, rv tb, rv n3] [.int 7, .ref tb, .ref it] st39 ?_
  have n39_I4 := c35_I4.same W39
  have c40_E_i := c35_E_i.wr W39
  have c40_I0 := c35_I0.other W39 (Or.inr (os57 hw))
  have c40_I1 := c35_I1.other W39 (Or.inr (os58 hw))
  have c40_E_m := c35_E_m.wr W39
  have c40_V := c35_V.other W39 (Ne.symm (own_nea c35_E_i c35_V (ow hw 206 rfl)))
  have c40_I3 := c35_I3.other W39 (Or.inr (os60 hw))
  have c40_I2 := n34_I2.other W39 (Or.inr (os59 hw))
  have K39 := K34.wr W39 (Or.inl (List.mem_of_getElem? (i := 0) rfl))
  have vv41 := c40_V
  obtain ⟨cl41, Ar41, qa41, Sz41, Ng41, Ha41, Ga41⟩ := vv41
  have hin41 : ¬ ((7 : Int32) < 0 ∨ cl41.slots.size ≤ ((7 : Int32)).toNatClampNeg) := inb_of Sz41 ⟨by decide, by decide⟩
  refine og T39 91 #[rv it, rv tb, rv n3] [.null, .ref it] (fun _ k => X39.aaload hx (j := (7 : Int32)) (v := .null) (by rw [e39]; exact Ar41.1) (State.isArrayOf_alike hZ.alike Ar41.2.1) rfl Ar41.2.2 hin41 (Ha41.at hin41 rfl) (g := (mkF m 90 #[rv it, rv tb, rv n3] [.int 7, .ref tb, .ref it])) rfl rfl (hb hby od405) _ k) ?_
  refine og T39 92 #[rv it, rv tb, rv n3] [.null, .ref it, .null] (fun _ k => XS.dupX1 X39.here hx rfl (hb hby od406) rfl rfl rfl k) ?_
  obtain ⟨T42, h42, X42, e42, W42, st42⟩ := putF X39 hx hZ hown (host := "") (Or.inl (ow hw 225 rfl)) Via.refl e39 c40_I2 c40_E_i (Or.inl (ow hw 226 rfl)) (ow hw 206 rfl) (ty := (.object "java/util/HashMap$Node")) (by decide) rfl rfl (g := (mkF m 92 #[rv it, rv tb, rv n3] [.null, .ref it, .null])) rfl rfl (hb hby od407)
  have N42 := Fr.snoc X42 N39 g
  refine og T42 95 #[rv it, rv tb, rv n3] [.null] st42 ?_
  have n42_I2 := c40_I2.same W42
  have c43_E_i := c40_E_i.wr W42
  have c43_I0 := c40_I0.other W42 (Or.inr (os51 hw))
  have c43_I1 := c40_I1.other W42 (Or.inr (os52 hw))
  have c43_E_m := c40_E_m.wr W42
  have c43_V := c40_V.other W42 (Ne.symm (own_nea c40_E_i c40_V (ow hw 206 rfl)))
  have c43_I3 := c40_I3.other W42 (Or.inr (os49 hw))
  have c43_I4 := n39_I4.other W42 (Or.inr (os50 hw))
  have K42 := K39.wr W42 (Or.inl (List.mem_of_getElem? (i := 0) rfl))
  refine og T42 68 #[rv it, rv tb, rv n3] [] (fun _ k => XS.ifnullYes X42.here hx rfl (pc0 := 95) (pc' := 68) rfl (hb hby od408) rfl (by decide) (by decide) k) ?_
  refine s_aloadN X42 hx (hb hby od391) rfl rfl  ?_
  obtain ⟨T44, X44, e44, st44⟩ := getF X42 hx hZ hown (host := "") (Or.inl (ow hw 229 rfl)) Via.refl e42 c43_I4 (g := (mkF m 69 #[rv it, rv tb, rv n3] [.ref it])) rfl rfl (hb hby od392)
  refine og T44 72 #[rv it, rv tb, rv n3] [.int 8] st44 ?_
  refine s_aloadN X44 hx (hb hby od393) rfl rfl  ?_
  have vv45 := c43_V
  obtain ⟨cl45, Ar45, qa45, Sz45, Ng45, Ha45, Ga45⟩ := vv45
  refine og T44 74 #[rv it, rv tb, rv n3] [(.int cl45.slots.size.toInt32), .int 8] (fun _ k => X44.arraylength hx (by rw [e44]; exact Ar45.1) (State.isArrayOf_alike hZ.alike Ar45.2.1) (g := (mkF m 73 #[rv it, rv tb, rv n3] [.ref tb, .int 8])) rfl rfl (hb hby od394) _ k) ?_
  rw [len_of Sz45 Ng45]
  refine s_icmpN X44 hx (hb hby od395) (tlt (by decide)).2.1 ?_
  refine s_aloadN X44 hx (hb hby od396) rfl rfl  ?_
  refine s_aloadN X44 hx (hb hby od397) rfl rfl  ?_
  refine s_aloadN X44 hx (hb hby od398) rfl rfl  ?_
  refine s_dup X44 hx (hb hby od399) rfl ?_
  obtain ⟨T46, X46, e46, st46⟩ := getF X44 hx hZ hown (host := "") (Or.inl (ow hw 229 rfl)) Via.refl e44 c43_I4 (g := (mkF m 81 #[rv it, rv tb, rv n3] [.ref it, .ref it, .ref tb, .ref it])) rfl rfl (hb hby od400)
  refine og T46 84 #[rv it, rv tb, rv n3] [.int 8, .ref it, .ref tb, .ref it] st46 ?_
  refine og T46 85 #[rv it, rv tb, rv n3] [.int 8, .ref it, .int 8, .ref tb, .ref it] (fun _ k => XS.dupX1 X46.here hx rfl (hb hby od401) rfl rfl rfl k) ?_
  refine s_iconst 1 X46 hx (hb hby od402) rfl ?_
  refine og T46 87 #[rv it, rv tb, rv n3] [.int 9, .ref it, .int 8, .ref tb, .ref it] (fun _ k => XS.iadd X46.here hx rfl (hb hby od403) rfl k) ?_
  obtain ⟨T47, h47, X47, e47, W47, st47⟩ := putF X46 hx hZ hown (host := "") (Or.inl (ow hw 229 rfl)) Via.refl e46 c43_I4 c43_E_i (Or.inl (ow hw 230 rfl)) (ow hw 206 rfl) (ty := .int) (by decide) rfl rfl (g := (mkF m 87 #[rv it, rv tb, rv n3] [.int 9, .ref it, .int 8, .ref tb, .ref it])) rfl rfl (hb hby od404)
  have N47 := Fr.snoc X47 N42 g
  refine og T47 90 #[rv it, rv tb, rv n3] [.int 8, .ref tb, .ref it] st47 ?_
  have n47_I4 := c43_I4.same W47
  have c48_E_i := c43_E_i.wr W47
  have c48_I0 := c43_I0.other W47 (Or.inr (os57 hw))
  have c48_I1 := c43_I1.other W47 (Or.inr (os58 hw))
  have c48_E_m := c43_E_m.wr W47
  have c48_V := c43_V.other W47 (Ne.symm (own_nea c43_E_i c43_V (ow hw 206 rfl)))
  have c48_I3 := c43_I3.other W47 (Or.inr (os60 hw))
  have c48_I2 := n42_I2.other W47 (Or.inr (os59 hw))
  have K47 := K42.wr W47 (Or.inl (List.mem_of_getElem? (i := 0) rfl))
  have vv49 := c48_V
  obtain ⟨cl49, Ar49, qa49, Sz49, Ng49, Ha49, Ga49⟩ := vv49
  have hin49 : ¬ ((8 : Int32) < 0 ∨ cl49.slots.size ≤ ((8 : Int32)).toNatClampNeg) := inb_of Sz49 ⟨by decide, by decide⟩
  refine og T47 91 #[rv it, rv tb, rv n3] [.null, .ref it] (fun _ k => X47.aaload hx (j := (8 : Int32)) (v := .null) (by rw [e47]; exact Ar49.1) (State.isArrayOf_alike hZ.alike Ar49.2.1) rfl Ar49.2.2 hin49 (Ha49.at hin49 rfl) (g := (mkF m 90 #[rv it, rv tb, rv n3] [.int 8, .ref tb, .ref it])) rfl rfl (hb hby od405) _ k) ?_
  refine og T47 92 #[rv it, rv tb, rv n3] [.null, .ref it, .null] (fun _ k => XS.dupX1 X47.here hx rfl (hb hby od406) rfl rfl rfl k) ?_
  obtain ⟨T50, h50, X50, e50, W50, st50⟩ := putF X47 hx hZ hown (host := "") (Or.inl (ow hw 225 rfl)) Via.refl e47 c48_I2 c48_E_i (Or.inl (ow hw 226 rfl)) (ow hw 206 rfl) (ty := (.object "java/util/HashMap$Node")) (by decide) rfl rfl (g := (mkF m 92 #[rv it, rv tb, rv n3] [.null, .ref it, .null])) rfl rfl (hb hby od407)
  have N50 := Fr.snoc X50 N47 g
  refine og T50 95 #[rv it, rv tb, rv n3] [.null] st50 ?_
  have n50_I2 := c48_I2.same W50
  have c51_E_i := c48_E_i.wr W50
  have c51_I0 := c48_I0.other W50 (Or.inr (os51 hw))
  have c51_I1 := c48_I1.other W50 (Or.inr (os52 hw))
  have c51_E_m := c48_E_m.wr W50
  have c51_V := c48_V.other W50 (Ne.symm (own_nea c48_E_i c48_V (ow hw 206 rfl)))
  have c51_I3 := c48_I3.other W50 (Or.inr (os49 hw))
  have c51_I4 := n47_I4.other W50 (Or.inr (os50 hw))
  have K50 := K47.wr W50 (Or.inl (List.mem_of_getElem? (i := 0) rfl))
  refine og T50 68 #[rv it, rv tb, rv n3] [] (fun _ k => XS.ifnullYes X50.here hx rfl (pc0 := 95) (pc' := 68) rfl (hb hby od408) rfl (by decide) (by decide) k) ?_
  refine s_aloadN X50 hx (hb hby od391) rfl rfl  ?_
  obtain ⟨T52, X52, e52, st52⟩ := getF X50 hx hZ hown (host := "") (Or.inl (ow hw 229 rfl)) Via.refl e50 c51_I4 (g := (mkF m 69 #[rv it, rv tb, rv n3] [.ref it])) rfl rfl (hb hby od392)
  refine og T52 72 #[rv it, rv tb, rv n3] [.int 9] st52 ?_
  refine s_aloadN X52 hx (hb hby od393) rfl rfl  ?_
  have vv53 := c51_V
  obtain ⟨cl53, Ar53, qa53, Sz53, Ng53, Ha53, Ga53⟩ := vv53
  refine og T52 74 #[rv it, rv tb, rv n3] [(.int cl53.slots.size.toInt32), .int 9] (fun _ k => X52.arraylength hx (by rw [e52]; exact Ar53.1) (State.isArrayOf_alike hZ.alike Ar53.2.1) (g := (mkF m 73 #[rv it, rv tb, rv n3] [.ref tb, .int 9])) rfl rfl (hb hby od394) _ k) ?_
  rw [len_of Sz53 Ng53]
  refine s_icmpN X52 hx (hb hby od395) (tlt (by decide)).2.1 ?_
  refine s_aloadN X52 hx (hb hby od396) rfl rfl  ?_
  refine s_aloadN X52 hx (hb hby od397) rfl rfl  ?_
  refine s_aloadN X52 hx (hb hby od398) rfl rfl  ?_
  refine s_dup X52 hx (hb hby od399) rfl ?_
  obtain ⟨T54, X54, e54, st54⟩ := getF X52 hx hZ hown (host := "") (Or.inl (ow hw 229 rfl)) Via.refl e52 c51_I4 (g := (mkF m 81 #[rv it, rv tb, rv n3] [.ref it, .ref it, .ref tb, .ref it])) rfl rfl (hb hby od400)
  refine og T54 84 #[rv it, rv tb, rv n3] [.int 9, .ref it, .ref tb, .ref it] st54 ?_
  refine og T54 85 #[rv it, rv tb, rv n3] [.int 9, .ref it, .int 9, .ref tb, .ref it] (fun _ k => XS.dupX1 X54.here hx rfl (hb hby od401) rfl rfl rfl k) ?_
  refine s_iconst 1 X54 hx (hb hby od402) rfl ?_
  refine og T54 87 #[rv it, rv tb, rv n3] [.int 10, .ref it, .int 9, .ref tb, .ref it] (fun _ k => XS.iadd X54.here hx rfl (hb hby od403) rfl k) ?_
  obtain ⟨T55, h55, X55, e55, W55, st55⟩ := putF X54 hx hZ hown (host := "") (Or.inl (ow hw 229 rfl)) Via.refl e54 c51_I4 c51_E_i (Or.inl (ow hw 230 rfl)) (ow hw 206 rfl) (ty := .int) (by decide) rfl rfl (g := (mkF m 87 #[rv it, rv tb, rv n3] [.int 10, .ref it, .int 9, .ref tb, .ref it])) rfl rfl (hb hby od404)
  have N55 := Fr.snoc X55 N50 g
  refine og T55 90 #[rv it, rv tb, rv n3] [.int 9, .ref tb, .ref it] st55 ?_
  have n55_I4 := c51_I4.same W55
  have c56_E_i := c51_E_i.wr W55
  have c56_I0 := c51_I0.other W55 (Or.inr (os57 hw))
  have c56_I1 := c51_I1.other W55 (Or.inr (os58 hw))
  have c56_E_m := c51_E_m.wr W55
  have c56_V := c51_V.other W55 (Ne.symm (own_nea c51_E_i c51_V (ow hw 206 rfl)))
  have c56_I3 := c51_I3.other W55 (Or.inr (os60 hw))
  have c56_I2 := n50_I2.other W55 (Or.inr (os59 hw))
  have K55 := K50.wr W55 (Or.inl (List.mem_of_getElem? (i := 0) rfl))
  have vv57 := c56_V
  obtain ⟨cl57, Ar57, qa57, Sz57, Ng57, Ha57, Ga57⟩ := vv57
  have hin57 : ¬ ((9 : Int32) < 0 ∨ cl57.slots.size ≤ ((9 : Int32)).toNatClampNeg) := inb_of Sz57 ⟨by decide, by decide⟩
  refine og T55 91 #[rv it, rv tb, rv n3] [.null, .ref it] (fun _ k => X55.aaload hx (j := (9 : Int32)) (v := .null) (by rw [e55]; exact Ar57.1) (State.isArrayOf_alike hZ.alike Ar57.2.1) rfl Ar57.2.2 hin57 (Ha57.at hin57 rfl) (g := (mkF m 90 #[rv it, rv tb, rv n3] [.int 9, .ref tb, .ref it])) rfl rfl (hb hby od405) _ k) ?_
  refine og T55 92 #[rv it, rv tb, rv n3] [.null, .ref it, .null] (fun _ k => XS.dupX1 X55.here hx rfl (hb hby od406) rfl rfl rfl k) ?_
  obtain ⟨T58, h58, X58, e58, W58, st58⟩ := putF X55 hx hZ hown (host := "") (Or.inl (ow hw 225 rfl)) Via.refl e55 c56_I2 c56_E_i (Or.inl (ow hw 226 rfl)) (ow hw 206 rfl) (ty := (.object "java/util/HashMap$Node")) (by decide) rfl rfl (g := (mkF m 92 #[rv it, rv tb, rv n3] [.null, .ref it, .null])) rfl rfl (hb hby od407)
  have N58 := Fr.snoc X58 N55 g
  refine og T58 95 #[rv it, rv tb, rv n3] [.null] st58 ?_
  have n58_I2 := c56_I2.same W58
  have c59_E_i := c56_E_i.wr W58
  have c59_I0 := c56_I0.other W58 (Or.inr (os51 hw))
  have c59_I1 := c56_I1.other W58 (Or.inr (os52 hw))
  have c59_E_m := c56_E_m.wr W58
  have c59_V := c56_V.other W58 (Ne.symm (own_nea c56_E_i c56_V (ow hw 206 rfl)))
  have c59_I3 := c56_I3.other W58 (Or.inr (os49 hw))
  have c59_I4 := n55_I4.other W58 (Or.inr (os50 hw))
  have K58 := K55.wr W58 (Or.inl (List.mem_of_getElem? (i := 0) rfl))
  refine og T58 68 #[rv it, rv tb, rv n3] [] (fun _ k => XS.ifnullYes X58.here hx rfl (pc0 := 95) (pc' := 68) rfl (hb hby od408) rfl (by decide) (by decide) k) ?_
  refine s_aloadN X58 hx (hb hby od391) rfl rfl  ?_
  obtain ⟨T60, X60, e60, st60⟩ := getF X58 hx hZ hown (host := "") (Or.inl (ow hw 229 rfl)) Via.refl e58 c59_I4 (g := (mkF m 69 #[rv it, rv tb, rv n3] [.ref it])) rfl rfl (hb hby od392)
  refine og T60 72 #[rv it, rv tb, rv n3] [.int 10] st60 ?_
  refine s_aloadN X60 hx (hb hby od393) rfl rfl  ?_
  have vv61 := c59_V
  obtain ⟨cl61, Ar61, qa61, Sz61, Ng61, Ha61, Ga61⟩ := vv61
  refine og T60 74 #[rv it, rv tb, rv n3] [(.int cl61.slots.size.toInt32), .int 10] (fun _ k => X60.arraylength hx (by rw [e60]; exact Ar61.1) (State.isArrayOf_alike hZ.alike Ar61.2.1) (g := (mkF m 73 #[rv it, rv tb, rv n3] [.ref tb, .int 10])) rfl rfl (hb hby od394) _ k) ?_
  rw [len_of Sz61 Ng61]
  refine s_icmpN X60 hx (hb hby od395) (tlt (by decide)).2.1 ?_
  refine s_aloadN X60 hx (hb hby od396) rfl rfl  ?_
  refine s_aloadN X60 hx (hb hby od397) rfl rfl  ?_
  refine s_aloadN X60 hx (hb hby od398) rfl rfl  ?_
  refine s_dup X60 hx (hb hby od399) rfl ?_
  obtain ⟨T62, X62, e62, st62⟩ := getF X60 hx hZ hown (host := "") (Or.inl (ow hw 229 rfl)) Via.refl e60 c59_I4 (g := (mkF m 81 #[rv it, rv tb, rv n3] [.ref it, .ref it, .ref tb, .ref it])) rfl rfl (hb hby od400)
  refine og T62 84 #[rv it, rv tb, rv n3] [.int 10, .ref it, .ref tb, .ref it] st62 ?_
  refine og T62 85 #[rv it, rv tb, rv n3] [.int 10, .ref it, .int 10, .ref tb, .ref it] (fun _ k => XS.dupX1 X62.here hx rfl (hb hby od401) rfl rfl rfl k) ?_
  refine s_iconst 1 X62 hx (hb hby od402) rfl ?_
  refine og T62 87 #[rv it, rv tb, rv n3] [.int 11, .ref it, .int 10, .ref tb, .ref it] (fun _ k => XS.iadd X62.here hx rfl (hb hby od403) rfl k) ?_
  obtain ⟨T63, h63, X63, e63, W63, st63⟩ := putF X62 hx hZ hown (host := "") (Or.inl (ow hw 229 rfl)) Via.refl e62 c59_I4 c59_E_i (Or.inl (ow hw 230 rfl)) (ow hw 206 rfl) (ty := .int) (by decide) rfl rfl (g := (mkF m 87 #[rv it, rv tb, rv n3] [.int 11, .ref it, .int 10, .ref tb, .ref it])) rfl rfl (hb hby od404)
  have N63 := Fr.snoc X63 N58 g
  refine og T63 90 #[rv it, rv tb, rv n3] [.int 10, .ref tb, .ref it] st63 ?_
  have n63_I4 := c59_I4.same W63
  have c64_E_i := c59_E_i.wr W63
  have c64_I0 := c59_I0.other W63 (Or.inr (os57 hw))
  have c64_I1 := c59_I1.other W63 (Or.inr (os58 hw))
  have c64_E_m := c59_E_m.wr W63
  have c64_V := c59_V.other W63 (Ne.symm (own_nea c59_E_i c59_V (ow hw 206 rfl)))
  have c64_I3 := c59_I3.other W63 (Or.inr (os60 hw))
  have c64_I2 := n58_I2.other W63 (Or.inr (os59 hw))
  have K63 := K58.wr W63 (Or.inl (List.mem_of_getElem? (i := 0) rfl))
  have vv65 := c64_V
  obtain ⟨cl65, Ar65, qa65, Sz65, Ng65, Ha65, Ga65⟩ := vv65
  have hin65 : ¬ ((10 : Int32) < 0 ∨ cl65.slots.size ≤ ((10 : Int32)).toNatClampNeg) := inb_of Sz65 ⟨by decide, by decide⟩
  refine og T63 91 #[rv it, rv tb, rv n3] [.null, .ref it] (fun _ k => X63.aaload hx (j := (10 : Int32)) (v := .null) (by rw [e63]; exact Ar65.1) (State.isArrayOf_alike hZ.alike Ar65.2.1) rfl Ar65.2.2 hin65 (Ha65.at hin65 rfl) (g := (mkF m 90 #[rv it, rv tb, rv n3] [.int 10, .ref tb, .ref it])) rfl rfl (hb hby od405) _ k) ?_
  refine og T63 92 #[rv it, rv tb, rv n3] [.null, .ref it, .null] (fun _ k => XS.dupX1 X63.here hx rfl (hb hby od406) rfl rfl rfl k) ?_
  obtain ⟨T66, h66, X66, e66, W66, st66⟩ := putF X63 hx hZ hown (host := "") (Or.inl (ow hw 225 rfl)) Via.refl e63 c64_I2 c64_E_i (Or.inl (ow hw 226 rfl)) (ow hw 206 rfl) (ty := (.object "java/util/HashMap$Node")) (by decide) rfl rfl (g := (mkF m 92 #[rv it, rv tb, rv n3] [.null, .ref it, .null])) rfl rfl (hb hby od407)
  have N66 := Fr.snoc X66 N63 g
  refine og T66 95 #[rv it, rv tb, rv n3] [.null] st66 ?_
  have n66_I2 := c64_I2.same W66
  have c67_E_i := c64_E_i.wr W66
  have c67_I0 := c64_I0.other W66 (Or.inr (os51 hw))
  have c67_I1 := c64_I1.other W66 (Or.inr (os52 hw))
  have c67_E_m := c64_E_m.wr W66
  have c67_V := c64_V.other W66 (Ne.symm (own_nea c64_E_i c64_V (ow hw 206 rfl)))
  have c67_I3 := c64_I3.other W66 (Or.inr (os49 hw))
  have c67_I4 := n63_I4.other W66 (Or.inr (os50 hw))
  have K66 := K63.wr W66 (Or.inl (List.mem_of_getElem? (i := 0) rfl))
  refine og T66 68 #[rv it, rv tb, rv n3] [] (fun _ k => XS.ifnullYes X66.here hx rfl (pc0 := 95) (pc' := 68) rfl (hb hby od408) rfl (by decide) (by decide) k) ?_
  refine s_aloadN X66 hx (hb hby od391) rfl rfl  ?_
  obtain ⟨T68, X68, e68, st68⟩ := getF X66 hx hZ hown (host := "") (Or.inl (ow hw 229 rfl)) Via.refl e66 c67_I4 (g := (mkF m 69 #[rv it, rv tb, rv n3] [.ref it])) rfl rfl (hb hby od392)
  refine og T68 72 #[rv it, rv tb, rv n3] [.int 11] st68 ?_
  refine s_aloadN X68 hx (hb hby od393) rfl rfl  ?_
  have vv69 := c67_V
  obtain ⟨cl69, Ar69, qa69, Sz69, Ng69, Ha69, Ga69⟩ := vv69
  refine og T68 74 #[rv it, rv tb, rv n3] [(.int cl69.slots.size.toInt32), .int 11] (fun _ k => X68.arraylength hx (by rw [e68]; exact Ar69.1) (State.isArrayOf_alike hZ.alike Ar69.2.1) (g := (mkF m 73 #[rv it, rv tb, rv n3] [.ref tb, .int 11])) rfl rfl (hb hby od394) _ k) ?_
  rw [len_of Sz69 Ng69]
  refine s_icmpN X68 hx (hb hby od395) (tlt (by decide)).2.1 ?_
  refine s_aloadN X68 hx (hb hby od396) rfl rfl  ?_
  refine s_aloadN X68 hx (hb hby od397) rfl rfl  ?_
  refine s_aloadN X68 hx (hb hby od398) rfl rfl  ?_
  refine s_dup X68 hx (hb hby od399) rfl ?_
  obtain ⟨T70, X70, e70, st70⟩ := getF X68 hx hZ hown (host := "") (Or.inl (ow hw 229 rfl)) Via.refl e68 c67_I4 (g := (mkF m 81 #[rv it, rv tb, rv n3] [.ref it, .ref it, .ref tb, .ref it])) rfl rfl (hb hby od400)
  refine og T70 84 #[rv it, rv tb, rv n3] [.int 11, .ref it, .ref tb, .ref it] st70 ?_
  refine og T70 85 #[rv it, rv tb, rv n3] [.int 11, .ref it, .int 11, .ref tb, .ref it] (fun _ k => XS.dupX1 X70.here hx rfl (hb hby od401) rfl rfl rfl k) ?_
  refine s_iconst 1 X70 hx (hb hby od402) rfl ?_
  refine og T70 87 #[rv it, rv tb, rv n3] [.int 12, .ref it, .int 11, .ref tb, .ref it] (fun _ k => XS.iadd X70.here hx rfl (hb hby od403) rfl k) ?_
  obtain ⟨T71, h71, X71, e71, W71, st71⟩ := putF X70 hx hZ hown (host := "") (Or.inl (ow hw 229 rfl)) Via.refl e70 c67_I4 c67_E_i (Or.inl (ow hw 230 rfl)) (ow hw 206 rfl) (ty := .int) (by decide) rfl rfl (g := (mkF m 87 #[rv it, rv tb, rv n3] [.int 12, .ref it, .int 11, .ref tb, .ref it])) rfl rfl (hb hby od404)
  have N71 := Fr.snoc X71 N66 g
  refine og T71 90 #[rv it, rv tb, rv n3] [.int 11, .ref tb, .ref it] st71 ?_
  have n71_I4 := c67_I4.same W71
  have c72_E_i := c67_E_i.wr W71
  have c72_I0 := c67_I0.other W71 (Or.inr (os57 hw))
  have c72_I1 := c67_I1.other W71 (Or.inr (os58 hw))
  have c72_E_m := c67_E_m.wr W71
  have c72_V := c67_V.other W71 (Ne.symm (own_nea c67_E_i c67_V (ow hw 206 rfl)))
  have c72_I3 := c67_I3.other W71 (Or.inr (os60 hw))
  have c72_I2 := n66_I2.other W71 (Or.inr (os59 hw))
  have K71 := K66.wr W71 (Or.inl (List.mem_of_getElem? (i := 0) rfl))
  have vv73 := c72_V
  obtain ⟨cl73, Ar73, qa73, Sz73, Ng73, Ha73, Ga73⟩ := vv73
  have hin73 : ¬ ((11 : Int32) < 0 ∨ cl73.slots.size ≤ ((11 : Int32)).toNatClampNeg) := inb_of Sz73 ⟨by decide, by decide⟩
  refine og T71 91 #[rv it, rv tb, rv n3] [.null, .ref it] (fun _ k => X71.aaload hx (j := (11 : Int32)) (v := .null) (by rw [e71]; exact Ar73.1) (State.isArrayOf_alike hZ.alike Ar73.2.1) rfl Ar73.2.2 hin73 (Ha73.at hin73 rfl) (g := (mkF m 90 #[rv it, rv tb, rv n3] [.int 11, .ref tb, .ref it])) rfl rfl (hb hby od405) _ k) ?_
  refine og T71 92 #[rv it, rv tb, rv n3] [.null, .ref it, .null] (fun _ k => XS.dupX1 X71.here hx rfl (hb hby od406) rfl rfl rfl k) ?_
  obtain ⟨T74, h74, X74, e74, W74, st74⟩ := putF X71 hx hZ hown (host := "") (Or.inl (ow hw 225 rfl)) Via.refl e71 c72_I2 c72_E_i (Or.inl (ow hw 226 rfl)) (ow hw 206 rfl) (ty := (.object "java/util/HashMap$Node")) (by decide) rfl rfl (g := (mkF m 92 #[rv it, rv tb, rv n3] [.null, .ref it, .null])) rfl rfl (hb hby od407)
  have N74 := Fr.snoc X74 N71 g
  refine og T74 95 #[rv it, rv tb, rv n3] [.null] st74 ?_
  have n74_I2 := c72_I2.same W74
  have c75_E_i := c72_E_i.wr W74
  have c75_I0 := c72_I0.other W74 (Or.inr (os51 hw))
  have c75_I1 := c72_I1.other W74 (Or.inr (os52 hw))
  have c75_E_m := c72_E_m.wr W74
  have c75_V := c72_V.other W74 (Ne.symm (own_nea c72_E_i c72_V (ow hw 206 rfl)))
  have c75_I3 := c72_I3.other W74 (Or.inr (os49 hw))
  have c75_I4 := n71_I4.other W74 (Or.inr (os50 hw))
  have K74 := K71.wr W74 (Or.inl (List.mem_of_getElem? (i := 0) rfl))
  refine og T74 68 #[rv it, rv tb, rv n3] [] (fun _ k => XS.ifnullYes X74.here hx rfl (pc0 := 95) (pc' := 68) rfl (hb hby od408) rfl (by decide) (by decide) k) ?_
  refine s_aloadN X74 hx (hb hby od391) rfl rfl  ?_
  obtain ⟨T76, X76, e76, st76⟩ := getF X74 hx hZ hown (host := "") (Or.inl (ow hw 229 rfl)) Via.refl e74 c75_I4 (g := (mkF m 69 #[rv it, rv tb, rv n3] [.ref it])) rfl rfl (hb hby od392)
  refine og T76 72 #[rv it, rv tb, rv n3] [.int 12] st76 ?_
  refine s_aloadN X76 hx (hb hby od393) rfl rfl  ?_
  have vv77 := c75_V
  obtain ⟨cl77, Ar77, qa77, Sz77, Ng77, Ha77, Ga77⟩ := vv77
  refine og T76 74 #[rv it, rv tb, rv n3] [(.int cl77.slots.size.toInt32), .int 12] (fun _ k => X76.arraylength hx (by rw [e76]; exact Ar77.1) (State.isArrayOf_alike hZ.alike Ar77.2.1) (g := (mkF m 73 #[rv it, rv tb, rv n3] [.ref tb, .int 12])) rfl rfl (hb hby od394) _ k) ?_
  rw [len_of Sz77 Ng77]
  refine s_icmpN X76 hx (hb hby od395) (tlt (by decide)).2.1 ?_
  refine s_aloadN X76 hx (hb hby od396) rfl rfl  ?_
  refine s_aloadN X76 hx (hb hby od397) rfl rfl  ?_
  refine s_aloadN X76 hx (hb hby od398) rfl rfl  ?_
  refine s_dup X76 hx (hb hby od399) rfl ?_
  obtain ⟨T78, X78, e78, st78⟩ := getF X76 hx hZ hown (host := "") (Or.inl (ow hw 229 rfl)) Via.refl e76 c75_I4 (g := (mkF m 81 #[rv it, rv tb, rv n3] [.ref it, .ref it, .ref tb, .ref it])) rfl rfl (hb hby od400)
  refine og T78 84 #[rv it, rv tb, rv n3] [.int 12, .ref it, .ref tb, .ref it] st78 ?_
  refine og T78 85 #[rv it, rv tb, rv n3] [.int 12, .ref it, .int 12, .ref tb, .ref it] (fun _ k => XS.dupX1 X78.here hx rfl (hb hby od401) rfl rfl rfl k) ?_
  refine s_iconst 1 X78 hx (hb hby od402) rfl ?_
  refine og T78 87 #[rv it, rv tb, rv n3] [.int 13, .ref it, .int 12, .ref tb, .ref it] (fun _ k => XS.iadd X78.here hx rfl (hb hby od403) rfl k) ?_
  obtain ⟨T79, h79, X79, e79, W79, st79⟩ := putF X78 hx hZ hown (host := "") (Or.inl (ow hw 229 rfl)) Via.refl e78 c75_I4 c75_E_i (Or.inl (ow hw 230 rfl)) (ow hw 206 rfl) (ty := .int) (by decide) rfl rfl (g := (mkF m 87 #[rv it, rv tb, rv n3] [.int 13, .ref it, .int 12, .ref tb, .ref it])) rfl rfl (hb hby od404)
  have N79 := Fr.snoc X79 N74 g
  refine og T79 90 #[rv it, rv tb, rv n3] [.int 12, .ref tb, .ref it] st79 ?_
  have n79_I4 := c75_I4.same W79
  have c80_E_i := c75_E_i.wr W79
  have c80_I0 := c75_I0.other W79 (Or.inr (os57 hw))
  have c80_I1 := c75_I1.other W79 (Or.inr (os58 hw))
  have c80_E_m := c75_E_m.wr W79
  have c80_V := c75_V.other W79 (Ne.symm (own_nea c75_E_i c75_V (ow hw 206 rfl)))
  have c80_I3 := c75_I3.other W79 (Or.inr (os60 hw))
  have c80_I2 := n74_I2.other W79 (Or.inr (os59 hw))
  have K79 := K74.wr W79 (Or.inl (List.mem_of_getElem? (i := 0) rfl))
  have vv81 := c80_V
  obtain ⟨cl81, Ar81, qa81, Sz81, Ng81, Ha81, Ga81⟩ := vv81
  have hin81 : ¬ ((12 : Int32) < 0 ∨ cl81.slots.size ≤ ((12 : Int32)).toNatClampNeg) := inb_of Sz81 ⟨by decide, by decide⟩
  refine og T79 91 #[rv it, rv tb, rv n3] [.null, .ref it] (fun _ k => X79.aaload hx (j := (12 : Int32)) (v := .null) (by rw [e79]; exact Ar81.1) (State.isArrayOf_alike hZ.alike Ar81.2.1) rfl Ar81.2.2 hin81 (Ha81.at hin81 rfl) (g := (mkF m 90 #[rv it, rv tb, rv n3] [.int 12, .ref tb, .ref it])) rfl rfl (hb hby od405) _ k) ?_
  refine og T79 92 #[rv it, rv tb, rv n3] [.null, .ref it, .null] (fun _ k => XS.dupX1 X79.here hx rfl (hb hby od406) rfl rfl rfl k) ?_
  obtain ⟨T82, h82, X82, e82, W82, st82⟩ := putF X79 hx hZ hown (host := "") (Or.inl (ow hw 225 rfl)) Via.refl e79 c80_I2 c80_E_i (Or.inl (ow hw 226 rfl)) (ow hw 206 rfl) (ty := (.object "java/util/HashMap$Node")) (by decide) rfl rfl (g := (mkF m 92 #[rv it, rv tb, rv n3] [.null, .ref it, .null])) rfl rfl (hb hby od407)
  have N82 := Fr.snoc X82 N79 g
  refine og T82 95 #[rv it, rv tb, rv n3] [.null] st82 ?_
  have n82_I2 := c80_I2.same W82
  have c83_E_i := c80_E_i.wr W82
  have c83_I0 := c80_I0.other W82 (Or.inr (os51 hw))
  have c83_I1 := c80_I1.other W82 (Or.inr (os52 hw))
  have c83_E_m := c80_E_m.wr W82
  have c83_V := c80_V.other W82 (Ne.symm (own_nea c80_E_i c80_V (ow hw 206 rfl)))
  have c83_I3 := c80_I3.other W82 (Or.inr (os49 hw))
  have c83_I4 := n79_I4.other W82 (Or.inr (os50 hw))
  have K82 := K79.wr W82 (Or.inl (List.mem_of_getElem? (i := 0) rfl))
  refine og T82 68 #[rv it, rv tb, rv n3] [] (fun _ k => XS.ifnullYes X82.here hx rfl (pc0 := 95) (pc' := 68) rfl (hb hby od408) rfl (by decide) (by decide) k) ?_
  refine s_aloadN X82 hx (hb hby od391) rfl rfl  ?_
  obtain ⟨T84, X84, e84, st84⟩ := getF X82 hx hZ hown (host := "") (Or.inl (ow hw 229 rfl)) Via.refl e82 c83_I4 (g := (mkF m 69 #[rv it, rv tb, rv n3] [.ref it])) rfl rfl (hb hby od392)
  refine og T84 72 #[rv it, rv tb, rv n3] [.int 13] st84 ?_
  refine s_aloadN X84 hx (hb hby od393) rfl rfl  ?_
  have vv85 := c83_V
  obtain ⟨cl85, Ar85, qa85, Sz85, Ng85, Ha85, Ga85⟩ := vv85
  refine og T84 74 #[rv it, rv tb, rv n3] [(.int cl85.slots.size.toInt32), .int 13] (fun _ k => X84.arraylength hx (by rw [e84]; exact Ar85.1) (State.isArrayOf_alike hZ.alike Ar85.2.1) (g := (mkF m 73 #[rv it, rv tb, rv n3] [.ref tb, .int 13])) rfl rfl (hb hby od394) _ k) ?_
  rw [len_of Sz85 Ng85]
  refine s_icmpN X84 hx (hb hby od395) (tlt (by decide)).2.1 ?_
  refine s_aloadN X84 hx (hb hby od396) rfl rfl  ?_
  refine s_aloadN X84 hx (hb hby od397) rfl rfl  ?_
  refine s_aloadN X84 hx (hb hby od398) rfl rfl  ?_
  refine s_dup X84 hx (hb hby od399) rfl ?_
  obtain ⟨T86, X86, e86, st86⟩ := getF X84 hx hZ hown (host := "") (Or.inl (ow hw 229 rfl)) Via.refl e84 c83_I4 (g := (mkF m 81 #[rv it, rv tb, rv n3] [.ref it, .ref it, .ref tb, .ref it])) rfl rfl (hb hby od400)
  refine og T86 84 #[rv it, rv tb, rv n3] [.int 13, .ref it, .ref tb, .ref it] st86 ?_
  refine og T86 85 #[rv it, rv tb, rv n3] [.int 13, .ref it, .int 13, .ref tb, .ref it] (fun _ k => XS.dupX1 X86.here hx rfl (hb hby od401) rfl rfl rfl k) ?_
  refine s_iconst 1 X86 hx (hb hby od402) rfl ?_
  refine og T86 87 #[rv it, rv tb, rv n3] [.int 14, .ref it, .int 13, .ref tb, .ref it] (fun _ k => XS.iadd X86.here hx rfl (hb hby od403) rfl k) ?_
  obtain ⟨T87, h87, X87, e87, W87, st87⟩ := putF X86 hx hZ hown (host := "") (Or.inl (ow hw 229 rfl)) Via.refl e86 c83_I4 c83_E_i (Or.inl (ow hw 230 rfl)) (ow hw 206 rfl) (ty := .int) (by decide) rfl rfl (g := (mkF m 87 #[rv it, rv tb, rv n3] [.int 14, .ref it, .int 13, .ref tb, .ref it])) rfl rfl (hb hby od404)
  have N87 := Fr.snoc X87 N82 g
  refine og T87 90 #[rv it, rv tb, rv n3] [.int 13, .ref tb, .ref it] st87 ?_
  have n87_I4 := c83_I4.same W87
  have c88_E_i := c83_E_i.wr W87
  have c88_I0 := c83_I0.other W87 (Or.inr (os57 hw))
  have c88_I1 := c83_I1.other W87 (Or.inr (os58 hw))
  have c88_E_m := c83_E_m.wr W87
  have c88_V := c83_V.other W87 (Ne.symm (own_nea c83_E_i c83_V (ow hw 206 rfl)))
  have c88_I3 := c83_I3.other W87 (Or.inr (os60 hw))
  have c88_I2 := n82_I2.other W87 (Or.inr (os59 hw))
  have K87 := K82.wr W87 (Or.inl (List.mem_of_getElem? (i := 0) rfl))
  have vv89 := c88_V
  obtain ⟨cl89, Ar89, qa89, Sz89, Ng89, Ha89, Ga89⟩ := vv89
  have hin89 : ¬ ((13 : Int32) < 0 ∨ cl89.slots.size ≤ ((13 : Int32)).toNatClampNeg) := inb_of Sz89 ⟨by decide, by decide⟩
  refine og T87 91 #[rv it, rv tb, rv n3] [.null, .ref it] (fun _ k => X87.aaload hx (j := (13 : Int32)) (v := .null) (by rw [e87]; exact Ar89.1) (State.isArrayOf_alike hZ.alike Ar89.2.1) rfl Ar89.2.2 hin89 (Ha89.at hin89 rfl) (g := (mkF m 90 #[rv it, rv tb, rv n3] [.int 13, .ref tb, .ref it])) rfl rfl (hb hby od405) _ k) ?_
  refine og T87 92 #[rv it, rv tb, rv n3] [.null, .ref it, .null] (fun _ k => XS.dupX1 X87.here hx rfl (hb hby od406) rfl rfl rfl k) ?_
  obtain ⟨T90, h90, X90, e90, W90, st90⟩ := putF X87 hx hZ hown (host := "") (Or.inl (ow hw 225 rfl)) Via.refl e87 c88_I2 c88_E_i (Or.inl (ow hw 226 rfl)) (ow hw 206 rfl) (ty := (.object "java/util/HashMap$Node")) (by decide) rfl rfl (g := (mkF m 92 #[rv it, rv tb, rv n3] [.null, .ref it, .null])) rfl rfl (hb hby od407)
  have N90 := Fr.snoc X90 N87 g
  refine og T90 95 #[rv it, rv tb, rv n3] [.null] st90 ?_
  have n90_I2 := c88_I2.same W90
  have c91_E_i := c88_E_i.wr W90
  have c91_I0 := c88_I0.other W90 (Or.inr (os51 hw))
  have c91_I1 := c88_I1.other W90 (Or.inr (os52 hw))
  have c91_E_m := c88_E_m.wr W90
  have c91_V := c88_V.other W90 (Ne.symm (own_nea c88_E_i c88_V (ow hw 206 rfl)))
  have c91_I3 := c88_I3.other W90 (Or.inr (os49 hw))
  have c91_I4 := n87_I4.other W90 (Or.inr (os50 hw))
  have K90 := K87.wr W90 (Or.inl (List.mem_of_getElem? (i := 0) rfl))
  refine og T90 68 #[rv it, rv tb, rv n3] [] (fun _ k => XS.ifnullYes X90.here hx rfl (pc0 := 95) (pc' := 68) rfl (hb hby od408) rfl (by decide) (by decide) k) ?_
  refine s_aloadN X90 hx (hb hby od391) rfl rfl  ?_
  obtain ⟨T92, X92, e92, st92⟩ := getF X90 hx hZ hown (host := "") (Or.inl (ow hw 229 rfl)) Via.refl e90 c91_I4 (g := (mkF m 69 #[rv it, rv tb, rv n3] [.ref it])) rfl rfl (hb hby od392)
  refine og T92 72 #[rv it, rv tb, rv n3] [.int 14] st92 ?_
  refine s_aloadN X92 hx (hb hby od393) rfl rfl  ?_
  have vv93 := c91_V
  obtain ⟨cl93, Ar93, qa93, Sz93, Ng93, Ha93, Ga93⟩ := vv93
  refine og T92 74 #[rv it, rv tb, rv n3] [(.int cl93.slots.size.toInt32), .int 14] (fun _ k => X92.arraylength hx (by rw [e92]; exact Ar93.1) (State.isArrayOf_alike hZ.alike Ar93.2.1) (g := (mkF m 73 #[rv it, rv tb, rv n3] [.ref tb, .int 14])) rfl rfl (hb hby od394) _ k) ?_
  rw [len_of Sz93 Ng93]
  refine s_icmpN X92 hx (hb hby od395) (tlt (by decide)).2.1 ?_
  refine s_aloadN X92 hx (hb hby od396) rfl rfl  ?_
  refine s_aloadN X92 hx (hb hby od397) rfl rfl  ?_
  refine s_aloadN X92 hx (hb hby od398) rfl rfl  ?_
  refine s_dup X92 hx (hb hby od399) rfl ?_
  obtain ⟨T94, X94, e94, st94⟩ := getF X92 hx hZ hown (host := "") (Or.inl (ow hw 229 rfl)) Via.refl e92 c91_I4 (g := (mkF m 81 #[rv it, rv tb, rv n3] [.ref it, .ref it, .ref tb, .ref it])) rfl rfl (hb hby od400)
  refine og T94 84 #[rv it, rv tb, rv n3] [.int 14, .ref it, .ref tb, .ref it] st94 ?_
  refine og T94 85 #[rv it, rv tb, rv n3] [.int 14, .ref it, .int 14, .ref tb, .ref it] (fun _ k => XS.dupX1 X94.here hx rfl (hb hby od401) rfl rfl rfl k) ?_
  refine s_iconst 1 X94 hx (hb hby od402) rfl ?_
  refine og T94 87 #[rv it, rv tb, rv n3] [.int 15, .ref it, .int 14, .ref tb, .ref it] (fun _ k => XS.iadd X94.here hx rfl (hb hby od403) rfl k) ?_
  obtain ⟨T95, h95, X95, e95, W95, st95⟩ := putF X94 hx hZ hown (host := "") (Or.inl (ow hw 229 rfl)) Via.refl e94 c91_I4 c91_E_i (Or.inl (ow hw 230 rfl)) (ow hw 206 rfl) (ty := .int) (by decide) rfl rfl (g := (mkF m 87 #[rv it, rv tb, rv n3] [.int 15, .ref it, .int 14, .ref tb, .ref it])) rfl rfl (hb hby od404)
  have N95 := Fr.snoc X95 N90 g
  refine og T95 90 #[rv it, rv tb, rv n3] [.int 14, .ref tb, .ref it] st95 ?_
  have n95_I4 := c91_I4.same W95
  have c96_E_i := c91_E_i.wr W95
  have c96_I0 := c91_I0.other W95 (Or.inr (os57 hw))
  have c96_I1 := c91_I1.other W95 (Or.inr (os58 hw))
  have c96_E_m := c91_E_m.wr W95
  have c96_V := c91_V.other W95 (Ne.symm (own_nea c91_E_i c91_V (ow hw 206 rfl)))
  have c96_I3 := c91_I3.other W95 (Or.inr (os60 hw))
  have c96_I2 := n90_I2.other W95 (Or.inr (os59 hw))
  have K95 := K90.wr W95 (Or.inl (List.mem_of_getElem? (i := 0) rfl))
  have vv97 := c96_V
  obtain ⟨cl97, Ar97, qa97, Sz97, Ng97, Ha97, Ga97⟩ := vv97
  have hin97 : ¬ ((14 : Int32) < 0 ∨ cl97.slots.size ≤ ((14 : Int32)).toNatClampNeg) := inb_of Sz97 ⟨by decide, by decide⟩
  refine og T95 91 #[rv it, rv tb, rv n3] [.null, .ref it] (fun _ k => X95.aaload hx (j := (14 : Int32)) (v := .null) (by rw [e95]; exact Ar97.1) (State.isArrayOf_alike hZ.alike Ar97.2.1) rfl Ar97.2.2 hin97 (Ha97.at hin97 rfl) (g := (mkF m 90 #[rv it, rv tb, rv n3] [.int 14, .ref tb, .ref it])) rfl rfl (hb hby od405) _ k) ?_
  refine og T95 92 #[rv it, rv tb, rv n3] [.null, .ref it, .null] (fun _ k => XS.dupX1 X95.here hx rfl (hb hby od406) rfl rfl rfl k) ?_
  obtain ⟨T98, h98, X98, e98, W98, st98⟩ := putF X95 hx hZ hown (host := "") (Or.inl (ow hw 225 rfl)) Via.refl e95 c96_I2 c96_E_i (Or.inl (ow hw 226 rfl)) (ow hw 206 rfl) (ty := (.object "java/util/HashMap$Node")) (by decide) rfl rfl (g := (mkF m 92 #[rv it, rv tb, rv n3] [.null, .ref it, .null])) rfl rfl (hb hby od407)
  have N98 := Fr.snoc X98 N95 g
  refine og T98 95 #[rv it, rv tb, rv n3] [.null] st98 ?_
  have n98_I2 := c96_I2.same W98
  have c99_E_i := c96_E_i.wr W98
  have c99_I0 := c96_I0.other W98 (Or.inr (os51 hw))
  have c99_I1 := c96_I1.other W98 (Or.inr (os52 hw))
  have c99_E_m := c96_E_m.wr W98
  have c99_V := c96_V.other W98 (Ne.symm (own_nea c96_E_i c96_V (ow hw 206 rfl)))
  have c99_I3 := c96_I3.other W98 (Or.inr (os49 hw))
  have c99_I4 := n95_I4.other W98 (Or.inr (os50 hw))
  have K98 := K95.wr W98 (Or.inl (List.mem_of_getElem? (i := 0) rfl))
  refine og T98 68 #[rv it, rv tb, rv n3] [] (fun _ k => XS.ifnullYes X98.here hx rfl (pc0 := 95) (pc' := 68) rfl (hb hby od408) rfl (by decide) (by decide) k) ?_
  refine s_aloadN X98 hx (hb hby od391) rfl rfl  ?_
  obtain ⟨T100, X100, e100, st100⟩ := getF X98 hx hZ hown (host := "") (Or.inl (ow hw 229 rfl)) Via.refl e98 c99_I4 (g := (mkF m 69 #[rv it, rv tb, rv n3] [.ref it])) rfl rfl (hb hby od392)
  refine og T100 72 #[rv it, rv tb, rv n3] [.int 15] st100 ?_
  refine s_aloadN X100 hx (hb hby od393) rfl rfl  ?_
  have vv101 := c99_V
  obtain ⟨cl101, Ar101, qa101, Sz101, Ng101, Ha101, Ga101⟩ := vv101
  refine og T100 74 #[rv it, rv tb, rv n3] [(.int cl101.slots.size.toInt32), .int 15] (fun _ k => X100.arraylength hx (by rw [e100]; exact Ar101.1) (State.isArrayOf_alike hZ.alike Ar101.2.1) (g := (mkF m 73 #[rv it, rv tb, rv n3] [.ref tb, .int 15])) rfl rfl (hb hby od394) _ k) ?_
  rw [len_of Sz101 Ng101]
  refine s_icmpN X100 hx (hb hby od395) (tlt (by decide)).2.1 ?_
  refine s_aloadN X100 hx (hb hby od396) rfl rfl  ?_
  refine s_aloadN X100 hx (hb hby od397) rfl rfl  ?_
  refine s_aloadN X100 hx (hb hby od398) rfl rfl  ?_
  refine s_dup X100 hx (hb hby od399) rfl ?_
  obtain ⟨T102, X102, e102, st102⟩ := getF X100 hx hZ hown (host := "") (Or.inl (ow hw 229 rfl)) Via.refl e100 c99_I4 (g := (mkF m 81 #[rv it, rv tb, rv n3] [.ref it, .ref it, .ref tb, .ref it])) rfl rfl (hb hby od400)
  refine og T102 84 #[rv it, rv tb, rv n3] [.int 15, .ref it, .ref tb, .ref it] st102 ?_
  refine og T102 85 #[rv it, rv tb, rv n3] [.int 15, .ref it, .int 15, .ref tb, .ref it] (fun _ k => XS.dupX1 X102.here hx rfl (hb hby od401) rfl rfl rfl k) ?_
  refine s_iconst 1 X102 hx (hb hby od402) rfl ?_
  refine og T102 87 #[rv it, rv tb, rv n3] [.int 16, .ref it, .int 15, .ref tb, .ref it] (fun _ k => XS.iadd X102.here hx rfl (hb hby od403) rfl k) ?_
  obtain ⟨T103, h103, X103, e103, W103, st103⟩ := putF X102 hx hZ hown (host := "") (Or.inl (ow hw 229 rfl)) Via.refl e102 c99_I4 c99_E_i (Or.inl (ow hw 230 rfl)) (ow hw 206 rfl) (ty := .int) (by decide) rfl rfl (g := (mkF m 87 #[rv it, rv tb, rv n3] [.int 16, .ref it, .int 15, .ref tb, .ref it])) rfl rfl (hb hby od404)
  have N103 := Fr.snoc X103 N98 g
  refine og T103 90 #[rv it, rv tb, rv n3] [.int 15, .ref tb, .ref it] st103 ?_
  have n103_I4 := c99_I4.same W103
  have c104_E_i := c99_E_i.wr W103
  have c104_I0 := c99_I0.other W103 (Or.inr (os57 hw))
  have c104_I1 := c99_I1.other W103 (Or.inr (os58 hw))
  have c104_E_m := c99_E_m.wr W103
  have c104_V := c99_V.other W103 (Ne.symm (own_nea c99_E_i c99_V (ow hw 206 rfl)))
  have c104_I3 := c99_I3.other W103 (Or.inr (os60 hw))
  have c104_I2 := n98_I2.other W103 (Or.inr (os59 hw))
  have K103 := K98.wr W103 (Or.inl (List.mem_of_getElem? (i := 0) rfl))
  have vv105 := c104_V
  obtain ⟨cl105, Ar105, qa105, Sz105, Ng105, Ha105, Ga105⟩ := vv105
  have hin105 : ¬ ((15 : Int32) < 0 ∨ cl105.slots.size ≤ ((15 : Int32)).toNatClampNeg) := inb_of Sz105 ⟨by decide, by decide⟩
  refine og T103 91 #[rv it, rv tb, rv n3] [.null, .ref it] (fun _ k => X103.aaload hx (j := (15 : Int32)) (v := .null) (by rw [e103]; exact Ar105.1) (State.isArrayOf_alike hZ.alike Ar105.2.1) rfl Ar105.2.2 hin105 (Ha105.at hin105 rfl) (g := (mkF m 90 #[rv it, rv tb, rv n3] [.int 15, .ref tb, .ref it])) rfl rfl (hb hby od405) _ k) ?_
  refine og T103 92 #[rv it, rv tb, rv n3] [.null, .ref it, .null] (fun _ k => XS.dupX1 X103.here hx rfl (hb hby od406) rfl rfl rfl k) ?_
  obtain ⟨T106, h106, X106, e106, W106, st106⟩ := putF X103 hx hZ hown (host := "") (Or.inl (ow hw 225 rfl)) Via.refl e103 c104_I2 c104_E_i (Or.inl (ow hw 226 rfl)) (ow hw 206 rfl) (ty := (.object "java/util/HashMap$Node")) (by decide) rfl rfl (g := (mkF m 92 #[rv it, rv tb, rv n3] [.null, .ref it, .null])) rfl rfl (hb hby od407)
  have N106 := Fr.snoc X106 N103 g
  refine og T106 95 #[rv it, rv tb, rv n3] [.null] st106 ?_
  have n106_I2 := c104_I2.same W106
  have c107_E_i := c104_E_i.wr W106
  have c107_I0 := c104_I0.other W106 (Or.inr (os51 hw))
  have c107_I1 := c104_I1.other W106 (Or.inr (os52 hw))
  have c107_E_m := c104_E_m.wr W106
  have c107_V := c104_V.other W106 (Ne.symm (own_nea c104_E_i c104_V (ow hw 206 rfl)))
  have c107_I3 := c104_I3.other W106 (Or.inr (os49 hw))
  have c107_I4 := n103_I4.other W106 (Or.inr (os50 hw))
  have K106 := K103.wr W106 (Or.inl (List.mem_of_getElem? (i := 0) rfl))
  refine og T106 68 #[rv it, rv tb, rv n3] [] (fun _ k => XS.ifnullYes X106.here hx rfl (pc0 := 95) (pc' := 68) rfl (hb hby od408) rfl (by decide) (by decide) k) ?_
  refine s_aloadN X106 hx (hb hby od391) rfl rfl  ?_
  obtain ⟨T108, X108, e108, st108⟩ := getF X106 hx hZ hown (host := "") (Or.inl (ow hw 229 rfl)) Via.refl e106 c107_I4 (g := (mkF m 69 #[rv it, rv tb, rv n3] [.ref it])) rfl rfl (hb hby od392)
  refine og T108 72 #[rv it, rv tb, rv n3] [.int 16] st108 ?_
  refine s_aloadN X108 hx (hb hby od393) rfl rfl  ?_
  have vv109 := c107_V
  obtain ⟨cl109, Ar109, qa109, Sz109, Ng109, Ha109, Ga109⟩ := vv109
  refine og T108 74 #[rv it, rv tb, rv n3] [(.int cl109.slots.size.toInt32), .int 16] (fun _ k => X108.arraylength hx (by rw [e108]; exact Ar109.1) (State.isArrayOf_alike hZ.alike Ar109.2.1) (g := (mkF m 73 #[rv it, rv tb, rv n3] [.ref tb, .int 16])) rfl rfl (hb hby od394) _ k) ?_
  rw [len_of Sz109 Ng109]
  refine s_icmpY 98 X108 hx (hb hby od395) (flt (by decide)).2.1 (by decide) (by decide) ?_
  refine s_aloadN X108 hx (hb hby od409) rfl rfl  ?_
  refine own_retA X108 hx hlk hret rfl rfl (hb hby od410) ?_ (by decide) (by decide)
  rw [e108]
  exact ⟨rfl, N106, K106, ⟨c107_E_i, c107_I0, c107_I1, n106_I2, c107_I3, c107_I4⟩⟩
set_option maxRecDepth 65536 in
set_option maxHeartbeats 40000000 in
theorem own_nxt3 (l : Launch) (Z : State) (a0 : Array Value) (hw : ∀ d ∈ tables_1, d.before a0 Z = true) (it : Addr) (hm : Addr) (tb : Addr) (k : ClassId) (n1 n2 n3 : Addr) (vl : Addr) (h0 : Heap) (n0 : Nat) (Z0 : n0 ≤ h0.size) (E_i : Exa Z h0 it "java/util/HashMap$ValueIterator") (I0 : Fld Z h0 it "java/util/HashMap$HashIterator" "this$0" "Ljava/util/HashMap;" (.ref hm)) (I1 : Fld Z h0 it "java/util/HashMap$HashIterator" "expectedModCount" "I" (.int 3)) (I2 : Fld Z h0 it "java/util/HashMap$HashIterator" "next" "Ljava/util/HashMap$Node;" (.ref n3)) (I3 : Fld Z h0 it "java/util/HashMap$HashIterator" "current" "Ljava/util/HashMap$Node;" (.ref n2)) (I4 : Fld Z h0 it "java/util/HashMap$HashIterator" "index" "I" (.int 4)) (Ft : Fld Z h0 hm "java/util/HashMap" "table" "[Ljava/util/HashMap$Node;" (.ref tb)) (Fo : Fld Z h0 hm "java/util/HashMap" "modCount" "I" (.int 3)) (E_m : Exa Z h0 hm "java/util/HashMap") (V : Arv Z h0 tb k (.object "java/util/HashMap$Node") 16 [.null, .ref n1, .ref n2, .ref n3, .null, .null, .null, .null, .null, .null, .null, .null, .null, .null, .null, .null] .null) (E_n : Exa Z h0 n3 "java/util/HashMap$Node") (Nx : Fld Z h0 n3 "java/util/HashMap$Node" "next" "Ljava/util/HashMap$Node;" .null) (Nv : Fld Z h0 n3 "java/util/HashMap$Node" "value" "Ljava/lang/Object;" (.ref vl)) (g : n0 ≤ it) :
    own_C l Z (⟨"java/util/HashMap$ValueIterator", "next", "()Ljava/lang/Object;"⟩ : MethodName) jdk_2569_method_2_code 1 (some (.object "java/lang/Object")) [] ({ frames := 1, cells := 0, slots := 0, locals := 14 } : Room) #[.ref it] h0 (own_Qu Z vl it hm .null (.ref n3) (16 : Int32) h0 n0) := by
  refine MetFree.of_bodySF (plainFor_of_name own_pn12) hisR ?_
  intro p e s m args below meth c s₁ Bd hml hP hK
  obtain ⟨rfl, hZ, hh⟩ := hP
  obtain ⟨hx, hby, hlk, hret, hown, hnm, X0, e0⟩ := own_hd Bd hh
  have N0 := Fr.nil n0
  refine own_open (own_ef1 m it) ?_
  refine s_aloadN X0 hx (hb hby od411) rfl rfl  ?_
  obtain ⟨cq1, kq1, q1a, q1b, q1c⟩ := isOf hZ e0 (E_i)
  obtain ⟨_, _, ⟨T1, L1, k1, n1⟩, -, X1, ⟨Lc1, hQ1, l1, y1, z1⟩, st1⟩ := X0.virtualBackUp hx (owner := "java/util/HashMap$HashIterator") (x := (⟨"java/util/HashMap$ValueIterator", "nextNode", "()Ljava/util/HashMap$Node;"⟩ : MethodName)) (y := (⟨"java/util/HashMap$HashIterator", "nextNode", "()Ljava/util/HashMap$Node;"⟩ : MethodName)) hown (mvT hZ (ow hw 249 rfl)) (mvT hZ (ow hw 250 rfl)) (mvT hZ (ow hw 251 rfl)) (by decide) (mvT hZ (ow hw 253 rfl)) (mvT hZ (ow hw 252 rfl)) (backOf (W := 0) (own_nno3 l Z a0 hw it hm tb k n1 n2 n3 h0 n0 Z0 E_i I0 I1 I2 I3 I4 Ft Fo E_m V E_n Nx g) hZ (ow hw 254 rfl) (ow hw 216 rfl) (by decide) (by decide)) q1a q1c (g := (mkF m 1 #[rv it] [.ref it])) rfl (by rw [hml]; rfl) (Steps.refl _) (argsL := []) (rest := []) (lenOf own_pd15 rfl) rfl (by show 2 * 0 + _ ≤ _; exact Nat.le_of_eq rfl) (hb hby od412) (fun _ _ => ⟨rfl, e0, (by decide : 0 + 0 ≤ _), (by decide : 0 + 0 ≤ _)⟩)
  dsimp only [Pt.U, Pt.locs, Pt.cells, Pt.slots] at X1 l1 y1 z1 st1 hQ1
  subst y1 z1
  obtain ⟨rfl, N1q, Kc1, I1c⟩ := hQ1
  have N1 := frE l1 N0 N1q
  refine ov T1 4 #[rv it] [.ref n3] st1 ?_
  have Nv2 := Nv.keep Kc1 (ninS (ne_exa E_n E_i (by decide)) nin0)
  obtain ⟨T2, X2, e2, st2⟩ := getF X1 hx hZ hown (host := "") (Or.inl (ow hw 256 rfl)) Via.refl rfl Nv2 (g := (mkF m 4 #[rv it] [.ref n3])) rfl rfl (hb hby od413)
  refine og T2 7 #[rv it] [.ref vl] st2 ?_
  refine own_retA X2 hx hlk hret rfl rfl (hb hby od414) ?_ (by decide) (by decide)
  rw [e2]
  exact ⟨rfl, N1, Kc1, I1c⟩
set_option maxRecDepth 65536 in
set_option maxHeartbeats 40000000 in
theorem own_ivl (l : Launch) (Z : State) (a0 : Array Value) (hw : ∀ d ∈ tables_1, d.before a0 Z = true) (r : Addr) (z : Int32) (h0 : Heap) (n0 : Nat) (Z0 : n0 ≤ h0.size) (F1 : Fld Z h0 r "java/lang/Integer" "value" "I" (.int z)) :
    own_C l Z (⟨"java/lang/Integer", "intValue", "()I"⟩ : MethodName) jdk_33_method_27_code 1 (some .int) [] ({ frames := 0, cells := 0, slots := 0, locals := 0 } : Room) #[.ref r] h0 (own_Qz z h0 n0) := by
  refine MetFree.of_bodySF (plainFor_of_name own_pn8) hisR ?_
  intro p e s m args below meth c s₁ Bd hml hP hK
  obtain ⟨rfl, hZ, hh⟩ := hP
  obtain ⟨hx, hby, hlk, hret, hown, hnm, X0, e0⟩ := own_hd Bd hh
  have N0 := Fr.nil n0
  refine own_open (own_ef1 m r) ?_
  refine s_aloadN X0 hx (hb hby od415) rfl rfl  ?_
  obtain ⟨T1, X1, e1, st1⟩ := getF X0 hx hZ hown (host := "") (Or.inl (ow hw 264 rfl)) Via.refl e0 F1 (g := (mkF m 1 #[rv r] [.ref r])) rfl rfl (hb hby od416)
  refine og T1 4 #[rv r] [.int z] st1 ?_
  refine own_retI X1 hx hlk hret (hb hby od417) ?_ (by decide) (by decide)
  rw [e1]
  exact ⟨rfl, N0, rfl⟩
set_option maxRecDepth 65536 in
set_option maxHeartbeats 40000000 in
theorem own_irg (l : Launch) (Z : State) (a0 : Array Value) (hw : ∀ d ∈ tables_1, d.before a0 Z = true) (j : Addr) (z : Int32) (lv : Int32) (h0 : Heap) (n0 : Nat) (Z0 : n0 ≤ h0.size) (Flv : Fld Z h0 j "com/example/nimble_fusion/nimblefusion/scoring/JudgedRanking" "relevanceLevel" "I" (.int lv)) :
    own_C l Z (⟨"com/example/nimble_fusion/nimblefusion/scoring/JudgedRanking", "isRelevantGrade", "(I)Z"⟩ : MethodName) prog_48_method_13_code 2 (some .boolean) [] ({ frames := 0, cells := 0, slots := 0, locals := 0 } : Room) #[.ref j, .int z] h0 (own_Qe h0 n0) := by
  refine MetFree.of_bodySF (plainFor_of_name own_pn13) hisR ?_
  intro p e s m args below meth c s₁ Bd hml hP hK
  obtain ⟨rfl, hZ, hh⟩ := hP
  obtain ⟨hx, hby, hlk, hret, hown, hnm, X0, e0⟩ := own_hd Bd hh
  have N0 := Fr.nil n0
  refine own_open (own_ef5 m j z) ?_
  refine s_iloadN X0 hx (hb hby od418) rfl  ?_
  refine s_aloadN X0 hx (hb hby od419) rfl rfl  ?_
  obtain ⟨T1, X1, e1, st1⟩ := getF X0 hx hZ hown (host := "") (Or.inl (ow hw 156 rfl)) Via.refl e0 Flv (g := (mkF m 2 #[rv j, iv z] [.ref j, .int z])) rfl rfl (hb hby od420)
  refine og T1 5 #[rv j, iv z] [.int lv, .int z] st1 ?_
  by_cases h5 : z < lv
  · skip
    refine s_icmpY 12 X1 hx (hb hby od421) (tlt h5).1 (by decide) (by decide) ?_
    refine s_iconst 0 X1 hx (hb hby od422) rfl ?_
    refine own_retZ X1 hx hlk (t := .boolean) hret (by simp) (hb hby od423) ?_ (by decide) (by decide)
    rw [e1]
    exact ⟨_, rfl, N0, rfl⟩
  · skip
    refine s_icmpN X1 hx (hb hby od421) (flt h5).1 ?_
    refine s_iconst 1 X1 hx (hb hby od424) rfl ?_
    refine s_goto 13 X1 hx (hb hby od425) (by decide) (by decide) ?_
    refine own_retZ X1 hx hlk (t := .boolean) hret (by simp) (hb hby od423) ?_ (by decide) (by decide)
    rw [e1]
    exact ⟨_, rfl, N0, rfl⟩
set_option maxRecDepth 65536 in
set_option maxHeartbeats 40000000 in
theorem own_inr (l : Launch) (Z : State) (a0 : Array Value) (hw : ∀ d ∈ tables_1, d.before a0 Z = true) (j : Addr) (z : Int32) (lv : Int32) (h0 : Heap) (n0 : Nat) (Z0 : n0 ≤ h0.size) (Flv : Fld Z h0 j "com/example/nimble_fusion/nimblefusion/scoring/JudgedRanking" "relevanceLevel" "I" (.int lv)) :
    own_C l Z (⟨"com/example/nimble_fusion/nimblefusion/scoring/JudgedRanking", "isNonRelevantGrade", "(I)Z"⟩ : MethodName) prog_48_method_14_code 2 (some .boolean) [] ({ frames := 0, cells := 0, slots := 0, locals := 0 } : Room) #[.ref j, .int z] h0 (own_Qe h0 n0) := by
  refine MetFree.of_bodySF (plainFor_of_name own_pn13) hisR ?_
  intro p e s m args below meth c s₁ Bd hml hP hK
  obtain ⟨rfl, hZ, hh⟩ := hP
  obtain ⟨hx, hby, hlk, hret, hown, hnm, X0, e0⟩ := own_hd Bd hh
  have N0 := Fr.nil n0
  refine own_open (own_ef5 m j z) ?_
  refine s_iloadN X0 hx (hb hby od426) rfl  ?_
  by_cases h1 : z < (0 : Int32)
  · skip
    refine s_ifY 16 X0 hx (hb hby od427) ((if0 _ _).trans (tlt h1).1) (by decide) (by decide) ?_
    refine s_iconst 0 X0 hx (hb hby od428) rfl ?_
    refine own_retZ X0 hx hlk (t := .boolean) hret (by simp) (hb hby od429) ?_ (by decide) (by decide)
    rw [e0]
    exact ⟨_, rfl, N0, rfl⟩
  · skip
    refine s_ifN X0 hx (hb hby od427) ((if0 _ _).trans (flt h1).1) ?_
    refine s_iloadN X0 hx (hb hby od430) rfl  ?_
    refine s_aloadN X0 hx (hb hby od431) rfl rfl  ?_
    obtain ⟨T1, X1, e1, st1⟩ := getF X0 hx hZ hown (host := "") (Or.inl (ow hw 156 rfl)) Via.refl e0 Flv (g := (mkF m 6 #[rv j, iv z] [.ref j, .int z])) rfl rfl (hb hby od432)
    refine og T1 9 #[rv j, iv z] [.int lv, .int z] st1 ?_
    by_cases h9 : z < lv
    · skip
      refine s_icmpN X1 hx (hb hby od433) (tlt h9).2.1 ?_
      refine s_iconst 1 X1 hx (hb hby od434) rfl ?_
      refine s_goto 17 X1 hx (hb hby od435) (by decide) (by decide) ?_
      refine own_retZ X1 hx hlk (t := .boolean) hret (by simp) (hb hby od429) ?_ (by decide) (by decide)
      rw [e1]
      exact ⟨_, rfl, N0, rfl⟩
    · skip
      refine s_icmpY 16 X1 hx (hb hby od433) (flt h9).2.1 (by decide) (by decide) ?_
      refine s_iconst 0 X1 hx (hb hby od428) rfl ?_
      refine own_retZ X1 hx hlk (t := .boolean) hret (by simp) (hb hby od429) ?_ (by decide) (by decide)
      rw [e1]
      exact ⟨_, rfl, N0, rfl⟩
set_option maxRecDepth 65536 in
set_option maxHeartbeats 40000000 in
theorem own_hsz (l : Launch) (Z : State) (a0 : Array Value) (hw : ∀ d ∈ tables_1, d.before a0 Z = true) (hm : Addr)  (h0 : Heap) (n0 : Nat) (Z0 : n0 ≤ h0.size) (Fz : Fld Z h0 hm "java/util/HashMap" "size" "I" (.int 3)) :
    own_C l Z (⟨"java/util/HashMap", "size", "()I"⟩ : MethodName) jdk_69_method_10_code 1 (some .int) [] ({ frames := 0, cells := 0, slots := 0, locals := 0 } : Room) #[.ref hm] h0 (own_Qz 3 h0 n0) := by
  refine MetFree.of_bodySF (plainFor_of_name own_pn4) hisR ?_
  intro p e s m args below meth c s₁ Bd hml hP hK
  obtain ⟨rfl, hZ, hh⟩ := hP
  obtain ⟨hx, hby, hlk, hret, hown, hnm, X0, e0⟩ := own_hd Bd hh
  have N0 := Fr.nil n0
  refine own_open (own_ef1 m hm) ?_
  refine s_aloadN X0 hx (hb hby od436) rfl rfl  ?_
  obtain ⟨T1, X1, e1, st1⟩ := getF X0 hx hZ hown (host := "") (Or.inl (ow hw 141 rfl)) Via.refl e0 Fz (g := (mkF m 1 #[rv hm] [.ref hm])) rfl rfl (hb hby od437)
  refine og T1 4 #[rv hm] [.int 3] st1 ?_
  refine own_retI X1 hx hlk hret (hb hby od438) ?_ (by decide) (by decide)
  rw [e1]
  exact ⟨rfl, N0, rfl⟩
set_option maxRecDepth 65536 in
set_option maxHeartbeats 40000000 in
theorem own_cpi0 (l : Launch) (Z : State) (a0 : Array Value) (hw : ∀ d ∈ tables_1, d.before a0 Z = true) (t : Addr)  (k : ClassId) (h0 : Heap) (n0 : Nat) (Z0 : n0 ≤ h0.size) (V : Arv Z h0 t k .int 3 [.int 0, .int 0, .int 0] (.int 0)) (Ex : Exa Z h0 t "[I") :
    own_C l Z (⟨"java/util/Arrays", "copyOf", "([II)[I"⟩ : MethodName) jdk_65_method_123_code 3 (some (.array .int)) [] ({ frames := 1, cells := 1, slots := 0, locals := 18 } : Room) #[.ref t, .int 0] h0 (own_Qa Z (0 : Int32) [] h0 n0) := by
  refine MetFree.of_bodySF (plainFor_of_name own_pn14) hisR ?_
  intro p e s m args below meth c s₁ Bd hml hP hK
  obtain ⟨rfl, hZ, hh⟩ := hP
  obtain ⟨hx, hby, hlk, hret, hown, hnm, X0, e0⟩ := own_hd Bd hh
  have N0 := Fr.nil n0
  refine own_open (own_ef13 m t ((0 : Int32))) ?_
  refine s_iloadN X0 hx (hb hby od439) rfl  ?_
  refine s_aloadN X0 hx (hb hby od440) rfl rfl  ?_
  have vv1 := V
  obtain ⟨cl1, Ar1, qa1, Sz1, Ng1, Ha1, Ga1⟩ := vv1
  refine og s₁ 3 #[rv t, iv 0, .unset] [(.int cl1.slots.size.toInt32), .int 0] (fun _ k => X0.arraylength hx (by rw [e0]; exact Ar1.1) (State.isArrayOf_alike hZ.alike Ar1.2.1) (g := (mkF m 2 #[rv t, iv 0, .unset] [.ref t, .int 0])) rfl rfl (hb hby od441) _ k) ?_
  rw [len_of Sz1 Ng1]
  refine s_icmpY 14 X0 hx (hb hby od442) (feq (by decide)).2 (by decide) (by decide) ?_
  refine s_iloadN X0 hx (hb hby od443) rfl  ?_
  obtain ⟨T2, h2, k2, X2, e2, E2, A2, Ex2, st2⟩ := newPE X0 hx hZ (ow hw 169 rfl) e0 (g := (mkF m 15 #[rv t, iv 0, .unset] [.int 0])) rfl (hb hby od444) rfl (by decide) (cap := 0) (by decide) (by decide) (by decide) (by decide) (ad := "[I") (by decide +kernel)
  obtain ⟨r, g2⟩ : ∃ z, z = h0.size := ⟨_, rfl⟩
  rw [← g2] at A2 Ex2 st2
  have V2 : Arv Z h2 r k2 .int (0 : Int32) [] (.int 0) := (Arv.new A2 (by decide)).pad (pad_rep [] (.int 0) 0)
  refine og T2 17 #[rv t, iv 0, .unset] [.ref r] st2 ?_
  have sz_r : h0.size ≤ r := Nat.le_trans (Keep.refl h0 []).1 (Nat.le_of_eq g2.symm)
  have gn_r : n0 ≤ r := Nat.le_trans Z0 sz_r
  have ne_t_r : t ≠ r := Nat.ne_of_lt (Nat.lt_of_lt_of_le V.lt (Nat.le_of_eq g2.symm))
  have c3_V := V.ext E2
  have c3_Ex := Ex.ext E2
  have K2 := (Keep.refl h0 []).ext E2
  refine og T2 18 #[rv t, iv 0, rv r] [] (fun _ k => XS.astoreN X2.here hx rfl (hb hby od445) rfl rfl (l' := #[rv t, iv 0, rv r]) rfl k) ?_
  refine s_aloadN X2 hx (hb hby od446) rfl rfl  ?_
  refine s_iconst 0 X2 hx (hb hby od447) rfl ?_
  refine s_aloadN X2 hx (hb hby od448) rfl rfl  ?_
  refine s_iconst 0 X2 hx (hb hby od449) rfl ?_
  refine s_aloadN X2 hx (hb hby od450) rfl rfl  ?_
  have vv4 := c3_V
  obtain ⟨cl4, Ar4, qa4, Sz4, Ng4, Ha4, Ga4⟩ := vv4
  refine og T2 24 #[rv t, iv 0, rv r] [(.int cl4.slots.size.toInt32), .int 0, .ref r, .int 0, .ref t] (fun _ k => X2.arraylength hx (by rw [e2]; exact Ar4.1) (State.isArrayOf_alike hZ.alike Ar4.2.1) (g := (mkF m 23 #[rv t, iv 0, rv r] [.ref t, .int 0, .ref r, .int 0, .ref t])) rfl rfl (hb hby od451) _ k) ?_
  rw [len_of Sz4 Ng4]
  refine s_iloadN X2 hx (hb hby od452) rfl  ?_
  obtain ⟨_, _, ⟨T5, L5, k5, n5⟩, -, X5, ⟨Lc5, hQ5, l5, y5, z5⟩, st5⟩ := Jvm.LawKit.callS X2 hx hown (mvT hZ (ow hw 290 rfl)) (mvT hZ (ow hw 291 rfl)) (mvT hZ (ow hw 292 rfl)) (mvT hZ (ow hw 293 rfl)) (by decide) (backOf (W := 4) (own_mn_ l Z a0 hw (3 : Int32) (0 : Int32) h2 n0 (Nat.le_trans Z0 K2.1)) hZ (ow hw 293 rfl) (ow hw 292 rfl) (by decide) (by decide)) (g := (mkF m 25 #[rv t, iv 0, rv r] [.int 0, .int 3, .int 0, .ref r, .int 0, .ref t])) rfl (by rw [hml]; rfl) (argsL := [.int 3, .int 0]) (rest := [.int 0, .ref r, .int 0, .ref t]) (lenOf own_pd16 rfl) rfl (by show 2 * 0 + _ ≤ _; exact Nat.le_of_eq rfl) (hb hby od453) (fun _ _ => ⟨rfl, e2, (by decide : 1 + 0 ≤ _), (by decide : 0 + 0 ≤ _)⟩)
  dsimp only [Pt.U, Pt.locs, Pt.cells, Pt.slots] at X5 l5 y5 z5 st5 hQ5
  subst y5 z5
  obtain ⟨rfl, N5q, hh5⟩ := hQ5
  have N5 := frE l5 N0 N5q
  refine og T5 28 #[rv t, iv 0, rv r] [(.int (own_mn (3 : Int32) (0 : Int32))), .int 0, .ref r, .int 0, .ref t] st5 ?_
  rw [show own_mn (3 : Int32) (0 : Int32) = (0 : Int32) from by decide]
  obtain ⟨T6, h6, L6, X6, e6, N6, Kc6, V6, st6⟩ := cpA X5 hx hZ hown (ow hw 294 rfl) (ow hw 297 rfl) (ow hw 295 rfl) (ow hw 296 rfl) hh5 c3_V V2 (us := []) (sp := 0) (dp := 0) (nn := (0 : Int32)) (Or.inl ⟨rfl, rfl⟩) (by decide) (by decide) (by decide) (by decide) (by decide) rfl (by decide) N5 gn_r (g := (mkF m 28 #[rv t, iv 0, rv r] [.int 0, .int 0, .ref r, .int 0, .ref t])) rfl (by rw [hml]; rfl) rfl (hb hby od454) (by decide) (W := 0) (by show 2 * 0 + _ ≤ _; exact Nat.le_of_eq rfl) (by decide)
  refine og T6 31 #[rv t, iv 0, rv r] [] st6 ?_
  have K6x := K2.trans Kc6 (allS (Or.inr sz_r) all0)
  refine s_aloadN X6 hx (hb hby od455) rfl rfl  ?_
  refine own_retA X6 hx hlk hret rfl rfl (hb hby od456) ?_ (by decide) (by decide)
  rw [e6]
  exact ⟨_, _, rfl, N6, K6x, V6, sz_r⟩
set_option maxRecDepth 65536 in
set_option maxHeartbeats 40000000 in
theorem own_cpi1 (l : Launch) (Z : State) (a0 : Array Value) (hw : ∀ d ∈ tables_1, d.before a0 Z = true) (t : Addr) (x1 : Int32) (k : ClassId) (h0 : Heap) (n0 : Nat) (Z0 : n0 ≤ h0.size) (V : Arv Z h0 t k .int 3 [.int x1, .int 0, .int 0] (.int 0)) (Ex : Exa Z h0 t "[I") :
    own_C l Z (⟨"java/util/Arrays", "copyOf", "([II)[I"⟩ : MethodName) jdk_65_method_123_code 3 (some (.array .int)) [] ({ frames := 1, cells := 1, slots := 1, locals := 18 } : Room) #[.ref t, .int 1] h0 (own_Qa Z (1 : Int32) [.int x1] h0 n0) := by
  refine MetFree.of_bodySF (plainFor_of_name own_pn14) hisR ?_
  intro p e s m args below meth c s₁ Bd hml hP hK
  obtain ⟨rfl, hZ, hh⟩ := hP
  obtain ⟨hx, hby, hlk, hret, hown, hnm, X0, e0⟩ := own_hd Bd hh
  have N0 := Fr.nil n0
  refine own_open (own_ef13 m t ((1 : Int32))) ?_
  refine s_iloadN X0 hx (hb hby od439) rfl  ?_
  refine s_aloadN X0 hx (hb hby od440) rfl rfl  ?_
  have vv1 := V
  obtain ⟨cl1, Ar1, qa1, Sz1, Ng1, Ha1, Ga1⟩ := vv1
  refine og s₁ 3 #[rv t, iv 1, .unset] [(.int cl1.slots.size.toInt32), .int 1] (fun _ k => X0.arraylength hx (by rw [e0]; exact Ar1.1) (State.isArrayOf_alike hZ.alike Ar1.2.1) (g := (mkF m 2 #[rv t, iv 1, .unset] [.ref t, .int 1])) rfl rfl (hb hby od441) _ k) ?_
  rw [len_of Sz1 Ng1]
  refine s_icmpY 14 X0 hx (hb hby od442) (feq (by decide)).2 (by decide) (by decide) ?_
  refine s_iloadN X0 hx (hb hby od443) rfl  ?_
  obtain ⟨T2, h2, k2, X2, e2, E2, A2, Ex2, st2⟩ := newPE X0 hx hZ (ow hw 169 rfl) e0 (g := (mkF m 15 #[rv t, iv 1, .unset] [.int 1])) rfl (hb hby od444) rfl (by decide) (cap := 1) (by decide) (by decide) (by decide) (by decide) (ad := "[I") (by decide +kernel)
  obtain ⟨r, g2⟩ : ∃ z, z = h0.size := ⟨_, rfl⟩
  rw [← g2] at A2 Ex2 st2
  have V2 : Arv Z h2 r k2 .int (1 : Int32) [.int 0] (.int 0) := (Arv.new A2 (by decide)).pad (pad_rep [] (.int 0) 1)
  refine og T2 17 #[rv t, iv 1, .unset] [.ref r] st2 ?_
  have sz_r : h0.size ≤ r := Nat.le_trans (Keep.refl h0 []).1 (Nat.le_of_eq g2.symm)
  have gn_r : n0 ≤ r := Nat.le_trans Z0 sz_r
  have ne_t_r : t ≠ r := Nat.ne_of_lt (Nat.lt_of_lt_of_le V.lt (Nat.le_of_eq g2.symm))
  have c3_V := V.ext E2
  have c3_Ex := Ex.ext E2
  have K2 := (Keep.refl h0 []).ext E2
  refine og T2 18 #[rv t, iv 1, rv r] [] (fun _ k => XS.astoreN X2.here hx rfl (hb hby od445) rfl rfl (l' := #[rv t, iv 1, rv r]) rfl k) ?_
  refine s_aloadN X2 hx (hb hby od446) rfl rfl  ?_
  refine s_iconst 0 X2 hx (hb hby od447) rfl ?_
  refine s_aloadN X2 hx (hb hby od448) rfl rfl  ?_
  refine s_iconst 0 X2 hx (hb hby od449) rfl ?_
  refine s_aloadN X2 hx (hb hby od450) rfl rfl  ?_
  have vv4 := c3_V
  obtain ⟨cl4, Ar4, qa4, Sz4, Ng4, Ha4, Ga4⟩ := vv4
  refine og T2 24 #[rv t, iv 1, rv r] [(.int cl4.slots.size.toInt32), .int 0, .ref r, .int 0, .ref t] (fun _ k => X2.arraylength hx (by rw [e2]; exact Ar4.1) (State.isArrayOf_alike hZ.alike Ar4.2.1) (g := (mkF m 23 #[rv t, iv 1, rv r] [.ref t, .int 0, .ref r, .int 0, .ref t])) rfl rfl (hb hby od451) _ k) ?_
  rw [len_of Sz4 Ng4]
  refine s_iloadN X2 hx (hb hby od452) rfl  ?_
  obtain ⟨_, _, ⟨T5, L5, k5, n5⟩, -, X5, ⟨Lc5, hQ5, l5, y5, z5⟩, st5⟩ := Jvm.LawKit.callS X2 hx hown (mvT hZ (ow hw 290 rfl)) (mvT hZ (ow hw 291 rfl)) (mvT hZ (ow hw 292 rfl)) (mvT hZ (ow hw 293 rfl)) (by decide) (backOf (W := 4) (own_mn_ l Z a0 hw (3 : Int32) (1 : Int32) h2 n0 (Nat.le_trans Z0 K2.1)) hZ (ow hw 293 rfl) (ow hw 292 rfl) (by decide) (by decide)) (g := (mkF m 25 #[rv t, iv 1, rv r] [.int 1, .int 3, .int 0, .ref r, .int 0, .ref t])) rfl (by rw [hml]; rfl) (argsL := [.int 3, .int 1]) (rest := [.int 0, .ref r, .int 0, .ref t]) (lenOf own_pd16 rfl) rfl (by show 2 * 0 + _ ≤ _; exact Nat.le_of_eq rfl) (hb hby od453) (fun _ _ => ⟨rfl, e2, (by decide : 1 + 0 ≤ _), (by decide : 1 + 0 ≤ _)⟩)
  dsimp only [Pt.U, Pt.locs, Pt.cells, Pt.slots] at X5 l5 y5 z5 st5 hQ5
  subst y5 z5
  obtain ⟨rfl, N5q, hh5⟩ := hQ5
  have N5 := frE l5 N0 N5q
  refine og T5 28 #[rv t, iv 1, rv r] [(.int (own_mn (3 : Int32) (1 : Int32))), .int 0, .ref r, .int 0, .ref t] st5 ?_
  rw [show own_mn (3 : Int32) (1 : Int32) = (1 : Int32) from by decide]
  obtain ⟨T6, h6, L6, X6, e6, N6, Kc6, V6, st6⟩ := cpA X5 hx hZ hown (ow hw 294 rfl) (ow hw 297 rfl) (ow hw 295 rfl) (ow hw 296 rfl) hh5 c3_V V2 (us := [.int x1]) (sp := 0) (dp := 0) (nn := (1 : Int32)) (Or.inl ⟨rfl, rfl⟩) (by decide) (by decide) (by decide) (by decide) (by decide) rfl (by decide) N5 gn_r (g := (mkF m 28 #[rv t, iv 1, rv r] [.int 1, .int 0, .ref r, .int 0, .ref t])) rfl (by rw [hml]; rfl) rfl (hb hby od454) (by decide) (W := 0) (by show 2 * 0 + _ ≤ _; exact Nat.le_of_eq rfl) (by decide)
  refine og T6 31 #[rv t, iv 1, rv r] [] st6 ?_
  have K6x := K2.trans Kc6 (allS (Or.inr sz_r) all0)
  refine s_aloadN X6 hx (hb hby od455) rfl rfl  ?_
  refine own_retA X6 hx hlk hret rfl rfl (hb hby od456) ?_ (by decide) (by decide)
  rw [e6]
  exact ⟨_, _, rfl, N6, K6x, V6, sz_r⟩
set_option maxRecDepth 65536 in
set_option maxHeartbeats 40000000 in
theorem own_cpi2 (l : Launch) (Z : State) (a0 : Array Value) (hw : ∀ d ∈ tables_1, d.before a0 Z = true) (t : Addr) (x1 x2 : Int32) (k : ClassId) (h0 : Heap) (n0 : Nat) (Z0 : n0 ≤ h0.size) (V : Arv Z h0 t k .int 3 [.int x1, .int x2, .int 0] (.int 0)) (Ex : Exa Z h0 t "[I") :
    own_C l Z (⟨"java/util/Arrays", "copyOf", "([II)[I"⟩ : MethodName) jdk_65_method_123_code 3 (some (.array .int)) [] ({ frames := 1, cells := 1, slots := 2, locals := 18 } : Room) #[.ref t, .int 2] h0 (own_Qa Z (2 : Int32) [.int x1, .int x2] h0 n0) := by
  refine MetFree.of_bodySF (plainFor_of_name own_pn14) hisR ?_
  intro p e s m args below meth c s₁ Bd hml hP hK
  obtain ⟨rfl, hZ, hh⟩ := hP
  obtain ⟨hx, hby, hlk, hret, hown, hnm, X0, e0⟩ := own_hd Bd hh
  have N0 := Fr.nil n0
  refine own_open (own_ef13 m t ((2 : Int32))) ?_
  refine s_iloadN X0 hx (hb hby od439) rfl  ?_
  refine s_aloadN X0 hx (hb hby od440) rfl rfl  ?_
  have vv1 := V
  obtain ⟨cl1, Ar1, qa1, Sz1, Ng1, Ha1, Ga1⟩ := vv1
  refine og s₁ 3 #[rv t, iv 2, .unset] [(.int cl1.slots.size.toInt32), .int 2] (fun _ k => X0.arraylength hx (by rw [e0]; exact Ar1.1) (State.isArrayOf_alike hZ.alike Ar1.2.1) (g := (mkF m 2 #[rv t, iv 2, .unset] [.ref t, .int 2])) rfl rfl (hb hby od441) _ k) ?_
  rw [len_of Sz1 Ng1]
  refine s_icmpY 14 X0 hx (hb hby od442) (feq (by decide)).2 (by decide) (by decide) ?_
  refine s_iloadN X0 hx (hb hby od443) rfl  ?_
  obtain ⟨T2, h2, k2, X2, e2, E2, A2, Ex2, st2⟩ := newPE X0 hx hZ (ow hw 169 rfl) e0 (g := (mkF m 15 #[rv t, iv 2, .unset] [.int 2])) rfl (hb hby od444) rfl (by decide) (cap := 2) (by decide) (by decide) (by decide) (by decide) (ad := "[I") (by decide +kernel)
  obtain ⟨r, g2⟩ : ∃ z, z = h0.size := ⟨_, rfl⟩
  rw [← g2] at A2 Ex2 st2
  have V2 : Arv Z h2 r k2 .int (2 : Int32) [.int 0, .int 0] (.int 0) := (Arv.new A2 (by decide)).pad (pad_rep [] (.int 0) 2)
  refine og T2 17 #[rv t, iv 2, .unset] [.ref r] st2 ?_
  have sz_r : h0.size ≤ r := Nat.le_trans (Keep.refl h0 []).1 (Nat.le_of_eq g2.symm)
  have gn_r : n0 ≤ r := Nat.le_trans Z0 sz_r
  have ne_t_r : t ≠ r := Nat.ne_of_lt (Nat.lt_of_lt_of_le V.lt (Nat.le_of_eq g2.symm))
  have c3_V := V.ext E2
  have c3_Ex := Ex.ext E2
  have K2 := (Keep.refl h0 []).ext E2
  refine og T2 18 #[rv t, iv 2, rv r] [] (fun _ k => XS.astoreN X2.here hx rfl (hb hby od445) rfl rfl (l' := #[rv t, iv 2, rv r]) rfl k) ?_
  refine s_aloadN X2 hx (hb hby od446) rfl rfl  ?_
  refine s_iconst 0 X2 hx (hb hby od447) rfl ?_
  refine s_aloadN X2 hx (hb hby od448) rfl rfl  ?_
  refine s_iconst 0 X2 hx (hb hby od449) rfl ?_
  refine s_aloadN X2 hx (hb hby od450) rfl rfl  ?_
  have vv4 := c3_V
  obtain ⟨cl4, Ar4, qa4, Sz4, Ng4, Ha4, Ga4⟩ := vv4
  refine og T2 24 #[rv t, iv 2, rv r] [(.int cl4.slots.size.toInt32), .int 0, .ref r, .int 0, .ref t] (fun _ k => X2.arraylength hx (by rw [e2]; exact Ar4.1) (State.isArrayOf_alike hZ.alike Ar4.2.1) (g := (mkF m 23 #[rv t, iv 2, rv r] [.ref t, .int 0, .ref r, .int 0, .ref t])) rfl rfl (hb hby od451) _ k) ?_
  rw [len_of Sz4 Ng4]
  refine s_iloadN X2 hx (hb hby od452) rfl  ?_
  obtain ⟨_, _, ⟨T5, L5, k5, n5⟩, -, X5, ⟨Lc5, hQ5, l5, y5, z5⟩, st5⟩ := Jvm.LawKit.callS X2 hx hown (mvT hZ (ow hw 290 rfl)) (mvT hZ (ow hw 291 rfl)) (mvT hZ (ow hw 292 rfl)) (mvT hZ (ow hw 293 rfl)) (by decide) (backOf (W := 4) (own_mn_ l Z a0 hw (3 : Int32) (2 : Int32) h2 n0 (Nat.le_trans Z0 K2.1)) hZ (ow hw 293 rfl) (ow hw 292 rfl) (by decide) (by decide)) (g := (mkF m 25 #[rv t, iv 2, rv r] [.int 2, .int 3, .int 0, .ref r, .int 0, .ref t])) rfl (by rw [hml]; rfl) (argsL := [.int 3, .int 2]) (rest := [.int 0, .ref r, .int 0, .ref t]) (lenOf own_pd16 rfl) rfl (by show 2 * 0 + _ ≤ _; exact Nat.le_of_eq rfl) (hb hby od453) (fun _ _ => ⟨rfl, e2, (by decide : 1 + 0 ≤ _), (by decide : 2 + 0 ≤ _)⟩)
  dsimp only [Pt.U, Pt.locs, Pt.cells, Pt.slots] at X5 l5 y5 z5 st5 hQ5
  subst y5 z5
  obtain ⟨rfl, N5q, hh5⟩ := hQ5
  have N5 := frE l5 N0 N5q
  refine og T5 28 #[rv t, iv 2, rv r] [(.int (own_mn (3 : Int32) (2 : Int32))), .int 0, .ref r, .int 0, .ref t] st5 ?_
  rw [show own_mn (3 : Int32) (2 : Int32) = (2 : Int32) from by decide]
  obtain ⟨T6, h6, L6, X6, e6, N6, Kc6, V6, st6⟩ := cpA X5 hx hZ hown (ow hw 294 rfl) (ow hw 297 rfl) (ow hw 295 rfl) (ow hw 296 rfl) hh5 c3_V V2 (us := [.int x1, .int x2]) (sp := 0) (dp := 0) (nn := (2 : Int32)) (Or.inl ⟨rfl, rfl⟩) (by decide) (by decide) (by decide) (by decide) (by decide) rfl (by decide) N5 gn_r (g := (mkF m 28 #[rv t, iv 2, rv r] [.int 2, .int 0, .ref r, .int 0, .ref t])) rfl (by rw [hml]; rfl) rfl (hb hby od454) (by decide) (W := 0) (by show 2 * 0 + _ ≤ _; exact Nat.le_of_eq rfl) (by decide)
  refine og T6 31 #[rv t, iv 2, rv r] [] st6 ?_
  have K6x := K2.trans Kc6 (allS (Or.inr sz_r) all0)
  refine s_aloadN X6 hx (hb hby od455) rfl rfl  ?_
  refine own_retA X6 hx hlk hret rfl rfl (hb hby od456) ?_ (by decide) (by decide)
  rw [e6]
  exact ⟨_, _, rfl, N6, K6x, V6, sz_r⟩
set_option maxRecDepth 65536 in
set_option maxHeartbeats 40000000 in
theorem own_cpi3 (l : Launch) (Z : State) (a0 : Array Value) (hw : ∀ d ∈ tables_1, d.before a0 Z = true) (t : Addr) (x1 x2 x3 : Int32) (k : ClassId) (h0 : Heap) (n0 : Nat) (Z0 : n0 ≤ h0.size) (V : Arv Z h0 t k .int 3 [.int x1, .int x2, .int x3] (.int 0)) (Ex : Exa Z h0 t "[I") :
    own_C l Z (⟨"java/util/Arrays", "copyOf", "([II)[I"⟩ : MethodName) jdk_65_method_123_code 3 (some (.array .int)) [] ({ frames := 1, cells := 1, slots := 3, locals := 18 } : Room) #[.ref t, .int 3] h0 (own_Qa Z (3 : Int32) [.int x1, .int x2, .int x3] h0 n0) := by
  refine MetFree.of_bodySF (plainFor_of_name own_pn14) hisR ?_
  intro p e s m args below meth c s₁ Bd hml hP hK
  obtain ⟨rfl, hZ, hh⟩ := hP
  obtain ⟨hx, hby, hlk, hret, hown, hnm, X0, e0⟩ := own_hd Bd hh
  have N0 := Fr.nil n0
  refine own_open (own_ef13 m t ((3 : Int32))) ?_
  refine s_iloadN X0 hx (hb hby od439) rfl  ?_
  refine s_aloadN X0 hx (hb hby od440) rfl rfl  ?_
  have vv1 := V
  obtain ⟨cl1, Ar1, qa1, Sz1, Ng1, Ha1, Ga1⟩ := vv1
  refine og s₁ 3 #[rv t, iv 3, .unset] [(.int cl1.slots.size.toInt32), .int 3] (fun _ k => X0.arraylength hx (by rw [e0]; exact Ar1.1) (State.isArrayOf_alike hZ.alike Ar1.2.1) (g := (mkF m 2 #[rv t, iv 3, .unset] [.ref t, .int 3])) rfl rfl (hb hby od441) _ k) ?_
  rw [len_of Sz1 Ng1]
  refine s_icmpN X0 hx (hb hby od442) (teq rfl).2 ?_
  refine s_aloadN X0 hx (hb hby od457) rfl rfl  ?_
  obtain ⟨T2, h2, X2, e2, E2, V2, Ex2, st2⟩ := cloneH X0 hx hZ hown (ow hw 327 rfl) (ow hw 328 rfl) (ow hw 332 rfl) (ow hw 330 rfl) (ow hw 331 rfl) (ow hw 333 rfl) e0 (V).arh Ex (g := (mkF m 7 #[rv t, iv 3, .unset] [.ref t])) rfl (by rw [hml]; rfl) rfl (hb hby od458) (by decide) (W := 0) (cap := 3) (by show 2 * 0 + _ ≤ _; exact Nat.le_of_eq rfl) (by decide) (by decide) (by decide) (by decide)
  obtain ⟨r, g2⟩ : ∃ z, z = h0.size := ⟨_, rfl⟩
  rw [← g2] at V2 Ex2 st2
  refine og T2 10 #[rv t, iv 3, .unset] [.ref r] st2 ?_
  have sz_r : h0.size ≤ r := Nat.le_trans (Keep.refl h0 []).1 (Nat.le_of_eq g2.symm)
  have gn_r : n0 ≤ r := Nat.le_trans Z0 sz_r
  have ne_t_r : t ≠ r := Nat.ne_of_lt (Nat.lt_of_lt_of_le V.lt (Nat.le_of_eq g2.symm))
  have K2 := (Keep.refl h0 []).ext E2
  obtain ⟨T3, X3, e3, st3⟩ := castY X2 hx hZ hown (ow hw 334 rfl) e2 (Ins.self Ex2) (g := (mkF m 10 #[rv t, iv 3, .unset] [.ref r])) rfl rfl (hb hby od459)
  refine og T3 13 #[rv t, iv 3, .unset] [.ref r] st3 ?_
  refine own_retA X3 hx hlk hret rfl rfl (hb hby od460) ?_ (by decide) (by decide)
  rw [e3]
  exact ⟨_, _, rfl, N0, K2, V2, sz_r⟩
set_option maxRecDepth 65536 in
set_option maxHeartbeats 40000000 in
theorem own_ins0 (l : Launch) (Z : State) (a0 : Array Value) (hw : ∀ d ∈ tables_1, d.before a0 Z = true) (a : Addr)  (k : ClassId) (h0 : Heap) (n0 : Nat) (Z0 : n0 ≤ h0.size) (V : Arv Z h0 a k .int (0 : Int32) [] (.int 0)) (g : n0 ≤ a) :
    own_C l Z (⟨"java/util/DualPivotQuicksort", "insertionSort", "([III)V"⟩ : MethodName) jdk_2529_method_6_code 6 none [] ({ frames := 0, cells := 0, slots := 0, locals := 0 } : Room) #[.ref a, .int 0, .int 0] h0 (own_Qq Z a k (0 : Int32) [] h0 n0) := by
  refine MetFree.of_bodySF (plainFor_of_name own_pn15) hisR ?_
  intro p e s m args below meth c s₁ Bd hml hP hK
  obtain ⟨rfl, hZ, hh⟩ := hP
  obtain ⟨hx, hby, hlk, hret, hown, hnm, X0, e0⟩ := own_hd Bd hh
  have N0 := Fr.nil n0
  refine own_open (own_ef14 m a ((0 : Int32)) ((0 : Int32))) ?_
  refine s_iloadN X0 hx (hb hby od461) rfl  ?_
  refine og s₁ 3 #[rv a, iv 0, iv 0, .unset, iv 0, .unset] [] (fun _ k => XS.istore X0.here hx rfl (hb hby od462) rfl (l' := #[rv a, iv 0, iv 0, .unset, iv 0, .unset]) rfl k) ?_
  refine og s₁ 6 #[rv a, iv 0, iv 0, .unset, iv 1, .unset] [] (fun _ k => XS.iinc X0.here hx rfl (hb hby od463) rfl (l' := #[rv a, iv 0, iv 0, .unset, iv 1, .unset]) rfl k) ?_
  refine s_iload X0 hx (hb hby od464) rfl  ?_
  refine s_iloadN X0 hx (hb hby od465) rfl  ?_
  refine s_icmpY 67 X0 hx (hb hby od466) (flt (by decide)).2.1 (by decide) (by decide) ?_
  refine own_retV X0 hx hlk hret (hb hby od467) ?_ (by decide) (by decide)
  rw [e0]
  exact ⟨rfl, N0, (Keep.refl h0 [a]), V⟩
set_option maxRecDepth 65536 in
set_option maxHeartbeats 40000000 in
theorem own_sf0 (l : Launch) (Z : State) (a0 : Array Value) (hw : ∀ d ∈ tables_1, d.before a0 Z = true) (a : Addr)  (k : ClassId) (h0 : Heap) (n0 : Nat) (Z0 : n0 ≤ h0.size) (V : Arv Z h0 a k .int (0 : Int32) [] (.int 0)) (g : n0 ≤ a) :
    own_C l Z (⟨"java/util/DualPivotQuicksort", "sort", "(Ljava/util/DualPivotQuicksort$Sorter;[IIII)V"⟩ : MethodName) jdk_2529_method_4_code 21 none [] ({ frames := 1, cells := 0, slots := 0, locals := 17 } : Room) #[.null, .ref a, .int 0, .int 0, .int 0] h0 (own_Qq Z a k (0 : Int32) [] h0 n0) := by
  refine MetFree.of_bodySF (plainFor_of_name own_pn15) hisR ?_
  intro p e s m args below meth c s₁ Bd hml hP hK
  obtain ⟨rfl, hZ, hh⟩ := hP
  obtain ⟨hx, hby, hlk, hret, hown, hnm, X0, e0⟩ := own_hd Bd hh
  have N0 := Fr.nil n0
  refine own_open (own_ef15 m a ((0 : Int32)) ((0 : Int32)) ((0 : Int32))) ?_
  refine s_iload X0 hx (hb hby od468) rfl  ?_
  refine s_iconst 1 X0 hx (hb hby od469) rfl ?_
  refine og s₁ 4 #[.val .null, rv a, iv 0, iv 0, iv 0, .unset, .unset, .unset, .unset, .unset, .unset, .unset, .unset, .unset, .unset, .unset, .unset, .unset, .unset, .unset, .unset] [.int (-1)] (fun _ k => XS.isub X0.here hx rfl (hb hby od470) rfl k) ?_
  refine og s₁ 6 #[.val .null, rv a, iv 0, iv 0, iv 0, .val (.int (-1)), .unset, .unset, .unset, .unset, .unset, .unset, .unset, .unset, .unset, .unset, .unset, .unset, .unset, .unset, .unset] [] (fun _ k => XS.istore X0.here hx rfl (hb hby od471) rfl (l' := #[.val .null, rv a, iv 0, iv 0, iv 0, .val (.int (-1)), .unset, .unset, .unset, .unset, .unset, .unset, .unset, .unset, .unset, .unset, .unset, .unset, .unset, .unset, .unset]) rfl k) ?_
  refine s_iload X0 hx (hb hby od472) rfl  ?_
  refine s_iloadN X0 hx (hb hby od473) rfl  ?_
  refine og s₁ 10 #[.val .null, rv a, iv 0, iv 0, iv 0, .val (.int (-1)), .unset, .unset, .unset, .unset, .unset, .unset, .unset, .unset, .unset, .unset, .unset, .unset, .unset, .unset, .unset] [.int 0] (fun _ k => XS.isub X0.here hx rfl (hb hby od474) rfl k) ?_
  refine og s₁ 12 #[.val .null, rv a, iv 0, iv 0, iv 0, .val (.int (-1)), iv 0, .unset, .unset, .unset, .unset, .unset, .unset, .unset, .unset, .unset, .unset, .unset, .unset, .unset, .unset] [] (fun _ k => XS.istore X0.here hx rfl (hb hby od475) rfl (l' := #[.val .null, rv a, iv 0, iv 0, iv 0, .val (.int (-1)), iv 0, .unset, .unset, .unset, .unset, .unset, .unset, .unset, .unset, .unset, .unset, .unset, .unset, .unset, .unset]) rfl k) ?_
  refine s_iload X0 hx (hb hby od476) rfl  ?_
  refine s_bipush 65 X0 hx (hb hby od477) rfl ?_
  refine s_iloadN X0 hx (hb hby od478) rfl  ?_
  refine og s₁ 18 #[.val .null, rv a, iv 0, iv 0, iv 0, .val (.int (-1)), iv 0, .unset, .unset, .unset, .unset, .unset, .unset, .unset, .unset, .unset, .unset, .unset, .unset, .unset, .unset] [.int 65, .int 0] (fun _ k => XS.iadd X0.here hx rfl (hb hby od479) rfl k) ?_
  refine s_icmpN X0 hx (hb hby od480) (tlt (by decide)).2.1 ?_
  refine s_iloadN X0 hx (hb hby od481) rfl  ?_
  refine s_iconst 1 X0 hx (hb hby od482) rfl ?_
  refine og s₁ 24 #[.val .null, rv a, iv 0, iv 0, iv 0, .val (.int (-1)), iv 0, .unset, .unset, .unset, .unset, .unset, .unset, .unset, .unset, .unset, .unset, .unset, .unset, .unset, .unset] [.int 0] (fun _ k => XS.iand X0.here hx rfl (hb hby od483) rfl k) ?_
  refine s_ifY 46 X0 hx (hb hby od484) ((if0 _ _).trans (flt (by decide)).2.2.2) (by decide) (by decide) ?_
  refine s_iload X0 hx (hb hby od485) rfl  ?_
  refine s_bipush 44 X0 hx (hb hby od486) rfl ?_
  refine s_icmpN X0 hx (hb hby od487) (tlt (by decide)).2.1 ?_
  refine s_aloadN X0 hx (hb hby od488) rfl rfl  ?_
  refine s_iloadN X0 hx (hb hby od489) rfl  ?_
  refine s_iload X0 hx (hb hby od490) rfl  ?_
  obtain ⟨_, _, ⟨T1, L1, k1, n1⟩, -, X1, ⟨Lc1, hQ1, l1, y1, z1⟩, st1⟩ := Jvm.LawKit.callS X0 hx hown (mvT hZ (ow hw 310 rfl)) (mvT hZ (ow hw 311 rfl)) (mvT hZ (ow hw 305 rfl)) (mvT hZ (ow hw 312 rfl)) (by decide) (backOf (W := 0) (own_ins0 l Z a0 hw a  k h0 n0 Z0 V g) hZ (ow hw 312 rfl) (ow hw 305 rfl) (by decide) (by decide)) (g := (mkF m 57 #[.val .null, rv a, iv 0, iv 0, iv 0, .val (.int (-1)), iv 0, .unset, .unset, .unset, .unset, .unset, .unset, .unset, .unset, .unset, .unset, .unset, .unset, .unset, .unset] [.int 0, .int 0, .ref a])) rfl (by rw [hml]; rfl) (argsL := [.ref a, .int 0, .int 0]) (rest := []) (lenOf own_pd17 rfl) rfl (by show 2 * 0 + _ ≤ _; exact Nat.le_of_eq rfl) (hb hby od491) (fun _ _ => ⟨rfl, e0, (by decide : 0 + 0 ≤ _), (by decide : 0 + 0 ≤ _)⟩)
  dsimp only [Pt.U, Pt.locs, Pt.cells, Pt.slots] at X1 l1 y1 z1 st1 hQ1
  subst y1 z1
  obtain ⟨rfl, N1q, Kc1, V1c⟩ := hQ1
  have N1 := frE l1 N0 N1q
  refine og T1 60 #[.val .null, rv a, iv 0, iv 0, iv 0, .val (.int (-1)), iv 0, .unset, .unset, .unset, .unset, .unset, .unset, .unset, .unset, .unset, .unset, .unset, .unset, .unset, .unset] [] st1 ?_
  refine own_retV X1 hx hlk hret (hb hby od492) ?_ (by decide) (by decide)
  exact ⟨rfl, N1, Kc1, V1c⟩
set_option maxRecDepth 65536 in
set_option maxHeartbeats 40000000 in
theorem own_sd0 (l : Launch) (Z : State) (a0 : Array Value) (hw : ∀ d ∈ tables_1, d.before a0 Z = true) (a : Addr)  (k : ClassId) (h0 : Heap) (n0 : Nat) (Z0 : n0 ≤ h0.size) (V : Arv Z h0 a k .int (0 : Int32) [] (.int 0)) (g : n0 ≤ a) :
    own_C l Z (⟨"java/util/DualPivotQuicksort", "sort", "([IIII)V"⟩ : MethodName) jdk_2529_method_3_code 7 none [] ({ frames := 2, cells := 0, slots := 0, locals := 49 } : Room) #[.ref a, .int 0, .int 0, .int 0] h0 (own_Qq Z a k (0 : Int32) [] h0 n0) := by
  refine MetFree.of_bodySF (plainFor_of_name own_pn15) hisR ?_
  intro p e s m args below meth c s₁ Bd hml hP hK
  obtain ⟨rfl, hZ, hh⟩ := hP
  obtain ⟨hx, hby, hlk, hret, hown, hnm, X0, e0⟩ := own_hd Bd hh
  have N0 := Fr.nil n0
  refine own_open (own_ef16 m a ((0 : Int32)) ((0 : Int32)) ((0 : Int32))) ?_
  refine s_iloadN X0 hx (hb hby od493) rfl  ?_
  refine s_iloadN X0 hx (hb hby od494) rfl  ?_
  refine og s₁ 3 #[rv a, iv 0, iv 0, iv 0, .unset, .unset, .unset] [.int 0] (fun _ k => XS.isub X0.here hx rfl (hb hby od495) rfl k) ?_
  refine og s₁ 5 #[rv a, iv 0, iv 0, iv 0, iv 0, .unset, .unset] [] (fun _ k => XS.istore X0.here hx rfl (hb hby od496) rfl (l' := #[rv a, iv 0, iv 0, iv 0, iv 0, .unset, .unset]) rfl k) ?_
  refine s_iloadN X0 hx (hb hby od497) rfl  ?_
  refine s_iconst 1 X0 hx (hb hby od498) rfl ?_
  refine s_icmpY 68 X0 hx (hb hby od499) (flt (by decide)).2.2.2 (by decide) (by decide) ?_
  refine s_anull X0 hx (hb hby od500) ?_
  refine s_aloadN X0 hx (hb hby od501) rfl rfl  ?_
  refine s_iconst 0 X0 hx (hb hby od502) rfl ?_
  refine s_iloadN X0 hx (hb hby od503) rfl  ?_
  refine s_iloadN X0 hx (hb hby od504) rfl  ?_
  obtain ⟨_, _, ⟨T1, L1, k1, n1⟩, -, X1, ⟨Lc1, hQ1, l1, y1, z1⟩, st1⟩ := Jvm.LawKit.callS X0 hx hown (mvT hZ (ow hw 307 rfl)) (mvT hZ (ow hw 308 rfl)) (mvT hZ (ow hw 305 rfl)) (mvT hZ (ow hw 309 rfl)) (by decide) (backOf (W := 0) (own_sf0 l Z a0 hw a  k h0 n0 Z0 V g) hZ (ow hw 309 rfl) (ow hw 305 rfl) (by decide) (by decide)) (g := (mkF m 73 #[rv a, iv 0, iv 0, iv 0, iv 0, .unset, .unset] [.int 0, .int 0, .int 0, .ref a, .null])) rfl (by rw [hml]; rfl) (argsL := [.null, .ref a, .int 0, .int 0, .int 0]) (rest := []) (lenOf own_pd18 rfl) rfl (by show 2 * 0 + _ ≤ _; exact Nat.le_of_eq rfl) (hb hby od505) (fun _ _ => ⟨rfl, e0, (by decide : 0 + 0 ≤ _), (by decide : 0 + 0 ≤ _)⟩)
  dsimp only [Pt.U, Pt.locs, Pt.cells, Pt.slots] at X1 l1 y1 z1 st1 hQ1
  subst y1 z1
  obtain ⟨rfl, N1q, Kc1, V1c⟩ := hQ1
  have N1 := frE l1 N0 N1q
  refine og T1 76 #[rv a, iv 0, iv 0, iv 0, iv 0, .unset, .unset] [] st1 ?_
  refine own_retV X1 hx hlk hret (hb hby od506) ?_ (by decide) (by decide)
  exact ⟨rfl, N1, Kc1, V1c⟩
set_option maxRecDepth 65536 in
set_option maxHeartbeats 40000000 in
theorem own_srt0 (l : Launch) (Z : State) (a0 : Array Value) (hw : ∀ d ∈ tables_1, d.before a0 Z = true) (a : Addr)  (k : ClassId) (h0 : Heap) (n0 : Nat) (Z0 : n0 ≤ h0.size) (V : Arv Z h0 a k .int (0 : Int32) [] (.int 0)) (g : n0 ≤ a) :
    own_C l Z (⟨"java/util/Arrays", "sort", "([I)V"⟩ : MethodName) jdk_65_method_2_code 1 none [] ({ frames := 3, cells := 0, slots := 0, locals := 67 } : Room) #[.ref a] h0 (own_Qq Z a k (0 : Int32) [] h0 n0) := by
  refine MetFree.of_bodySF (plainFor_of_name own_pn14) hisR ?_
  intro p e s m args below meth c s₁ Bd hml hP hK
  obtain ⟨rfl, hZ, hh⟩ := hP
  obtain ⟨hx, hby, hlk, hret, hown, hnm, X0, e0⟩ := own_hd Bd hh
  have N0 := Fr.nil n0
  refine own_open (own_ef1 m a) ?_
  refine s_aloadN X0 hx (hb hby od507) rfl rfl  ?_
  refine s_iconst 0 X0 hx (hb hby od508) rfl ?_
  refine s_iconst 0 X0 hx (hb hby od509) rfl ?_
  refine s_aloadN X0 hx (hb hby od510) rfl rfl  ?_
  have vv1 := V
  obtain ⟨cl1, Ar1, qa1, Sz1, Ng1, Ha1, Ga1⟩ := vv1
  refine og s₁ 5 #[rv a] [(.int cl1.slots.size.toInt32), .int 0, .int 0, .ref a] (fun _ k => X0.arraylength hx (by rw [e0]; exact Ar1.1) (State.isArrayOf_alike hZ.alike Ar1.2.1) (g := (mkF m 4 #[rv a] [.ref a, .int 0, .int 0, .ref a])) rfl rfl (hb hby od511) _ k) ?_
  rw [len_of Sz1 Ng1]
  obtain ⟨_, _, ⟨T2, L2, k2, n2⟩, -, X2, ⟨Lc2, hQ2, l2, y2, z2⟩, st2⟩ := Jvm.LawKit.callS X0 hx hown (mvT hZ (ow hw 303 rfl)) (mvT hZ (ow hw 304 rfl)) (mvT hZ (ow hw 305 rfl)) (mvT hZ (ow hw 306 rfl)) (by decide) (backOf (W := 0) (own_sd0 l Z a0 hw a  k h0 n0 Z0 V g) hZ (ow hw 306 rfl) (ow hw 305 rfl) (by decide) (by decide)) (g := (mkF m 5 #[rv a] [.int 0, .int 0, .int 0, .ref a])) rfl (by rw [hml]; rfl) (argsL := [.ref a, .int 0, .int 0, .int 0]) (rest := []) (lenOf own_pd19 rfl) rfl (by show 2 * 0 + _ ≤ _; exact Nat.le_of_eq rfl) (hb hby od512) (fun _ _ => ⟨rfl, e0, (by decide : 0 + 0 ≤ _), (by decide : 0 + 0 ≤ _)⟩)
  dsimp only [Pt.U, Pt.locs, Pt.cells, Pt.slots] at X2 l2 y2 z2 st2 hQ2
  subst y2 z2
  obtain ⟨rfl, N2q, Kc2, V2c⟩ := hQ2
  have N2 := frE l2 N0 N2q
  refine og T2 8 #[rv a] [] st2 ?_
  refine own_retV X2 hx hlk hret (hb hby od513) ?_ (by decide) (by decide)
  exact ⟨rfl, N2, Kc2, V2c⟩
set_option maxRecDepth 65536 in
set_option maxHeartbeats 40000000 in
theorem own_ins1 (l : Launch) (Z : State) (a0 : Array Value) (hw : ∀ d ∈ tables_1, d.before a0 Z = true) (a : Addr) (x1 : Int32) (k : ClassId) (h0 : Heap) (n0 : Nat) (Z0 : n0 ≤ h0.size) (V : Arv Z h0 a k .int (1 : Int32) [.int x1] (.int 0)) (g : n0 ≤ a) :
    own_C l Z (⟨"java/util/DualPivotQuicksort", "insertionSort", "([III)V"⟩ : MethodName) jdk_2529_method_6_code 6 none [] ({ frames := 0, cells := 0, slots := 0, locals := 0 } : Room) #[.ref a, .int 0, .int 1] h0 (own_Qq Z a k (1 : Int32) [.int x1] h0 n0) := by
  refine MetFree.of_bodySF (plainFor_of_name own_pn15) hisR ?_
  intro p e s m args below meth c s₁ Bd hml hP hK
  obtain ⟨rfl, hZ, hh⟩ := hP
  obtain ⟨hx, hby, hlk, hret, hown, hnm, X0, e0⟩ := own_hd Bd hh
  have N0 := Fr.nil n0
  refine own_open (own_ef14 m a ((0 : Int32)) ((1 : Int32))) ?_
  refine s_iloadN X0 hx (hb hby od461) rfl  ?_
  refine og s₁ 3 #[rv a, iv 0, iv 1, .unset, iv 0, .unset] [] (fun _ k => XS.istore X0.here hx rfl (hb hby od462) rfl (l' := #[rv a, iv 0, iv 1, .unset, iv 0, .unset]) rfl k) ?_
  refine og s₁ 6 #[rv a, iv 0, iv 1, .unset, iv 1, .unset] [] (fun _ k => XS.iinc X0.here hx rfl (hb hby od463) rfl (l' := #[rv a, iv 0, iv 1, .unset, iv 1, .unset]) rfl k) ?_
  refine s_iload X0 hx (hb hby od464) rfl  ?_
  refine s_iloadN X0 hx (hb hby od465) rfl  ?_
  refine s_icmpY 67 X0 hx (hb hby od466) (flt (by decide)).2.1 (by decide) (by decide) ?_
  refine own_retV X0 hx hlk hret (hb hby od467) ?_ (by decide) (by decide)
  rw [e0]
  exact ⟨rfl, N0, (Keep.refl h0 [a]), V⟩
set_option maxRecDepth 65536 in
set_option maxHeartbeats 40000000 in
theorem own_sf1 (l : Launch) (Z : State) (a0 : Array Value) (hw : ∀ d ∈ tables_1, d.before a0 Z = true) (a : Addr) (x1 : Int32) (k : ClassId) (h0 : Heap) (n0 : Nat) (Z0 : n0 ≤ h0.size) (V : Arv Z h0 a k .int (1 : Int32) [.int x1] (.int 0)) (g : n0 ≤ a) :
    own_C l Z (⟨"java/util/DualPivotQuicksort", "sort", "(Ljava/util/DualPivotQuicksort$Sorter;[IIII)V"⟩ : MethodName) jdk_2529_method_4_code 21 none [] ({ frames := 1, cells := 0, slots := 0, locals := 17 } : Room) #[.null, .ref a, .int 0, .int 0, .int 1] h0 (own_Qq Z a k (1 : Int32) [.int x1] h0 n0) := by
  refine MetFree.of_bodySF (plainFor_of_name own_pn15) hisR ?_
  intro p e s m args below meth c s₁ Bd hml hP hK
  obtain ⟨rfl, hZ, hh⟩ := hP
  obtain ⟨hx, hby, hlk, hret, hown, hnm, X0, e0⟩ := own_hd Bd hh
  have N0 := Fr.nil n0
  refine own_open (own_ef15 m a ((0 : Int32)) ((0 : Int32)) ((1 : Int32))) ?_
  refine s_iload X0 hx (hb hby od468) rfl  ?_
  refine s_iconst 1 X0 hx (hb hby od469) rfl ?_
  refine og s₁ 4 #[.val .null, rv a, iv 0, iv 0, iv 1, .unset, .unset, .unset, .unset, .unset, .unset, .unset, .unset, .unset, .unset, .unset, .unset, .unset, .unset, .unset, .unset] [.int 0] (fun _ k => XS.isub X0.here hx rfl (hb hby od470) rfl k) ?_
  refine og s₁ 6 #[.val .null, rv a, iv 0, iv 0, iv 1, iv 0, .unset, .unset, .unset, .unset, .unset, .unset, .unset, .unset, .unset, .unset, .unset, .unset, .unset, .unset, .unset] [] (fun _ k => XS.istore X0.here hx rfl (hb hby od471) rfl (l' := #[.val .null, rv a, iv 0, iv 0, iv 1, iv 0, .unset, .unset, .unset, .unset, .unset, .unset, .unset, .unset, .unset, .unset, .unset, .unset, .unset, .unset, .unset]) rfl k) ?_
  refine s_iload X0 hx (hb hby od472) rfl  ?_
  refine s_iloadN X0 hx (hb hby od473) rfl  ?_
  refine og s₁ 10 #[.val .null, rv a, iv 0, iv 0, iv 1, iv 0, .unset, .unset, .unset, .unset, .unset, .unset, .unset, .unset, .unset, .unset, .unset, .unset, .unset, .unset, .unset] [.int 1] (fun _ k => XS.isub X0.here hx rfl (hb hby od474) rfl k) ?_
  refine og s₁ 12 #[.val .null, rv a, iv 0, iv 0, iv 1, iv 0, iv 1, .unset, .unset, .unset, .unset, .unset, .unset, .unset, .unset, .unset, .unset, .unset, .unset, .unset, .unset] [] (fun _ k => XS.istore X0.here hx rfl (hb hby od475) rfl (l' := #[.val .null, rv a, iv 0, iv 0, iv 1, iv 0, iv 1, .unset, .unset, .unset, .unset, .unset, .unset, .unset, .unset, .unset, .unset, .unset, .unset, .unset, .unset]) rfl k) ?_
  refine s_iload X0 hx (hb hby od476) rfl  ?_
  refine s_bipush 65 X0 hx (hb hby od477) rfl ?_
  refine s_iloadN X0 hx (hb hby od478) rfl  ?_
  refine og s₁ 18 #[.val .null, rv a, iv 0, iv 0, iv 1, iv 0, iv 1, .unset, .unset, .unset, .unset, .unset, .unset, .unset, .unset, .unset, .unset, .unset, .unset, .unset, .unset] [.int 65, .int 1] (fun _ k => XS.iadd X0.here hx rfl (hb hby od479) rfl k) ?_
  refine s_icmpN X0 hx (hb hby od480) (tlt (by decide)).2.1 ?_
  refine s_iloadN X0 hx (hb hby od481) rfl  ?_
  refine s_iconst 1 X0 hx (hb hby od482) rfl ?_
  refine og s₁ 24 #[.val .null, rv a, iv 0, iv 0, iv 1, iv 0, iv 1, .unset, .unset, .unset, .unset, .unset, .unset, .unset, .unset, .unset, .unset, .unset, .unset, .unset, .unset] [.int 0] (fun _ k => XS.iand X0.here hx rfl (hb hby od483) rfl k) ?_
  refine s_ifY 46 X0 hx (hb hby od484) ((if0 _ _).trans (flt (by decide)).2.2.2) (by decide) (by decide) ?_
  refine s_iload X0 hx (hb hby od485) rfl  ?_
  refine s_bipush 44 X0 hx (hb hby od486) rfl ?_
  refine s_icmpN X0 hx (hb hby od487) (tlt (by decide)).2.1 ?_
  refine s_aloadN X0 hx (hb hby od488) rfl rfl  ?_
  refine s_iloadN X0 hx (hb hby od489) rfl  ?_
  refine s_iload X0 hx (hb hby od490) rfl  ?_
  obtain ⟨_, _, ⟨T1, L1, k1, n1⟩, -, X1, ⟨Lc1, hQ1, l1, y1, z1⟩, st1⟩ := Jvm.LawKit.callS X0 hx hown (mvT hZ (ow hw 310 rfl)) (mvT hZ (ow hw 311 rfl)) (mvT hZ (ow hw 305 rfl)) (mvT hZ (ow hw 312 rfl)) (by decide) (backOf (W := 0) (own_ins1 l Z a0 hw a x1 k h0 n0 Z0 V g) hZ (ow hw 312 rfl) (ow hw 305 rfl) (by decide) (by decide)) (g := (mkF m 57 #[.val .null, rv a, iv 0, iv 0, iv 1, iv 0, iv 1, .unset, .unset, .unset, .unset, .unset, .unset, .unset, .unset, .unset, .unset, .unset, .unset, .unset, .unset] [.int 1, .int 0, .ref a])) rfl (by rw [hml]; rfl) (argsL := [.ref a, .int 0, .int 1]) (rest := []) (lenOf own_pd17 rfl) rfl (by show 2 * 0 + _ ≤ _; exact Nat.le_of_eq rfl) (hb hby od491) (fun _ _ => ⟨rfl, e0, (by decide : 0 + 0 ≤ _), (by decide : 0 + 0 ≤ _)⟩)
  dsimp only [Pt.U, Pt.locs, Pt.cells, Pt.slots] at X1 l1 y1 z1 st1 hQ1
  subst y1 z1
  obtain ⟨rfl, N1q, Kc1, V1c⟩ := hQ1
  have N1 := frE l1 N0 N1q
  refine og T1 60 #[.val .null, rv a, iv 0, iv 0, iv 1, iv 0, iv 1, .unset, .unset, .unset, .unset, .unset, .unset, .unset, .unset, .unset, .unset, .unset, .unset, .unset, .unset] [] st1 ?_
  refine own_retV X1 hx hlk hret (hb hby od492) ?_ (by decide) (by decide)
  exact ⟨rfl, N1, Kc1, V1c⟩
set_option maxRecDepth 65536 in
set_option maxHeartbeats 40000000 in
theorem own_sd1 (l : Launch) (Z : State) (a0 : Array Value) (hw : ∀ d ∈ tables_1, d.before a0 Z = true) (a : Addr) (x1 : Int32) (k : ClassId) (h0 : Heap) (n0 : Nat) (Z0 : n0 ≤ h0.size) (V : Arv Z h0 a k .int (1 : Int32) [.int x1] (.int 0)) (g : n0 ≤ a) :
    own_C l Z (⟨"java/util/DualPivotQuicksort", "sort", "([IIII)V"⟩ : MethodName) jdk_2529_method_3_code 7 none [] ({ frames := 2, cells := 0, slots := 0, locals := 49 } : Room) #[.ref a, .int 0, .int 0, .int 1] h0 (own_Qq Z a k (1 : Int32) [.int x1] h0 n0) := by
  refine MetFree.of_bodySF (plainFor_of_name own_pn15) hisR ?_
  intro p e s m args below meth c s₁ Bd hml hP hK
  obtain ⟨rfl, hZ, hh⟩ := hP
  obtain ⟨hx, hby, hlk, hret, hown, hnm, X0, e0⟩ := own_hd Bd hh
  have N0 := Fr.nil n0
  refine own_open (own_ef16 m a ((0 : Int32)) ((0 : Int32)) ((1 : Int32))) ?_
  refine s_iloadN X0 hx (hb hby od493) rfl  ?_
  refine s_iloadN X0 hx (hb hby od494) rfl  ?_
  refine og s₁ 3 #[rv a, iv 0, iv 0, iv 1, .unset, .unset, .unset] [.int 1] (fun _ k => XS.isub X0.here hx rfl (hb hby od495) rfl k) ?_
  refine og s₁ 5 #[rv a, iv 0, iv 0, iv 1, iv 1, .unset, .unset] [] (fun _ k => XS.istore X0.here hx rfl (hb hby od496) rfl (l' := #[rv a, iv 0, iv 0, iv 1, iv 1, .unset, .unset]) rfl k) ?_
  refine s_iloadN X0 hx (hb hby od497) rfl  ?_
  refine s_iconst 1 X0 hx (hb hby od498) rfl ?_
  refine s_icmpY 68 X0 hx (hb hby od499) (flt (by decide)).2.2.2 (by decide) (by decide) ?_
  refine s_anull X0 hx (hb hby od500) ?_
  refine s_aloadN X0 hx (hb hby od501) rfl rfl  ?_
  refine s_iconst 0 X0 hx (hb hby od502) rfl ?_
  refine s_iloadN X0 hx (hb hby od503) rfl  ?_
  refine s_iloadN X0 hx (hb hby od504) rfl  ?_
  obtain ⟨_, _, ⟨T1, L1, k1, n1⟩, -, X1, ⟨Lc1, hQ1, l1, y1, z1⟩, st1⟩ := Jvm.LawKit.callS X0 hx hown (mvT hZ (ow hw 307 rfl)) (mvT hZ (ow hw 308 rfl)) (mvT hZ (ow hw 305 rfl)) (mvT hZ (ow hw 309 rfl)) (by decide) (backOf (W := 0) (own_sf1 l Z a0 hw a x1 k h0 n0 Z0 V g) hZ (ow hw 309 rfl) (ow hw 305 rfl) (by decide) (by decide)) (g := (mkF m 73 #[rv a, iv 0, iv 0, iv 1, iv 1, .unset, .unset] [.int 1, .int 0, .int 0, .ref a, .null])) rfl (by rw [hml]; rfl) (argsL := [.null, .ref a, .int 0, .int 0, .int 1]) (rest := []) (lenOf own_pd18 rfl) rfl (by show 2 * 0 + _ ≤ _; exact Nat.le_of_eq rfl) (hb hby od505) (fun _ _ => ⟨rfl, e0, (by decide : 0 + 0 ≤ _), (by decide : 0 + 0 ≤ _)⟩)
  dsimp only [Pt.U, Pt.locs, Pt.cells, Pt.slots] at X1 l1 y1 z1 st1 hQ1
  subst y1 z1
  obtain ⟨rfl, N1q, Kc1, V1c⟩ := hQ1
  have N1 := frE l1 N0 N1q
  refine og T1 76 #[rv a, iv 0, iv 0, iv 1, iv 1, .unset, .unset] [] st1 ?_
  refine own_retV X1 hx hlk hret (hb hby od506) ?_ (by decide) (by decide)
  exact ⟨rfl, N1, Kc1, V1c⟩
set_option maxRecDepth 65536 in
set_option maxHeartbeats 40000000 in
theorem own_srt1 (l : Launch) (Z : State) (a0 : Array Value) (hw : ∀ d ∈ tables_1, d.before a0 Z = true) (a : Addr) (x1 : Int32) (k : ClassId) (h0 : Heap) (n0 : Nat) (Z0 : n0 ≤ h0.size) (V : Arv Z h0 a k .int (1 : Int32) [.int x1] (.int 0)) (g : n0 ≤ a) :
    own_C l Z (⟨"java/util/Arrays", "sort", "([I)V"⟩ : MethodName) jdk_65_method_2_code 1 none [] ({ frames := 3, cells := 0, slots := 0, locals := 67 } : Room) #[.ref a] h0 (own_Qq Z a k (1 : Int32) [.int x1] h0 n0) := by
  refine MetFree.of_bodySF (plainFor_of_name own_pn14) hisR ?_
  intro p e s m args below meth c s₁ Bd hml hP hK
  obtain ⟨rfl, hZ, hh⟩ := hP
  obtain ⟨hx, hby, hlk, hret, hown, hnm, X0, e0⟩ := own_hd Bd hh
  have N0 := Fr.nil n0
  refine own_open (own_ef1 m a) ?_
  refine s_aloadN X0 hx (hb hby od507) rfl rfl  ?_
  refine s_iconst 0 X0 hx (hb hby od508) rfl ?_
  refine s_iconst 0 X0 hx (hb hby od509) rfl ?_
  refine s_aloadN X0 hx (hb hby od510) rfl rfl  ?_
  have vv1 := V
  obtain ⟨cl1, Ar1, qa1, Sz1, Ng1, Ha1, Ga1⟩ := vv1
  refine og s₁ 5 #[rv a] [(.int cl1.slots.size.toInt32), .int 0, .int 0, .ref a] (fun _ k => X0.arraylength hx (by rw [e0]; exact Ar1.1) (State.isArrayOf_alike hZ.alike Ar1.2.1) (g := (mkF m 4 #[rv a] [.ref a, .int 0, .int 0, .ref a])) rfl rfl (hb hby od511) _ k) ?_
  rw [len_of Sz1 Ng1]
  obtain ⟨_, _, ⟨T2, L2, k2, n2⟩, -, X2, ⟨Lc2, hQ2, l2, y2, z2⟩, st2⟩ := Jvm.LawKit.callS X0 hx hown (mvT hZ (ow hw 303 rfl)) (mvT hZ (ow hw 304 rfl)) (mvT hZ (ow hw 305 rfl)) (mvT hZ (ow hw 306 rfl)) (by decide) (backOf (W := 0) (own_sd1 l Z a0 hw a x1 k h0 n0 Z0 V g) hZ (ow hw 306 rfl) (ow hw 305 rfl) (by decide) (by decide)) (g := (mkF m 5 #[rv a] [.int 1, .int 0, .int 0, .ref a])) rfl (by rw [hml]; rfl) (argsL := [.ref a, .int 0, .int 0, .int 1]) (rest := []) (lenOf own_pd19 rfl) rfl (by show 2 * 0 + _ ≤ _; exact Nat.le_of_eq rfl) (hb hby od512) (fun _ _ => ⟨rfl, e0, (by decide : 0 + 0 ≤ _), (by decide : 0 + 0 ≤ _)⟩)
  dsimp only [Pt.U, Pt.locs, Pt.cells, Pt.slots] at X2 l2 y2 z2 st2 hQ2
  subst y2 z2
  obtain ⟨rfl, N2q, Kc2, V2c⟩ := hQ2
  have N2 := frE l2 N0 N2q
  refine og T2 8 #[rv a] [] st2 ?_
  refine own_retV X2 hx hlk hret (hb hby od513) ?_ (by decide) (by decide)
  exact ⟨rfl, N2, Kc2, V2c⟩
set_option maxRecDepth 65536 in
set_option maxHeartbeats 40000000 in
theorem own_ins2 (l : Launch) (Z : State) (a0 : Array Value) (hw : ∀ d ∈ tables_1, d.before a0 Z = true) (a : Addr) (x1 x2 : Int32) (k : ClassId) (h0 : Heap) (n0 : Nat) (Z0 : n0 ≤ h0.size) (V : Arv Z h0 a k .int (2 : Int32) [.int x1, .int x2] (.int 0)) (g : n0 ≤ a) :
    own_C l Z (⟨"java/util/DualPivotQuicksort", "insertionSort", "([III)V"⟩ : MethodName) jdk_2529_method_6_code 6 none [] ({ frames := 0, cells := 0, slots := 0, locals := 0 } : Room) #[.ref a, .int 0, .int 2] h0 (own_Qq Z a k (2 : Int32) (own_s2 x1 x2) h0 n0) := by
  refine MetFree.of_bodySF (plainFor_of_name own_pn15) hisR ?_
  intro p e s m args below meth c s₁ Bd hml hP hK
  obtain ⟨rfl, hZ, hh⟩ := hP
  obtain ⟨hx, hby, hlk, hret, hown, hnm, X0, e0⟩ := own_hd Bd hh
  have N0 := Fr.nil n0
  refine own_open (own_ef14 m a ((0 : Int32)) ((2 : Int32))) ?_
  refine s_iloadN X0 hx (hb hby od461) rfl  ?_
  refine og s₁ 3 #[rv a, iv 0, iv 2, .unset, iv 0, .unset] [] (fun _ k => XS.istore X0.here hx rfl (hb hby od462) rfl (l' := #[rv a, iv 0, iv 2, .unset, iv 0, .unset]) rfl k) ?_
  refine og s₁ 6 #[rv a, iv 0, iv 2, .unset, iv 1, .unset] [] (fun _ k => XS.iinc X0.here hx rfl (hb hby od463) rfl (l' := #[rv a, iv 0, iv 2, .unset, iv 1, .unset]) rfl k) ?_
  refine s_iload X0 hx (hb hby od464) rfl  ?_
  refine s_iloadN X0 hx (hb hby od465) rfl  ?_
  refine s_icmpN X0 hx (hb hby od466) (tlt (by decide)).2.1 ?_
  refine s_aloadN X0 hx (hb hby od514) rfl rfl  ?_
  refine s_iload X0 hx (hb hby od515) rfl  ?_
  refine s_dup X0 hx (hb hby od516) rfl ?_
  refine og s₁ 17 #[rv a, iv 0, iv 2, iv 1, iv 1, .unset] [.int 1, .ref a] (fun _ k => XS.istoreN X0.here hx rfl (hb hby od517) rfl (l' := #[rv a, iv 0, iv 2, iv 1, iv 1, .unset]) rfl k) ?_
  have vv1 := V
  obtain ⟨cl1, Ar1, qa1, Sz1, Ng1, Ha1, Ga1⟩ := vv1
  have hin1 : ¬ ((1 : Int32) < 0 ∨ cl1.slots.size ≤ ((1 : Int32)).toNatClampNeg) := inb_of Sz1 ⟨by decide, by decide⟩
  refine og s₁ 18 #[rv a, iv 0, iv 2, iv 1, iv 1, .unset] [.int x2] (fun _ k => X0.iaload hx (j := (1 : Int32)) (v := (.int x2)) (by rw [e0]; exact Ar1.1) (State.isArrayOf_alike hZ.alike Ar1.2.1) Ar1.2.2 hin1 (Ha1.at hin1 rfl) (g := (mkF m 17 #[rv a, iv 0, iv 2, iv 1, iv 1, .unset] [.int 1, .ref a])) rfl rfl (hb hby od518) _ k) ?_
  refine og s₁ 20 #[rv a, iv 0, iv 2, iv 1, iv 1, iv x2] [] (fun _ k => XS.istore X0.here hx rfl (hb hby od519) rfl (l' := #[rv a, iv 0, iv 2, iv 1, iv 1, iv x2]) rfl k) ?_
  refine s_iload X0 hx (hb hby od520) rfl  ?_
  refine s_aloadN X0 hx (hb hby od521) rfl rfl  ?_
  refine s_iloadN X0 hx (hb hby od522) rfl  ?_
  refine s_iconst 1 X0 hx (hb hby od523) rfl ?_
  refine og s₁ 26 #[rv a, iv 0, iv 2, iv 1, iv 1, iv x2] [.int 0, .ref a, .int x2] (fun _ k => XS.isub X0.here hx rfl (hb hby od524) rfl k) ?_
  have vv2 := V
  obtain ⟨cl2, Ar2, qa2, Sz2, Ng2, Ha2, Ga2⟩ := vv2
  have hin2 : ¬ ((0 : Int32) < 0 ∨ cl2.slots.size ≤ ((0 : Int32)).toNatClampNeg) := inb_of Sz2 ⟨by decide, by decide⟩
  refine og s₁ 27 #[rv a, iv 0, iv 2, iv 1, iv 1, iv x2] [.int x1, .int x2] (fun _ k => X0.iaload hx (j := (0 : Int32)) (v := (.int x1)) (by rw [e0]; exact Ar2.1) (State.isArrayOf_alike hZ.alike Ar2.2.1) Ar2.2.2 hin2 (Ha2.at hin2 rfl) (g := (mkF m 26 #[rv a, iv 0, iv 2, iv 1, iv 1, iv x2] [.int 0, .ref a, .int x2])) rfl rfl (hb hby od525) _ k) ?_
  by_cases c_x2_x1 : x2 < x1
  · skip
    refine s_icmpN X0 hx (hb hby od526) (tlt c_x2_x1).2.1 ?_
    refine og s₁ 33 #[rv a, iv 0, iv 2, iv 0, iv 1, iv x2] [] (fun _ k => XS.iinc X0.here hx rfl (hb hby od527) rfl (l' := #[rv a, iv 0, iv 2, iv 0, iv 1, iv x2]) rfl k) ?_
    refine s_iloadN X0 hx (hb hby od528) rfl  ?_
    refine s_iloadN X0 hx (hb hby od529) rfl  ?_
    refine s_icmpN X0 hx (hb hby od530) (flt (by decide)).1 ?_
    refine s_iload X0 hx (hb hby od531) rfl  ?_
    refine s_aloadN X0 hx (hb hby od532) rfl rfl  ?_
    refine s_iloadN X0 hx (hb hby od533) rfl  ?_
    have vv3 := V
    obtain ⟨cl3, Ar3, qa3, Sz3, Ng3, Ha3, Ga3⟩ := vv3
    have hin3 : ¬ ((0 : Int32) < 0 ∨ cl3.slots.size ≤ ((0 : Int32)).toNatClampNeg) := inb_of Sz3 ⟨by decide, by decide⟩
    refine og s₁ 43 #[rv a, iv 0, iv 2, iv 0, iv 1, iv x2] [.int x1, .int x2] (fun _ k => X0.iaload hx (j := (0 : Int32)) (v := (.int x1)) (by rw [e0]; exact Ar3.1) (State.isArrayOf_alike hZ.alike Ar3.2.1) Ar3.2.2 hin3 (Ha3.at hin3 rfl) (g := (mkF m 42 #[rv a, iv 0, iv 2, iv 0, iv 1, iv x2] [.int 0, .ref a, .int x2])) rfl rfl (hb hby od534) _ k) ?_
    refine s_icmpN X0 hx (hb hby od535) (tlt c_x2_x1).2.1 ?_
    refine s_aloadN X0 hx (hb hby od536) rfl rfl  ?_
    refine s_iloadN X0 hx (hb hby od537) rfl  ?_
    refine s_iconst 1 X0 hx (hb hby od538) rfl ?_
    refine og s₁ 50 #[rv a, iv 0, iv 2, iv 0, iv 1, iv x2] [.int 1, .ref a] (fun _ k => XS.iadd X0.here hx rfl (hb hby od539) rfl k) ?_
    refine s_aloadN X0 hx (hb hby od540) rfl rfl  ?_
    refine s_iloadN X0 hx (hb hby od541) rfl  ?_
    have vv4 := V
    obtain ⟨cl4, Ar4, qa4, Sz4, Ng4, Ha4, Ga4⟩ := vv4
    have hin4 : ¬ ((0 : Int32) < 0 ∨ cl4.slots.size ≤ ((0 : Int32)).toNatClampNeg) := inb_of Sz4 ⟨by decide, by decide⟩
    refine og s₁ 53 #[rv a, iv 0, iv 2, iv 0, iv 1, iv x2] [.int x1, .int 1, .ref a] (fun _ k => X0.iaload hx (j := (0 : Int32)) (v := (.int x1)) (by rw [e0]; exact Ar4.1) (State.isArrayOf_alike hZ.alike Ar4.2.1) Ar4.2.2 hin4 (Ha4.at hin4 rfl) (g := (mkF m 52 #[rv a, iv 0, iv 2, iv 0, iv 1, iv x2] [.int 0, .ref a, .int 1, .ref a])) rfl rfl (hb hby od542) _ k) ?_
    have vv5 := V
    obtain ⟨cl5, Ar5, qa5, Sz5, Ng5, Ha5, Ga5⟩ := vv5
    have hin5 : ¬ ((1 : Int32) < 0 ∨ cl5.slots.size ≤ ((1 : Int32)).toNatClampNeg) := inb_of Sz5 ⟨by decide, by decide⟩
    obtain ⟨T6, h6, X6, e6, W6, st6⟩ := stI X0 hx hZ e0 Ar5 (j := (1 : Int32)) hin5 (g := (mkF m 53 #[rv a, iv 0, iv 2, iv 0, iv 1, iv x2] [.int x1, .int 1, .ref a])) rfl rfl (hb hby od543)
    have V6 := Arv.set Ar5 qa5 Sz5 Ng5 Ha5 Ga5 rfl W6 1 rfl (Nat.le_of_ble_eq_true rfl)
    have N6 := Fr.snoc X6 N0 g
    refine og T6 54 #[rv a, iv 0, iv 2, iv 0, iv 1, iv x2] [] st6 ?_
    have V6' : Arv Z h6 a k .int (2 : Int32) [.int x1, .int x1] (.int 0) := V6
    have K6 := (Keep.refl h0 [a]).wr W6 (Or.inl (List.mem_of_getElem? (i := 0) rfl))
    refine s_goto 30 X6 hx (hb hby od544) (by decide) (by decide) ?_
    refine og T6 33 #[rv a, iv 0, iv 2, .val (.int (-1)), iv 1, iv x2] [] (fun _ k => XS.iinc X6.here hx rfl (hb hby od527) rfl (l' := #[rv a, iv 0, iv 2, .val (.int (-1)), iv 1, iv x2]) rfl k) ?_
    refine s_iloadN X6 hx (hb hby od528) rfl  ?_
    refine s_iloadN X6 hx (hb hby od529) rfl  ?_
    refine s_icmpY 57 X6 hx (hb hby od530) (tlt (by decide)).1 (by decide) (by decide) ?_
    refine s_aloadN X6 hx (hb hby od545) rfl rfl  ?_
    refine s_iloadN X6 hx (hb hby od546) rfl  ?_
    refine s_iconst 1 X6 hx (hb hby od547) rfl ?_
    refine og T6 61 #[rv a, iv 0, iv 2, .val (.int (-1)), iv 1, iv x2] [.int 0, .ref a] (fun _ k => XS.iadd X6.here hx rfl (hb hby od548) rfl k) ?_
    refine s_iload X6 hx (hb hby od549) rfl  ?_
    have vv7 := V6'
    obtain ⟨cl7, Ar7, qa7, Sz7, Ng7, Ha7, Ga7⟩ := vv7
    have hin7 : ¬ ((0 : Int32) < 0 ∨ cl7.slots.size ≤ ((0 : Int32)).toNatClampNeg) := inb_of Sz7 ⟨by decide, by decide⟩
    obtain ⟨T8, h8, X8, e8, W8, st8⟩ := stI X6 hx hZ e6 Ar7 (j := (0 : Int32)) hin7 (g := (mkF m 63 #[rv a, iv 0, iv 2, .val (.int (-1)), iv 1, iv x2] [.int x2, .int 0, .ref a])) rfl rfl (hb hby od550)
    have V8 := Arv.set Ar7 qa7 Sz7 Ng7 Ha7 Ga7 rfl W8 0 rfl (Nat.le_of_ble_eq_true rfl)
    have N8 := Fr.snoc X8 N6 g
    refine og T8 64 #[rv a, iv 0, iv 2, .val (.int (-1)), iv 1, iv x2] [] st8 ?_
    have V8' : Arv Z h8 a k .int (2 : Int32) [.int x2, .int x1] (.int 0) := V8
    have K8 := K6.wr W8 (Or.inl (List.mem_of_getElem? (i := 0) rfl))
    refine s_goto 3 X8 hx (hb hby od551) (by decide) (by decide) ?_
    refine og T8 6 #[rv a, iv 0, iv 2, .val (.int (-1)), iv 2, iv x2] [] (fun _ k => XS.iinc X8.here hx rfl (hb hby od463) rfl (l' := #[rv a, iv 0, iv 2, .val (.int (-1)), iv 2, iv x2]) rfl k) ?_
    refine s_iload X8 hx (hb hby od464) rfl  ?_
    refine s_iloadN X8 hx (hb hby od465) rfl  ?_
    refine s_icmpY 67 X8 hx (hb hby od466) (flt (by decide)).2.1 (by decide) (by decide) ?_
    refine own_retV X8 hx hlk hret (hb hby od467) ?_ (by decide) (by decide)
    rw [e8]
    exact ⟨rfl, N8, K8, (by simp only [own_s2, own_s3, own_t3, c_x2_x1, if_true, if_false, ite_true, ite_false]; exact V8')⟩
  · skip
    refine s_icmpY 64 X0 hx (hb hby od526) (flt c_x2_x1).2.1 (by decide) (by decide) ?_
    refine s_goto 3 X0 hx (hb hby od551) (by decide) (by decide) ?_
    refine og s₁ 6 #[rv a, iv 0, iv 2, iv 1, iv 2, iv x2] [] (fun _ k => XS.iinc X0.here hx rfl (hb hby od463) rfl (l' := #[rv a, iv 0, iv 2, iv 1, iv 2, iv x2]) rfl k) ?_
    refine s_iload X0 hx (hb hby od464) rfl  ?_
    refine s_iloadN X0 hx (hb hby od465) rfl  ?_
    refine s_icmpY 67 X0 hx (hb hby od466) (flt (by decide)).2.1 (by decide) (by decide) ?_
    refine own_retV X0 hx hlk hret (hb hby od467) ?_ (by decide) (by decide)
    rw [e0]
    exact ⟨rfl, N0, (Keep.refl h0 [a]), (by simp only [own_s2, own_s3, own_t3, c_x2_x1, if_true, if_false, ite_true, ite_false]; exact V)⟩
set_option maxRecDepth 65536 in
set_option maxHeartbeats 40000000 in
theorem own_sf2 (l : Launch) (Z : State) (a0 : Array Value) (hw : ∀ d ∈ tables_1, d.before a0 Z = true) (a : Addr) (x1 x2 : Int32) (k : ClassId) (h0 : Heap) (n0 : Nat) (Z0 : n0 ≤ h0.size) (V : Arv Z h0 a k .int (2 : Int32) [.int x1, .int x2] (.int 0)) (g : n0 ≤ a) :
    own_C l Z (⟨"java/util/DualPivotQuicksort", "sort", "(Ljava/util/DualPivotQuicksort$Sorter;[IIII)V"⟩ : MethodName) jdk_2529_method_4_code 21 none [] ({ frames := 1, cells := 0, slots := 0, locals := 17 } : Room) #[.null, .ref a, .int 0, .int 0, .int 2] h0 (own_Qq Z a k (2 : Int32) (own_s2 x1 x2) h0 n0) := by
  refine MetFree.of_bodySF (plainFor_of_name own_pn15) hisR ?_
  intro p e s m args below meth c s₁ Bd hml hP hK
  obtain ⟨rfl, hZ, hh⟩ := hP
  obtain ⟨hx, hby, hlk, hret, hown, hnm, X0, e0⟩ := own_hd Bd hh
  have N0 := Fr.nil n0
  refine own_open (own_ef15 m a ((0 : Int32)) ((0 : Int32)) ((2 : Int32))) ?_
  refine s_iload X0 hx (hb hby od468) rfl  ?_
  refine s_iconst 1 X0 hx (hb hby od469) rfl ?_
  refine og s₁ 4 #[.val .null, rv a, iv 0, iv 0, iv 2, .unset, .unset, .unset, .unset, .unset, .unset, .unset, .unset, .unset, .unset, .unset, .unset, .unset, .unset, .unset, .unset] [.int 1] (fun _ k => XS.isub X0.here hx rfl (hb hby od470) rfl k) ?_
  refine og s₁ 6 #[.val .null, rv a, iv 0, iv 0, iv 2, iv 1, .unset, .unset, .unset, .unset, .unset, .unset, .unset, .unset, .unset, .unset, .unset, .unset, .unset, .unset, .unset] [] (fun _ k => XS.istore X0.here hx rfl (hb hby od471) rfl (l' := #[.val .null, rv a, iv 0, iv 0, iv 2, iv 1, .unset, .unset, .unset, .unset, .unset, .unset, .unset, .unset, .unset, .unset, .unset, .unset, .unset, .unset, .unset]) rfl k) ?_
  refine s_iload X0 hx (hb hby od472) rfl  ?_
  refine s_iloadN X0 hx (hb hby od473) rfl  ?_
  refine og s₁ 10 #[.val .null, rv a, iv 0, iv 0, iv 2, iv 1, .unset, .unset, .unset, .unset, .unset, .unset, .unset, .unset, .unset, .unset, .unset, .unset, .unset, .unset, .unset] [.int 2] (fun _ k => XS.isub X0.here hx rfl (hb hby od474) rfl k) ?_
  refine og s₁ 12 #[.val .null, rv a, iv 0, iv 0, iv 2, iv 1, iv 2, .unset, .unset, .unset, .unset, .unset, .unset, .unset, .unset, .unset, .unset, .unset, .unset, .unset, .unset] [] (fun _ k => XS.istore X0.here hx rfl (hb hby od475) rfl (l' := #[.val .null, rv a, iv 0, iv 0, iv 2, iv 1, iv 2, .unset, .unset, .unset, .unset, .unset, .unset, .unset, .unset, .unset, .unset, .unset, .unset, .unset, .unset]) rfl k) ?_
  refine s_iload X0 hx (hb hby od476) rfl  ?_
  refine s_bipush 65 X0 hx (hb hby od477) rfl ?_
  refine s_iloadN X0 hx (hb hby od478) rfl  ?_
  refine og s₁ 18 #[.val .null, rv a, iv 0, iv 0, iv 2, iv 1, iv 2, .unset, .unset, .unset, .unset, .unset, .unset, .unset, .unset, .unset, .unset, .unset, .unset, .unset, .unset] [.int 65, .int 2] (fun _ k => XS.iadd X0.here hx rfl (hb hby od479) rfl k) ?_
  refine s_icmpN X0 hx (hb hby od480) (tlt (by decide)).2.1 ?_
  refine s_iloadN X0 hx (hb hby od481) rfl  ?_
  refine s_iconst 1 X0 hx (hb hby od482) rfl ?_
  refine og s₁ 24 #[.val .null, rv a, iv 0, iv 0, iv 2, iv 1, iv 2, .unset, .unset, .unset, .unset, .unset, .unset, .unset, .unset, .unset, .unset, .unset, .unset, .unset, .unset] [.int 0] (fun _ k => XS.iand X0.here hx rfl (hb hby od483) rfl k) ?_
  refine s_ifY 46 X0 hx (hb hby od484) ((if0 _ _).trans (flt (by decide)).2.2.2) (by decide) (by decide) ?_
  refine s_iload X0 hx (hb hby od485) rfl  ?_
  refine s_bipush 44 X0 hx (hb hby od486) rfl ?_
  refine s_icmpN X0 hx (hb hby od487) (tlt (by decide)).2.1 ?_
  refine s_aloadN X0 hx (hb hby od488) rfl rfl  ?_
  refine s_iloadN X0 hx (hb hby od489) rfl  ?_
  refine s_iload X0 hx (hb hby od490) rfl  ?_
  obtain ⟨_, _, ⟨T1, L1, k1, n1⟩, -, X1, ⟨Lc1, hQ1, l1, y1, z1⟩, st1⟩ := Jvm.LawKit.callS X0 hx hown (mvT hZ (ow hw 310 rfl)) (mvT hZ (ow hw 311 rfl)) (mvT hZ (ow hw 305 rfl)) (mvT hZ (ow hw 312 rfl)) (by decide) (backOf (W := 0) (own_ins2 l Z a0 hw a x1 x2 k h0 n0 Z0 V g) hZ (ow hw 312 rfl) (ow hw 305 rfl) (by decide) (by decide)) (g := (mkF m 57 #[.val .null, rv a, iv 0, iv 0, iv 2, iv 1, iv 2, .unset, .unset, .unset, .unset, .unset, .unset, .unset, .unset, .unset, .unset, .unset, .unset, .unset, .unset] [.int 2, .int 0, .ref a])) rfl (by rw [hml]; rfl) (argsL := [.ref a, .int 0, .int 2]) (rest := []) (lenOf own_pd17 rfl) rfl (by show 2 * 0 + _ ≤ _; exact Nat.le_of_eq rfl) (hb hby od491) (fun _ _ => ⟨rfl, e0, (by decide : 0 + 0 ≤ _), (by decide : 0 + 0 ≤ _)⟩)
  dsimp only [Pt.U, Pt.locs, Pt.cells, Pt.slots] at X1 l1 y1 z1 st1 hQ1
  subst y1 z1
  obtain ⟨rfl, N1q, Kc1, V1c⟩ := hQ1
  have N1 := frE l1 N0 N1q
  refine og T1 60 #[.val .null, rv a, iv 0, iv 0, iv 2, iv 1, iv 2, .unset, .unset, .unset, .unset, .unset, .unset, .unset, .unset, .unset, .unset, .unset, .unset, .unset, .unset] [] st1 ?_
  refine own_retV X1 hx hlk hret (hb hby od492) ?_ (by decide) (by decide)
  exact ⟨rfl, N1, Kc1, V1c⟩
set_option maxRecDepth 65536 in
set_option maxHeartbeats 40000000 in
theorem own_sd2 (l : Launch) (Z : State) (a0 : Array Value) (hw : ∀ d ∈ tables_1, d.before a0 Z = true) (a : Addr) (x1 x2 : Int32) (k : ClassId) (h0 : Heap) (n0 : Nat) (Z0 : n0 ≤ h0.size) (V : Arv Z h0 a k .int (2 : Int32) [.int x1, .int x2] (.int 0)) (g : n0 ≤ a) :
    own_C l Z (⟨"java/util/DualPivotQuicksort", "sort", "([IIII)V"⟩ : MethodName) jdk_2529_method_3_code 7 none [] ({ frames := 2, cells := 0, slots := 0, locals := 49 } : Room) #[.ref a, .int 0, .int 0, .int 2] h0 (own_Qq Z a k (2 : Int32) (own_s2 x1 x2) h0 n0) := by
  refine MetFree.of_bodySF (plainFor_of_name own_pn15) hisR ?_
  intro p e s m args below meth c s₁ Bd hml hP hK
  obtain ⟨rfl, hZ, hh⟩ := hP
  obtain ⟨hx, hby, hlk, hret, hown, hnm, X0, e0⟩ := own_hd Bd hh
  have N0 := Fr.nil n0
  refine own_open (own_ef16 m a ((0 : Int32)) ((0 : Int32)) ((2 : Int32))) ?_
  refine s_iloadN X0 hx (hb hby od493) rfl  ?_
  refine s_iloadN X0 hx (hb hby od494) rfl  ?_
  refine og s₁ 3 #[rv a, iv 0, iv 0, iv 2, .unset, .unset, .unset] [.int 2] (fun _ k => XS.isub X0.here hx rfl (hb hby od495) rfl k) ?_
  refine og s₁ 5 #[rv a, iv 0, iv 0, iv 2, iv 2, .unset, .unset] [] (fun _ k => XS.istore X0.here hx rfl (hb hby od496) rfl (l' := #[rv a, iv 0, iv 0, iv 2, iv 2, .unset, .unset]) rfl k) ?_
  refine s_iloadN X0 hx (hb hby od497) rfl  ?_
  refine s_iconst 1 X0 hx (hb hby od498) rfl ?_
  refine s_icmpY 68 X0 hx (hb hby od499) (flt (by decide)).2.2.2 (by decide) (by decide) ?_
  refine s_anull X0 hx (hb hby od500) ?_
  refine s_aloadN X0 hx (hb hby od501) rfl rfl  ?_
  refine s_iconst 0 X0 hx (hb hby od502) rfl ?_
  refine s_iloadN X0 hx (hb hby od503) rfl  ?_
  refine s_iloadN X0 hx (hb hby od504) rfl  ?_
  obtain ⟨_, _, ⟨T1, L1, k1, n1⟩, -, X1, ⟨Lc1, hQ1, l1, y1, z1⟩, st1⟩ := Jvm.LawKit.callS X0 hx hown (mvT hZ (ow hw 307 rfl)) (mvT hZ (ow hw 308 rfl)) (mvT hZ (ow hw 305 rfl)) (mvT hZ (ow hw 309 rfl)) (by decide) (backOf (W := 0) (own_sf2 l Z a0 hw a x1 x2 k h0 n0 Z0 V g) hZ (ow hw 309 rfl) (ow hw 305 rfl) (by decide) (by decide)) (g := (mkF m 73 #[rv a, iv 0, iv 0, iv 2, iv 2, .unset, .unset] [.int 2, .int 0, .int 0, .ref a, .null])) rfl (by rw [hml]; rfl) (argsL := [.null, .ref a, .int 0, .int 0, .int 2]) (rest := []) (lenOf own_pd18 rfl) rfl (by show 2 * 0 + _ ≤ _; exact Nat.le_of_eq rfl) (hb hby od505) (fun _ _ => ⟨rfl, e0, (by decide : 0 + 0 ≤ _), (by decide : 0 + 0 ≤ _)⟩)
  dsimp only [Pt.U, Pt.locs, Pt.cells, Pt.slots] at X1 l1 y1 z1 st1 hQ1
  subst y1 z1
  obtain ⟨rfl, N1q, Kc1, V1c⟩ := hQ1
  have N1 := frE l1 N0 N1q
  refine og T1 76 #[rv a, iv 0, iv 0, iv 2, iv 2, .unset, .unset] [] st1 ?_
  refine own_retV X1 hx hlk hret (hb hby od506) ?_ (by decide) (by decide)
  exact ⟨rfl, N1, Kc1, V1c⟩
set_option maxRecDepth 65536 in
set_option maxHeartbeats 40000000 in
theorem own_srt2 (l : Launch) (Z : State) (a0 : Array Value) (hw : ∀ d ∈ tables_1, d.before a0 Z = true) (a : Addr) (x1 x2 : Int32) (k : ClassId) (h0 : Heap) (n0 : Nat) (Z0 : n0 ≤ h0.size) (V : Arv Z h0 a k .int (2 : Int32) [.int x1, .int x2] (.int 0)) (g : n0 ≤ a) :
    own_C l Z (⟨"java/util/Arrays", "sort", "([I)V"⟩ : MethodName) jdk_65_method_2_code 1 none [] ({ frames := 3, cells := 0, slots := 0, locals := 67 } : Room) #[.ref a] h0 (own_Qq Z a k (2 : Int32) (own_s2 x1 x2) h0 n0) := by
  refine MetFree.of_bodySF (plainFor_of_name own_pn14) hisR ?_
  intro p e s m args below meth c s₁ Bd hml hP hK
  obtain ⟨rfl, hZ, hh⟩ := hP
  obtain ⟨hx, hby, hlk, hret, hown, hnm, X0, e0⟩ := own_hd Bd hh
  have N0 := Fr.nil n0
  refine own_open (own_ef1 m a) ?_
  refine s_aloadN X0 hx (hb hby od507) rfl rfl  ?_
  refine s_iconst 0 X0 hx (hb hby od508) rfl ?_
  refine s_iconst 0 X0 hx (hb hby od509) rfl ?_
  refine s_aloadN X0 hx (hb hby od510) rfl rfl  ?_
  have vv1 := V
  obtain ⟨cl1, Ar1, qa1, Sz1, Ng1, Ha1, Ga1⟩ := vv1
  refine og s₁ 5 #[rv a] [(.int cl1.slots.size.toInt32), .int 0, .int 0, .ref a] (fun _ k => X0.arraylength hx (by rw [e0]; exact Ar1.1) (State.isArrayOf_alike hZ.alike Ar1.2.1) (g := (mkF m 4 #[rv a] [.ref a, .int 0, .int 0, .ref a])) rfl rfl (hb hby od511) _ k) ?_
  rw [len_of Sz1 Ng1]
  obtain ⟨_, _, ⟨T2, L2, k2, n2⟩, -, X2, ⟨Lc2, hQ2, l2, y2, z2⟩, st2⟩ := Jvm.LawKit.callS X0 hx hown (mvT hZ (ow hw 303 rfl)) (mvT hZ (ow hw 304 rfl)) (mvT hZ (ow hw 305 rfl)) (mvT hZ (ow hw 306 rfl)) (by decide) (backOf (W := 0) (own_sd2 l Z a0 hw a x1 x2 k h0 n0 Z0 V g) hZ (ow hw 306 rfl) (ow hw 305 rfl) (by decide) (by decide)) (g := (mkF m 5 #[rv a] [.int 2, .int 0, .int 0, .ref a])) rfl (by rw [hml]; rfl) (argsL := [.ref a, .int 0, .int 0, .int 2]) (rest := []) (lenOf own_pd19 rfl) rfl (by show 2 * 0 + _ ≤ _; exact Nat.le_of_eq rfl) (hb hby od512) (fun _ _ => ⟨rfl, e0, (by decide : 0 + 0 ≤ _), (by decide : 0 + 0 ≤ _)⟩)
  dsimp only [Pt.U, Pt.locs, Pt.cells, Pt.slots] at X2 l2 y2 z2 st2 hQ2
  subst y2 z2
  obtain ⟨rfl, N2q, Kc2, V2c⟩ := hQ2
  have N2 := frE l2 N0 N2q
  refine og T2 8 #[rv a] [] st2 ?_
  refine own_retV X2 hx hlk hret (hb hby od513) ?_ (by decide) (by decide)
  exact ⟨rfl, N2, Kc2, V2c⟩
set_option maxRecDepth 65536 in
set_option maxHeartbeats 40000000 in
theorem own_ins3 (l : Launch) (Z : State) (a0 : Array Value) (hw : ∀ d ∈ tables_1, d.before a0 Z = true) (a : Addr) (x1 x2 x3 : Int32) (k : ClassId) (h0 : Heap) (n0 : Nat) (Z0 : n0 ≤ h0.size) (V : Arv Z h0 a k .int (3 : Int32) [.int x1, .int x2, .int x3] (.int 0)) (g : n0 ≤ a) :
    own_C l Z (⟨"java/util/DualPivotQuicksort", "insertionSort", "([III)V"⟩ : MethodName) jdk_2529_method_6_code 6 none [] ({ frames := 0, cells := 0, slots := 0, locals := 0 } : Room) #[.ref a, .int 0, .int 3] h0 (own_Qq Z a k (3 : Int32) (own_s3 x1 x2 x3) h0 n0) := by
  refine MetFree.of_bodySF (plainFor_of_name own_pn15) hisR ?_
  intro p e s m args below meth c s₁ Bd hml hP hK
  obtain ⟨rfl, hZ, hh⟩ := hP
  obtain ⟨hx, hby, hlk, hret, hown, hnm, X0, e0⟩ := own_hd Bd hh
  have N0 := Fr.nil n0
  refine own_open (own_ef14 m a ((0 : Int32)) ((3 : Int32))) ?_
  refine s_iloadN X0 hx (hb hby od461) rfl  ?_
  refine og s₁ 3 #[rv a, iv 0, iv 3, .unset, iv 0, .unset] [] (fun _ k => XS.istore X0.here hx rfl (hb hby od462) rfl (l' := #[rv a, iv 0, iv 3, .unset, iv 0, .unset]) rfl k) ?_
  refine og s₁ 6 #[rv a, iv 0, iv 3, .unset, iv 1, .unset] [] (fun _ k => XS.iinc X0.here hx rfl (hb hby od463) rfl (l' := #[rv a, iv 0, iv 3, .unset, iv 1, .unset]) rfl k) ?_
  refine s_iload X0 hx (hb hby od464) rfl  ?_
  refine s_iloadN X0 hx (hb hby od465) rfl  ?_
  refine s_icmpN X0 hx (hb hby od466) (tlt (by decide)).2.1 ?_
  refine s_aloadN X0 hx (hb hby od514) rfl rfl  ?_
  refine s_iload X0 hx (hb hby od515) rfl  ?_
  refine s_dup X0 hx (hb hby od516) rfl ?_
  refine og s₁ 17 #[rv a, iv 0, iv 3, iv 1, iv 1, .unset] [.int 1, .ref a] (fun _ k => XS.istoreN X0.here hx rfl (hb hby od517) rfl (l' := #[rv a, iv 0, iv 3, iv 1, iv 1, .unset]) rfl k) ?_
  have vv1 := V
  obtain ⟨cl1, Ar1, qa1, Sz1, Ng1, Ha1, Ga1⟩ := vv1
  have hin1 : ¬ ((1 : Int32) < 0 ∨ cl1.slots.size ≤ ((1 : Int32)).toNatClampNeg) := inb_of Sz1 ⟨by decide, by decide⟩
  refine og s₁ 18 #[rv a, iv 0, iv 3, iv 1, iv 1, .unset] [.int x2] (fun _ k => X0.iaload hx (j := (1 : Int32)) (v := (.int x2)) (by rw [e0]; exact Ar1.1) (State.isArrayOf_alike hZ.alike Ar1.2.1) Ar1.2.2 hin1 (Ha1.at hin1 rfl) (g := (mkF m 17 #[rv a, iv 0, iv 3, iv 1, iv 1, .unset] [.int 1, .ref a])) rfl rfl (hb hby od518) _ k) ?_
  refine og s₁ 20 #[rv a, iv 0, iv 3, iv 1, iv 1, iv x2] [] (fun _ k => XS.istore X0.here hx rfl (hb hby od519) rfl (l' := #[rv a, iv 0, iv 3, iv 1, iv 1, iv x2]) rfl k) ?_
  refine s_iload X0 hx (hb hby od520) rfl  ?_
  refine s_aloadN X0 hx (hb hby od521) rfl rfl  ?_
  refine s_iloadN X0 hx (hb hby od522) rfl  ?_
  refine s_iconst 1 X0 hx (hb hby od523) rfl ?_
  refine og s₁ 26 #[rv a, iv 0, iv 3, iv 1, iv 1, iv x2] [.int 0, .ref a, .int x2] (fun _ k => XS.isub X0.here hx rfl (hb hby od524) rfl k) ?_
  have vv2 := V
  obtain ⟨cl2, Ar2, qa2, Sz2, Ng2, Ha2, Ga2⟩ := vv2
  have hin2 : ¬ ((0 : Int32) < 0 ∨ cl2.slots.size ≤ ((0 : Int32)).toNatClampNeg) := inb_of Sz2 ⟨by decide, by decide⟩
  refine og s₁ 27 #[rv a, iv 0, iv 3, iv 1, iv 1, iv x2] [.int x1, .int x2] (fun _ k => X0.iaload hx (j := (0 : Int32)) (v := (.int x1)) (by rw [e0]; exact Ar2.1) (State.isArrayOf_alike hZ.alike Ar2.2.1) Ar2.2.2 hin2 (Ha2.at hin2 rfl) (g := (mkF m 26 #[rv a, iv 0, iv 3, iv 1, iv 1, iv x2] [.int 0, .ref a, .int x2])) rfl rfl (hb hby od525) _ k) ?_
  by_cases c_x2_x1 : x2 < x1
  · skip
    refine s_icmpN X0 hx (hb hby od526) (tlt c_x2_x1).2.1 ?_
    refine og s₁ 33 #[rv a, iv 0, iv 3, iv 0, iv 1, iv x2] [] (fun _ k => XS.iinc X0.here hx rfl (hb hby od527) rfl (l' := #[rv a, iv 0, iv 3, iv 0, iv 1, iv x2]) rfl k) ?_
    refine s_iloadN X0 hx (hb hby od528) rfl  ?_
    refine s_iloadN X0 hx (hb hby od529) rfl  ?_
    refine s_icmpN X0 hx (hb hby od530) (flt (by decide)).1 ?_
    refine s_iload X0 hx (hb hby od531) rfl  ?_
    refine s_aloadN X0 hx (hb hby od532) rfl rfl  ?_
    refine s_iloadN X0 hx (hb hby od533) rfl  ?_
    have vv3 := V
    obtain ⟨cl3, Ar3, qa3, Sz3, Ng3, Ha3, Ga3⟩ := vv3
    have hin3 : ¬ ((0 : Int32) < 0 ∨ cl3.slots.size ≤ ((0 : Int32)).toNatClampNeg) := inb_of Sz3 ⟨by decide, by decide⟩
    refine og s₁ 43 #[rv a, iv 0, iv 3, iv 0, iv 1, iv x2] [.int x1, .int x2] (fun _ k => X0.iaload hx (j := (0 : Int32)) (v := (.int x1)) (by rw [e0]; exact Ar3.1) (State.isArrayOf_alike hZ.alike Ar3.2.1) Ar3.2.2 hin3 (Ha3.at hin3 rfl) (g := (mkF m 42 #[rv a, iv 0, iv 3, iv 0, iv 1, iv x2] [.int 0, .ref a, .int x2])) rfl rfl (hb hby od534) _ k) ?_
    refine s_icmpN X0 hx (hb hby od535) (tlt c_x2_x1).2.1 ?_
    refine s_aloadN X0 hx (hb hby od536) rfl rfl  ?_
    refine s_iloadN X0 hx (hb hby od537) rfl  ?_
    refine s_iconst 1 X0 hx (hb hby od538) rfl ?_
    refine og s₁ 50 #[rv a, iv 0, iv 3, iv 0, iv 1, iv x2] [.int 1, .ref a] (fun _ k => XS.iadd X0.here hx rfl (hb hby od539) rfl k) ?_
    refine s_aloadN X0 hx (hb hby od540) rfl rfl  ?_
    refine s_iloadN X0 hx (hb hby od541) rfl  ?_
    have vv4 := V
    obtain ⟨cl4, Ar4, qa4, Sz4, Ng4, Ha4, Ga4⟩ := vv4
    have hin4 : ¬ ((0 : Int32) < 0 ∨ cl4.slots.size ≤ ((0 : Int32)).toNatClampNeg) := inb_of Sz4 ⟨by decide, by decide⟩
    refine og s₁ 53 #[rv a, iv 0, iv 3, iv 0, iv 1, iv x2] [.int x1, .int 1, .ref a] (fun _ k => X0.iaload hx (j := (0 : Int32)) (v := (.int x1)) (by rw [e0]; exact Ar4.1) (State.isArrayOf_alike hZ.alike Ar4.2.1) Ar4.2.2 hin4 (Ha4.at hin4 rfl) (g := (mkF m 52 #[rv a, iv 0, iv 3, iv 0, iv 1, iv x2] [.int 0, .ref a, .int 1, .ref a])) rfl rfl (hb hby od542) _ k) ?_
    have vv5 := V
    obtain ⟨cl5, Ar5, qa5, Sz5, Ng5, Ha5, Ga5⟩ := vv5
    have hin5 : ¬ ((1 : Int32) < 0 ∨ cl5.slots.size ≤ ((1 : Int32)).toNatClampNeg) := inb_of Sz5 ⟨by decide, by decide⟩
    obtain ⟨T6, h6, X6, e6, W6, st6⟩ := stI X0 hx hZ e0 Ar5 (j := (1 : Int32)) hin5 (g := (mkF m 53 #[rv a, iv 0, iv 3, iv 0, iv 1, iv x2] [.int x1, .int 1, .ref a])) rfl rfl (hb hby od543)
    have V6 := Arv.set Ar5 qa5 Sz5 Ng5 Ha5 Ga5 rfl W6 1 rfl (Nat.le_of_ble_eq_true rfl)
    have N6 := Fr.snoc X6 N0 g
    refine og T6 54 #[rv a, iv 0, iv 3, iv 0, iv 1, iv x2] [] st6 ?_
    have V6' : Arv Z h6 a k .int (3 : Int32) [.int x1, .int x1, .int x3] (.int 0) := V6
    have K6 := (Keep.refl h0 [a]).wr W6 (Or.inl (List.mem_of_getElem? (i := 0) rfl))
    refine s_goto 30 X6 hx (hb hby od544) (by decide) (by decide) ?_
    refine og T6 33 #[rv a, iv 0, iv 3, .val (.int (-1)), iv 1, iv x2] [] (fun _ k => XS.iinc X6.here hx rfl (hb hby od527) rfl (l' := #[rv a, iv 0, iv 3, .val (.int (-1)), iv 1, iv x2]) rfl k) ?_
    refine s_iloadN X6 hx (hb hby od528) rfl  ?_
    refine s_iloadN X6 hx (hb hby od529) rfl  ?_
    refine s_icmpY 57 X6 hx (hb hby od530) (tlt (by decide)).1 (by decide) (by decide) ?_
    refine s_aloadN X6 hx (hb hby od545) rfl rfl  ?_
    refine s_iloadN X6 hx (hb hby od546) rfl  ?_
    refine s_iconst 1 X6 hx (hb hby od547) rfl ?_
    refine og T6 61 #[rv a, iv 0, iv 3, .val (.int (-1)), iv 1, iv x2] [.int 0, .ref a] (fun _ k => XS.iadd X6.here hx rfl (hb hby od548) rfl k) ?_
    refine s_iload X6 hx (hb hby od549) rfl  ?_
    have vv7 := V6'
    obtain ⟨cl7, Ar7, qa7, Sz7, Ng7, Ha7, Ga7⟩ := vv7
    have hin7 : ¬ ((0 : Int32) < 0 ∨ cl7.slots.size ≤ ((0 : Int32)).toNatClampNeg) := inb_of Sz7 ⟨by decide, by decide⟩
    obtain ⟨T8, h8, X8, e8, W8, st8⟩ := stI X6 hx hZ e6 Ar7 (j := (0 : Int32)) hin7 (g := (mkF m 63 #[rv a, iv 0, iv 3, .val (.int (-1)), iv 1, iv x2] [.int x2, .int 0, .ref a])) rfl rfl (hb hby od550)
    have V8 := Arv.set Ar7 qa7 Sz7 Ng7 Ha7 Ga7 rfl W8 0 rfl (Nat.le_of_ble_eq_true rfl)
    have N8 := Fr.snoc X8 N6 g
    refine og T8 64 #[rv a, iv 0, iv 3, .val (.int (-1)), iv 1, iv x2] [] st8 ?_
    have V8' : Arv Z h8 a k .int (3 : Int32) [.int x2, .int x1, .int x3] (.int 0) := V8
    have K8 := K6.wr W8 (Or.inl (List.mem_of_getElem? (i := 0) rfl))
    refine s_goto 3 X8 hx (hb hby od551) (by decide) (by decide) ?_
    refine og T8 6 #[rv a, iv 0, iv 3, .val (.int (-1)), iv 2, iv x2] [] (fun _ k => XS.iinc X8.here hx rfl (hb hby od463) rfl (l' := #[rv a, iv 0, iv 3, .val (.int (-1)), iv 2, iv x2]) rfl k) ?_
    refine s_iload X8 hx (hb hby od464) rfl  ?_
    refine s_iloadN X8 hx (hb hby od465) rfl  ?_
    refine s_icmpN X8 hx (hb hby od466) (tlt (by decide)).2.1 ?_
    refine s_aloadN X8 hx (hb hby od514) rfl rfl  ?_
    refine s_iload X8 hx (hb hby od515) rfl  ?_
    refine s_dup X8 hx (hb hby od516) rfl ?_
    refine og T8 17 #[rv a, iv 0, iv 3, iv 2, iv 2, iv x2] [.int 2, .ref a] (fun _ k => XS.istoreN X8.here hx rfl (hb hby od517) rfl (l' := #[rv a, iv 0, iv 3, iv 2, iv 2, iv x2]) rfl k) ?_
    have vv9 := V8'
    obtain ⟨cl9, Ar9, qa9, Sz9, Ng9, Ha9, Ga9⟩ := vv9
    have hin9 : ¬ ((2 : Int32) < 0 ∨ cl9.slots.size ≤ ((2 : Int32)).toNatClampNeg) := inb_of Sz9 ⟨by decide, by decide⟩
    refine og T8 18 #[rv a, iv 0, iv 3, iv 2, iv 2, iv x2] [.int x3] (fun _ k => X8.iaload hx (j := (2 : Int32)) (v := (.int x3)) (by rw [e8]; exact Ar9.1) (State.isArrayOf_alike hZ.alike Ar9.2.1) Ar9.2.2 hin9 (Ha9.at hin9 rfl) (g := (mkF m 17 #[rv a, iv 0, iv 3, iv 2, iv 2, iv x2] [.int 2, .ref a])) rfl rfl (hb hby od518) _ k) ?_
    refine og T8 20 #[rv a, iv 0, iv 3, iv 2, iv 2, iv x3] [] (fun _ k => XS.istore X8.here hx rfl (hb hby od519) rfl (l' := #[rv a, iv 0, iv 3, iv 2, iv 2, iv x3]) rfl k) ?_
    refine s_iload X8 hx (hb hby od520) rfl  ?_
    refine s_aloadN X8 hx (hb hby od521) rfl rfl  ?_
    refine s_iloadN X8 hx (hb hby od522) rfl  ?_
    refine s_iconst 1 X8 hx (hb hby od523) rfl ?_
    refine og T8 26 #[rv a, iv 0, iv 3, iv 2, iv 2, iv x3] [.int 1, .ref a, .int x3] (fun _ k => XS.isub X8.here hx rfl (hb hby od524) rfl k) ?_
    have vv10 := V8'
    obtain ⟨cl10, Ar10, qa10, Sz10, Ng10, Ha10, Ga10⟩ := vv10
    have hin10 : ¬ ((1 : Int32) < 0 ∨ cl10.slots.size ≤ ((1 : Int32)).toNatClampNeg) := inb_of Sz10 ⟨by decide, by decide⟩
    refine og T8 27 #[rv a, iv 0, iv 3, iv 2, iv 2, iv x3] [.int x1, .int x3] (fun _ k => X8.iaload hx (j := (1 : Int32)) (v := (.int x1)) (by rw [e8]; exact Ar10.1) (State.isArrayOf_alike hZ.alike Ar10.2.1) Ar10.2.2 hin10 (Ha10.at hin10 rfl) (g := (mkF m 26 #[rv a, iv 0, iv 3, iv 2, iv 2, iv x3] [.int 1, .ref a, .int x3])) rfl rfl (hb hby od525) _ k) ?_
    by_cases c_x3_x1 : x3 < x1
    · skip
      refine s_icmpN X8 hx (hb hby od526) (tlt c_x3_x1).2.1 ?_
      refine og T8 33 #[rv a, iv 0, iv 3, iv 1, iv 2, iv x3] [] (fun _ k => XS.iinc X8.here hx rfl (hb hby od527) rfl (l' := #[rv a, iv 0, iv 3, iv 1, iv 2, iv x3]) rfl k) ?_
      refine s_iloadN X8 hx (hb hby od528) rfl  ?_
      refine s_iloadN X8 hx (hb hby od529) rfl  ?_
      refine s_icmpN X8 hx (hb hby od530) (flt (by decide)).1 ?_
      refine s_iload X8 hx (hb hby od531) rfl  ?_
      refine s_aloadN X8 hx (hb hby od532) rfl rfl  ?_
      refine s_iloadN X8 hx (hb hby od533) rfl  ?_
      have vv11 := V8'
      obtain ⟨cl11, Ar11, qa11, Sz11, Ng11, Ha11, Ga11⟩ := vv11
      have hin11 : ¬ ((1 : Int32) < 0 ∨ cl11.slots.size ≤ ((1 : Int32)).toNatClampNeg) := inb_of Sz11 ⟨by decide, by decide⟩
      refine og T8 43 #[rv a, iv 0, iv 3, iv 1, iv 2, iv x3] [.int x1, .int x3] (fun _ k => X8.iaload hx (j := (1 : Int32)) (v := (.int x1)) (by rw [e8]; exact Ar11.1) (State.isArrayOf_alike hZ.alike Ar11.2.1) Ar11.2.2 hin11 (Ha11.at hin11 rfl) (g := (mkF m 42 #[rv a, iv 0, iv 3, iv 1, iv 2, iv x3] [.int 1, .ref a, .int x3])) rfl rfl (hb hby od534) _ k) ?_
      refine s_icmpN X8 hx (hb hby od535) (tlt c_x3_x1).2.1 ?_
      refine s_aloadN X8 hx (hb hby od536) rfl rfl  ?_
      refine s_iloadN X8 hx (hb hby od537) rfl  ?_
      refine s_iconst 1 X8 hx (hb hby od538) rfl ?_
      refine og T8 50 #[rv a, iv 0, iv 3, iv 1, iv 2, iv x3] [.int 2, .ref a] (fun _ k => XS.iadd X8.here hx rfl (hb hby od539) rfl k) ?_
      refine s_aloadN X8 hx (hb hby od540) rfl rfl  ?_
      refine s_iloadN X8 hx (hb hby od541) rfl  ?_
      have vv12 := V8'
      obtain ⟨cl12, Ar12, qa12, Sz12, Ng12, Ha12, Ga12⟩ := vv12
      have hin12 : ¬ ((1 : Int32) < 0 ∨ cl12.slots.size ≤ ((1 : Int32)).toNatClampNeg) := inb_of Sz12 ⟨by decide, by decide⟩
      refine og T8 53 #[rv a, iv 0, iv 3, iv 1, iv 2, iv x3] [.int x1, .int 2, .ref a] (fun _ k => X8.iaload hx (j := (1 : Int32)) (v := (.int x1)) (by rw [e8]; exact Ar12.1) (State.isArrayOf_alike hZ.alike Ar12.2.1) Ar12.2.2 hin12 (Ha12.at hin12 rfl) (g := (mkF m 52 #[rv a, iv 0, iv 3, iv 1, iv 2, iv x3] [.int 1, .ref a, .int 2, .ref a])) rfl rfl (hb hby od542) _ k) ?_
      have vv13 := V8'
      obtain ⟨cl13, Ar13, qa13, Sz13, Ng13, Ha13, Ga13⟩ := vv13
      have hin13 : ¬ ((2 : Int32) < 0 ∨ cl13.slots.size ≤ ((2 : Int32)).toNatClampNeg) := inb_of Sz13 ⟨by decide, by decide⟩
      obtain ⟨T14, h14, X14, e14, W14, st14⟩ := stI X8 hx hZ e8 Ar13 (j := (2 : Int32)) hin13 (g := (mkF m 53 #[rv a, iv 0, iv 3, iv 1, iv 2, iv x3] [.int x1, .int 2, .ref a])) rfl rfl (hb hby od543)
      have V14 := Arv.set Ar13 qa13 Sz13 Ng13 Ha13 Ga13 rfl W14 2 rfl (Nat.le_of_ble_eq_true rfl)
      have N14 := Fr.snoc X14 N8 g
      refine og T14 54 #[rv a, iv 0, iv 3, iv 1, iv 2, iv x3] [] st14 ?_
      have V14' : Arv Z h14 a k .int (3 : Int32) [.int x2, .int x1, .int x1] (.int 0) := V14
      have K14 := K8.wr W14 (Or.inl (List.mem_of_getElem? (i := 0) rfl))
      refine s_goto 30 X14 hx (hb hby od544) (by decide) (by decide) ?_
      refine og T14 33 #[rv a, iv 0, iv 3, iv 0, iv 2, iv x3] [] (fun _ k => XS.iinc X14.here hx rfl (hb hby od527) rfl (l' := #[rv a, iv 0, iv 3, iv 0, iv 2, iv x3]) rfl k) ?_
      refine s_iloadN X14 hx (hb hby od528) rfl  ?_
      refine s_iloadN X14 hx (hb hby od529) rfl  ?_
      refine s_icmpN X14 hx (hb hby od530) (flt (by decide)).1 ?_
      refine s_iload X14 hx (hb hby od531) rfl  ?_
      refine s_aloadN X14 hx (hb hby od532) rfl rfl  ?_
      refine s_iloadN X14 hx (hb hby od533) rfl  ?_
      have vv15 := V14'
      obtain ⟨cl15, Ar15, qa15, Sz15, Ng15, Ha15, Ga15⟩ := vv15
      have hin15 : ¬ ((0 : Int32) < 0 ∨ cl15.slots.size ≤ ((0 : Int32)).toNatClampNeg) := inb_of Sz15 ⟨by decide, by decide⟩
      refine og T14 43 #[rv a, iv 0, iv 3, iv 0, iv 2, iv x3] [.int x2, .int x3] (fun _ k => X14.iaload hx (j := (0 : Int32)) (v := (.int x2)) (by rw [e14]; exact Ar15.1) (State.isArrayOf_alike hZ.alike Ar15.2.1) Ar15.2.2 hin15 (Ha15.at hin15 rfl) (g := (mkF m 42 #[rv a, iv 0, iv 3, iv 0, iv 2, iv x3] [.int 0, .ref a, .int x3])) rfl rfl (hb hby od534) _ k) ?_
      by_cases c_x3_x2 : x3 < x2
      · skip
        refine s_icmpN X14 hx (hb hby od535) (tlt c_x3_x2).2.1 ?_
        refine s_aloadN X14 hx (hb hby od536) rfl rfl  ?_
        refine s_iloadN X14 hx (hb hby od537) rfl  ?_
        refine s_iconst 1 X14 hx (hb hby od538) rfl ?_
        refine og T14 50 #[rv a, iv 0, iv 3, iv 0, iv 2, iv x3] [.int 1, .ref a] (fun _ k => XS.iadd X14.here hx rfl (hb hby od539) rfl k) ?_
        refine s_aloadN X14 hx (hb hby od540) rfl rfl  ?_
        refine s_iloadN X14 hx (hb hby od541) rfl  ?_
        have vv16 := V14'
        obtain ⟨cl16, Ar16, qa16, Sz16, Ng16, Ha16, Ga16⟩ := vv16
        have hin16 : ¬ ((0 : Int32) < 0 ∨ cl16.slots.size ≤ ((0 : Int32)).toNatClampNeg) := inb_of Sz16 ⟨by decide, by decide⟩
        refine og T14 53 #[rv a, iv 0, iv 3, iv 0, iv 2, iv x3] [.int x2, .int 1, .ref a] (fun _ k => X14.iaload hx (j := (0 : Int32)) (v := (.int x2)) (by rw [e14]; exact Ar16.1) (State.isArrayOf_alike hZ.alike Ar16.2.1) Ar16.2.2 hin16 (Ha16.at hin16 rfl) (g := (mkF m 52 #[rv a, iv 0, iv 3, iv 0, iv 2, iv x3] [.int 0, .ref a, .int 1, .ref a])) rfl rfl (hb hby od542) _ k) ?_
        have vv17 := V14'
        obtain ⟨cl17, Ar17, qa17, Sz17, Ng17, Ha17, Ga17⟩ := vv17
        have hin17 : ¬ ((1 : Int32) < 0 ∨ cl17.slots.size ≤ ((1 : Int32)).toNatClampNeg) := inb_of Sz17 ⟨by decide, by decide⟩
        obtain ⟨T18, h18, X18, e18, W18, st18⟩ := stI X14 hx hZ e14 Ar17 (j := (1 : Int32)) hin17 (g := (mkF m 53 #[rv a, iv 0, iv 3, iv 0, iv 2, iv x3] [.int x2, .int 1, .ref a])) rfl rfl (hb hby od543)
        have V18 := Arv.set Ar17 qa17 Sz17 Ng17 Ha17 Ga17 rfl W18 1 rfl (Nat.le_of_ble_eq_true rfl)
        have N18 := Fr.snoc X18 N14 g
        refine og T18 54 #[rv a, iv 0, iv 3, iv 0, iv 2, iv x3] [] st18 ?_
        have V18' : Arv Z h18 a k .int (3 : Int32) [.int x2, .int x2, .int x1] (.int 0) := V18
        have K18 := K14.wr W18 (Or.inl (List.mem_of_getElem? (i := 0) rfl))
        refine s_goto 30 X18 hx (hb hby od544) (by decide) (by decide) ?_
        refine og T18 33 #[rv a, iv 0, iv 3, .val (.int (-1)), iv 2, iv x3] [] (fun _ k => XS.iinc X18.here hx rfl (hb hby od527) rfl (l' := #[rv a, iv 0, iv 3, .val (.int (-1)), iv 2, iv x3]) rfl k) ?_
        refine s_iloadN X18 hx (hb hby od528) rfl  ?_
        refine s_iloadN X18 hx (hb hby od529) rfl  ?_
        refine s_icmpY 57 X18 hx (hb hby od530) (tlt (by decide)).1 (by decide) (by decide) ?_
        refine s_aloadN X18 hx (hb hby od545) rfl rfl  ?_
        refine s_iloadN X18 hx (hb hby od546) rfl  ?_
        refine s_iconst 1 X18 hx (hb hby od547) rfl ?_
        refine og T18 61 #[rv a, iv 0, iv 3, .val (.int (-1)), iv 2, iv x3] [.int 0, .ref a] (fun _ k => XS.iadd X18.here hx rfl (hb hby od548) rfl k) ?_
        refine s_iload X18 hx (hb hby od549) rfl  ?_
        have vv19 := V18'
        obtain ⟨cl19, Ar19, qa19, Sz19, Ng19, Ha19, Ga19⟩ := vv19
        have hin19 : ¬ ((0 : Int32) < 0 ∨ cl19.slots.size ≤ ((0 : Int32)).toNatClampNeg) := inb_of Sz19 ⟨by decide, by decide⟩
        obtain ⟨T20, h20, X20, e20, W20, st20⟩ := stI X18 hx hZ e18 Ar19 (j := (0 : Int32)) hin19 (g := (mkF m 63 #[rv a, iv 0, iv 3, .val (.int (-1)), iv 2, iv x3] [.int x3, .int 0, .ref a])) rfl rfl (hb hby od550)
        have V20 := Arv.set Ar19 qa19 Sz19 Ng19 Ha19 Ga19 rfl W20 0 rfl (Nat.le_of_ble_eq_true rfl)
        have N20 := Fr.snoc X20 N18 g
        refine og T20 64 #[rv a, iv 0, iv 3, .val (.int (-1)), iv 2, iv x3] [] st20 ?_
        have V20' : Arv Z h20 a k .int (3 : Int32) [.int x3, .int x2, .int x1] (.int 0) := V20
        have K20 := K18.wr W20 (Or.inl (List.mem_of_getElem? (i := 0) rfl))
        refine s_goto 3 X20 hx (hb hby od551) (by decide) (by decide) ?_
        refine og T20 6 #[rv a, iv 0, iv 3, .val (.int (-1)), iv 3, iv x3] [] (fun _ k => XS.iinc X20.here hx rfl (hb hby od463) rfl (l' := #[rv a, iv 0, iv 3, .val (.int (-1)), iv 3, iv x3]) rfl k) ?_
        refine s_iload X20 hx (hb hby od464) rfl  ?_
        refine s_iloadN X20 hx (hb hby od465) rfl  ?_
        refine s_icmpY 67 X20 hx (hb hby od466) (flt (by decide)).2.1 (by decide) (by decide) ?_
        refine own_retV X20 hx hlk hret (hb hby od467) ?_ (by decide) (by decide)
        rw [e20]
        exact ⟨rfl, N20, K20, (by simp only [own_s2, own_s3, own_t3, c_x2_x1, c_x3_x1, c_x3_x2, if_true, if_false, ite_true, ite_false]; exact V20')⟩
      · skip
        refine s_icmpY 57 X14 hx (hb hby od535) (flt c_x3_x2).2.1 (by decide) (by decide) ?_
        refine s_aloadN X14 hx (hb hby od545) rfl rfl  ?_
        refine s_iloadN X14 hx (hb hby od546) rfl  ?_
        refine s_iconst 1 X14 hx (hb hby od547) rfl ?_
        refine og T14 61 #[rv a, iv 0, iv 3, iv 0, iv 2, iv x3] [.int 1, .ref a] (fun _ k => XS.iadd X14.here hx rfl (hb hby od548) rfl k) ?_
        refine s_iload X14 hx (hb hby od549) rfl  ?_
        have vv21 := V14'
        obtain ⟨cl21, Ar21, qa21, Sz21, Ng21, Ha21, Ga21⟩ := vv21
        have hin21 : ¬ ((1 : Int32) < 0 ∨ cl21.slots.size ≤ ((1 : Int32)).toNatClampNeg) := inb_of Sz21 ⟨by decide, by decide⟩
        obtain ⟨T22, h22, X22, e22, W22, st22⟩ := stI X14 hx hZ e14 Ar21 (j := (1 : Int32)) hin21 (g := (mkF m 63 #[rv a, iv 0, iv 3, iv 0, iv 2, iv x3] [.int x3, .int 1, .ref a])) rfl rfl (hb hby od550)
        have V22 := Arv.set Ar21 qa21 Sz21 Ng21 Ha21 Ga21 rfl W22 1 rfl (Nat.le_of_ble_eq_true rfl)
        have N22 := Fr.snoc X22 N14 g
        refine og T22 64 #[rv a, iv 0, iv 3, iv 0, iv 2, iv x3] [] st22 ?_
        have V22' : Arv Z h22 a k .int (3 : Int32) [.int x2, .int x3, .int x1] (.int 0) := V22
        have K22 := K14.wr W22 (Or.inl (List.mem_of_getElem? (i := 0) rfl))
        refine s_goto 3 X22 hx (hb hby od551) (by decide) (by decide) ?_
        refine og T22 6 #[rv a, iv 0, iv 3, iv 0, iv 3, iv x3] [] (fun _ k => XS.iinc X22.here hx rfl (hb hby od463) rfl (l' := #[rv a, iv 0, iv 3, iv 0, iv 3, iv x3]) rfl k) ?_
        refine s_iload X22 hx (hb hby od464) rfl  ?_
        refine s_iloadN X22 hx (hb hby od465) rfl  ?_
        refine s_icmpY 67 X22 hx (hb hby od466) (flt (by decide)).2.1 (by decide) (by decide) ?_
        refine own_retV X22 hx hlk hret (hb hby od467) ?_ (by decide) (by decide)
        rw [e22]
        exact ⟨rfl, N22, K22, (by simp only [own_s2, own_s3, own_t3, c_x2_x1, c_x3_x1, c_x3_x2, if_true, if_false, ite_true, ite_false]; exact V22')⟩
    · skip
      refine s_icmpY 64 X8 hx (hb hby od526) (flt c_x3_x1).2.1 (by decide) (by decide) ?_
      refine s_goto 3 X8 hx (hb hby od551) (by decide) (by decide) ?_
      refine og T8 6 #[rv a, iv 0, iv 3, iv 2, iv 3, iv x3] [] (fun _ k => XS.iinc X8.here hx rfl (hb hby od463) rfl (l' := #[rv a, iv 0, iv 3, iv 2, iv 3, iv x3]) rfl k) ?_
      refine s_iload X8 hx (hb hby od464) rfl  ?_
      refine s_iloadN X8 hx (hb hby od465) rfl  ?_
      refine s_icmpY 67 X8 hx (hb hby od466) (flt (by decide)).2.1 (by decide) (by decide) ?_
      refine own_retV X8 hx hlk hret (hb hby od467) ?_ (by decide) (by decide)
      rw [e8]
      exact ⟨rfl, N8, K8, (by simp only [own_s2, own_s3, own_t3, c_x2_x1, c_x3_x1, if_true, if_false, ite_true, ite_false]; exact V8')⟩
  · skip
    refine s_icmpY 64 X0 hx (hb hby od526) (flt c_x2_x1).2.1 (by decide) (by decide) ?_
    refine s_goto 3 X0 hx (hb hby od551) (by decide) (by decide) ?_
    refine og s₁ 6 #[rv a, iv 0, iv 3, iv 1, iv 2, iv x2] [] (fun _ k => XS.iinc X0.here hx rfl (hb hby od463) rfl (l' := #[rv a, iv 0, iv 3, iv 1, iv 2, iv x2]) rfl k) ?_
    refine s_iload X0 hx (hb hby od464) rfl  ?_
    refine s_iloadN X0 hx (hb hby od465) rfl  ?_
    refine s_icmpN X0 hx (hb hby od466) (tlt (by decide)).2.1 ?_
    refine s_aloadN X0 hx (hb hby od514) rfl rfl  ?_
    refine s_iload X0 hx (hb hby od515) rfl  ?_
    refine s_dup X0 hx (hb hby od516) rfl ?_
    refine og s₁ 17 #[rv a, iv 0, iv 3, iv 2, iv 2, iv x2] [.int 2, .ref a] (fun _ k => XS.istoreN X0.here hx rfl (hb hby od517) rfl (l' := #[rv a, iv 0, iv 3, iv 2, iv 2, iv x2]) rfl k) ?_
    have vv23 := V
    obtain ⟨cl23, Ar23, qa23, Sz23, Ng23, Ha23, Ga23⟩ := vv23
    have hin23 : ¬ ((2 : Int32) < 0 ∨ cl23.slots.size ≤ ((2 : Int32)).toNatClampNeg) := inb_of Sz23 ⟨by decide, by decide⟩
    refine og s₁ 18 #[rv a, iv 0, iv 3, iv 2, iv 2, iv x2] [.int x3] (fun _ k => X0.iaload hx (j := (2 : Int32)) (v := (.int x3)) (by rw [e0]; exact Ar23.1) (State.isArrayOf_alike hZ.alike Ar23.2.1) Ar23.2.2 hin23 (Ha23.at hin23 rfl) (g := (mkF m 17 #[rv a, iv 0, iv 3, iv 2, iv 2, iv x2] [.int 2, .ref a])) rfl rfl (hb hby od518) _ k) ?_
    refine og s₁ 20 #[rv a, iv 0, iv 3, iv 2, iv 2, iv x3] [] (fun _ k => XS.istore X0.here hx rfl (hb hby od519) rfl (l' := #[rv a, iv 0, iv 3, iv 2, iv 2, iv x3]) rfl k) ?_
    refine s_iload X0 hx (hb hby od520) rfl  ?_
    refine s_aloadN X0 hx (hb hby od521) rfl rfl  ?_
    refine s_iloadN X0 hx (hb hby od522) rfl  ?_
    refine s_iconst 1 X0 hx (hb hby od523) rfl ?_
    refine og s₁ 26 #[rv a, iv 0, iv 3, iv 2, iv 2, iv x3] [.int 1, .ref a, .int x3] (fun _ k => XS.isub X0.here hx rfl (hb hby od524) rfl k) ?_
    have vv24 := V
    obtain ⟨cl24, Ar24, qa24, Sz24, Ng24, Ha24, Ga24⟩ := vv24
    have hin24 : ¬ ((1 : Int32) < 0 ∨ cl24.slots.size ≤ ((1 : Int32)).toNatClampNeg) := inb_of Sz24 ⟨by decide, by decide⟩
    refine og s₁ 27 #[rv a, iv 0, iv 3, iv 2, iv 2, iv x3] [.int x2, .int x3] (fun _ k => X0.iaload hx (j := (1 : Int32)) (v := (.int x2)) (by rw [e0]; exact Ar24.1) (State.isArrayOf_alike hZ.alike Ar24.2.1) Ar24.2.2 hin24 (Ha24.at hin24 rfl) (g := (mkF m 26 #[rv a, iv 0, iv 3, iv 2, iv 2, iv x3] [.int 1, .ref a, .int x3])) rfl rfl (hb hby od525) _ k) ?_
    by_cases c_x3_x2 : x3 < x2
    · skip
      refine s_icmpN X0 hx (hb hby od526) (tlt c_x3_x2).2.1 ?_
      refine og s₁ 33 #[rv a, iv 0, iv 3, iv 1, iv 2, iv x3] [] (fun _ k => XS.iinc X0.here hx rfl (hb hby od527) rfl (l' := #[rv a, iv 0, iv 3, iv 1, iv 2, iv x3]) rfl k) ?_
      refine s_iloadN X0 hx (hb hby od528) rfl  ?_
      refine s_iloadN X0 hx (hb hby od529) rfl  ?_
      refine s_icmpN X0 hx (hb hby od530) (flt (by decide)).1 ?_
      refine s_iload X0 hx (hb hby od531) rfl  ?_
      refine s_aloadN X0 hx (hb hby od532) rfl rfl  ?_
      refine s_iloadN X0 hx (hb hby od533) rfl  ?_
      have vv25 := V
      obtain ⟨cl25, Ar25, qa25, Sz25, Ng25, Ha25, Ga25⟩ := vv25
      have hin25 : ¬ ((1 : Int32) < 0 ∨ cl25.slots.size ≤ ((1 : Int32)).toNatClampNeg) := inb_of Sz25 ⟨by decide, by decide⟩
      refine og s₁ 43 #[rv a, iv 0, iv 3, iv 1, iv 2, iv x3] [.int x2, .int x3] (fun _ k => X0.iaload hx (j := (1 : Int32)) (v := (.int x2)) (by rw [e0]; exact Ar25.1) (State.isArrayOf_alike hZ.alike Ar25.2.1) Ar25.2.2 hin25 (Ha25.at hin25 rfl) (g := (mkF m 42 #[rv a, iv 0, iv 3, iv 1, iv 2, iv x3] [.int 1, .ref a, .int x3])) rfl rfl (hb hby od534) _ k) ?_
      refine s_icmpN X0 hx (hb hby od535) (tlt c_x3_x2).2.1 ?_
      refine s_aloadN X0 hx (hb hby od536) rfl rfl  ?_
      refine s_iloadN X0 hx (hb hby od537) rfl  ?_
      refine s_iconst 1 X0 hx (hb hby od538) rfl ?_
      refine og s₁ 50 #[rv a, iv 0, iv 3, iv 1, iv 2, iv x3] [.int 2, .ref a] (fun _ k => XS.iadd X0.here hx rfl (hb hby od539) rfl k) ?_
      refine s_aloadN X0 hx (hb hby od540) rfl rfl  ?_
      refine s_iloadN X0 hx (hb hby od541) rfl  ?_
      have vv26 := V
      obtain ⟨cl26, Ar26, qa26, Sz26, Ng26, Ha26, Ga26⟩ := vv26
      have hin26 : ¬ ((1 : Int32) < 0 ∨ cl26.slots.size ≤ ((1 : Int32)).toNatClampNeg) := inb_of Sz26 ⟨by decide, by decide⟩
      refine og s₁ 53 #[rv a, iv 0, iv 3, iv 1, iv 2, iv x3] [.int x2, .int 2, .ref a] (fun _ k => X0.iaload hx (j := (1 : Int32)) (v := (.int x2)) (by rw [e0]; exact Ar26.1) (State.isArrayOf_alike hZ.alike Ar26.2.1) Ar26.2.2 hin26 (Ha26.at hin26 rfl) (g := (mkF m 52 #[rv a, iv 0, iv 3, iv 1, iv 2, iv x3] [.int 1, .ref a, .int 2, .ref a])) rfl rfl (hb hby od542) _ k) ?_
      have vv27 := V
      obtain ⟨cl27, Ar27, qa27, Sz27, Ng27, Ha27, Ga27⟩ := vv27
      have hin27 : ¬ ((2 : Int32) < 0 ∨ cl27.slots.size ≤ ((2 : Int32)).toNatClampNeg) := inb_of Sz27 ⟨by decide, by decide⟩
      obtain ⟨T28, h28, X28, e28, W28, st28⟩ := stI X0 hx hZ e0 Ar27 (j := (2 : Int32)) hin27 (g := (mkF m 53 #[rv a, iv 0, iv 3, iv 1, iv 2, iv x3] [.int x2, .int 2, .ref a])) rfl rfl (hb hby od543)
      have V28 := Arv.set Ar27 qa27 Sz27 Ng27 Ha27 Ga27 rfl W28 2 rfl (Nat.le_of_ble_eq_true rfl)
      have N28 := Fr.snoc X28 N0 g
      refine og T28 54 #[rv a, iv 0, iv 3, iv 1, iv 2, iv x3] [] st28 ?_
      have V28' : Arv Z h28 a k .int (3 : Int32) [.int x1, .int x2, .int x2] (.int 0) := V28
      have K28 := (Keep.refl h0 [a]).wr W28 (Or.inl (List.mem_of_getElem? (i := 0) rfl))
      refine s_goto 30 X28 hx (hb hby od544) (by decide) (by decide) ?_
      refine og T28 33 #[rv a, iv 0, iv 3, iv 0, iv 2, iv x3] [] (fun _ k => XS.iinc X28.here hx rfl (hb hby od527) rfl (l' := #[rv a, iv 0, iv 3, iv 0, iv 2, iv x3]) rfl k) ?_
      refine s_iloadN X28 hx (hb hby od528) rfl  ?_
      refine s_iloadN X28 hx (hb hby od529) rfl  ?_
      refine s_icmpN X28 hx (hb hby od530) (flt (by decide)).1 ?_
      refine s_iload X28 hx (hb hby od531) rfl  ?_
      refine s_aloadN X28 hx (hb hby od532) rfl rfl  ?_
      refine s_iloadN X28 hx (hb hby od533) rfl  ?_
      have vv29 := V28'
      obtain ⟨cl29, Ar29, qa29, Sz29, Ng29, Ha29, Ga29⟩ := vv29
      have hin29 : ¬ ((0 : Int32) < 0 ∨ cl29.slots.size ≤ ((0 : Int32)).toNatClampNeg) := inb_of Sz29 ⟨by decide, by decide⟩
      refine og T28 43 #[rv a, iv 0, iv 3, iv 0, iv 2, iv x3] [.int x1, .int x3] (fun _ k => X28.iaload hx (j := (0 : Int32)) (v := (.int x1)) (by rw [e28]; exact Ar29.1) (State.isArrayOf_alike hZ.alike Ar29.2.1) Ar29.2.2 hin29 (Ha29.at hin29 rfl) (g := (mkF m 42 #[rv a, iv 0, iv 3, iv 0, iv 2, iv x3] [.int 0, .ref a, .int x3])) rfl rfl (hb hby od534) _ k) ?_
      by_cases c_x3_x1 : x3 < x1
      · skip
        refine s_icmpN X28 hx (hb hby od535) (tlt c_x3_x1).2.1 ?_
        refine s_aloadN X28 hx (hb hby od536) rfl rfl  ?_
        refine s_iloadN X28 hx (hb hby od537) rfl  ?_
        refine s_iconst 1 X28 hx (hb hby od538) rfl ?_
        refine og T28 50 #[rv a, iv 0, iv 3, iv 0, iv 2, iv x3] [.int 1, .ref a] (fun _ k => XS.iadd X28.here hx rfl (hb hby od539) rfl k) ?_
        refine s_aloadN X28 hx (hb hby od540) rfl rfl  ?_
        refine s_iloadN X28 hx (hb hby od541) rfl  ?_
        have vv30 := V28'
        obtain ⟨cl30, Ar30, qa30, Sz30, Ng30, Ha30, Ga30⟩ := vv30
        have hin30 : ¬ ((0 : Int32) < 0 ∨ cl30.slots.size ≤ ((0 : Int32)).toNatClampNeg) := inb_of Sz30 ⟨by decide, by decide⟩
        refine og T28 53 #[rv a, iv 0, iv 3, iv 0, iv 2, iv x3] [.int x1, .int 1, .ref a] (fun _ k => X28.iaload hx (j := (0 : Int32)) (v := (.int x1)) (by rw [e28]; exact Ar30.1) (State.isArrayOf_alike hZ.alike Ar30.2.1) Ar30.2.2 hin30 (Ha30.at hin30 rfl) (g := (mkF m 52 #[rv a, iv 0, iv 3, iv 0, iv 2, iv x3] [.int 0, .ref a, .int 1, .ref a])) rfl rfl (hb hby od542) _ k) ?_
        have vv31 := V28'
        obtain ⟨cl31, Ar31, qa31, Sz31, Ng31, Ha31, Ga31⟩ := vv31
        have hin31 : ¬ ((1 : Int32) < 0 ∨ cl31.slots.size ≤ ((1 : Int32)).toNatClampNeg) := inb_of Sz31 ⟨by decide, by decide⟩
        obtain ⟨T32, h32, X32, e32, W32, st32⟩ := stI X28 hx hZ e28 Ar31 (j := (1 : Int32)) hin31 (g := (mkF m 53 #[rv a, iv 0, iv 3, iv 0, iv 2, iv x3] [.int x1, .int 1, .ref a])) rfl rfl (hb hby od543)
        have V32 := Arv.set Ar31 qa31 Sz31 Ng31 Ha31 Ga31 rfl W32 1 rfl (Nat.le_of_ble_eq_true rfl)
        have N32 := Fr.snoc X32 N28 g
        refine og T32 54 #[rv a, iv 0, iv 3, iv 0, iv 2, iv x3] [] st32 ?_
        have V32' : Arv Z h32 a k .int (3 : Int32) [.int x1, .int x1, .int x2] (.int 0) := V32
        have K32 := K28.wr W32 (Or.inl (List.mem_of_getElem? (i := 0) rfl))
        refine s_goto 30 X32 hx (hb hby od544) (by decide) (by decide) ?_
        refine og T32 33 #[rv a, iv 0, iv 3, .val (.int (-1)), iv 2, iv x3] [] (fun _ k => XS.iinc X32.here hx rfl (hb hby od527) rfl (l' := #[rv a, iv 0, iv 3, .val (.int (-1)), iv 2, iv x3]) rfl k) ?_
        refine s_iloadN X32 hx (hb hby od528) rfl  ?_
        refine s_iloadN X32 hx (hb hby od529) rfl  ?_
        refine s_icmpY 57 X32 hx (hb hby od530) (tlt (by decide)).1 (by decide) (by decide) ?_
        refine s_aloadN X32 hx (hb hby od545) rfl rfl  ?_
        refine s_iloadN X32 hx (hb hby od546) rfl  ?_
        refine s_iconst 1 X32 hx (hb hby od547) rfl ?_
        refine og T32 61 #[rv a, iv 0, iv 3, .val (.int (-1)), iv 2, iv x3] [.int 0, .ref a] (fun _ k => XS.iadd X32.here hx rfl (hb hby od548) rfl k) ?_
        refine s_iload X32 hx (hb hby od549) rfl  ?_
        have vv33 := V32'
        obtain ⟨cl33, Ar33, qa33, Sz33, Ng33, Ha33, Ga33⟩ := vv33
        have hin33 : ¬ ((0 : Int32) < 0 ∨ cl33.slots.size ≤ ((0 : Int32)).toNatClampNeg) := inb_of Sz33 ⟨by decide, by decide⟩
        obtain ⟨T34, h34, X34, e34, W34, st34⟩ := stI X32 hx hZ e32 Ar33 (j := (0 : Int32)) hin33 (g := (mkF m 63 #[rv a, iv 0, iv 3, .val (.int (-1)), iv 2, iv x3] [.int x3, .int 0, .ref a])) rfl rfl (hb hby od550)
        have V34 := Arv.set Ar33 qa33 Sz33 Ng33 Ha33 Ga33 rfl W34 0 rfl (Nat.le_of_ble_eq_true rfl)
        have N34 := Fr.snoc X34 N32 g
        refine og T34 64 #[rv a, iv 0, iv 3, .val (.int (-1)), iv 2, iv x3] [] st34 ?_
        have V34' : Arv Z h34 a k .int (3 : Int32) [.int x3, .int x1, .int x2] (.int 0) := V34
        have K34 := K32.wr W34 (Or.inl (List.mem_of_getElem? (i := 0) rfl))
        refine s_goto 3 X34 hx (hb hby od551) (by decide) (by decide) ?_
        refine og T34 6 #[rv a, iv 0, iv 3, .val (.int (-1)), iv 3, iv x3] [] (fun _ k => XS.iinc X34.here hx rfl (hb hby od463) rfl (l' := #[rv a, iv 0, iv 3, .val (.int (-1)), iv 3, iv x3]) rfl k) ?_
        refine s_iload X34 hx (hb hby od464) rfl  ?_
        refine s_iloadN X34 hx (hb hby od465) rfl  ?_
        refine s_icmpY 67 X34 hx (hb hby od466) (flt (by decide)).2.1 (by decide) (by decide) ?_
        refine own_retV X34 hx hlk hret (hb hby od467) ?_ (by decide) (by decide)
        rw [e34]
        exact ⟨rfl, N34, K34, (by simp only [own_s2, own_s3, own_t3, c_x2_x1, c_x3_x2, c_x3_x1, if_true, if_false, ite_true, ite_false]; exact V34')⟩
      · skip
        refine s_icmpY 57 X28 hx (hb hby od535) (flt c_x3_x1).2.1 (by decide) (by decide) ?_
        refine s_aloadN X28 hx (hb hby od545) rfl rfl  ?_
        refine s_iloadN X28 hx (hb hby od546) rfl  ?_
        refine s_iconst 1 X28 hx (hb hby od547) rfl ?_
        refine og T28 61 #[rv a, iv 0, iv 3, iv 0, iv 2, iv x3] [.int 1, .ref a] (fun _ k => XS.iadd X28.here hx rfl (hb hby od548) rfl k) ?_
        refine s_iload X28 hx (hb hby od549) rfl  ?_
        have vv35 := V28'
        obtain ⟨cl35, Ar35, qa35, Sz35, Ng35, Ha35, Ga35⟩ := vv35
        have hin35 : ¬ ((1 : Int32) < 0 ∨ cl35.slots.size ≤ ((1 : Int32)).toNatClampNeg) := inb_of Sz35 ⟨by decide, by decide⟩
        obtain ⟨T36, h36, X36, e36, W36, st36⟩ := stI X28 hx hZ e28 Ar35 (j := (1 : Int32)) hin35 (g := (mkF m 63 #[rv a, iv 0, iv 3, iv 0, iv 2, iv x3] [.int x3, .int 1, .ref a])) rfl rfl (hb hby od550)
        have V36 := Arv.set Ar35 qa35 Sz35 Ng35 Ha35 Ga35 rfl W36 1 rfl (Nat.le_of_ble_eq_true rfl)
        have N36 := Fr.snoc X36 N28 g
        refine og T36 64 #[rv a, iv 0, iv 3, iv 0, iv 2, iv x3] [] st36 ?_
        have V36' : Arv Z h36 a k .int (3 : Int32) [.int x1, .int x3, .int x2] (.int 0) := V36
        have K36 := K28.wr W36 (Or.inl (List.mem_of_getElem? (i := 0) rfl))
        refine s_goto 3 X36 hx (hb hby od551) (by decide) (by decide) ?_
        refine og T36 6 #[rv a, iv 0, iv 3, iv 0, iv 3, iv x3] [] (fun _ k => XS.iinc X36.here hx rfl (hb hby od463) rfl (l' := #[rv a, iv 0, iv 3, iv 0, iv 3, iv x3]) rfl k) ?_
        refine s_iload X36 hx (hb hby od464) rfl  ?_
        refine s_iloadN X36 hx (hb hby od465) rfl  ?_
        refine s_icmpY 67 X36 hx (hb hby od466) (flt (by decide)).2.1 (by decide) (by decide) ?_
        refine own_retV X36 hx hlk hret (hb hby od467) ?_ (by decide) (by decide)
        rw [e36]
        exact ⟨rfl, N36, K36, (by simp only [own_s2, own_s3, own_t3, c_x2_x1, c_x3_x2, c_x3_x1, if_true, if_false, ite_true, ite_false]; exact V36')⟩
    · skip
      refine s_icmpY 64 X0 hx (hb hby od526) (flt c_x3_x2).2.1 (by decide) (by decide) ?_
      refine s_goto 3 X0 hx (hb hby od551) (by decide) (by decide) ?_
      refine og s₁ 6 #[rv a, iv 0, iv 3, iv 2, iv 3, iv x3] [] (fun _ k => XS.iinc X0.here hx rfl (hb hby od463) rfl (l' := #[rv a, iv 0, iv 3, iv 2, iv 3, iv x3]) rfl k) ?_
      refine s_iload X0 hx (hb hby od464) rfl  ?_
      refine s_iloadN X0 hx (hb hby od465) rfl  ?_
      refine s_icmpY 67 X0 hx (hb hby od466) (flt (by decide)).2.1 (by decide) (by decide) ?_
      refine own_retV X0 hx hlk hret (hb hby od467) ?_ (by decide) (by decide)
      rw [e0]
      exact ⟨rfl, N0, (Keep.refl h0 [a]), (by simp only [own_s2, own_s3, own_t3, c_x2_x1, c_x3_x2, if_true, if_false, ite_true, ite_false]; exact V)⟩
set_option maxRecDepth 65536 in
set_option maxHeartbeats 40000000 in
theorem own_sf3 (l : Launch) (Z : State) (a0 : Array Value) (hw : ∀ d ∈ tables_1, d.before a0 Z = true) (a : Addr) (x1 x2 x3 : Int32) (k : ClassId) (h0 : Heap) (n0 : Nat) (Z0 : n0 ≤ h0.size) (V : Arv Z h0 a k .int (3 : Int32) [.int x1, .int x2, .int x3] (.int 0)) (g : n0 ≤ a) :
    own_C l Z (⟨"java/util/DualPivotQuicksort", "sort", "(Ljava/util/DualPivotQuicksort$Sorter;[IIII)V"⟩ : MethodName) jdk_2529_method_4_code 21 none [] ({ frames := 1, cells := 0, slots := 0, locals := 17 } : Room) #[.null, .ref a, .int 0, .int 0, .int 3] h0 (own_Qq Z a k (3 : Int32) (own_s3 x1 x2 x3) h0 n0) := by
  refine MetFree.of_bodySF (plainFor_of_name own_pn15) hisR ?_
  intro p e s m args below meth c s₁ Bd hml hP hK
  obtain ⟨rfl, hZ, hh⟩ := hP
  obtain ⟨hx, hby, hlk, hret, hown, hnm, X0, e0⟩ := own_hd Bd hh
  have N0 := Fr.nil n0
  refine own_open (own_ef15 m a ((0 : Int32)) ((0 : Int32)) ((3 : Int32))) ?_
  refine s_iload X0 hx (hb hby od468) rfl  ?_
  refine s_iconst 1 X0 hx (hb hby od469) rfl ?_
  refine og s₁ 4 #[.val .null, rv a, iv 0, iv 0, iv 3, .unset, .unset, .unset, .unset, .unset, .unset, .unset, .unset, .unset, .unset, .unset, .unset, .unset, .unset, .unset, .unset] [.int 2] (fun _ k => XS.isub X0.here hx rfl (hb hby od470) rfl k) ?_
  refine og s₁ 6 #[.val .null, rv a, iv 0, iv 0, iv 3, iv 2, .unset, .unset, .unset, .unset, .unset, .unset, .unset, .unset, .unset, .unset, .unset, .unset, .unset, .unset, .unset] [] (fun _ k => XS.istore X0.here hx rfl (hb hby od471) rfl (l' := #[.val .null, rv a, iv 0, iv 0, iv 3, iv 2, .unset, .unset, .unset, .unset, .unset, .unset, .unset, .unset, .unset, .unset, .unset, .unset, .unset, .unset, .unset]) rfl k) ?_
  refine s_iload X0 hx (hb hby od472) rfl  ?_
  refine s_iloadN X0 hx (hb hby od473) rfl  ?_
  refine og s₁ 10 #[.val .null, rv a, iv 0, iv 0, iv 3, iv 2, .unset, .unset, .unset, .unset, .unset, .unset, .unset, .unset, .unset, .unset, .unset, .unset, .unset, .unset, .unset] [.int 3] (fun _ k => XS.isub X0.here hx rfl (hb hby od474) rfl k) ?_
  refine og s₁ 12 #[.val .null, rv a, iv 0, iv 0, iv 3, iv 2, iv 3, .unset, .unset, .unset, .unset, .unset, .unset, .unset, .unset, .unset, .unset, .unset, .unset, .unset, .unset] [] (fun _ k => XS.istore X0.here hx rfl (hb hby od475) rfl (l' := #[.val .null, rv a, iv 0, iv 0, iv 3, iv 2, iv 3, .unset, .unset, .unset, .unset, .unset, .unset, .unset, .unset, .unset, .unset, .unset, .unset, .unset, .unset]) rfl k) ?_
  refine s_iload X0 hx (hb hby od476) rfl  ?_
  refine s_bipush 65 X0 hx (hb hby od477) rfl ?_
  refine s_iloadN X0 hx (hb hby od478) rfl  ?_
  refine og s₁ 18 #[.val .null, rv a, iv 0, iv 0, iv 3, iv 2, iv 3, .unset, .unset, .unset, .unset, .unset, .unset, .unset, .unset, .unset, .unset, .unset, .unset, .unset, .unset] [.int 65, .int 3] (fun _ k => XS.iadd X0.here hx rfl (hb hby od479) rfl k) ?_
  refine s_icmpN X0 hx (hb hby od480) (tlt (by decide)).2.1 ?_
  refine s_iloadN X0 hx (hb hby od481) rfl  ?_
  refine s_iconst 1 X0 hx (hb hby od482) rfl ?_
  refine og s₁ 24 #[.val .null, rv a, iv 0, iv 0, iv 3, iv 2, iv 3, .unset, .unset, .unset, .unset, .unset, .unset, .unset, .unset, .unset, .unset, .unset, .unset, .unset, .unset] [.int 0] (fun _ k => XS.iand X0.here hx rfl (hb hby od483) rfl k) ?_
  refine s_ifY 46 X0 hx (hb hby od484) ((if0 _ _).trans (flt (by decide)).2.2.2) (by decide) (by decide) ?_
  refine s_iload X0 hx (hb hby od485) rfl  ?_
  refine s_bipush 44 X0 hx (hb hby od486) rfl ?_
  refine s_icmpN X0 hx (hb hby od487) (tlt (by decide)).2.1 ?_
  refine s_aloadN X0 hx (hb hby od488) rfl rfl  ?_
  refine s_iloadN X0 hx (hb hby od489) rfl  ?_
  refine s_iload X0 hx (hb hby od490) rfl  ?_
  obtain ⟨_, _, ⟨T1, L1, k1, n1⟩, -, X1, ⟨Lc1, hQ1, l1, y1, z1⟩, st1⟩ := Jvm.LawKit.callS X0 hx hown (mvT hZ (ow hw 310 rfl)) (mvT hZ (ow hw 311 rfl)) (mvT hZ (ow hw 305 rfl)) (mvT hZ (ow hw 312 rfl)) (by decide) (backOf (W := 0) (own_ins3 l Z a0 hw a x1 x2 x3 k h0 n0 Z0 V g) hZ (ow hw 312 rfl) (ow hw 305 rfl) (by decide) (by decide)) (g := (mkF m 57 #[.val .null, rv a, iv 0, iv 0, iv 3, iv 2, iv 3, .unset, .unset, .unset, .unset, .unset, .unset, .unset, .unset, .unset, .unset, .unset, .unset, .unset, .unset] [.int 3, .int 0, .ref a])) rfl (by rw [hml]; rfl) (argsL := [.ref a, .int 0, .int 3]) (rest := []) (lenOf own_pd17 rfl) rfl (by show 2 * 0 + _ ≤ _; exact Nat.le_of_eq rfl) (hb hby od491) (fun _ _ => ⟨rfl, e0, (by decide : 0 + 0 ≤ _), (by decide : 0 + 0 ≤ _)⟩)
  dsimp only [Pt.U, Pt.locs, Pt.cells, Pt.slots] at X1 l1 y1 z1 st1 hQ1
  subst y1 z1
  obtain ⟨rfl, N1q, Kc1, V1c⟩ := hQ1
  have N1 := frE l1 N0 N1q
  refine og T1 60 #[.val .null, rv a, iv 0, iv 0, iv 3, iv 2, iv 3, .unset, .unset, .unset, .unset, .unset, .unset, .unset, .unset, .unset, .unset, .unset, .unset, .unset, .unset] [] st1 ?_
  refine own_retV X1 hx hlk hret (hb hby od492) ?_ (by decide) (by decide)
  exact ⟨rfl, N1, Kc1, V1c⟩
set_option maxRecDepth 65536 in
set_option maxHeartbeats 40000000 in
theorem own_sd3 (l : Launch) (Z : State) (a0 : Array Value) (hw : ∀ d ∈ tables_1, d.before a0 Z = true) (a : Addr) (x1 x2 x3 : Int32) (k : ClassId) (h0 : Heap) (n0 : Nat) (Z0 : n0 ≤ h0.size) (V : Arv Z h0 a k .int (3 : Int32) [.int x1, .int x2, .int x3] (.int 0)) (g : n0 ≤ a) :
    own_C l Z (⟨"java/util/DualPivotQuicksort", "sort", "([IIII)V"⟩ : MethodName) jdk_2529_method_3_code 7 none [] ({ frames := 2, cells := 0, slots := 0, locals := 49 } : Room) #[.ref a, .int 0, .int 0, .int 3] h0 (own_Qq Z a k (3 : Int32) (own_s3 x1 x2 x3) h0 n0) := by
  refine MetFree.of_bodySF (plainFor_of_name own_pn15) hisR ?_
  intro p e s m args below meth c s₁ Bd hml hP hK
  obtain ⟨rfl, hZ, hh⟩ := hP
  obtain ⟨hx, hby, hlk, hret, hown, hnm, X0, e0⟩ := own_hd Bd hh
  have N0 := Fr.nil n0
  refine own_open (own_ef16 m a ((0 : Int32)) ((0 : Int32)) ((3 : Int32))) ?_
  refine s_iloadN X0 hx (hb hby od493) rfl  ?_
  refine s_iloadN X0 hx (hb hby od494) rfl  ?_
  refine og s₁ 3 #[rv a, iv 0, iv 0, iv 3, .unset, .unset, .unset] [.int 3] (fun _ k => XS.isub X0.here hx rfl (hb hby od495) rfl k) ?_
  refine og s₁ 5 #[rv a, iv 0, iv 0, iv 3, iv 3, .unset, .unset] [] (fun _ k => XS.istore X0.here hx rfl (hb hby od496) rfl (l' := #[rv a, iv 0, iv 0, iv 3, iv 3, .unset, .unset]) rfl k) ?_
  refine s_iloadN X0 hx (hb hby od497) rfl  ?_
  refine s_iconst 1 X0 hx (hb hby od498) rfl ?_
  refine s_icmpY 68 X0 hx (hb hby od499) (flt (by decide)).2.2.2 (by decide) (by decide) ?_
  refine s_anull X0 hx (hb hby od500) ?_
  refine s_aloadN X0 hx (hb hby od501) rfl rfl  ?_
  refine s_iconst 0 X0 hx (hb hby od502) rfl ?_
  refine s_iloadN X0 hx (hb hby od503) rfl  ?_
  refine s_iloadN X0 hx (hb hby od504) rfl  ?_
  obtain ⟨_, _, ⟨T1, L1, k1, n1⟩, -, X1, ⟨Lc1, hQ1, l1, y1, z1⟩, st1⟩ := Jvm.LawKit.callS X0 hx hown (mvT hZ (ow hw 307 rfl)) (mvT hZ (ow hw 308 rfl)) (mvT hZ (ow hw 305 rfl)) (mvT hZ (ow hw 309 rfl)) (by decide) (backOf (W := 0) (own_sf3 l Z a0 hw a x1 x2 x3 k h0 n0 Z0 V g) hZ (ow hw 309 rfl) (ow hw 305 rfl) (by decide) (by decide)) (g := (mkF m 73 #[rv a, iv 0, iv 0, iv 3, iv 3, .unset, .unset] [.int 3, .int 0, .int 0, .ref a, .null])) rfl (by rw [hml]; rfl) (argsL := [.null, .ref a, .int 0, .int 0, .int 3]) (rest := []) (lenOf own_pd18 rfl) rfl (by show 2 * 0 + _ ≤ _; exact Nat.le_of_eq rfl) (hb hby od505) (fun _ _ => ⟨rfl, e0, (by decide : 0 + 0 ≤ _), (by decide : 0 + 0 ≤ _)⟩)
  dsimp only [Pt.U, Pt.locs, Pt.cells, Pt.slots] at X1 l1 y1 z1 st1 hQ1
  subst y1 z1
  obtain ⟨rfl, N1q, Kc1, V1c⟩ := hQ1
  have N1 := frE l1 N0 N1q
  refine og T1 76 #[rv a, iv 0, iv 0, iv 3, iv 3, .unset, .unset] [] st1 ?_
  refine own_retV X1 hx hlk hret (hb hby od506) ?_ (by decide) (by decide)
  exact ⟨rfl, N1, Kc1, V1c⟩
set_option maxRecDepth 65536 in
set_option maxHeartbeats 40000000 in
theorem own_srt3 (l : Launch) (Z : State) (a0 : Array Value) (hw : ∀ d ∈ tables_1, d.before a0 Z = true) (a : Addr) (x1 x2 x3 : Int32) (k : ClassId) (h0 : Heap) (n0 : Nat) (Z0 : n0 ≤ h0.size) (V : Arv Z h0 a k .int (3 : Int32) [.int x1, .int x2, .int x3] (.int 0)) (g : n0 ≤ a) :
    own_C l Z (⟨"java/util/Arrays", "sort", "([I)V"⟩ : MethodName) jdk_65_method_2_code 1 none [] ({ frames := 3, cells := 0, slots := 0, locals := 67 } : Room) #[.ref a] h0 (own_Qq Z a k (3 : Int32) (own_s3 x1 x2 x3) h0 n0) := by
  refine MetFree.of_bodySF (plainFor_of_name own_pn14) hisR ?_
  intro p e s m args below meth c s₁ Bd hml hP hK
  obtain ⟨rfl, hZ, hh⟩ := hP
  obtain ⟨hx, hby, hlk, hret, hown, hnm, X0, e0⟩ := own_hd Bd hh
  have N0 := Fr.nil n0
  refine own_open (own_ef1 m a) ?_
  refine s_aloadN X0 hx (hb hby od507) rfl rfl  ?_
  refine s_iconst 0 X0 hx (hb hby od508) rfl ?_
  refine s_iconst 0 X0 hx (hb hby od509) rfl ?_
  refine s_aloadN X0 hx (hb hby od510) rfl rfl  ?_
  have vv1 := V
  obtain ⟨cl1, Ar1, qa1, Sz1, Ng1, Ha1, Ga1⟩ := vv1
  refine og s₁ 5 #[rv a] [(.int cl1.slots.size.toInt32), .int 0, .int 0, .ref a] (fun _ k => X0.arraylength hx (by rw [e0]; exact Ar1.1) (State.isArrayOf_alike hZ.alike Ar1.2.1) (g := (mkF m 4 #[rv a] [.ref a, .int 0, .int 0, .ref a])) rfl rfl (hb hby od511) _ k) ?_
  rw [len_of Sz1 Ng1]
  obtain ⟨_, _, ⟨T2, L2, k2, n2⟩, -, X2, ⟨Lc2, hQ2, l2, y2, z2⟩, st2⟩ := Jvm.LawKit.callS X0 hx hown (mvT hZ (ow hw 303 rfl)) (mvT hZ (ow hw 304 rfl)) (mvT hZ (ow hw 305 rfl)) (mvT hZ (ow hw 306 rfl)) (by decide) (backOf (W := 0) (own_sd3 l Z a0 hw a x1 x2 x3 k h0 n0 Z0 V g) hZ (ow hw 306 rfl) (ow hw 305 rfl) (by decide) (by decide)) (g := (mkF m 5 #[rv a] [.int 3, .int 0, .int 0, .ref a])) rfl (by rw [hml]; rfl) (argsL := [.ref a, .int 0, .int 0, .int 3]) (rest := []) (lenOf own_pd19 rfl) rfl (by show 2 * 0 + _ ≤ _; exact Nat.le_of_eq rfl) (hb hby od512) (fun _ _ => ⟨rfl, e0, (by decide : 0 + 0 ≤ _), (by decide : 0 + 0 ≤ _)⟩)
  dsimp only [Pt.U, Pt.locs, Pt.cells, Pt.slots] at X2 l2 y2 z2 st2 hQ2
  subst y2 z2
  obtain ⟨rfl, N2q, Kc2, V2c⟩ := hQ2
  have N2 := frE l2 N0 N2q
  refine og T2 8 #[rv a] [] st2 ?_
  refine own_retV X2 hx hlk hret (hb hby od513) ?_ (by decide) (by decide)
  exact ⟨rfl, N2, Kc2, V2c⟩
set_option maxRecDepth 65536 in
set_option maxHeartbeats 40000000 in
theorem own_jri (l : Launch) (Z : State) (a0 : Array Value) (hw : ∀ d ∈ tables_1, d.before a0 Z = true) (j : Addr) (al : Addr) (hm : Addr) (lv : Int32) (tb : Addr) (k : ClassId) (n1 n2 n3 : Addr) (v1 v2 v3 : Addr) (ga gb gc : Int32) (h0 : Heap) (n0 : Nat) (Z0 : n0 ≤ h0.size) (E_j : Exa Z h0 j "com/example/nimble_fusion/nimblefusion/scoring/JudgedRanking") (Flv : Fld Z h0 j "com/example/nimble_fusion/nimblefusion/scoring/JudgedRanking" "relevanceLevel" "I" (.int 0)) (Fga : Fld Z h0 j "com/example/nimble_fusion/nimblefusion/scoring/JudgedRanking" "gradeAt" "[I" .null) (Frr : Fld Z h0 j "com/example/nimble_fusion/nimblefusion/scoring/JudgedRanking" "relevantRanks" "[I" .null) (Fre : Fld Z h0 j "com/example/nimble_fusion/nimblefusion/scoring/JudgedRanking" "relevant" "I" (.int 0)) (Fjn : Fld Z h0 j "com/example/nimble_fusion/nimblefusion/scoring/JudgedRanking" "judgedNonRelevant" "I" (.int 0)) (Fpg : Fld Z h0 j "com/example/nimble_fusion/nimblefusion/scoring/JudgedRanking" "positiveGrades" "[I" .null) (E_a : Exa Z h0 al "java/util/ArrayList") (Fs : Fld Z h0 al "java/util/ArrayList" "size" "I" (.int 0)) (V : Arv Z h0 tb k (.object "java/util/HashMap$Node") 16 [.null, .ref n1, .ref n2, .ref n3, .null, .null, .null, .null, .null, .null, .null, .null, .null, .null, .null, .null] .null) (HB : own_H Z h0 hm (.ref tb) 3 3 12 .null) (NB1 : own_NB Z h0 n1 v1 ga) (NB2 : own_NB Z h0 n2 v2 gb) (NB3 : own_NB Z h0 n3 v3 gc) (g : n0 ≤ j) (gm : n0 ≤ hm) :
    own_C l Z (⟨"com/example/nimble_fusion/nimblefusion/scoring/JudgedRanking", "<init>", "(Ljava/util/List;Ljava/util/Map;I)V"⟩ : MethodName) prog_48_method_1_code 11 none [] ({ frames := 4, cells := 7, slots := 17, locals := 79 } : Room) #[.ref j, .ref al, .ref hm, .int lv] h0 (own_Qjr Z j ga gb gc h0 n0) := by
  refine MetFree.of_bodySF (plainFor_of_name own_pn13) hisR ?_
  intro p e s m args below meth c s₁ Bd hml hP hK
  obtain ⟨rfl, hZ, hh⟩ := hP
  obtain ⟨hx, hby, hlk, hret, hown, hnm, X0, e0⟩ := own_hd Bd hh
  have N0 := Fr.nil n0
  refine own_open (own_ef17 m j al hm lv) ?_
  refine s_aloadN X0 hx (hb hby od552) rfl rfl  ?_
  obtain ⟨T1, X1, e1, st1⟩ := initO X0 hx hZ hown (ow hw 155 rfl) (ow hw 19 rfl) (ow hw 20 rfl) e0 (g := (mkF m 1 #[rv j, rv al, rv hm, iv lv, .unset, .unset, .unset, .unset, .unset, .unset, .unset] [.ref j])) rfl (by rw [hml]; rfl) rfl (hb hby od553) (by decide) (W := 0) (by show 2 * 0 + _ ≤ _; exact Nat.le_of_eq rfl) (by decide)
  refine og T1 4 #[rv j, rv al, rv hm, iv lv, .unset, .unset, .unset, .unset, .unset, .unset, .unset] [] st1 ?_
  refine s_aloadN X1 hx (hb hby od554) rfl rfl  ?_
  refine s_iloadN X1 hx (hb hby od555) rfl  ?_
  obtain ⟨T2, h2, X2, e2, W2, st2⟩ := putF X1 hx hZ hown (host := "") (Or.inl (ow hw 156 rfl)) Via.refl e1 Flv E_j (Or.inr ⟨(ow hw 157 rfl), rfl, hnm⟩) (ow hw 149 rfl) (ty := .int) (by decide) rfl rfl (g := (mkF m 6 #[rv j, rv al, rv hm, iv lv, .unset, .unset, .unset, .unset, .unset, .unset, .unset] [.int lv, .ref j])) rfl rfl (hb hby od556)
  have N2 := Fr.snoc X2 N0 g
  refine og T2 9 #[rv j, rv al, rv hm, iv lv, .unset, .unset, .unset, .unset, .unset, .unset, .unset] [] st2 ?_
  have n2_Flv := Flv.same W2
  have c3_E_j := E_j.wr W2
  have c3_Fga := Fga.other W2 (Or.inr (os61 hw))
  have c3_Frr := Frr.other W2 (Or.inr (os62 hw))
  have c3_Fre := Fre.other W2 (Or.inr (os63 hw))
  have c3_Fjn := Fjn.other W2 (Or.inr (os64 hw))
  have c3_Fpg := Fpg.other W2 (Or.inr (os65 hw))
  have c3_E_a := E_a.wr W2
  have c3_Fs := Fs.other W2 (Or.inl (ne_exa E_a E_j (by decide)))
  have c3_V := V.other W2 (Ne.symm (own_nea E_j V (ow hw 149 rfl)))
  have c3_HB := HB.other W2 (ne_exa HB.1 E_j (by decide))
  have c3_NB1 := NB1.other W2 (ne_exa NB1.1.1 E_j (by decide)) (ne_exa NB1.2.1 E_j (by decide))
  have c3_NB2 := NB2.other W2 (ne_exa NB2.1.1 E_j (by decide)) (ne_exa NB2.2.1 E_j (by decide))
  have c3_NB3 := NB3.other W2 (ne_exa NB3.1.1 E_j (by decide)) (ne_exa NB3.2.1 E_j (by decide))
  refine s_aloadN X2 hx (hb hby od557) rfl rfl  ?_
  refine s_aloadN X2 hx (hb hby od558) rfl rfl  ?_
  obtain ⟨cq4, kq4, q4a, q4b, q4c⟩ := isOf hZ e2 (c3_E_a)
  obtain ⟨_, _, ⟨T4, L4, k4, n4⟩, -, X4, ⟨Lc4, hQ4, l4, y4, z4⟩, st4⟩ := X2.interfaceBack hx hown (mvT hZ (ow hw 158 rfl)) (mvT hZ (ow hw 159 rfl)) (mvT hZ (ow hw 160 rfl)) (mvT hZ (ow hw 161 rfl)) (mvT hZ (ow hw 162 rfl)) (mvT hZ (ow hw 163 rfl)) (mvT hZ (ow hw 164 rfl)) (mvT hZ (ow hw 165 rfl)) (by decide) (backOf (W := 1) (own_als l Z a0 hw al h2 n0 (Nat.le_trans g (Nat.le_of_lt c3_E_j.lt)) c3_Fs) hZ (ow hw 166 rfl) (ow hw 2 rfl) (by decide) (by decide)) q4a q4b q4c (g := (mkF m 11 #[rv j, rv al, rv hm, iv lv, .unset, .unset, .unset, .unset, .unset, .unset, .unset] [.ref al, .ref j])) rfl (by rw [hml]; rfl) (Steps.refl _) (argsL := []) (rest := [.ref j]) (lenOf own_pd6 rfl) rfl (by show 2 * 0 + _ ≤ _; exact Nat.le_of_eq rfl) (hb hby od559) (fun _ _ => ⟨rfl, e2, (by decide : 0 + 0 ≤ _), (by decide : 0 + 0 ≤ _)⟩)
  dsimp only [Pt.U, Pt.locs, Pt.cells, Pt.slots] at X4 l4 y4 z4 st4 hQ4
  subst y4 z4
  obtain ⟨rfl, N4q, hh4⟩ := hQ4
  have N4 := frE l4 N2 N4q
  refine ov T4 16 #[rv j, rv al, rv hm, iv lv, .unset, .unset, .unset, .unset, .unset, .unset, .unset] [.int 0, .ref j] st4 ?_
  obtain ⟨T5, h5, k5, X5, e5, E5, A5, Ex5, st5⟩ := newPE X4 hx hZ (ow hw 169 rfl) hh4 (g := (mkF m 16 #[rv j, rv al, rv hm, iv lv, .unset, .unset, .unset, .unset, .unset, .unset, .unset] [.int 0, .ref j])) rfl (hb hby od560) rfl (by decide) (cap := 0) (by decide) (by decide) (by decide) (by decide) (ad := "[I") (by decide +kernel)
  obtain ⟨ra, g5⟩ : ∃ z, z = h2.size := ⟨_, rfl⟩
  rw [← g5] at A5 Ex5 st5
  have V5 : Arv Z h5 ra k5 .int (0 : Int32) [] (.int 0) := (Arv.new A5 (by decide)).pad (pad_rep [] (.int 0) 0)
  refine og T5 18 #[rv j, rv al, rv hm, iv lv, .unset, .unset, .unset, .unset, .unset, .unset, .unset] [.ref ra, .ref j] st5 ?_
  have ne_j_ra : j ≠ ra := Nat.ne_of_lt (Nat.lt_of_lt_of_le c3_E_j.lt (Nat.le_of_eq g5.symm))
  have ne_tb_ra : tb ≠ ra := Nat.ne_of_lt (Nat.lt_of_lt_of_le c3_V.lt (Nat.le_of_eq g5.symm))
  have ne_hm_ra : hm ≠ ra := Nat.ne_of_lt (Nat.lt_of_lt_of_le c3_HB.1.lt (Nat.le_of_eq g5.symm))
  have ne_n1_ra : n1 ≠ ra := Nat.ne_of_lt (Nat.lt_of_lt_of_le c3_NB1.1.1.lt (Nat.le_of_eq g5.symm))
  have ne_v1_ra : v1 ≠ ra := Nat.ne_of_lt (Nat.lt_of_lt_of_le c3_NB1.2.1.lt (Nat.le_of_eq g5.symm))
  have ne_n2_ra : n2 ≠ ra := Nat.ne_of_lt (Nat.lt_of_lt_of_le c3_NB2.1.1.lt (Nat.le_of_eq g5.symm))
  have ne_v2_ra : v2 ≠ ra := Nat.ne_of_lt (Nat.lt_of_lt_of_le c3_NB2.2.1.lt (Nat.le_of_eq g5.symm))
  have ne_n3_ra : n3 ≠ ra := Nat.ne_of_lt (Nat.lt_of_lt_of_le c3_NB3.1.1.lt (Nat.le_of_eq g5.symm))
  have ne_v3_ra : v3 ≠ ra := Nat.ne_of_lt (Nat.lt_of_lt_of_le c3_NB3.2.1.lt (Nat.le_of_eq g5.symm))
  have gn_ra : n0 ≤ ra := Nat.le_trans (Nat.le_trans g (Nat.le_of_lt c3_E_j.lt)) (Nat.le_of_eq g5.symm)
  have c6_E_j := c3_E_j.ext E5
  have c6_Fga := c3_Fga.ext E5
  have c6_Frr := c3_Frr.ext E5
  have c6_Fre := c3_Fre.ext E5
  have c6_Fjn := c3_Fjn.ext E5
  have c6_Fpg := c3_Fpg.ext E5
  have c6_V := c3_V.ext E5
  have c6_HB := c3_HB.ext E5
  have c6_NB1 := c3_NB1.ext E5
  have c6_NB2 := c3_NB2.ext E5
  have c6_NB3 := c3_NB3.ext E5
  have c6_Flv := n2_Flv.ext E5
  obtain ⟨T7, h7, X7, e7, W7, st7⟩ := putF X5 hx hZ hown (host := "") (Or.inl (ow hw 170 rfl)) Via.refl e5 c6_Fga c6_E_j (Or.inr ⟨(ow hw 171 rfl), rfl, hnm⟩) (ow hw 149 rfl) (ty := (.array .int)) (by decide) rfl rfl (g := (mkF m 18 #[rv j, rv al, rv hm, iv lv, .unset, .unset, .unset, .unset, .unset, .unset, .unset] [.ref ra, .ref j])) rfl rfl (hb hby od561)
  have N7 := Fr.snoc X7 N4 g
  refine og T7 21 #[rv j, rv al, rv hm, iv lv, .unset, .unset, .unset, .unset, .unset, .unset, .unset] [] st7 ?_
  have n7_Fga := c6_Fga.same W7
  have c8_E_j := c6_E_j.wr W7
  have c8_Frr := c6_Frr.other W7 (Or.inr (os66 hw))
  have c8_Fre := c6_Fre.other W7 (Or.inr (os67 hw))
  have c8_Fjn := c6_Fjn.other W7 (Or.inr (os68 hw))
  have c8_Fpg := c6_Fpg.other W7 (Or.inr (os69 hw))
  have c8_V := c6_V.other W7 (Ne.symm (own_nea c6_E_j c6_V (ow hw 149 rfl)))
  have c8_HB := c6_HB.other W7 (ne_exa c6_HB.1 c6_E_j (by decide))
  have c8_NB1 := c6_NB1.other W7 (ne_exa c6_NB1.1.1 c6_E_j (by decide)) (ne_exa c6_NB1.2.1 c6_E_j (by decide))
  have c8_NB2 := c6_NB2.other W7 (ne_exa c6_NB2.1.1 c6_E_j (by decide)) (ne_exa c6_NB2.2.1 c6_E_j (by decide))
  have c8_NB3 := c6_NB3.other W7 (ne_exa c6_NB3.1.1 c6_E_j (by decide)) (ne_exa c6_NB3.2.1 c6_E_j (by decide))
  have c8_Flv := c6_Flv.other W7 (Or.inr (os70 hw))
  have c8_Vg := V5.other W7 (Ne.symm ne_j_ra)
  refine s_iconst 0 X7 hx (hb hby od562) rfl ?_
  refine og T7 24 #[rv j, rv al, rv hm, iv lv, iv 0, .unset, .unset, .unset, .unset, .unset, .unset] [] (fun _ k => XS.istore X7.here hx rfl (hb hby od563) rfl (l' := #[rv j, rv al, rv hm, iv lv, iv 0, .unset, .unset, .unset, .unset, .unset, .unset]) rfl k) ?_
  refine s_iconst 0 X7 hx (hb hby od564) rfl ?_
  refine og T7 27 #[rv j, rv al, rv hm, iv lv, iv 0, iv 0, .unset, .unset, .unset, .unset, .unset] [] (fun _ k => XS.istore X7.here hx rfl (hb hby od565) rfl (l' := #[rv j, rv al, rv hm, iv lv, iv 0, iv 0, .unset, .unset, .unset, .unset, .unset]) rfl k) ?_
  refine s_iload X7 hx (hb hby od566) rfl  ?_
  refine s_aloadN X7 hx (hb hby od567) rfl rfl  ?_
  obtain ⟨T9, X9, e9, st9⟩ := getF X7 hx hZ hown (host := "") (Or.inl (ow hw 170 rfl)) Via.refl e7 n7_Fga (g := (mkF m 30 #[rv j, rv al, rv hm, iv lv, iv 0, iv 0, .unset, .unset, .unset, .unset, .unset] [.ref j, .int 0])) rfl rfl (hb hby od568)
  refine og T9 33 #[rv j, rv al, rv hm, iv lv, iv 0, iv 0, .unset, .unset, .unset, .unset, .unset] [.ref ra, .int 0] st9 ?_
  have vv10 := c8_Vg
  obtain ⟨cl10, Ar10, qa10, Sz10, Ng10, Ha10, Ga10⟩ := vv10
  refine og T9 34 #[rv j, rv al, rv hm, iv lv, iv 0, iv 0, .unset, .unset, .unset, .unset, .unset] [(.int cl10.slots.size.toInt32), .int 0] (fun _ k => X9.arraylength hx (by rw [e9]; exact Ar10.1) (State.isArrayOf_alike hZ.alike Ar10.2.1) (g := (mkF m 33 #[rv j, rv al, rv hm, iv lv, iv 0, iv 0, .unset, .unset, .unset, .unset, .unset] [.ref ra, .int 0])) rfl rfl (hb hby od569) _ k) ?_
  rw [len_of Sz10 Ng10]
  refine s_icmpY 97 X9 hx (hb hby od570) (flt (by decide)).2.1 (by decide) (by decide) ?_
  refine s_aloadN X9 hx (hb hby od571) rfl rfl  ?_
  refine s_iload X9 hx (hb hby od572) rfl  ?_
  obtain ⟨T11, h11, k11, X11, e11, E11, A11, Ex11, st11⟩ := newPE X9 hx hZ (ow hw 169 rfl) e9 (g := (mkF m 100 #[rv j, rv al, rv hm, iv lv, iv 0, iv 0, .unset, .unset, .unset, .unset, .unset] [.int 0, .ref j])) rfl (hb hby od573) rfl (by decide) (cap := 0) (by decide) (by decide) (by decide) (by decide) (ad := "[I") (by decide +kernel)
  obtain ⟨rb, g11⟩ : ∃ z, z = h7.size := ⟨_, rfl⟩
  rw [← g11] at A11 Ex11 st11
  have V11 : Arv Z h11 rb k11 .int (0 : Int32) [] (.int 0) := (Arv.new A11 (by decide)).pad (pad_rep [] (.int 0) 0)
  refine og T11 102 #[rv j, rv al, rv hm, iv lv, iv 0, iv 0, .unset, .unset, .unset, .unset, .unset] [.ref rb, .ref j] st11 ?_
  have ne_j_rb : j ≠ rb := Nat.ne_of_lt (Nat.lt_of_lt_of_le c8_E_j.lt (Nat.le_of_eq g11.symm))
  have ne_tb_rb : tb ≠ rb := Nat.ne_of_lt (Nat.lt_of_lt_of_le c8_V.lt (Nat.le_of_eq g11.symm))
  have ne_hm_rb : hm ≠ rb := Nat.ne_of_lt (Nat.lt_of_lt_of_le c8_HB.1.lt (Nat.le_of_eq g11.symm))
  have ne_n1_rb : n1 ≠ rb := Nat.ne_of_lt (Nat.lt_of_lt_of_le c8_NB1.1.1.lt (Nat.le_of_eq g11.symm))
  have ne_v1_rb : v1 ≠ rb := Nat.ne_of_lt (Nat.lt_of_lt_of_le c8_NB1.2.1.lt (Nat.le_of_eq g11.symm))
  have ne_n2_rb : n2 ≠ rb := Nat.ne_of_lt (Nat.lt_of_lt_of_le c8_NB2.1.1.lt (Nat.le_of_eq g11.symm))
  have ne_v2_rb : v2 ≠ rb := Nat.ne_of_lt (Nat.lt_of_lt_of_le c8_NB2.2.1.lt (Nat.le_of_eq g11.symm))
  have ne_n3_rb : n3 ≠ rb := Nat.ne_of_lt (Nat.lt_of_lt_of_le c8_NB3.1.1.lt (Nat.le_of_eq g11.symm))
  have ne_v3_rb : v3 ≠ rb := Nat.ne_of_lt (Nat.lt_of_lt_of_le c8_NB3.2.1.lt (Nat.le_of_eq g11.symm))
  have ne_ra_rb : ra ≠ rb := Nat.ne_of_lt (Nat.lt_of_lt_of_le c8_Vg.lt (Nat.le_of_eq g11.symm))
  have gn_rb : n0 ≤ rb := Nat.le_trans (Nat.le_trans g (Nat.le_of_lt c8_E_j.lt)) (Nat.le_of_eq g11.symm)
  have c12_E_j := c8_E_j.ext E11
  have c12_Frr := c8_Frr.ext E11
  have c12_Fre := c8_Fre.ext E11
  have c12_Fjn := c8_Fjn.ext E11
  have c12_Fpg := c8_Fpg.ext E11
  have c12_V := c8_V.ext E11
  have c12_HB := c8_HB.ext E11
  have c12_NB1 := c8_NB1.ext E11
  have c12_NB2 := c8_NB2.ext E11
  have c12_NB3 := c8_NB3.ext E11
  have c12_Flv := c8_Flv.ext E11
  have c12_Vg := c8_Vg.ext E11
  have c12_Fga := n7_Fga.ext E11
  obtain ⟨T13, h13, X13, e13, W13, st13⟩ := putF X11 hx hZ hown (host := "") (Or.inl (ow hw 172 rfl)) Via.refl e11 c12_Frr c12_E_j (Or.inr ⟨(ow hw 173 rfl), rfl, hnm⟩) (ow hw 149 rfl) (ty := (.array .int)) (by decide) rfl rfl (g := (mkF m 102 #[rv j, rv al, rv hm, iv lv, iv 0, iv 0, .unset, .unset, .unset, .unset, .unset] [.ref rb, .ref j])) rfl rfl (hb hby od574)
  have N13 := Fr.snoc X13 N7 g
  refine og T13 105 #[rv j, rv al, rv hm, iv lv, iv 0, iv 0, .unset, .unset, .unset, .unset, .unset] [] st13 ?_
  have n13_Frr := c12_Frr.same W13
  have c14_E_j := c12_E_j.wr W13
  have c14_Fre := c12_Fre.other W13 (Or.inr (os71 hw))
  have c14_Fjn := c12_Fjn.other W13 (Or.inr (os72 hw))
  have c14_Fpg := c12_Fpg.other W13 (Or.inr (os73 hw))
  have c14_V := c12_V.other W13 (Ne.symm (own_nea c12_E_j c12_V (ow hw 149 rfl)))
  have c14_HB := c12_HB.other W13 (ne_exa c12_HB.1 c12_E_j (by decide))
  have c14_NB1 := c12_NB1.other W13 (ne_exa c12_NB1.1.1 c12_E_j (by decide)) (ne_exa c12_NB1.2.1 c12_E_j (by decide))
  have c14_NB2 := c12_NB2.other W13 (ne_exa c12_NB2.1.1 c12_E_j (by decide)) (ne_exa c12_NB2.2.1 c12_E_j (by decide))
  have c14_NB3 := c12_NB3.other W13 (ne_exa c12_NB3.1.1 c12_E_j (by decide)) (ne_exa c12_NB3.2.1 c12_E_j (by decide))
  have c14_Flv := c12_Flv.other W13 (Or.inr (os74 hw))
  have c14_Vg := c12_Vg.other W13 (Ne.symm ne_j_ra)
  have c14_Fga := c12_Fga.other W13 (Or.inr (os75 hw))
  refine s_iconst 0 X13 hx (hb hby od575) rfl ?_
  refine og T13 108 #[rv j, rv al, rv hm, iv lv, iv 0, iv 0, .unset, .unset, .unset, .unset, .unset] [] (fun _ k => XS.istore X13.here hx rfl (hb hby od576) rfl (l' := #[rv j, rv al, rv hm, iv lv, iv 0, iv 0, .unset, .unset, .unset, .unset, .unset]) rfl k) ?_
  refine s_iconst 1 X13 hx (hb hby od577) rfl ?_
  refine og T13 111 #[rv j, rv al, rv hm, iv lv, iv 0, iv 1, .unset, .unset, .unset, .unset, .unset] [] (fun _ k => XS.istore X13.here hx rfl (hb hby od578) rfl (l' := #[rv j, rv al, rv hm, iv lv, iv 0, iv 1, .unset, .unset, .unset, .unset, .unset]) rfl k) ?_
  refine s_iload X13 hx (hb hby od579) rfl  ?_
  refine s_aloadN X13 hx (hb hby od580) rfl rfl  ?_
  obtain ⟨T15, X15, e15, st15⟩ := getF X13 hx hZ hown (host := "") (Or.inl (ow hw 170 rfl)) Via.refl e13 c14_Fga (g := (mkF m 114 #[rv j, rv al, rv hm, iv lv, iv 0, iv 1, .unset, .unset, .unset, .unset, .unset] [.ref j, .int 1])) rfl rfl (hb hby od581)
  refine og T15 117 #[rv j, rv al, rv hm, iv lv, iv 0, iv 1, .unset, .unset, .unset, .unset, .unset] [.ref ra, .int 1] st15 ?_
  have vv16 := c14_Vg
  obtain ⟨cl16, Ar16, qa16, Sz16, Ng16, Ha16, Ga16⟩ := vv16
  refine og T15 118 #[rv j, rv al, rv hm, iv lv, iv 0, iv 1, .unset, .unset, .unset, .unset, .unset] [(.int cl16.slots.size.toInt32), .int 1] (fun _ k => X15.arraylength hx (by rw [e15]; exact Ar16.1) (State.isArrayOf_alike hZ.alike Ar16.2.1) (g := (mkF m 117 #[rv j, rv al, rv hm, iv lv, iv 0, iv 1, .unset, .unset, .unset, .unset, .unset] [.ref ra, .int 1])) rfl rfl (hb hby od582) _ k) ?_
  rw [len_of Sz16 Ng16]
  refine s_icmpY 148 X15 hx (hb hby od583) (tlt (by decide)).2.2.1 (by decide) (by decide) ?_
  refine s_iconst 0 X15 hx (hb hby od584) rfl ?_
  refine og T15 151 #[rv j, rv al, rv hm, iv lv, iv 0, iv 0, .unset, .unset, .unset, .unset, .unset] [] (fun _ k => XS.istore X15.here hx rfl (hb hby od585) rfl (l' := #[rv j, rv al, rv hm, iv lv, iv 0, iv 0, .unset, .unset, .unset, .unset, .unset]) rfl k) ?_
  refine s_iconst 0 X15 hx (hb hby od586) rfl ?_
  refine og T15 154 #[rv j, rv al, rv hm, iv lv, iv 0, iv 0, iv 0, .unset, .unset, .unset, .unset] [] (fun _ k => XS.istore X15.here hx rfl (hb hby od587) rfl (l' := #[rv j, rv al, rv hm, iv lv, iv 0, iv 0, iv 0, .unset, .unset, .unset, .unset]) rfl k) ?_
  refine s_aloadN X15 hx (hb hby od588) rfl rfl  ?_
  obtain ⟨cq17, kq17, q17a, q17b, q17c⟩ := isOf hZ e15 (c14_HB.1)
  obtain ⟨_, _, ⟨T17, L17, k17, n17⟩, -, X17, ⟨Lc17, hQ17, l17, y17, z17⟩, st17⟩ := X15.interfaceBack hx hown (mvT hZ (ow hw 174 rfl)) (mvT hZ (ow hw 175 rfl)) (mvT hZ (ow hw 176 rfl)) (mvT hZ (ow hw 177 rfl)) (mvT hZ (ow hw 178 rfl)) (mvT hZ (ow hw 179 rfl)) (mvT hZ (ow hw 180 rfl)) (mvT hZ (ow hw 80 rfl)) (by decide) (backOf (W := 0) (own_val1 l Z a0 hw hm tb h13 n0 (Nat.le_trans g (Nat.le_of_lt c14_E_j.lt)) c14_HB.1 c14_HB.2.1 c14_HB.2.2.1 c14_HB.2.2.2.1 c14_HB.2.2.2.2.1 c14_HB.2.2.2.2.2 gm) hZ (ow hw 181 rfl) (ow hw 28 rfl) (by decide) (by decide)) q17a q17b q17c (g := (mkF m 155 #[rv j, rv al, rv hm, iv lv, iv 0, iv 0, iv 0, .unset, .unset, .unset, .unset] [.ref hm])) rfl (by rw [hml]; rfl) (Steps.refl _) (argsL := []) (rest := []) (lenOf own_pd20 rfl) rfl (by show 2 * 0 + _ ≤ _; exact Nat.le_of_eq rfl) (hb hby od589) (fun _ _ => ⟨rfl, e15, (by decide : 2 + 1 ≤ _), (by decide : 0 + 1 ≤ _)⟩)
  dsimp only [Pt.U, Pt.locs, Pt.cells, Pt.slots] at X17 l17 y17 z17 st17 hQ17
  subst y17 z17
  obtain ⟨x17, rfl, N17q, Kc17, H17c, E17c, F17c, s17c⟩ := hQ17
  have N17 := frE l17 N13 N17q
  refine ov T17 160 #[rv j, rv al, rv hm, iv lv, iv 0, iv 0, iv 0, .unset, .unset, .unset, .unset] [.ref x17] st17 ?_
  have ne_j_x17 : j ≠ x17 := Nat.ne_of_lt (Nat.lt_of_lt_of_le c14_E_j.lt s17c)
  have ne_tb_x17 : tb ≠ x17 := Nat.ne_of_lt (Nat.lt_of_lt_of_le c14_V.lt s17c)
  have ne_hm_x17 : hm ≠ x17 := Nat.ne_of_lt (Nat.lt_of_lt_of_le c14_HB.1.lt s17c)
  have ne_n1_x17 : n1 ≠ x17 := Nat.ne_of_lt (Nat.lt_of_lt_of_le c14_NB1.1.1.lt s17c)
  have ne_v1_x17 : v1 ≠ x17 := Nat.ne_of_lt (Nat.lt_of_lt_of_le c14_NB1.2.1.lt s17c)
  have ne_n2_x17 : n2 ≠ x17 := Nat.ne_of_lt (Nat.lt_of_lt_of_le c14_NB2.1.1.lt s17c)
  have ne_v2_x17 : v2 ≠ x17 := Nat.ne_of_lt (Nat.lt_of_lt_of_le c14_NB2.2.1.lt s17c)
  have ne_n3_x17 : n3 ≠ x17 := Nat.ne_of_lt (Nat.lt_of_lt_of_le c14_NB3.1.1.lt s17c)
  have ne_v3_x17 : v3 ≠ x17 := Nat.ne_of_lt (Nat.lt_of_lt_of_le c14_NB3.2.1.lt s17c)
  have c18_E_j := c14_E_j.keep Kc17
  have c18_Fre := c14_Fre.keep Kc17 (ninS (ne_exa c14_E_j c14_HB.1 (by decide)) nin0)
  have c18_Fjn := c14_Fjn.keep Kc17 (ninS (ne_exa c14_E_j c14_HB.1 (by decide)) nin0)
  have c18_Fpg := c14_Fpg.keep Kc17 (ninS (ne_exa c14_E_j c14_HB.1 (by decide)) nin0)
  have c18_V := c14_V.keep Kc17 (ninS (Ne.symm (own_nea c14_HB.1 c14_V (ow hw 27 rfl))) nin0)
  have c18_NB1 := c14_NB1.keep Kc17 (ninS (ne_exa c14_NB1.1.1 c14_HB.1 (by decide)) nin0) (ninS (ne_exa c14_NB1.2.1 c14_HB.1 (by decide)) nin0)
  have c18_NB2 := c14_NB2.keep Kc17 (ninS (ne_exa c14_NB2.1.1 c14_HB.1 (by decide)) nin0) (ninS (ne_exa c14_NB2.2.1 c14_HB.1 (by decide)) nin0)
  have c18_NB3 := c14_NB3.keep Kc17 (ninS (ne_exa c14_NB3.1.1 c14_HB.1 (by decide)) nin0) (ninS (ne_exa c14_NB3.2.1 c14_HB.1 (by decide)) nin0)
  have c18_Flv := c14_Flv.keep Kc17 (ninS (ne_exa c14_E_j c14_HB.1 (by decide)) nin0)
  obtain ⟨cq19, kq19, q19a, q19b, q19c⟩ := isOf hZ rfl (E17c)
  obtain ⟨_, _, ⟨T19, L19, k19, n19⟩, -, X19, ⟨Lc19, hQ19, l19, y19, z19⟩, st19⟩ := X17.interfaceBack hx hown (mvT hZ (ow hw 196 rfl)) (mvT hZ (ow hw 197 rfl)) (mvT hZ (ow hw 198 rfl)) (mvT hZ (ow hw 199 rfl)) (mvT hZ (ow hw 200 rfl)) (mvT hZ (ow hw 201 rfl)) (mvT hZ (ow hw 202 rfl)) (mvT hZ (ow hw 203 rfl)) (by decide) (backOf (W := 0) (own_itr l Z a0 hw x17 hm tb k n1 n2 n3 T17.heap n0 (Nat.le_trans g (Nat.le_of_lt c18_E_j.lt)) E17c F17c H17c.2.1 H17c.2.2.1 H17c.2.2.2.1 H17c.1 c18_V) hZ (ow hw 204 rfl) (ow hw 187 rfl) (by decide) (by decide)) q19a q19b q19c (g := (mkF m 160 #[rv j, rv al, rv hm, iv lv, iv 0, iv 0, iv 0, .unset, .unset, .unset, .unset] [.ref x17])) rfl (by rw [hml]; rfl) (Steps.refl _) (argsL := []) (rest := []) (lenOf own_pd21 rfl) rfl (by show 2 * 0 + _ ≤ _; exact Nat.le_of_eq rfl) (hb hby od590) (fun _ _ => ⟨rfl, rfl, (by decide : 3 + 1 ≤ _), (by decide : 1 + 5 ≤ _)⟩)
  dsimp only [Pt.U, Pt.locs, Pt.cells, Pt.slots] at X19 l19 y19 z19 st19 hQ19
  subst y19 z19
  obtain ⟨it19, rfl, N19q, Kc19, I19c, s19c⟩ := hQ19
  have N19 := frE l19 N17 N19q
  refine ov T19 165 #[rv j, rv al, rv hm, iv lv, iv 0, iv 0, iv 0, .unset, .unset, .unset, .unset] [.ref it19] st19 ?_
  have gi19 : n0 ≤ it19 := Nat.le_trans (Nat.le_trans g (Nat.le_of_lt c18_E_j.lt)) s19c
  have ne_j_it19 : j ≠ it19 := Nat.ne_of_lt (Nat.lt_of_lt_of_le c18_E_j.lt s19c)
  have ne_tb_it19 : tb ≠ it19 := Nat.ne_of_lt (Nat.lt_of_lt_of_le c18_V.lt s19c)
  have ne_n1_it19 : n1 ≠ it19 := Nat.ne_of_lt (Nat.lt_of_lt_of_le c18_NB1.1.1.lt s19c)
  have ne_v1_it19 : v1 ≠ it19 := Nat.ne_of_lt (Nat.lt_of_lt_of_le c18_NB1.2.1.lt s19c)
  have ne_n2_it19 : n2 ≠ it19 := Nat.ne_of_lt (Nat.lt_of_lt_of_le c18_NB2.1.1.lt s19c)
  have ne_v2_it19 : v2 ≠ it19 := Nat.ne_of_lt (Nat.lt_of_lt_of_le c18_NB2.2.1.lt s19c)
  have ne_n3_it19 : n3 ≠ it19 := Nat.ne_of_lt (Nat.lt_of_lt_of_le c18_NB3.1.1.lt s19c)
  have ne_v3_it19 : v3 ≠ it19 := Nat.ne_of_lt (Nat.lt_of_lt_of_le c18_NB3.2.1.lt s19c)
  have ne_hm_it19 : hm ≠ it19 := Nat.ne_of_lt (Nat.lt_of_lt_of_le H17c.1.lt s19c)
  have ne_x17_it19 : x17 ≠ it19 := Nat.ne_of_lt (Nat.lt_of_lt_of_le E17c.lt s19c)
  have c20_E_j := c18_E_j.keep Kc19
  have c20_Fre := c18_Fre.keep Kc19 nin0
  have c20_Fjn := c18_Fjn.keep Kc19 nin0
  have c20_Fpg := c18_Fpg.keep Kc19 nin0
  have c20_V := c18_V.keep Kc19 nin0
  have c20_NB1 := c18_NB1.keep Kc19 nin0 nin0
  have c20_NB2 := c18_NB2.keep Kc19 nin0 nin0
  have c20_NB3 := c18_NB3.keep Kc19 nin0 nin0
  have c20_Flv := c18_Flv.keep Kc19 nin0
  have c20_HB := H17c.keep Kc19 nin0
  have c20_E_x := E17c.keep Kc19
  have c20_F1 := F17c.keep Kc19 nin0
  obtain ⟨I21_E_i, I21_I0, I21_I1, I21_I2, I21_I3, I21_I4⟩ := I19c
  refine og T19 167 #[rv j, rv al, rv hm, iv lv, iv 0, iv 0, iv 0, rv it19, .unset, .unset, .unset] [] (fun _ k => XS.astore X19.here hx rfl (hb hby od591) rfl rfl (l' := #[rv j, rv al, rv hm, iv lv, iv 0, iv 0, iv 0, rv it19, .unset, .unset, .unset]) rfl k) ?_
  refine s_aload X19 hx (hb hby od592) rfl rfl  ?_
  obtain ⟨cq22, kq22, q22a, q22b, q22c⟩ := isOf hZ rfl (I21_E_i)
  obtain ⟨_, _, ⟨T22, L22, k22, n22⟩, -, X22, ⟨Lc22, hQ22, l22, y22, z22⟩, st22⟩ := X19.interfaceBack hx hown (mvT hZ (ow hw 232 rfl)) (mvT hZ (ow hw 233 rfl)) (mvT hZ (ow hw 234 rfl)) (mvT hZ (ow hw 235 rfl)) (mvT hZ (ow hw 236 rfl)) (mvT hZ (ow hw 237 rfl)) (mvT hZ (ow hw 238 rfl)) (mvT hZ (ow hw 239 rfl)) (by decide) (backOf (W := 0) (own_hn1 l Z a0 hw it19 n1 T19.heap n0 (Nat.le_trans g (Nat.le_of_lt c20_E_j.lt)) I21_I2) hZ (ow hw 240 rfl) (ow hw 216 rfl) (by decide) (by decide)) q22a q22b q22c (g := (mkF m 169 #[rv j, rv al, rv hm, iv lv, iv 0, iv 0, iv 0, rv it19, .unset, .unset, .unset] [.ref it19])) rfl (by rw [hml]; rfl) (Steps.refl _) (argsL := []) (rest := []) (lenOf own_pd4 rfl) rfl (by show 2 * 0 + _ ≤ _; exact Nat.le_of_eq rfl) (hb hby od593) (fun _ _ => ⟨rfl, rfl, (by decide : 4 + 0 ≤ _), (by decide : 6 + 0 ≤ _)⟩)
  dsimp only [Pt.U, Pt.locs, Pt.cells, Pt.slots] at X22 l22 y22 z22 st22 hQ22
  subst y22 z22
  obtain ⟨rfl, N22q, hh22⟩ := hQ22
  have N22 := frE l22 N19 N22q
  refine ov T22 174 #[rv j, rv al, rv hm, iv lv, iv 0, iv 0, iv 0, rv it19, .unset, .unset, .unset] [.int 1] st22 ?_
  refine s_ifN X22 hx (hb hby od594) ((if0 _ _).trans (feq (by decide)).1) ?_
  refine s_aload X22 hx (hb hby od595) rfl rfl  ?_
  obtain ⟨cq23, kq23, q23a, q23b, q23c⟩ := isOf hZ hh22 (I21_E_i)
  obtain ⟨_, _, ⟨T23, L23, k23, n23⟩, -, X23, ⟨Lc23, hQ23, l23, y23, z23⟩, st23⟩ := X22.interfaceBack hx hown (mvT hZ (ow hw 241 rfl)) (mvT hZ (ow hw 242 rfl)) (mvT hZ (ow hw 243 rfl)) (mvT hZ (ow hw 244 rfl)) (mvT hZ (ow hw 245 rfl)) (mvT hZ (ow hw 246 rfl)) (mvT hZ (ow hw 247 rfl)) (mvT hZ (ow hw 239 rfl)) (by decide) (backOf (W := 0) (own_nxt1 l Z a0 hw it19 hm tb k n1 n2 n3 v1 T19.heap n0 (Nat.le_trans g (Nat.le_of_lt c20_E_j.lt)) I21_E_i I21_I0 I21_I1 I21_I2 I21_I3 I21_I4 c20_HB.2.1 c20_HB.2.2.2.1 c20_HB.1 c20_V c20_NB1.1.1 c20_NB1.1.2.2 c20_NB1.1.2.1 gi19) hZ (ow hw 248 rfl) (ow hw 207 rfl) (by decide) (by decide)) q23a q23b q23c (g := (mkF m 179 #[rv j, rv al, rv hm, iv lv, iv 0, iv 0, iv 0, rv it19, .unset, .unset, .unset] [.ref it19])) rfl (by rw [hml]; rfl) (Steps.refl _) (argsL := []) (rest := []) (lenOf own_pd22 rfl) rfl (by show 2 * 0 + _ ≤ _; exact Nat.le_of_eq rfl) (hb hby od596) (fun _ _ => ⟨rfl, hh22, (by decide : 4 + 0 ≤ _), (by decide : 6 + 0 ≤ _)⟩)
  dsimp only [Pt.U, Pt.locs, Pt.cells, Pt.slots] at X23 l23 y23 z23 st23 hQ23
  subst y23 z23
  obtain ⟨rfl, N23q, Kc23, I23c⟩ := hQ23
  have N23 := frE l23 N22 N23q
  refine ov T23 184 #[rv j, rv al, rv hm, iv lv, iv 0, iv 0, iv 0, rv it19, .unset, .unset, .unset] [.ref v1] st23 ?_
  have c24_E_j := c20_E_j.keep Kc23
  have c24_Fre := c20_Fre.keep Kc23 (ninS ne_j_it19 nin0)
  have c24_Fjn := c20_Fjn.keep Kc23 (ninS ne_j_it19 nin0)
  have c24_Fpg := c20_Fpg.keep Kc23 (ninS ne_j_it19 nin0)
  have c24_V := c20_V.keep Kc23 (ninS ne_tb_it19 nin0)
  have c24_NB1 := c20_NB1.keep Kc23 (ninS ne_n1_it19 nin0) (ninS ne_v1_it19 nin0)
  have c24_NB2 := c20_NB2.keep Kc23 (ninS ne_n2_it19 nin0) (ninS ne_v2_it19 nin0)
  have c24_NB3 := c20_NB3.keep Kc23 (ninS ne_n3_it19 nin0) (ninS ne_v3_it19 nin0)
  have c24_Flv := c20_Flv.keep Kc23 (ninS ne_j_it19 nin0)
  have c24_HB := c20_HB.keep Kc23 (ninS ne_hm_it19 nin0)
  have c24_E_x := c20_E_x.keep Kc23
  have c24_F1 := c20_F1.keep Kc23 (ninS ne_x17_it19 nin0)
  obtain ⟨I25_E_i, I25_I0, I25_I1, I25_I2, I25_I3, I25_I4⟩ := I23c
  obtain ⟨T26, X26, e26, st26⟩ := castY X23 hx hZ hown (ow hw 257 rfl) rfl (Ins.self c24_NB1.2.1) (g := (mkF m 184 #[rv j, rv al, rv hm, iv lv, iv 0, iv 0, iv 0, rv it19, .unset, .unset, .unset] [.ref v1])) rfl rfl (hb hby od597)
  refine og T26 187 #[rv j, rv al, rv hm, iv lv, iv 0, iv 0, iv 0, rv it19, .unset, .unset, .unset] [.ref v1] st26 ?_
  obtain ⟨cq27, kq27, q27a, q27b, q27c⟩ := isOf hZ e26 (c24_NB1.2.1)
  obtain ⟨_, _, ⟨T27, L27, k27, n27⟩, -, X27, ⟨Lc27, hQ27, l27, y27, z27⟩, st27⟩ := X26.virtualBack hx hown (mvT hZ (ow hw 259 rfl)) (mvT hZ (ow hw 260 rfl)) (notFace_of_selects (args := #[]) (mvT hZ (ow hw 262 rfl))) (mvT hZ (ow hw 262 rfl)) (mvT hZ (ow hw 261 rfl)) (by decide) (backOf (W := 0) (own_ivl l Z a0 hw v1 ga T23.heap n0 (Nat.le_trans g (Nat.le_of_lt c24_E_j.lt)) c24_NB1.2.2) hZ (ow hw 263 rfl) (ow hw 68 rfl) (by decide) (by decide)) q27a q27c (g := (mkF m 187 #[rv j, rv al, rv hm, iv lv, iv 0, iv 0, iv 0, rv it19, .unset, .unset, .unset] [.ref v1])) rfl (by rw [hml]; rfl) (Steps.refl _) (argsL := []) (rest := []) (lenOf own_pd6 rfl) rfl (by show 2 * 0 + _ ≤ _; exact Nat.le_of_eq rfl) (hb hby od598) (fun _ _ => ⟨rfl, e26, (by decide : 4 + 0 ≤ _), (by decide : 6 + 0 ≤ _)⟩)
  dsimp only [Pt.U, Pt.locs, Pt.cells, Pt.slots] at X27 l27 y27 z27 st27 hQ27
  subst y27 z27
  obtain ⟨rfl, N27q, hh27⟩ := hQ27
  have N27 := frE l27 N23 N27q
  refine ov T27 190 #[rv j, rv al, rv hm, iv lv, iv 0, iv 0, iv 0, rv it19, .unset, .unset, .unset] [.int ga] st27 ?_
  refine og T27 192 #[rv j, rv al, rv hm, iv lv, iv 0, iv 0, iv 0, rv it19, iv ga, .unset, .unset] [] (fun _ k => XS.istore X27.here hx rfl (hb hby od599) rfl (l' := #[rv j, rv al, rv hm, iv lv, iv 0, iv 0, iv 0, rv it19, iv ga, .unset, .unset]) rfl k) ?_
  refine s_aloadN X27 hx (hb hby od600) rfl rfl  ?_
  refine s_iload X27 hx (hb hby od601) rfl  ?_
  have JL1 : ∀ (T28 : State) (ls28 : List Loc) (p1 : Int32) (q1 : Int32), Stand p l e ({ frames := 4, cells := 7, slots := 17, locals := 79 } : Room) s m #[.ref j, .ref al, .ref hm, .int lv] below meth c T28 ls28 4 6 → T28.heap = T23.heap → Fr n0 ls28 →  own_E p e below s (own_Qjr Z j ga gb gc h0 n0) (({ frames := 4, cells := 7, slots := 17, locals := 79 } : Room)).cells (({ frames := 4, cells := 7, slots := 17, locals := 79 } : Room)).slots (T28.setTop (mkF m 219 #[rv j, rv al, rv hm, iv lv, iv 0, iv p1, iv q1, rv it19, iv ga, .unset, .unset] [])) := by as_aux_lemma =>
    intro T28 ls28 p1 q1 X28 e28 N28 
    refine s_goto 167 X28 hx (hb hby od603) (by decide) (by decide) ?_
    refine s_aload X28 hx (hb hby od592) rfl rfl  ?_
    obtain ⟨cq29, kq29, q29a, q29b, q29c⟩ := isOf hZ e28 (I25_E_i)
    obtain ⟨_, _, ⟨T29, L29, k29, n29⟩, -, X29, ⟨Lc29, hQ29, l29, y29, z29⟩, st29⟩ := X28.interfaceBack hx hown (mvT hZ (ow hw 232 rfl)) (mvT hZ (ow hw 233 rfl)) (mvT hZ (ow hw 234 rfl)) (mvT hZ (ow hw 235 rfl)) (mvT hZ (ow hw 236 rfl)) (mvT hZ (ow hw 237 rfl)) (mvT hZ (ow hw 238 rfl)) (mvT hZ (ow hw 239 rfl)) (by decide) (backOf (W := 0) (own_hn1 l Z a0 hw it19 n2 T23.heap n0 (Nat.le_trans g (Nat.le_of_lt c24_E_j.lt)) I25_I2) hZ (ow hw 240 rfl) (ow hw 216 rfl) (by decide) (by decide)) q29a q29b q29c (g := (mkF m 169 #[rv j, rv al, rv hm, iv lv, iv 0, iv p1, iv q1, rv it19, iv ga, .unset, .unset] [.ref it19])) rfl (by rw [hml]; rfl) (Steps.refl _) (argsL := []) (rest := []) (lenOf own_pd4 rfl) rfl (by show 2 * 0 + _ ≤ _; exact Nat.le_of_eq rfl) (hb hby od593) (fun _ _ => ⟨rfl, e28, (by decide : 4 + 0 ≤ _), (by decide : 6 + 0 ≤ _)⟩)
    dsimp only [Pt.U, Pt.locs, Pt.cells, Pt.slots] at X29 l29 y29 z29 st29 hQ29
    subst y29 z29
    obtain ⟨rfl, N29q, hh29⟩ := hQ29
    have N29 := frE l29 N28 N29q
    refine ov T29 174 #[rv j, rv al, rv hm, iv lv, iv 0, iv p1, iv q1, rv it19, iv ga, .unset, .unset] [.int 1] st29 ?_
    refine s_ifN X29 hx (hb hby od594) ((if0 _ _).trans (feq (by decide)).1) ?_
    refine s_aload X29 hx (hb hby od595) rfl rfl  ?_
    obtain ⟨cq30, kq30, q30a, q30b, q30c⟩ := isOf hZ hh29 (I25_E_i)
    obtain ⟨_, _, ⟨T30, L30, k30, n30⟩, -, X30, ⟨Lc30, hQ30, l30, y30, z30⟩, st30⟩ := X29.interfaceBack hx hown (mvT hZ (ow hw 241 rfl)) (mvT hZ (ow hw 242 rfl)) (mvT hZ (ow hw 243 rfl)) (mvT hZ (ow hw 244 rfl)) (mvT hZ (ow hw 245 rfl)) (mvT hZ (ow hw 246 rfl)) (mvT hZ (ow hw 247 rfl)) (mvT hZ (ow hw 239 rfl)) (by decide) (backOf (W := 0) (own_nxt2 l Z a0 hw it19 hm tb k n1 n2 n3 v2 T23.heap n0 (Nat.le_trans g (Nat.le_of_lt c24_E_j.lt)) I25_E_i I25_I0 I25_I1 I25_I2 I25_I3 I25_I4 c24_HB.2.1 c24_HB.2.2.2.1 c24_HB.1 c24_V c24_NB2.1.1 c24_NB2.1.2.2 c24_NB2.1.2.1 gi19) hZ (ow hw 248 rfl) (ow hw 207 rfl) (by decide) (by decide)) q30a q30b q30c (g := (mkF m 179 #[rv j, rv al, rv hm, iv lv, iv 0, iv p1, iv q1, rv it19, iv ga, .unset, .unset] [.ref it19])) rfl (by rw [hml]; rfl) (Steps.refl _) (argsL := []) (rest := []) (lenOf own_pd22 rfl) rfl (by show 2 * 0 + _ ≤ _; exact Nat.le_of_eq rfl) (hb hby od596) (fun _ _ => ⟨rfl, hh29, (by decide : 4 + 0 ≤ _), (by decide : 6 + 0 ≤ _)⟩)
    dsimp only [Pt.U, Pt.locs, Pt.cells, Pt.slots] at X30 l30 y30 z30 st30 hQ30
    subst y30 z30
    obtain ⟨rfl, N30q, Kc30, I30c⟩ := hQ30
    have N30 := frE l30 N29 N30q
    refine ov T30 184 #[rv j, rv al, rv hm, iv lv, iv 0, iv p1, iv q1, rv it19, iv ga, .unset, .unset] [.ref v2] st30 ?_
    have c31_E_j := c24_E_j.keep Kc30
    have c31_Fre := c24_Fre.keep Kc30 (ninS ne_j_it19 nin0)
    have c31_Fjn := c24_Fjn.keep Kc30 (ninS ne_j_it19 nin0)
    have c31_Fpg := c24_Fpg.keep Kc30 (ninS ne_j_it19 nin0)
    have c31_V := c24_V.keep Kc30 (ninS ne_tb_it19 nin0)
    have c31_NB1 := c24_NB1.keep Kc30 (ninS ne_n1_it19 nin0) (ninS ne_v1_it19 nin0)
    have c31_NB2 := c24_NB2.keep Kc30 (ninS ne_n2_it19 nin0) (ninS ne_v2_it19 nin0)
    have c31_NB3 := c24_NB3.keep Kc30 (ninS ne_n3_it19 nin0) (ninS ne_v3_it19 nin0)
    have c31_Flv := c24_Flv.keep Kc30 (ninS ne_j_it19 nin0)
    have c31_HB := c24_HB.keep Kc30 (ninS ne_hm_it19 nin0)
    have c31_E_x := c24_E_x.keep Kc30
    have c31_F1 := c24_F1.keep Kc30 (ninS ne_x17_it19 nin0)
    obtain ⟨I32_E_i, I32_I0, I32_I1, I32_I2, I32_I3, I32_I4⟩ := I30c
    obtain ⟨T33, X33, e33, st33⟩ := castY X30 hx hZ hown (ow hw 257 rfl) rfl (Ins.self c31_NB2.2.1) (g := (mkF m 184 #[rv j, rv al, rv hm, iv lv, iv 0, iv p1, iv q1, rv it19, iv ga, .unset, .unset] [.ref v2])) rfl rfl (hb hby od597)
    refine og T33 187 #[rv j, rv al, rv hm, iv lv, iv 0, iv p1, iv q1, rv it19, iv ga, .unset, .unset] [.ref v2] st33 ?_
    obtain ⟨cq34, kq34, q34a, q34b, q34c⟩ := isOf hZ e33 (c31_NB2.2.1)
    obtain ⟨_, _, ⟨T34, L34, k34, n34⟩, -, X34, ⟨Lc34, hQ34, l34, y34, z34⟩, st34⟩ := X33.virtualBack hx hown (mvT hZ (ow hw 259 rfl)) (mvT hZ (ow hw 260 rfl)) (notFace_of_selects (args := #[]) (mvT hZ (ow hw 262 rfl))) (mvT hZ (ow hw 262 rfl)) (mvT hZ (ow hw 261 rfl)) (by decide) (backOf (W := 0) (own_ivl l Z a0 hw v2 gb T30.heap n0 (Nat.le_trans g (Nat.le_of_lt c31_E_j.lt)) c31_NB2.2.2) hZ (ow hw 263 rfl) (ow hw 68 rfl) (by decide) (by decide)) q34a q34c (g := (mkF m 187 #[rv j, rv al, rv hm, iv lv, iv 0, iv p1, iv q1, rv it19, iv ga, .unset, .unset] [.ref v2])) rfl (by rw [hml]; rfl) (Steps.refl _) (argsL := []) (rest := []) (lenOf own_pd6 rfl) rfl (by show 2 * 0 + _ ≤ _; exact Nat.le_of_eq rfl) (hb hby od598) (fun _ _ => ⟨rfl, e33, (by decide : 4 + 0 ≤ _), (by decide : 6 + 0 ≤ _)⟩)
    dsimp only [Pt.U, Pt.locs, Pt.cells, Pt.slots] at X34 l34 y34 z34 st34 hQ34
    subst y34 z34
    obtain ⟨rfl, N34q, hh34⟩ := hQ34
    have N34 := frE l34 N30 N34q
    refine ov T34 190 #[rv j, rv al, rv hm, iv lv, iv 0, iv p1, iv q1, rv it19, iv ga, .unset, .unset] [.int gb] st34 ?_
    refine og T34 192 #[rv j, rv al, rv hm, iv lv, iv 0, iv p1, iv q1, rv it19, iv gb, .unset, .unset] [] (fun _ k => XS.istore X34.here hx rfl (hb hby od599) rfl (l' := #[rv j, rv al, rv hm, iv lv, iv 0, iv p1, iv q1, rv it19, iv gb, .unset, .unset]) rfl k) ?_
    refine s_aloadN X34 hx (hb hby od600) rfl rfl  ?_
    refine s_iload X34 hx (hb hby od601) rfl  ?_
    have JL2 : ∀ (T35 : State) (ls35 : List Loc) (p2 : Int32) (q2 : Int32), Stand p l e ({ frames := 4, cells := 7, slots := 17, locals := 79 } : Room) s m #[.ref j, .ref al, .ref hm, .int lv] below meth c T35 ls35 4 6 → T35.heap = T30.heap → Fr n0 ls35 →  own_E p e below s (own_Qjr Z j ga gb gc h0 n0) (({ frames := 4, cells := 7, slots := 17, locals := 79 } : Room)).cells (({ frames := 4, cells := 7, slots := 17, locals := 79 } : Room)).slots (T35.setTop (mkF m 219 #[rv j, rv al, rv hm, iv lv, iv 0, iv p2, iv q2, rv it19, iv gb, .unset, .unset] [])) := by as_aux_lemma =>
      intro T35 ls35 p2 q2 X35 e35 N35 
      refine s_goto 167 X35 hx (hb hby od603) (by decide) (by decide) ?_
      refine s_aload X35 hx (hb hby od592) rfl rfl  ?_
      obtain ⟨cq36, kq36, q36a, q36b, q36c⟩ := isOf hZ e35 (I32_E_i)
      obtain ⟨_, _, ⟨T36, L36, k36, n36⟩, -, X36, ⟨Lc36, hQ36, l36, y36, z36⟩, st36⟩ := X35.interfaceBack hx hown (mvT hZ (ow hw 232 rfl)) (mvT hZ (ow hw 233 rfl)) (mvT hZ (ow hw 234 rfl)) (mvT hZ (ow hw 235 rfl)) (mvT hZ (ow hw 236 rfl)) (mvT hZ (ow hw 237 rfl)) (mvT hZ (ow hw 238 rfl)) (mvT hZ (ow hw 239 rfl)) (by decide) (backOf (W := 0) (own_hn1 l Z a0 hw it19 n3 T30.heap n0 (Nat.le_trans g (Nat.le_of_lt c31_E_j.lt)) I32_I2) hZ (ow hw 240 rfl) (ow hw 216 rfl) (by decide) (by decide)) q36a q36b q36c (g := (mkF m 169 #[rv j, rv al, rv hm, iv lv, iv 0, iv p2, iv q2, rv it19, iv gb, .unset, .unset] [.ref it19])) rfl (by rw [hml]; rfl) (Steps.refl _) (argsL := []) (rest := []) (lenOf own_pd4 rfl) rfl (by show 2 * 0 + _ ≤ _; exact Nat.le_of_eq rfl) (hb hby od593) (fun _ _ => ⟨rfl, e35, (by decide : 4 + 0 ≤ _), (by decide : 6 + 0 ≤ _)⟩)
      dsimp only [Pt.U, Pt.locs, Pt.cells, Pt.slots] at X36 l36 y36 z36 st36 hQ36
      subst y36 z36
      obtain ⟨rfl, N36q, hh36⟩ := hQ36
      have N36 := frE l36 N35 N36q
      refine ov T36 174 #[rv j, rv al, rv hm, iv lv, iv 0, iv p2, iv q2, rv it19, iv gb, .unset, .unset] [.int 1] st36 ?_
      refine s_ifN X36 hx (hb hby od594) ((if0 _ _).trans (feq (by decide)).1) ?_
      refine s_aload X36 hx (hb hby od595) rfl rfl  ?_
      obtain ⟨cq37, kq37, q37a, q37b, q37c⟩ := isOf hZ hh36 (I32_E_i)
      obtain ⟨_, _, ⟨T37, L37, k37, n37⟩, -, X37, ⟨Lc37, hQ37, l37, y37, z37⟩, st37⟩ := X36.interfaceBack hx hown (mvT hZ (ow hw 241 rfl)) (mvT hZ (ow hw 242 rfl)) (mvT hZ (ow hw 243 rfl)) (mvT hZ (ow hw 244 rfl)) (mvT hZ (ow hw 245 rfl)) (mvT hZ (ow hw 246 rfl)) (mvT hZ (ow hw 247 rfl)) (mvT hZ (ow hw 239 rfl)) (by decide) (backOf (W := 0) (own_nxt3 l Z a0 hw it19 hm tb k n1 n2 n3 v3 T30.heap n0 (Nat.le_trans g (Nat.le_of_lt c31_E_j.lt)) I32_E_i I32_I0 I32_I1 I32_I2 I32_I3 I32_I4 c31_HB.2.1 c31_HB.2.2.2.1 c31_HB.1 c31_V c31_NB3.1.1 c31_NB3.1.2.2 c31_NB3.1.2.1 gi19) hZ (ow hw 248 rfl) (ow hw 207 rfl) (by decide) (by decide)) q37a q37b q37c (g := (mkF m 179 #[rv j, rv al, rv hm, iv lv, iv 0, iv p2, iv q2, rv it19, iv gb, .unset, .unset] [.ref it19])) rfl (by rw [hml]; rfl) (Steps.refl _) (argsL := []) (rest := []) (lenOf own_pd22 rfl) rfl (by show 2 * 0 + _ ≤ _; exact Nat.le_of_eq rfl) (hb hby od596) (fun _ _ => ⟨rfl, hh36, (by decide : 4 + 0 ≤ _), (by decide : 6 + 0 ≤ _)⟩)
      dsimp only [Pt.U, Pt.locs, Pt.cells, Pt.slots] at X37 l37 y37 z37 st37 hQ37
      subst y37 z37
      obtain ⟨rfl, N37q, Kc37, I37c⟩ := hQ37
      have N37 := frE l37 N36 N37q
      refine ov T37 184 #[rv j, rv al, rv hm, iv lv, iv 0, iv p2, iv q2, rv it19, iv gb, .unset, .unset] [.ref v3] st37 ?_
      have c38_E_j := c31_E_j.keep Kc37
      have c38_Fre := c31_Fre.keep Kc37 (ninS ne_j_it19 nin0)
      have c38_Fjn := c31_Fjn.keep Kc37 (ninS ne_j_it19 nin0)
      have c38_Fpg := c31_Fpg.keep Kc37 (ninS ne_j_it19 nin0)
      have c38_V := c31_V.keep Kc37 (ninS ne_tb_it19 nin0)
      have c38_NB1 := c31_NB1.keep Kc37 (ninS ne_n1_it19 nin0) (ninS ne_v1_it19 nin0)
      have c38_NB2 := c31_NB2.keep Kc37 (ninS ne_n2_it19 nin0) (ninS ne_v2_it19 nin0)
      have c38_NB3 := c31_NB3.keep Kc37 (ninS ne_n3_it19 nin0) (ninS ne_v3_it19 nin0)
      have c38_Flv := c31_Flv.keep Kc37 (ninS ne_j_it19 nin0)
      have c38_HB := c31_HB.keep Kc37 (ninS ne_hm_it19 nin0)
      have c38_E_x := c31_E_x.keep Kc37
      have c38_F1 := c31_F1.keep Kc37 (ninS ne_x17_it19 nin0)
      obtain ⟨I39_E_i, I39_I0, I39_I1, I39_I2, I39_I3, I39_I4⟩ := I37c
      obtain ⟨T40, X40, e40, st40⟩ := castY X37 hx hZ hown (ow hw 257 rfl) rfl (Ins.self c38_NB3.2.1) (g := (mkF m 184 #[rv j, rv al, rv hm, iv lv, iv 0, iv p2, iv q2, rv it19, iv gb, .unset, .unset] [.ref v3])) rfl rfl (hb hby od597)
      refine og T40 187 #[rv j, rv al, rv hm, iv lv, iv 0, iv p2, iv q2, rv it19, iv gb, .unset, .unset] [.ref v3] st40 ?_
      obtain ⟨cq41, kq41, q41a, q41b, q41c⟩ := isOf hZ e40 (c38_NB3.2.1)
      obtain ⟨_, _, ⟨T41, L41, k41, n41⟩, -, X41, ⟨Lc41, hQ41, l41, y41, z41⟩, st41⟩ := X40.virtualBack hx hown (mvT hZ (ow hw 259 rfl)) (mvT hZ (ow hw 260 rfl)) (notFace_of_selects (args := #[]) (mvT hZ (ow hw 262 rfl))) (mvT hZ (ow hw 262 rfl)) (mvT hZ (ow hw 261 rfl)) (by decide) (backOf (W := 0) (own_ivl l Z a0 hw v3 gc T37.heap n0 (Nat.le_trans g (Nat.le_of_lt c38_E_j.lt)) c38_NB3.2.2) hZ (ow hw 263 rfl) (ow hw 68 rfl) (by decide) (by decide)) q41a q41c (g := (mkF m 187 #[rv j, rv al, rv hm, iv lv, iv 0, iv p2, iv q2, rv it19, iv gb, .unset, .unset] [.ref v3])) rfl (by rw [hml]; rfl) (Steps.refl _) (argsL := []) (rest := []) (lenOf own_pd6 rfl) rfl (by show 2 * 0 + _ ≤ _; exact Nat.le_of_eq rfl) (hb hby od598) (fun _ _ => ⟨rfl, e40, (by decide : 4 + 0 ≤ _), (by decide : 6 + 0 ≤ _)⟩)
      dsimp only [Pt.U, Pt.locs, Pt.cells, Pt.slots] at X41 l41 y41 z41 st41 hQ41
      subst y41 z41
      obtain ⟨rfl, N41q, hh41⟩ := hQ41
      have N41 := frE l41 N37 N41q
      refine ov T41 190 #[rv j, rv al, rv hm, iv lv, iv 0, iv p2, iv q2, rv it19, iv gb, .unset, .unset] [.int gc] st41 ?_
      refine og T41 192 #[rv j, rv al, rv hm, iv lv, iv 0, iv p2, iv q2, rv it19, iv gc, .unset, .unset] [] (fun _ k => XS.istore X41.here hx rfl (hb hby od599) rfl (l' := #[rv j, rv al, rv hm, iv lv, iv 0, iv p2, iv q2, rv it19, iv gc, .unset, .unset]) rfl k) ?_
      refine s_aloadN X41 hx (hb hby od600) rfl rfl  ?_
      refine s_iload X41 hx (hb hby od601) rfl  ?_
      have JL3 : ∀ (T42 : State) (ls42 : List Loc) (p3 : Int32) (q3 : Int32), Stand p l e ({ frames := 4, cells := 7, slots := 17, locals := 79 } : Room) s m #[.ref j, .ref al, .ref hm, .int lv] below meth c T42 ls42 4 6 → T42.heap = T37.heap → Fr n0 ls42 →  own_E p e below s (own_Qjr Z j ga gb gc h0 n0) (({ frames := 4, cells := 7, slots := 17, locals := 79 } : Room)).cells (({ frames := 4, cells := 7, slots := 17, locals := 79 } : Room)).slots (T42.setTop (mkF m 219 #[rv j, rv al, rv hm, iv lv, iv 0, iv p3, iv q3, rv it19, iv gc, .unset, .unset] [])) := by as_aux_lemma =>
        intro T42 ls42 p3 q3 X42 e42 N42 
        refine s_goto 167 X42 hx (hb hby od603) (by decide) (by decide) ?_
        refine s_aload X42 hx (hb hby od592) rfl rfl  ?_
        obtain ⟨cq43, kq43, q43a, q43b, q43c⟩ := isOf hZ e42 (I39_E_i)
        obtain ⟨_, _, ⟨T43, L43, k43, n43⟩, -, X43, ⟨Lc43, hQ43, l43, y43, z43⟩, st43⟩ := X42.interfaceBack hx hown (mvT hZ (ow hw 232 rfl)) (mvT hZ (ow hw 233 rfl)) (mvT hZ (ow hw 234 rfl)) (mvT hZ (ow hw 235 rfl)) (mvT hZ (ow hw 236 rfl)) (mvT hZ (ow hw 237 rfl)) (mvT hZ (ow hw 238 rfl)) (mvT hZ (ow hw 239 rfl)) (by decide) (backOf (W := 0) (own_hn0 l Z a0 hw it19 T37.heap n0 (Nat.le_trans g (Nat.le_of_lt c38_E_j.lt)) I39_I2) hZ (ow hw 240 rfl) (ow hw 216 rfl) (by decide) (by decide)) q43a q43b q43c (g := (mkF m 169 #[rv j, rv al, rv hm, iv lv, iv 0, iv p3, iv q3, rv it19, iv gc, .unset, .unset] [.ref it19])) rfl (by rw [hml]; rfl) (Steps.refl _) (argsL := []) (rest := []) (lenOf own_pd4 rfl) rfl (by show 2 * 0 + _ ≤ _; exact Nat.le_of_eq rfl) (hb hby od593) (fun _ _ => ⟨rfl, e42, (by decide : 4 + 0 ≤ _), (by decide : 6 + 0 ≤ _)⟩)
        dsimp only [Pt.U, Pt.locs, Pt.cells, Pt.slots] at X43 l43 y43 z43 st43 hQ43
        subst y43 z43
        obtain ⟨rfl, N43q, hh43⟩ := hQ43
        have N43 := frE l43 N42 N43q
        refine ov T43 174 #[rv j, rv al, rv hm, iv lv, iv 0, iv p3, iv q3, rv it19, iv gc, .unset, .unset] [.int 0] st43 ?_
        refine s_ifY 222 X43 hx (hb hby od594) ((if0 _ _).trans (teq rfl).1) (by decide) (by decide) ?_
        refine s_aloadN X43 hx (hb hby od604) rfl rfl  ?_
        refine s_iload X43 hx (hb hby od605) rfl  ?_
        obtain ⟨T44, h44, X44, e44, W44, st44⟩ := putF X43 hx hZ hown (host := "") (Or.inl (ow hw 274 rfl)) Via.refl hh43 c38_Fre c38_E_j (Or.inr ⟨(ow hw 275 rfl), rfl, hnm⟩) (ow hw 149 rfl) (ty := .int) (by decide) rfl rfl (g := (mkF m 225 #[rv j, rv al, rv hm, iv lv, iv 0, iv p3, iv q3, rv it19, iv gc, .unset, .unset] [.int p3, .ref j])) rfl rfl (hb hby od606)
        have N44 := Fr.snoc X44 N43 g
        refine og T44 228 #[rv j, rv al, rv hm, iv lv, iv 0, iv p3, iv q3, rv it19, iv gc, .unset, .unset] [] st44 ?_
        have n44_Fre := c38_Fre.same W44
        have c45_E_j := c38_E_j.wr W44
        have c45_Fjn := c38_Fjn.other W44 (Or.inr (os76 hw))
        have c45_Fpg := c38_Fpg.other W44 (Or.inr (os77 hw))
        have c45_V := c38_V.other W44 (Ne.symm (own_nea c38_E_j c38_V (ow hw 149 rfl)))
        have c45_NB1 := c38_NB1.other W44 (ne_exa c38_NB1.1.1 c38_E_j (by decide)) (ne_exa c38_NB1.2.1 c38_E_j (by decide))
        have c45_NB2 := c38_NB2.other W44 (ne_exa c38_NB2.1.1 c38_E_j (by decide)) (ne_exa c38_NB2.2.1 c38_E_j (by decide))
        have c45_NB3 := c38_NB3.other W44 (ne_exa c38_NB3.1.1 c38_E_j (by decide)) (ne_exa c38_NB3.2.1 c38_E_j (by decide))
        have c45_HB := c38_HB.other W44 (ne_exa c38_HB.1 c38_E_j (by decide))
        have c45_E_x := c38_E_x.wr W44
        have c45_F1 := c38_F1.other W44 (Or.inl (Ne.symm ne_j_x17))
        refine s_aloadN X44 hx (hb hby od607) rfl rfl  ?_
        refine s_iload X44 hx (hb hby od608) rfl  ?_
        obtain ⟨T46, h46, X46, e46, W46, st46⟩ := putF X44 hx hZ hown (host := "") (Or.inl (ow hw 276 rfl)) Via.refl e44 c45_Fjn c45_E_j (Or.inr ⟨(ow hw 277 rfl), rfl, hnm⟩) (ow hw 149 rfl) (ty := .int) (by decide) rfl rfl (g := (mkF m 231 #[rv j, rv al, rv hm, iv lv, iv 0, iv p3, iv q3, rv it19, iv gc, .unset, .unset] [.int q3, .ref j])) rfl rfl (hb hby od609)
        have N46 := Fr.snoc X46 N44 g
        refine og T46 234 #[rv j, rv al, rv hm, iv lv, iv 0, iv p3, iv q3, rv it19, iv gc, .unset, .unset] [] st46 ?_
        have n46_Fjn := c45_Fjn.same W46
        have c47_E_j := c45_E_j.wr W46
        have c47_Fpg := c45_Fpg.other W46 (Or.inr (os78 hw))
        have c47_V := c45_V.other W46 (Ne.symm (own_nea c45_E_j c45_V (ow hw 149 rfl)))
        have c47_NB1 := c45_NB1.other W46 (ne_exa c45_NB1.1.1 c45_E_j (by decide)) (ne_exa c45_NB1.2.1 c45_E_j (by decide))
        have c47_NB2 := c45_NB2.other W46 (ne_exa c45_NB2.1.1 c45_E_j (by decide)) (ne_exa c45_NB2.2.1 c45_E_j (by decide))
        have c47_NB3 := c45_NB3.other W46 (ne_exa c45_NB3.1.1 c45_E_j (by decide)) (ne_exa c45_NB3.2.1 c45_E_j (by decide))
        have c47_HB := c45_HB.other W46 (ne_exa c45_HB.1 c45_E_j (by decide))
        have c47_E_x := c45_E_x.wr W46
        have c47_F1 := c45_F1.other W46 (Or.inl (Ne.symm ne_j_x17))
        refine s_aloadN X46 hx (hb hby od610) rfl rfl  ?_
        obtain ⟨cq48, kq48, q48a, q48b, q48c⟩ := isOf hZ e46 (c47_HB.1)
        obtain ⟨_, _, ⟨T48, L48, k48, n48⟩, -, X48, ⟨Lc48, hQ48, l48, y48, z48⟩, st48⟩ := X46.interfaceBack hx hown (mvT hZ (ow hw 278 rfl)) (mvT hZ (ow hw 279 rfl)) (mvT hZ (ow hw 280 rfl)) (mvT hZ (ow hw 281 rfl)) (mvT hZ (ow hw 282 rfl)) (mvT hZ (ow hw 283 rfl)) (mvT hZ (ow hw 284 rfl)) (mvT hZ (ow hw 80 rfl)) (by decide) (backOf (W := 0) (own_hsz l Z a0 hw hm h46 n0 (Nat.le_trans g (Nat.le_of_lt c47_E_j.lt)) c47_HB.2.2.1) hZ (ow hw 285 rfl) (ow hw 28 rfl) (by decide) (by decide)) q48a q48b q48c (g := (mkF m 235 #[rv j, rv al, rv hm, iv lv, iv 0, iv p3, iv q3, rv it19, iv gc, .unset, .unset] [.ref hm])) rfl (by rw [hml]; rfl) (Steps.refl _) (argsL := []) (rest := []) (lenOf own_pd6 rfl) rfl (by show 2 * 0 + _ ≤ _; exact Nat.le_of_eq rfl) (hb hby od611) (fun _ _ => ⟨rfl, e46, (by decide : 4 + 0 ≤ _), (by decide : 6 + 0 ≤ _)⟩)
        dsimp only [Pt.U, Pt.locs, Pt.cells, Pt.slots] at X48 l48 y48 z48 st48 hQ48
        subst y48 z48
        obtain ⟨rfl, N48q, hh48⟩ := hQ48
        have N48 := frE l48 N46 N48q
        refine ov T48 240 #[rv j, rv al, rv hm, iv lv, iv 0, iv p3, iv q3, rv it19, iv gc, .unset, .unset] [.int 3] st48 ?_
        obtain ⟨T49, h49, k49, X49, e49, E49, A49, Ex49, st49⟩ := newPE X48 hx hZ (ow hw 169 rfl) hh48 (g := (mkF m 240 #[rv j, rv al, rv hm, iv lv, iv 0, iv p3, iv q3, rv it19, iv gc, .unset, .unset] [.int 3])) rfl (hb hby od612) rfl (by decide) (cap := 3) (by decide) (by decide) (by decide) (by decide) (ad := "[I") (by decide +kernel)
        obtain ⟨t, g49⟩ : ∃ z, z = h46.size := ⟨_, rfl⟩
        rw [← g49] at A49 Ex49 st49
        have V49 : Arv Z h49 t k49 .int (3 : Int32) [.int 0, .int 0, .int 0] (.int 0) := (Arv.new A49 (by decide)).pad (pad_rep [] (.int 0) 3)
        refine og T49 242 #[rv j, rv al, rv hm, iv lv, iv 0, iv p3, iv q3, rv it19, iv gc, .unset, .unset] [.ref t] st49 ?_
        have ne_j_t : j ≠ t := Nat.ne_of_lt (Nat.lt_of_lt_of_le c47_E_j.lt (Nat.le_of_eq g49.symm))
        have ne_tb_t : tb ≠ t := Nat.ne_of_lt (Nat.lt_of_lt_of_le c47_V.lt (Nat.le_of_eq g49.symm))
        have ne_n1_t : n1 ≠ t := Nat.ne_of_lt (Nat.lt_of_lt_of_le c47_NB1.1.1.lt (Nat.le_of_eq g49.symm))
        have ne_v1_t : v1 ≠ t := Nat.ne_of_lt (Nat.lt_of_lt_of_le c47_NB1.2.1.lt (Nat.le_of_eq g49.symm))
        have ne_n2_t : n2 ≠ t := Nat.ne_of_lt (Nat.lt_of_lt_of_le c47_NB2.1.1.lt (Nat.le_of_eq g49.symm))
        have ne_v2_t : v2 ≠ t := Nat.ne_of_lt (Nat.lt_of_lt_of_le c47_NB2.2.1.lt (Nat.le_of_eq g49.symm))
        have ne_n3_t : n3 ≠ t := Nat.ne_of_lt (Nat.lt_of_lt_of_le c47_NB3.1.1.lt (Nat.le_of_eq g49.symm))
        have ne_v3_t : v3 ≠ t := Nat.ne_of_lt (Nat.lt_of_lt_of_le c47_NB3.2.1.lt (Nat.le_of_eq g49.symm))
        have ne_hm_t : hm ≠ t := Nat.ne_of_lt (Nat.lt_of_lt_of_le c47_HB.1.lt (Nat.le_of_eq g49.symm))
        have ne_x17_t : x17 ≠ t := Nat.ne_of_lt (Nat.lt_of_lt_of_le c47_E_x.lt (Nat.le_of_eq g49.symm))
        have gn_t : n0 ≤ t := Nat.le_trans (Nat.le_trans g (Nat.le_of_lt c47_E_j.lt)) (Nat.le_of_eq g49.symm)
        have c50_E_j := c47_E_j.ext E49
        have c50_Fpg := c47_Fpg.ext E49
        have c50_V := c47_V.ext E49
        have c50_NB1 := c47_NB1.ext E49
        have c50_NB2 := c47_NB2.ext E49
        have c50_NB3 := c47_NB3.ext E49
        have c50_HB := c47_HB.ext E49
        have c50_E_x := c47_E_x.ext E49
        have c50_F1 := c47_F1.ext E49
        refine og T49 244 #[rv j, rv al, rv hm, iv lv, iv 0, iv p3, iv q3, rv t, iv gc, .unset, .unset] [] (fun _ k => XS.astore X49.here hx rfl (hb hby od613) rfl rfl (l' := #[rv j, rv al, rv hm, iv lv, iv 0, iv p3, iv q3, rv t, iv gc, .unset, .unset]) rfl k) ?_
        refine s_iconst 0 X49 hx (hb hby od614) rfl ?_
        refine og T49 247 #[rv j, rv al, rv hm, iv lv, iv 0, iv p3, iv q3, rv t, iv 0, .unset, .unset] [] (fun _ k => XS.istore X49.here hx rfl (hb hby od615) rfl (l' := #[rv j, rv al, rv hm, iv lv, iv 0, iv p3, iv q3, rv t, iv 0, .unset, .unset]) rfl k) ?_
        refine s_aloadN X49 hx (hb hby od616) rfl rfl  ?_
        obtain ⟨cq51, kq51, q51a, q51b, q51c⟩ := isOf hZ e49 (c50_HB.1)
        obtain ⟨_, _, ⟨T51, L51, k51, n51⟩, -, X51, ⟨Lc51, hQ51, l51, y51, z51⟩, st51⟩ := X49.interfaceBack hx hown (mvT hZ (ow hw 174 rfl)) (mvT hZ (ow hw 175 rfl)) (mvT hZ (ow hw 176 rfl)) (mvT hZ (ow hw 177 rfl)) (mvT hZ (ow hw 178 rfl)) (mvT hZ (ow hw 179 rfl)) (mvT hZ (ow hw 180 rfl)) (mvT hZ (ow hw 80 rfl)) (by decide) (backOf (W := 0) (own_val2 l Z a0 hw hm x17 h49 n0 (Nat.le_trans g (Nat.le_of_lt c50_E_j.lt)) c50_HB.2.2.2.2.2) hZ (ow hw 181 rfl) (ow hw 28 rfl) (by decide) (by decide)) q51a q51b q51c (g := (mkF m 248 #[rv j, rv al, rv hm, iv lv, iv 0, iv p3, iv q3, rv t, iv 0, .unset, .unset] [.ref hm])) rfl (by rw [hml]; rfl) (Steps.refl _) (argsL := []) (rest := []) (lenOf own_pd20 rfl) rfl (by show 2 * 0 + _ ≤ _; exact Nat.le_of_eq rfl) (hb hby od617) (fun _ _ => ⟨rfl, e49, (by decide : 5 + 0 ≤ _), (by decide : 9 + 0 ≤ _)⟩)
        dsimp only [Pt.U, Pt.locs, Pt.cells, Pt.slots] at X51 l51 y51 z51 st51 hQ51
        subst y51 z51
        obtain ⟨rfl, N51q, hh51⟩ := hQ51
        have N51 := frE l51 N48 N51q
        refine ov T51 253 #[rv j, rv al, rv hm, iv lv, iv 0, iv p3, iv q3, rv t, iv 0, .unset, .unset] [.ref x17] st51 ?_
        obtain ⟨cq52, kq52, q52a, q52b, q52c⟩ := isOf hZ hh51 (c50_E_x)
        obtain ⟨_, _, ⟨T52, L52, k52, n52⟩, -, X52, ⟨Lc52, hQ52, l52, y52, z52⟩, st52⟩ := X51.interfaceBack hx hown (mvT hZ (ow hw 196 rfl)) (mvT hZ (ow hw 197 rfl)) (mvT hZ (ow hw 198 rfl)) (mvT hZ (ow hw 199 rfl)) (mvT hZ (ow hw 200 rfl)) (mvT hZ (ow hw 201 rfl)) (mvT hZ (ow hw 202 rfl)) (mvT hZ (ow hw 203 rfl)) (by decide) (backOf (W := 0) (own_itr l Z a0 hw x17 hm tb k n1 n2 n3 h49 n0 (Nat.le_trans g (Nat.le_of_lt c50_E_j.lt)) c50_E_x c50_F1 c50_HB.2.1 c50_HB.2.2.1 c50_HB.2.2.2.1 c50_HB.1 c50_V) hZ (ow hw 204 rfl) (ow hw 187 rfl) (by decide) (by decide)) q52a q52b q52c (g := (mkF m 253 #[rv j, rv al, rv hm, iv lv, iv 0, iv p3, iv q3, rv t, iv 0, .unset, .unset] [.ref x17])) rfl (by rw [hml]; rfl) (Steps.refl _) (argsL := []) (rest := []) (lenOf own_pd21 rfl) rfl (by show 2 * 0 + _ ≤ _; exact Nat.le_of_eq rfl) (hb hby od618) (fun _ _ => ⟨rfl, hh51, (by decide : 5 + 1 ≤ _), (by decide : 9 + 5 ≤ _)⟩)
        dsimp only [Pt.U, Pt.locs, Pt.cells, Pt.slots] at X52 l52 y52 z52 st52 hQ52
        subst y52 z52
        obtain ⟨it52, rfl, N52q, Kc52, I52c, s52c⟩ := hQ52
        have N52 := frE l52 N51 N52q
        refine ov T52 258 #[rv j, rv al, rv hm, iv lv, iv 0, iv p3, iv q3, rv t, iv 0, .unset, .unset] [.ref it52] st52 ?_
        have gi52 : n0 ≤ it52 := Nat.le_trans (Nat.le_trans g (Nat.le_of_lt c50_E_j.lt)) s52c
        have ne_j_it52 : j ≠ it52 := Nat.ne_of_lt (Nat.lt_of_lt_of_le c50_E_j.lt s52c)
        have ne_tb_it52 : tb ≠ it52 := Nat.ne_of_lt (Nat.lt_of_lt_of_le c50_V.lt s52c)
        have ne_n1_it52 : n1 ≠ it52 := Nat.ne_of_lt (Nat.lt_of_lt_of_le c50_NB1.1.1.lt s52c)
        have ne_v1_it52 : v1 ≠ it52 := Nat.ne_of_lt (Nat.lt_of_lt_of_le c50_NB1.2.1.lt s52c)
        have ne_n2_it52 : n2 ≠ it52 := Nat.ne_of_lt (Nat.lt_of_lt_of_le c50_NB2.1.1.lt s52c)
        have ne_v2_it52 : v2 ≠ it52 := Nat.ne_of_lt (Nat.lt_of_lt_of_le c50_NB2.2.1.lt s52c)
        have ne_n3_it52 : n3 ≠ it52 := Nat.ne_of_lt (Nat.lt_of_lt_of_le c50_NB3.1.1.lt s52c)
        have ne_v3_it52 : v3 ≠ it52 := Nat.ne_of_lt (Nat.lt_of_lt_of_le c50_NB3.2.1.lt s52c)
        have ne_hm_it52 : hm ≠ it52 := Nat.ne_of_lt (Nat.lt_of_lt_of_le c50_HB.1.lt s52c)
        have ne_x17_it52 : x17 ≠ it52 := Nat.ne_of_lt (Nat.lt_of_lt_of_le c50_E_x.lt s52c)
        have ne_t_it52 : t ≠ it52 := Nat.ne_of_lt (Nat.lt_of_lt_of_le V49.lt s52c)
        have c53_E_j := c50_E_j.keep Kc52
        have c53_Fpg := c50_Fpg.keep Kc52 nin0
        have c53_V := c50_V.keep Kc52 nin0
        have c53_NB1 := c50_NB1.keep Kc52 nin0 nin0
        have c53_NB2 := c50_NB2.keep Kc52 nin0 nin0
        have c53_NB3 := c50_NB3.keep Kc52 nin0 nin0
        have c53_HB := c50_HB.keep Kc52 nin0
        have c53_E_x := c50_E_x.keep Kc52
        have c53_F1 := c50_F1.keep Kc52 nin0
        have c53_Vt := V49.keep Kc52 nin0
        have c53_Vtx := Ex49.keep Kc52
        obtain ⟨I54_E_i, I54_I0, I54_I1, I54_I2, I54_I3, I54_I4⟩ := I52c
        refine og T52 260 #[rv j, rv al, rv hm, iv lv, iv 0, iv p3, iv q3, rv t, iv 0, rv it52, .unset] [] (fun _ k => XS.astore X52.here hx rfl (hb hby od619) rfl rfl (l' := #[rv j, rv al, rv hm, iv lv, iv 0, iv p3, iv q3, rv t, iv 0, rv it52, .unset]) rfl k) ?_
        refine s_aload X52 hx (hb hby od620) rfl rfl  ?_
        obtain ⟨cq55, kq55, q55a, q55b, q55c⟩ := isOf hZ rfl (I54_E_i)
        obtain ⟨_, _, ⟨T55, L55, k55, n55⟩, -, X55, ⟨Lc55, hQ55, l55, y55, z55⟩, st55⟩ := X52.interfaceBack hx hown (mvT hZ (ow hw 232 rfl)) (mvT hZ (ow hw 233 rfl)) (mvT hZ (ow hw 234 rfl)) (mvT hZ (ow hw 235 rfl)) (mvT hZ (ow hw 236 rfl)) (mvT hZ (ow hw 237 rfl)) (mvT hZ (ow hw 238 rfl)) (mvT hZ (ow hw 239 rfl)) (by decide) (backOf (W := 0) (own_hn1 l Z a0 hw it52 n1 T52.heap n0 (Nat.le_trans g (Nat.le_of_lt c53_E_j.lt)) I54_I2) hZ (ow hw 240 rfl) (ow hw 216 rfl) (by decide) (by decide)) q55a q55b q55c (g := (mkF m 262 #[rv j, rv al, rv hm, iv lv, iv 0, iv p3, iv q3, rv t, iv 0, rv it52, .unset] [.ref it52])) rfl (by rw [hml]; rfl) (Steps.refl _) (argsL := []) (rest := []) (lenOf own_pd4 rfl) rfl (by show 2 * 0 + _ ≤ _; exact Nat.le_of_eq rfl) (hb hby od621) (fun _ _ => ⟨rfl, rfl, (by decide : 6 + 0 ≤ _), (by decide : 14 + 0 ≤ _)⟩)
        dsimp only [Pt.U, Pt.locs, Pt.cells, Pt.slots] at X55 l55 y55 z55 st55 hQ55
        subst y55 z55
        obtain ⟨rfl, N55q, hh55⟩ := hQ55
        have N55 := frE l55 N52 N55q
        refine ov T55 267 #[rv j, rv al, rv hm, iv lv, iv 0, iv p3, iv q3, rv t, iv 0, rv it52, .unset] [.int 1] st55 ?_
        refine s_ifN X55 hx (hb hby od622) ((if0 _ _).trans (feq (by decide)).1) ?_
        refine s_aload X55 hx (hb hby od623) rfl rfl  ?_
        obtain ⟨cq56, kq56, q56a, q56b, q56c⟩ := isOf hZ hh55 (I54_E_i)
        obtain ⟨_, _, ⟨T56, L56, k56, n56⟩, -, X56, ⟨Lc56, hQ56, l56, y56, z56⟩, st56⟩ := X55.interfaceBack hx hown (mvT hZ (ow hw 241 rfl)) (mvT hZ (ow hw 242 rfl)) (mvT hZ (ow hw 243 rfl)) (mvT hZ (ow hw 244 rfl)) (mvT hZ (ow hw 245 rfl)) (mvT hZ (ow hw 246 rfl)) (mvT hZ (ow hw 247 rfl)) (mvT hZ (ow hw 239 rfl)) (by decide) (backOf (W := 0) (own_nxt1 l Z a0 hw it52 hm tb k n1 n2 n3 v1 T52.heap n0 (Nat.le_trans g (Nat.le_of_lt c53_E_j.lt)) I54_E_i I54_I0 I54_I1 I54_I2 I54_I3 I54_I4 c53_HB.2.1 c53_HB.2.2.2.1 c53_HB.1 c53_V c53_NB1.1.1 c53_NB1.1.2.2 c53_NB1.1.2.1 gi52) hZ (ow hw 248 rfl) (ow hw 207 rfl) (by decide) (by decide)) q56a q56b q56c (g := (mkF m 272 #[rv j, rv al, rv hm, iv lv, iv 0, iv p3, iv q3, rv t, iv 0, rv it52, .unset] [.ref it52])) rfl (by rw [hml]; rfl) (Steps.refl _) (argsL := []) (rest := []) (lenOf own_pd22 rfl) rfl (by show 2 * 0 + _ ≤ _; exact Nat.le_of_eq rfl) (hb hby od624) (fun _ _ => ⟨rfl, hh55, (by decide : 6 + 0 ≤ _), (by decide : 14 + 0 ≤ _)⟩)
        dsimp only [Pt.U, Pt.locs, Pt.cells, Pt.slots] at X56 l56 y56 z56 st56 hQ56
        subst y56 z56
        obtain ⟨rfl, N56q, Kc56, I56c⟩ := hQ56
        have N56 := frE l56 N55 N56q
        refine ov T56 277 #[rv j, rv al, rv hm, iv lv, iv 0, iv p3, iv q3, rv t, iv 0, rv it52, .unset] [.ref v1] st56 ?_
        have c57_E_j := c53_E_j.keep Kc56
        have c57_Fpg := c53_Fpg.keep Kc56 (ninS ne_j_it52 nin0)
        have c57_V := c53_V.keep Kc56 (ninS ne_tb_it52 nin0)
        have c57_NB1 := c53_NB1.keep Kc56 (ninS ne_n1_it52 nin0) (ninS ne_v1_it52 nin0)
        have c57_NB2 := c53_NB2.keep Kc56 (ninS ne_n2_it52 nin0) (ninS ne_v2_it52 nin0)
        have c57_NB3 := c53_NB3.keep Kc56 (ninS ne_n3_it52 nin0) (ninS ne_v3_it52 nin0)
        have c57_HB := c53_HB.keep Kc56 (ninS ne_hm_it52 nin0)
        have c57_Vt := c53_Vt.keep Kc56 (ninS ne_t_it52 nin0)
        have c57_Vtx := c53_Vtx.keep Kc56
        obtain ⟨I58_E_i, I58_I0, I58_I1, I58_I2, I58_I3, I58_I4⟩ := I56c
        obtain ⟨T59, X59, e59, st59⟩ := castY X56 hx hZ hown (ow hw 257 rfl) rfl (Ins.self c57_NB1.2.1) (g := (mkF m 277 #[rv j, rv al, rv hm, iv lv, iv 0, iv p3, iv q3, rv t, iv 0, rv it52, .unset] [.ref v1])) rfl rfl (hb hby od625)
        refine og T59 280 #[rv j, rv al, rv hm, iv lv, iv 0, iv p3, iv q3, rv t, iv 0, rv it52, .unset] [.ref v1] st59 ?_
        obtain ⟨cq60, kq60, q60a, q60b, q60c⟩ := isOf hZ e59 (c57_NB1.2.1)
        obtain ⟨_, _, ⟨T60, L60, k60, n60⟩, -, X60, ⟨Lc60, hQ60, l60, y60, z60⟩, st60⟩ := X59.virtualBack hx hown (mvT hZ (ow hw 259 rfl)) (mvT hZ (ow hw 260 rfl)) (notFace_of_selects (args := #[]) (mvT hZ (ow hw 262 rfl))) (mvT hZ (ow hw 262 rfl)) (mvT hZ (ow hw 261 rfl)) (by decide) (backOf (W := 0) (own_ivl l Z a0 hw v1 ga T56.heap n0 (Nat.le_trans g (Nat.le_of_lt c57_E_j.lt)) c57_NB1.2.2) hZ (ow hw 263 rfl) (ow hw 68 rfl) (by decide) (by decide)) q60a q60c (g := (mkF m 280 #[rv j, rv al, rv hm, iv lv, iv 0, iv p3, iv q3, rv t, iv 0, rv it52, .unset] [.ref v1])) rfl (by rw [hml]; rfl) (Steps.refl _) (argsL := []) (rest := []) (lenOf own_pd6 rfl) rfl (by show 2 * 0 + _ ≤ _; exact Nat.le_of_eq rfl) (hb hby od626) (fun _ _ => ⟨rfl, e59, (by decide : 6 + 0 ≤ _), (by decide : 14 + 0 ≤ _)⟩)
        dsimp only [Pt.U, Pt.locs, Pt.cells, Pt.slots] at X60 l60 y60 z60 st60 hQ60
        subst y60 z60
        obtain ⟨rfl, N60q, hh60⟩ := hQ60
        have N60 := frE l60 N56 N60q
        refine ov T60 283 #[rv j, rv al, rv hm, iv lv, iv 0, iv p3, iv q3, rv t, iv 0, rv it52, .unset] [.int ga] st60 ?_
        refine og T60 285 #[rv j, rv al, rv hm, iv lv, iv 0, iv p3, iv q3, rv t, iv 0, rv it52, iv ga] [] (fun _ k => XS.istore X60.here hx rfl (hb hby od627) rfl (l' := #[rv j, rv al, rv hm, iv lv, iv 0, iv p3, iv q3, rv t, iv 0, rv it52, iv ga]) rfl k) ?_
        refine s_iload X60 hx (hb hby od628) rfl  ?_
        by_cases hs1 : (0 : Int32) < ga
        · as_aux_lemma =>
          refine s_ifN X60 hx (hb hby od629) ((if0 _ _).trans (tlt hs1).2.2.2) ?_
          refine s_aload X60 hx (hb hby od630) rfl rfl  ?_
          refine s_iload X60 hx (hb hby od631) rfl  ?_
          refine s_iload X60 hx (hb hby od632) rfl  ?_
          have vv61 := c57_Vt
          obtain ⟨cl61, Ar61, qa61, Sz61, Ng61, Ha61, Ga61⟩ := vv61
          have hin61 : ¬ ((0 : Int32) < 0 ∨ cl61.slots.size ≤ ((0 : Int32)).toNatClampNeg) := inb_of Sz61 ⟨by decide, by decide⟩
          obtain ⟨T62, h62, X62, e62, W62, st62⟩ := stI X60 hx hZ hh60 Ar61 (j := (0 : Int32)) hin61 (g := (mkF m 296 #[rv j, rv al, rv hm, iv lv, iv 0, iv p3, iv q3, rv t, iv 0, rv it52, iv ga] [.int ga, .int 0, .ref t])) rfl rfl (hb hby od633)
          have V62 := Arv.set Ar61 qa61 Sz61 Ng61 Ha61 Ga61 rfl W62 0 rfl (Nat.le_of_ble_eq_true rfl)
          have N62 := Fr.snoc X62 N60 gn_t
          refine og T62 297 #[rv j, rv al, rv hm, iv lv, iv 0, iv p3, iv q3, rv t, iv 0, rv it52, iv ga] [] st62 ?_
          have c63_E_j := c57_E_j.wr W62
          have c63_Fpg := c57_Fpg.other W62 (Or.inl ne_j_t)
          have c63_V := c57_V.other W62 ne_tb_t
          have c63_NB2 := c57_NB2.other W62 ne_n2_t ne_v2_t
          have c63_NB3 := c57_NB3.other W62 ne_n3_t ne_v3_t
          have c63_HB := c57_HB.other W62 ne_hm_t
          have c63_Vtx := c57_Vtx.wr W62
          have c63_E_i := I58_E_i.wr W62
          have c63_I0 := I58_I0.other W62 (Or.inl (Ne.symm ne_t_it52))
          have c63_I1 := I58_I1.other W62 (Or.inl (Ne.symm ne_t_it52))
          have c63_I2 := I58_I2.other W62 (Or.inl (Ne.symm ne_t_it52))
          have c63_I3 := I58_I3.other W62 (Or.inl (Ne.symm ne_t_it52))
          have c63_I4 := I58_I4.other W62 (Or.inl (Ne.symm ne_t_it52))
          have V62' : Arv Z h62 t k49 .int 3 [.int ga, .int 0, .int 0] (.int 0) := V62
          refine og T62 300 #[rv j, rv al, rv hm, iv lv, iv 0, iv p3, iv q3, rv t, iv 1, rv it52, iv ga] [] (fun _ k => XS.iinc X62.here hx rfl (hb hby od634) rfl (l' := #[rv j, rv al, rv hm, iv lv, iv 0, iv p3, iv q3, rv t, iv 1, rv it52, iv ga]) rfl k) ?_
          refine s_goto 260 X62 hx (hb hby od635) (by decide) (by decide) ?_
          refine s_aload X62 hx (hb hby od620) rfl rfl  ?_
          obtain ⟨cq64, kq64, q64a, q64b, q64c⟩ := isOf hZ e62 (c63_E_i)
          obtain ⟨_, _, ⟨T64, L64, k64, n64⟩, -, X64, ⟨Lc64, hQ64, l64, y64, z64⟩, st64⟩ := X62.interfaceBack hx hown (mvT hZ (ow hw 232 rfl)) (mvT hZ (ow hw 233 rfl)) (mvT hZ (ow hw 234 rfl)) (mvT hZ (ow hw 235 rfl)) (mvT hZ (ow hw 236 rfl)) (mvT hZ (ow hw 237 rfl)) (mvT hZ (ow hw 238 rfl)) (mvT hZ (ow hw 239 rfl)) (by decide) (backOf (W := 0) (own_hn1 l Z a0 hw it52 n2 h62 n0 (Nat.le_trans g (Nat.le_of_lt c63_E_j.lt)) c63_I2) hZ (ow hw 240 rfl) (ow hw 216 rfl) (by decide) (by decide)) q64a q64b q64c (g := (mkF m 262 #[rv j, rv al, rv hm, iv lv, iv 0, iv p3, iv q3, rv t, iv 1, rv it52, iv ga] [.ref it52])) rfl (by rw [hml]; rfl) (Steps.refl _) (argsL := []) (rest := []) (lenOf own_pd4 rfl) rfl (by show 2 * 0 + _ ≤ _; exact Nat.le_of_eq rfl) (hb hby od621) (fun _ _ => ⟨rfl, e62, (by decide : 6 + 0 ≤ _), (by decide : 14 + 0 ≤ _)⟩)
          dsimp only [Pt.U, Pt.locs, Pt.cells, Pt.slots] at X64 l64 y64 z64 st64 hQ64
          subst y64 z64
          obtain ⟨rfl, N64q, hh64⟩ := hQ64
          have N64 := frE l64 N62 N64q
          refine ov T64 267 #[rv j, rv al, rv hm, iv lv, iv 0, iv p3, iv q3, rv t, iv 1, rv it52, iv ga] [.int 1] st64 ?_
          refine s_ifN X64 hx (hb hby od622) ((if0 _ _).trans (feq (by decide)).1) ?_
          refine s_aload X64 hx (hb hby od623) rfl rfl  ?_
          obtain ⟨cq65, kq65, q65a, q65b, q65c⟩ := isOf hZ hh64 (c63_E_i)
          obtain ⟨_, _, ⟨T65, L65, k65, n65⟩, -, X65, ⟨Lc65, hQ65, l65, y65, z65⟩, st65⟩ := X64.interfaceBack hx hown (mvT hZ (ow hw 241 rfl)) (mvT hZ (ow hw 242 rfl)) (mvT hZ (ow hw 243 rfl)) (mvT hZ (ow hw 244 rfl)) (mvT hZ (ow hw 245 rfl)) (mvT hZ (ow hw 246 rfl)) (mvT hZ (ow hw 247 rfl)) (mvT hZ (ow hw 239 rfl)) (by decide) (backOf (W := 0) (own_nxt2 l Z a0 hw it52 hm tb k n1 n2 n3 v2 h62 n0 (Nat.le_trans g (Nat.le_of_lt c63_E_j.lt)) c63_E_i c63_I0 c63_I1 c63_I2 c63_I3 c63_I4 c63_HB.2.1 c63_HB.2.2.2.1 c63_HB.1 c63_V c63_NB2.1.1 c63_NB2.1.2.2 c63_NB2.1.2.1 gi52) hZ (ow hw 248 rfl) (ow hw 207 rfl) (by decide) (by decide)) q65a q65b q65c (g := (mkF m 272 #[rv j, rv al, rv hm, iv lv, iv 0, iv p3, iv q3, rv t, iv 1, rv it52, iv ga] [.ref it52])) rfl (by rw [hml]; rfl) (Steps.refl _) (argsL := []) (rest := []) (lenOf own_pd22 rfl) rfl (by show 2 * 0 + _ ≤ _; exact Nat.le_of_eq rfl) (hb hby od624) (fun _ _ => ⟨rfl, hh64, (by decide : 6 + 0 ≤ _), (by decide : 14 + 0 ≤ _)⟩)
          dsimp only [Pt.U, Pt.locs, Pt.cells, Pt.slots] at X65 l65 y65 z65 st65 hQ65
          subst y65 z65
          obtain ⟨rfl, N65q, Kc65, I65c⟩ := hQ65
          have N65 := frE l65 N64 N65q
          refine ov T65 277 #[rv j, rv al, rv hm, iv lv, iv 0, iv p3, iv q3, rv t, iv 1, rv it52, iv ga] [.ref v2] st65 ?_
          have c66_E_j := c63_E_j.keep Kc65
          have c66_Fpg := c63_Fpg.keep Kc65 (ninS ne_j_it52 nin0)
          have c66_V := c63_V.keep Kc65 (ninS ne_tb_it52 nin0)
          have c66_NB2 := c63_NB2.keep Kc65 (ninS ne_n2_it52 nin0) (ninS ne_v2_it52 nin0)
          have c66_NB3 := c63_NB3.keep Kc65 (ninS ne_n3_it52 nin0) (ninS ne_v3_it52 nin0)
          have c66_HB := c63_HB.keep Kc65 (ninS ne_hm_it52 nin0)
          have c66_Vtx := c63_Vtx.keep Kc65
          have c66_Vt := V62'.keep Kc65 (ninS ne_t_it52 nin0)
          obtain ⟨I67_E_i, I67_I0, I67_I1, I67_I2, I67_I3, I67_I4⟩ := I65c
          obtain ⟨T68, X68, e68, st68⟩ := castY X65 hx hZ hown (ow hw 257 rfl) rfl (Ins.self c66_NB2.2.1) (g := (mkF m 277 #[rv j, rv al, rv hm, iv lv, iv 0, iv p3, iv q3, rv t, iv 1, rv it52, iv ga] [.ref v2])) rfl rfl (hb hby od625)
          refine og T68 280 #[rv j, rv al, rv hm, iv lv, iv 0, iv p3, iv q3, rv t, iv 1, rv it52, iv ga] [.ref v2] st68 ?_
          obtain ⟨cq69, kq69, q69a, q69b, q69c⟩ := isOf hZ e68 (c66_NB2.2.1)
          obtain ⟨_, _, ⟨T69, L69, k69, n69⟩, -, X69, ⟨Lc69, hQ69, l69, y69, z69⟩, st69⟩ := X68.virtualBack hx hown (mvT hZ (ow hw 259 rfl)) (mvT hZ (ow hw 260 rfl)) (notFace_of_selects (args := #[]) (mvT hZ (ow hw 262 rfl))) (mvT hZ (ow hw 262 rfl)) (mvT hZ (ow hw 261 rfl)) (by decide) (backOf (W := 0) (own_ivl l Z a0 hw v2 gb T65.heap n0 (Nat.le_trans g (Nat.le_of_lt c66_E_j.lt)) c66_NB2.2.2) hZ (ow hw 263 rfl) (ow hw 68 rfl) (by decide) (by decide)) q69a q69c (g := (mkF m 280 #[rv j, rv al, rv hm, iv lv, iv 0, iv p3, iv q3, rv t, iv 1, rv it52, iv ga] [.ref v2])) rfl (by rw [hml]; rfl) (Steps.refl _) (argsL := []) (rest := []) (lenOf own_pd6 rfl) rfl (by show 2 * 0 + _ ≤ _; exact Nat.le_of_eq rfl) (hb hby od626) (fun _ _ => ⟨rfl, e68, (by decide : 6 + 0 ≤ _), (by decide : 14 + 0 ≤ _)⟩)
          dsimp only [Pt.U, Pt.locs, Pt.cells, Pt.slots] at X69 l69 y69 z69 st69 hQ69
          subst y69 z69
          obtain ⟨rfl, N69q, hh69⟩ := hQ69
          have N69 := frE l69 N65 N69q
          refine ov T69 283 #[rv j, rv al, rv hm, iv lv, iv 0, iv p3, iv q3, rv t, iv 1, rv it52, iv ga] [.int gb] st69 ?_
          refine og T69 285 #[rv j, rv al, rv hm, iv lv, iv 0, iv p3, iv q3, rv t, iv 1, rv it52, iv gb] [] (fun _ k => XS.istore X69.here hx rfl (hb hby od627) rfl (l' := #[rv j, rv al, rv hm, iv lv, iv 0, iv p3, iv q3, rv t, iv 1, rv it52, iv gb]) rfl k) ?_
          refine s_iload X69 hx (hb hby od628) rfl  ?_
          by_cases hs2 : (0 : Int32) < gb
          · as_aux_lemma =>
            refine s_ifN X69 hx (hb hby od629) ((if0 _ _).trans (tlt hs2).2.2.2) ?_
            refine s_aload X69 hx (hb hby od630) rfl rfl  ?_
            refine s_iload X69 hx (hb hby od631) rfl  ?_
            refine s_iload X69 hx (hb hby od632) rfl  ?_
            have vv70 := c66_Vt
            obtain ⟨cl70, Ar70, qa70, Sz70, Ng70, Ha70, Ga70⟩ := vv70
            have hin70 : ¬ ((1 : Int32) < 0 ∨ cl70.slots.size ≤ ((1 : Int32)).toNatClampNeg) := inb_of Sz70 ⟨by decide, by decide⟩
            obtain ⟨T71, h71, X71, e71, W71, st71⟩ := stI X69 hx hZ hh69 Ar70 (j := (1 : Int32)) hin70 (g := (mkF m 296 #[rv j, rv al, rv hm, iv lv, iv 0, iv p3, iv q3, rv t, iv 1, rv it52, iv gb] [.int gb, .int 1, .ref t])) rfl rfl (hb hby od633)
            have V71 := Arv.set Ar70 qa70 Sz70 Ng70 Ha70 Ga70 rfl W71 1 rfl (Nat.le_of_ble_eq_true rfl)
            have N71 := Fr.snoc X71 N69 gn_t
            refine og T71 297 #[rv j, rv al, rv hm, iv lv, iv 0, iv p3, iv q3, rv t, iv 1, rv it52, iv gb] [] st71 ?_
            have c72_E_j := c66_E_j.wr W71
            have c72_Fpg := c66_Fpg.other W71 (Or.inl ne_j_t)
            have c72_V := c66_V.other W71 ne_tb_t
            have c72_NB3 := c66_NB3.other W71 ne_n3_t ne_v3_t
            have c72_HB := c66_HB.other W71 ne_hm_t
            have c72_Vtx := c66_Vtx.wr W71
            have c72_E_i := I67_E_i.wr W71
            have c72_I0 := I67_I0.other W71 (Or.inl (Ne.symm ne_t_it52))
            have c72_I1 := I67_I1.other W71 (Or.inl (Ne.symm ne_t_it52))
            have c72_I2 := I67_I2.other W71 (Or.inl (Ne.symm ne_t_it52))
            have c72_I3 := I67_I3.other W71 (Or.inl (Ne.symm ne_t_it52))
            have c72_I4 := I67_I4.other W71 (Or.inl (Ne.symm ne_t_it52))
            have V71' : Arv Z h71 t k49 .int 3 [.int ga, .int gb, .int 0] (.int 0) := V71
            refine og T71 300 #[rv j, rv al, rv hm, iv lv, iv 0, iv p3, iv q3, rv t, iv 2, rv it52, iv gb] [] (fun _ k => XS.iinc X71.here hx rfl (hb hby od634) rfl (l' := #[rv j, rv al, rv hm, iv lv, iv 0, iv p3, iv q3, rv t, iv 2, rv it52, iv gb]) rfl k) ?_
            refine s_goto 260 X71 hx (hb hby od635) (by decide) (by decide) ?_
            refine s_aload X71 hx (hb hby od620) rfl rfl  ?_
            obtain ⟨cq73, kq73, q73a, q73b, q73c⟩ := isOf hZ e71 (c72_E_i)
            obtain ⟨_, _, ⟨T73, L73, k73, n73⟩, -, X73, ⟨Lc73, hQ73, l73, y73, z73⟩, st73⟩ := X71.interfaceBack hx hown (mvT hZ (ow hw 232 rfl)) (mvT hZ (ow hw 233 rfl)) (mvT hZ (ow hw 234 rfl)) (mvT hZ (ow hw 235 rfl)) (mvT hZ (ow hw 236 rfl)) (mvT hZ (ow hw 237 rfl)) (mvT hZ (ow hw 238 rfl)) (mvT hZ (ow hw 239 rfl)) (by decide) (backOf (W := 0) (own_hn1 l Z a0 hw it52 n3 h71 n0 (Nat.le_trans g (Nat.le_of_lt c72_E_j.lt)) c72_I2) hZ (ow hw 240 rfl) (ow hw 216 rfl) (by decide) (by decide)) q73a q73b q73c (g := (mkF m 262 #[rv j, rv al, rv hm, iv lv, iv 0, iv p3, iv q3, rv t, iv 2, rv it52, iv gb] [.ref it52])) rfl (by rw [hml]; rfl) (Steps.refl _) (argsL := []) (rest := []) (lenOf own_pd4 rfl) rfl (by show 2 * 0 + _ ≤ _; exact Nat.le_of_eq rfl) (hb hby od621) (fun _ _ => ⟨rfl, e71, (by decide : 6 + 0 ≤ _), (by decide : 14 + 0 ≤ _)⟩)
            dsimp only [Pt.U, Pt.locs, Pt.cells, Pt.slots] at X73 l73 y73 z73 st73 hQ73
            subst y73 z73
            obtain ⟨rfl, N73q, hh73⟩ := hQ73
            have N73 := frE l73 N71 N73q
            refine ov T73 267 #[rv j, rv al, rv hm, iv lv, iv 0, iv p3, iv q3, rv t, iv 2, rv it52, iv gb] [.int 1] st73 ?_
            refine s_ifN X73 hx (hb hby od622) ((if0 _ _).trans (feq (by decide)).1) ?_
            refine s_aload X73 hx (hb hby od623) rfl rfl  ?_
            obtain ⟨cq74, kq74, q74a, q74b, q74c⟩ := isOf hZ hh73 (c72_E_i)
            obtain ⟨_, _, ⟨T74, L74, k74, n74⟩, -, X74, ⟨Lc74, hQ74, l74, y74, z74⟩, st74⟩ := X73.interfaceBack hx hown (mvT hZ (ow hw 241 rfl)) (mvT hZ (ow hw 242 rfl)) (mvT hZ (ow hw 243 rfl)) (mvT hZ (ow hw 244 rfl)) (mvT hZ (ow hw 245 rfl)) (mvT hZ (ow hw 246 rfl)) (mvT hZ (ow hw 247 rfl)) (mvT hZ (ow hw 239 rfl)) (by decide) (backOf (W := 0) (own_nxt3 l Z a0 hw it52 hm tb k n1 n2 n3 v3 h71 n0 (Nat.le_trans g (Nat.le_of_lt c72_E_j.lt)) c72_E_i c72_I0 c72_I1 c72_I2 c72_I3 c72_I4 c72_HB.2.1 c72_HB.2.2.2.1 c72_HB.1 c72_V c72_NB3.1.1 c72_NB3.1.2.2 c72_NB3.1.2.1 gi52) hZ (ow hw 248 rfl) (ow hw 207 rfl) (by decide) (by decide)) q74a q74b q74c (g := (mkF m 272 #[rv j, rv al, rv hm, iv lv, iv 0, iv p3, iv q3, rv t, iv 2, rv it52, iv gb] [.ref it52])) rfl (by rw [hml]; rfl) (Steps.refl _) (argsL := []) (rest := []) (lenOf own_pd22 rfl) rfl (by show 2 * 0 + _ ≤ _; exact Nat.le_of_eq rfl) (hb hby od624) (fun _ _ => ⟨rfl, hh73, (by decide : 6 + 0 ≤ _), (by decide : 14 + 0 ≤ _)⟩)
            dsimp only [Pt.U, Pt.locs, Pt.cells, Pt.slots] at X74 l74 y74 z74 st74 hQ74
            subst y74 z74
            obtain ⟨rfl, N74q, Kc74, I74c⟩ := hQ74
            have N74 := frE l74 N73 N74q
            refine ov T74 277 #[rv j, rv al, rv hm, iv lv, iv 0, iv p3, iv q3, rv t, iv 2, rv it52, iv gb] [.ref v3] st74 ?_
            have c75_E_j := c72_E_j.keep Kc74
            have c75_Fpg := c72_Fpg.keep Kc74 (ninS ne_j_it52 nin0)
            have c75_V := c72_V.keep Kc74 (ninS ne_tb_it52 nin0)
            have c75_NB3 := c72_NB3.keep Kc74 (ninS ne_n3_it52 nin0) (ninS ne_v3_it52 nin0)
            have c75_HB := c72_HB.keep Kc74 (ninS ne_hm_it52 nin0)
            have c75_Vtx := c72_Vtx.keep Kc74
            have c75_Vt := V71'.keep Kc74 (ninS ne_t_it52 nin0)
            obtain ⟨I76_E_i, I76_I0, I76_I1, I76_I2, I76_I3, I76_I4⟩ := I74c
            obtain ⟨T77, X77, e77, st77⟩ := castY X74 hx hZ hown (ow hw 257 rfl) rfl (Ins.self c75_NB3.2.1) (g := (mkF m 277 #[rv j, rv al, rv hm, iv lv, iv 0, iv p3, iv q3, rv t, iv 2, rv it52, iv gb] [.ref v3])) rfl rfl (hb hby od625)
            refine og T77 280 #[rv j, rv al, rv hm, iv lv, iv 0, iv p3, iv q3, rv t, iv 2, rv it52, iv gb] [.ref v3] st77 ?_
            obtain ⟨cq78, kq78, q78a, q78b, q78c⟩ := isOf hZ e77 (c75_NB3.2.1)
            obtain ⟨_, _, ⟨T78, L78, k78, n78⟩, -, X78, ⟨Lc78, hQ78, l78, y78, z78⟩, st78⟩ := X77.virtualBack hx hown (mvT hZ (ow hw 259 rfl)) (mvT hZ (ow hw 260 rfl)) (notFace_of_selects (args := #[]) (mvT hZ (ow hw 262 rfl))) (mvT hZ (ow hw 262 rfl)) (mvT hZ (ow hw 261 rfl)) (by decide) (backOf (W := 0) (own_ivl l Z a0 hw v3 gc T74.heap n0 (Nat.le_trans g (Nat.le_of_lt c75_E_j.lt)) c75_NB3.2.2) hZ (ow hw 263 rfl) (ow hw 68 rfl) (by decide) (by decide)) q78a q78c (g := (mkF m 280 #[rv j, rv al, rv hm, iv lv, iv 0, iv p3, iv q3, rv t, iv 2, rv it52, iv gb] [.ref v3])) rfl (by rw [hml]; rfl) (Steps.refl _) (argsL := []) (rest := []) (lenOf own_pd6 rfl) rfl (by show 2 * 0 + _ ≤ _; exact Nat.le_of_eq rfl) (hb hby od626) (fun _ _ => ⟨rfl, e77, (by decide : 6 + 0 ≤ _), (by decide : 14 + 0 ≤ _)⟩)
            dsimp only [Pt.U, Pt.locs, Pt.cells, Pt.slots] at X78 l78 y78 z78 st78 hQ78
            subst y78 z78
            obtain ⟨rfl, N78q, hh78⟩ := hQ78
            have N78 := frE l78 N74 N78q
            refine ov T78 283 #[rv j, rv al, rv hm, iv lv, iv 0, iv p3, iv q3, rv t, iv 2, rv it52, iv gb] [.int gc] st78 ?_
            refine og T78 285 #[rv j, rv al, rv hm, iv lv, iv 0, iv p3, iv q3, rv t, iv 2, rv it52, iv gc] [] (fun _ k => XS.istore X78.here hx rfl (hb hby od627) rfl (l' := #[rv j, rv al, rv hm, iv lv, iv 0, iv p3, iv q3, rv t, iv 2, rv it52, iv gc]) rfl k) ?_
            refine s_iload X78 hx (hb hby od628) rfl  ?_
            by_cases hs3 : (0 : Int32) < gc
            · as_aux_lemma =>
              refine s_ifN X78 hx (hb hby od629) ((if0 _ _).trans (tlt hs3).2.2.2) ?_
              refine s_aload X78 hx (hb hby od630) rfl rfl  ?_
              refine s_iload X78 hx (hb hby od631) rfl  ?_
              refine s_iload X78 hx (hb hby od632) rfl  ?_
              have vv79 := c75_Vt
              obtain ⟨cl79, Ar79, qa79, Sz79, Ng79, Ha79, Ga79⟩ := vv79
              have hin79 : ¬ ((2 : Int32) < 0 ∨ cl79.slots.size ≤ ((2 : Int32)).toNatClampNeg) := inb_of Sz79 ⟨by decide, by decide⟩
              obtain ⟨T80, h80, X80, e80, W80, st80⟩ := stI X78 hx hZ hh78 Ar79 (j := (2 : Int32)) hin79 (g := (mkF m 296 #[rv j, rv al, rv hm, iv lv, iv 0, iv p3, iv q3, rv t, iv 2, rv it52, iv gc] [.int gc, .int 2, .ref t])) rfl rfl (hb hby od633)
              have V80 := Arv.set Ar79 qa79 Sz79 Ng79 Ha79 Ga79 rfl W80 2 rfl (Nat.le_of_ble_eq_true rfl)
              have N80 := Fr.snoc X80 N78 gn_t
              refine og T80 297 #[rv j, rv al, rv hm, iv lv, iv 0, iv p3, iv q3, rv t, iv 2, rv it52, iv gc] [] st80 ?_
              have c81_E_j := c75_E_j.wr W80
              have c81_Fpg := c75_Fpg.other W80 (Or.inl ne_j_t)
              have c81_V := c75_V.other W80 ne_tb_t
              have c81_HB := c75_HB.other W80 ne_hm_t
              have c81_Vtx := c75_Vtx.wr W80
              have c81_E_i := I76_E_i.wr W80
              have c81_I0 := I76_I0.other W80 (Or.inl (Ne.symm ne_t_it52))
              have c81_I1 := I76_I1.other W80 (Or.inl (Ne.symm ne_t_it52))
              have c81_I2 := I76_I2.other W80 (Or.inl (Ne.symm ne_t_it52))
              have c81_I3 := I76_I3.other W80 (Or.inl (Ne.symm ne_t_it52))
              have c81_I4 := I76_I4.other W80 (Or.inl (Ne.symm ne_t_it52))
              have V80' : Arv Z h80 t k49 .int 3 [.int ga, .int gb, .int gc] (.int 0) := V80
              refine og T80 300 #[rv j, rv al, rv hm, iv lv, iv 0, iv p3, iv q3, rv t, iv 3, rv it52, iv gc] [] (fun _ k => XS.iinc X80.here hx rfl (hb hby od634) rfl (l' := #[rv j, rv al, rv hm, iv lv, iv 0, iv p3, iv q3, rv t, iv 3, rv it52, iv gc]) rfl k) ?_
              refine s_goto 260 X80 hx (hb hby od635) (by decide) (by decide) ?_
              refine s_aload X80 hx (hb hby od620) rfl rfl  ?_
              obtain ⟨cq82, kq82, q82a, q82b, q82c⟩ := isOf hZ e80 (c81_E_i)
              obtain ⟨_, _, ⟨T82, L82, k82, n82⟩, -, X82, ⟨Lc82, hQ82, l82, y82, z82⟩, st82⟩ := X80.interfaceBack hx hown (mvT hZ (ow hw 232 rfl)) (mvT hZ (ow hw 233 rfl)) (mvT hZ (ow hw 234 rfl)) (mvT hZ (ow hw 235 rfl)) (mvT hZ (ow hw 236 rfl)) (mvT hZ (ow hw 237 rfl)) (mvT hZ (ow hw 238 rfl)) (mvT hZ (ow hw 239 rfl)) (by decide) (backOf (W := 0) (own_hn0 l Z a0 hw it52 h80 n0 (Nat.le_trans g (Nat.le_of_lt c81_E_j.lt)) c81_I2) hZ (ow hw 240 rfl) (ow hw 216 rfl) (by decide) (by decide)) q82a q82b q82c (g := (mkF m 262 #[rv j, rv al, rv hm, iv lv, iv 0, iv p3, iv q3, rv t, iv 3, rv it52, iv gc] [.ref it52])) rfl (by rw [hml]; rfl) (Steps.refl _) (argsL := []) (rest := []) (lenOf own_pd4 rfl) rfl (by show 2 * 0 + _ ≤ _; exact Nat.le_of_eq rfl) (hb hby od621) (fun _ _ => ⟨rfl, e80, (by decide : 6 + 0 ≤ _), (by decide : 14 + 0 ≤ _)⟩)
              dsimp only [Pt.U, Pt.locs, Pt.cells, Pt.slots] at X82 l82 y82 z82 st82 hQ82
              subst y82 z82
              obtain ⟨rfl, N82q, hh82⟩ := hQ82
              have N82 := frE l82 N80 N82q
              refine ov T82 267 #[rv j, rv al, rv hm, iv lv, iv 0, iv p3, iv q3, rv t, iv 3, rv it52, iv gc] [.int 0] st82 ?_
              refine s_ifY 303 X82 hx (hb hby od622) ((if0 _ _).trans (teq rfl).1) (by decide) (by decide) ?_
              refine s_aloadN X82 hx (hb hby od636) rfl rfl  ?_
              refine s_aload X82 hx (hb hby od637) rfl rfl  ?_
              refine s_iload X82 hx (hb hby od638) rfl  ?_
              obtain ⟨_, _, ⟨T83, L83, k83, n83⟩, -, X83, ⟨Lc83, hQ83, l83, y83, z83⟩, st83⟩ := Jvm.LawKit.callS X82 hx hown (mvT hZ (ow hw 286 rfl)) (mvT hZ (ow hw 287 rfl)) (mvT hZ (ow hw 288 rfl)) (mvT hZ (ow hw 289 rfl)) (by decide) (backOf (W := 1) (own_cpi3 l Z a0 hw t ga gb gc k49 h80 n0 (Nat.le_trans g (Nat.le_of_lt c81_E_j.lt)) V80' c81_Vtx) hZ (ow hw 289 rfl) (ow hw 288 rfl) (by decide) (by decide)) (g := (mkF m 308 #[rv j, rv al, rv hm, iv lv, iv 0, iv p3, iv q3, rv t, iv 3, rv it52, iv gc] [.int 3, .ref t, .ref j])) rfl (by rw [hml]; rfl) (argsL := [.ref t, .int 3]) (rest := [.ref j]) (lenOf own_pd23 rfl) rfl (by show 2 * 0 + _ ≤ _; exact Nat.le_of_eq rfl) (hb hby od639) (fun _ _ => ⟨rfl, hh82, (by decide : 6 + 1 ≤ _), (by decide : 14 + 3 ≤ _)⟩)
              dsimp only [Pt.U, Pt.locs, Pt.cells, Pt.slots] at X83 l83 y83 z83 st83 hQ83
              subst y83 z83
              obtain ⟨r83, k83c, rfl, N83q, Kc83, V83c, s83c⟩ := hQ83
              have N83 := frE l83 N82 N83q
              refine og T83 311 #[rv j, rv al, rv hm, iv lv, iv 0, iv p3, iv q3, rv t, iv 3, rv it52, iv gc] [.ref r83, .ref j] st83 ?_
              have gr : n0 ≤ r83 := Nat.le_trans (Nat.le_trans g (Nat.le_of_lt c81_E_j.lt)) s83c
              have c84_E_j := c81_E_j.keep Kc83
              have c84_Fpg := c81_Fpg.keep Kc83 nin0
              obtain ⟨T85, h85, X85, e85, W85, st85⟩ := putF X83 hx hZ hown (host := "") (Or.inl (ow hw 298 rfl)) Via.refl rfl c84_Fpg c84_E_j (Or.inr ⟨(ow hw 299 rfl), rfl, hnm⟩) (ow hw 149 rfl) (ty := (.array .int)) (by decide) rfl rfl (g := (mkF m 311 #[rv j, rv al, rv hm, iv lv, iv 0, iv p3, iv q3, rv t, iv 3, rv it52, iv gc] [.ref r83, .ref j])) rfl rfl (hb hby od640)
              have N85 := Fr.snoc X85 N83 g
              refine og T85 314 #[rv j, rv al, rv hm, iv lv, iv 0, iv p3, iv q3, rv t, iv 3, rv it52, iv gc] [] st85 ?_
              have n85_Fpg := c84_Fpg.same W85
              have c86_E_j := c84_E_j.wr W85
              have c86_Vr := V83c.other W85 (Ne.symm (Nat.ne_of_lt (Nat.lt_of_lt_of_le c81_E_j.lt s83c)))
              refine s_aloadN X85 hx (hb hby od641) rfl rfl  ?_
              obtain ⟨T87, X87, e87, st87⟩ := getF X85 hx hZ hown (host := "") (Or.inl (ow hw 298 rfl)) Via.refl e85 n85_Fpg (g := (mkF m 315 #[rv j, rv al, rv hm, iv lv, iv 0, iv p3, iv q3, rv t, iv 3, rv it52, iv gc] [.ref j])) rfl rfl (hb hby od642)
              refine og T87 318 #[rv j, rv al, rv hm, iv lv, iv 0, iv p3, iv q3, rv t, iv 3, rv it52, iv gc] [.ref r83] st87 ?_
              obtain ⟨_, _, ⟨T88, L88, k88, n88⟩, -, X88, ⟨Lc88, hQ88, l88, y88, z88⟩, st88⟩ := Jvm.LawKit.callS X87 hx hown (mvT hZ (ow hw 300 rfl)) (mvT hZ (ow hw 301 rfl)) (mvT hZ (ow hw 288 rfl)) (mvT hZ (ow hw 302 rfl)) (by decide) (backOf (W := 0) (own_srt3 l Z a0 hw r83 ga gb gc k83c h85 n0 (Nat.le_trans g (Nat.le_of_lt c86_E_j.lt)) c86_Vr gr) hZ (ow hw 302 rfl) (ow hw 288 rfl) (by decide) (by decide)) (g := (mkF m 318 #[rv j, rv al, rv hm, iv lv, iv 0, iv p3, iv q3, rv t, iv 3, rv it52, iv gc] [.ref r83])) rfl (by rw [hml]; rfl) (argsL := [.ref r83]) (rest := []) (lenOf own_pd24 rfl) rfl (by show 2 * 0 + _ ≤ _; exact Nat.le_of_eq rfl) (hb hby od643) (fun _ _ => ⟨rfl, e87, (by decide : 7 + 0 ≤ _), (by decide : 17 + 0 ≤ _)⟩)
              dsimp only [Pt.U, Pt.locs, Pt.cells, Pt.slots] at X88 l88 y88 z88 st88 hQ88
              subst y88 z88
              obtain ⟨rfl, N88q, Kc88, V88c⟩ := hQ88
              have N88 := frE l88 N85 N88q
              refine og T88 321 #[rv j, rv al, rv hm, iv lv, iv 0, iv p3, iv q3, rv t, iv 3, rv it52, iv gc] [] st88 ?_
              have c89_E_j := c86_E_j.keep Kc88
              have c89_Fpg := n85_Fpg.keep Kc88 (ninS (Nat.ne_of_lt (Nat.lt_of_lt_of_le c81_E_j.lt s83c)) nin0)
              rw [own_s3_eq] at V88c
              refine own_retV X88 hx hlk hret (hb hby od644) ?_ (by decide) (by decide)
              exact ⟨rfl, N88, c89_E_j, _, _, _, _, c89_Fpg, V88c, (Or.inl ⟨hs1, hs2, hs3, rfl, rfl⟩)⟩
            · as_aux_lemma =>
              refine s_ifY 300 X78 hx (hb hby od629) ((if0 _ _).trans (flt hs3).2.2.2) (by decide) (by decide) ?_
              refine s_goto 260 X78 hx (hb hby od635) (by decide) (by decide) ?_
              refine s_aload X78 hx (hb hby od620) rfl rfl  ?_
              obtain ⟨cq90, kq90, q90a, q90b, q90c⟩ := isOf hZ hh78 (I76_E_i)
              obtain ⟨_, _, ⟨T90, L90, k90, n90⟩, -, X90, ⟨Lc90, hQ90, l90, y90, z90⟩, st90⟩ := X78.interfaceBack hx hown (mvT hZ (ow hw 232 rfl)) (mvT hZ (ow hw 233 rfl)) (mvT hZ (ow hw 234 rfl)) (mvT hZ (ow hw 235 rfl)) (mvT hZ (ow hw 236 rfl)) (mvT hZ (ow hw 237 rfl)) (mvT hZ (ow hw 238 rfl)) (mvT hZ (ow hw 239 rfl)) (by decide) (backOf (W := 0) (own_hn0 l Z a0 hw it52 T74.heap n0 (Nat.le_trans g (Nat.le_of_lt c75_E_j.lt)) I76_I2) hZ (ow hw 240 rfl) (ow hw 216 rfl) (by decide) (by decide)) q90a q90b q90c (g := (mkF m 262 #[rv j, rv al, rv hm, iv lv, iv 0, iv p3, iv q3, rv t, iv 2, rv it52, iv gc] [.ref it52])) rfl (by rw [hml]; rfl) (Steps.refl _) (argsL := []) (rest := []) (lenOf own_pd4 rfl) rfl (by show 2 * 0 + _ ≤ _; exact Nat.le_of_eq rfl) (hb hby od621) (fun _ _ => ⟨rfl, hh78, (by decide : 6 + 0 ≤ _), (by decide : 14 + 0 ≤ _)⟩)
              dsimp only [Pt.U, Pt.locs, Pt.cells, Pt.slots] at X90 l90 y90 z90 st90 hQ90
              subst y90 z90
              obtain ⟨rfl, N90q, hh90⟩ := hQ90
              have N90 := frE l90 N78 N90q
              refine ov T90 267 #[rv j, rv al, rv hm, iv lv, iv 0, iv p3, iv q3, rv t, iv 2, rv it52, iv gc] [.int 0] st90 ?_
              refine s_ifY 303 X90 hx (hb hby od622) ((if0 _ _).trans (teq rfl).1) (by decide) (by decide) ?_
              refine s_aloadN X90 hx (hb hby od636) rfl rfl  ?_
              refine s_aload X90 hx (hb hby od637) rfl rfl  ?_
              refine s_iload X90 hx (hb hby od638) rfl  ?_
              obtain ⟨_, _, ⟨T91, L91, k91, n91⟩, -, X91, ⟨Lc91, hQ91, l91, y91, z91⟩, st91⟩ := Jvm.LawKit.callS X90 hx hown (mvT hZ (ow hw 286 rfl)) (mvT hZ (ow hw 287 rfl)) (mvT hZ (ow hw 288 rfl)) (mvT hZ (ow hw 289 rfl)) (by decide) (backOf (W := 1) (own_cpi2 l Z a0 hw t ga gb k49 T74.heap n0 (Nat.le_trans g (Nat.le_of_lt c75_E_j.lt)) c75_Vt c75_Vtx) hZ (ow hw 289 rfl) (ow hw 288 rfl) (by decide) (by decide)) (g := (mkF m 308 #[rv j, rv al, rv hm, iv lv, iv 0, iv p3, iv q3, rv t, iv 2, rv it52, iv gc] [.int 2, .ref t, .ref j])) rfl (by rw [hml]; rfl) (argsL := [.ref t, .int 2]) (rest := [.ref j]) (lenOf own_pd23 rfl) rfl (by show 2 * 0 + _ ≤ _; exact Nat.le_of_eq rfl) (hb hby od639) (fun _ _ => ⟨rfl, hh90, (by decide : 6 + 1 ≤ _), (by decide : 14 + 2 ≤ _)⟩)
              dsimp only [Pt.U, Pt.locs, Pt.cells, Pt.slots] at X91 l91 y91 z91 st91 hQ91
              subst y91 z91
              obtain ⟨r91, k91c, rfl, N91q, Kc91, V91c, s91c⟩ := hQ91
              have N91 := frE l91 N90 N91q
              refine og T91 311 #[rv j, rv al, rv hm, iv lv, iv 0, iv p3, iv q3, rv t, iv 2, rv it52, iv gc] [.ref r91, .ref j] st91 ?_
              have gr : n0 ≤ r91 := Nat.le_trans (Nat.le_trans g (Nat.le_of_lt c75_E_j.lt)) s91c
              have c92_E_j := c75_E_j.keep Kc91
              have c92_Fpg := c75_Fpg.keep Kc91 nin0
              obtain ⟨T93, h93, X93, e93, W93, st93⟩ := putF X91 hx hZ hown (host := "") (Or.inl (ow hw 298 rfl)) Via.refl rfl c92_Fpg c92_E_j (Or.inr ⟨(ow hw 299 rfl), rfl, hnm⟩) (ow hw 149 rfl) (ty := (.array .int)) (by decide) rfl rfl (g := (mkF m 311 #[rv j, rv al, rv hm, iv lv, iv 0, iv p3, iv q3, rv t, iv 2, rv it52, iv gc] [.ref r91, .ref j])) rfl rfl (hb hby od640)
              have N93 := Fr.snoc X93 N91 g
              refine og T93 314 #[rv j, rv al, rv hm, iv lv, iv 0, iv p3, iv q3, rv t, iv 2, rv it52, iv gc] [] st93 ?_
              have n93_Fpg := c92_Fpg.same W93
              have c94_E_j := c92_E_j.wr W93
              have c94_Vr := V91c.other W93 (Ne.symm (Nat.ne_of_lt (Nat.lt_of_lt_of_le c75_E_j.lt s91c)))
              refine s_aloadN X93 hx (hb hby od641) rfl rfl  ?_
              obtain ⟨T95, X95, e95, st95⟩ := getF X93 hx hZ hown (host := "") (Or.inl (ow hw 298 rfl)) Via.refl e93 n93_Fpg (g := (mkF m 315 #[rv j, rv al, rv hm, iv lv, iv 0, iv p3, iv q3, rv t, iv 2, rv it52, iv gc] [.ref j])) rfl rfl (hb hby od642)
              refine og T95 318 #[rv j, rv al, rv hm, iv lv, iv 0, iv p3, iv q3, rv t, iv 2, rv it52, iv gc] [.ref r91] st95 ?_
              obtain ⟨_, _, ⟨T96, L96, k96, n96⟩, -, X96, ⟨Lc96, hQ96, l96, y96, z96⟩, st96⟩ := Jvm.LawKit.callS X95 hx hown (mvT hZ (ow hw 300 rfl)) (mvT hZ (ow hw 301 rfl)) (mvT hZ (ow hw 288 rfl)) (mvT hZ (ow hw 302 rfl)) (by decide) (backOf (W := 0) (own_srt2 l Z a0 hw r91 ga gb k91c h93 n0 (Nat.le_trans g (Nat.le_of_lt c94_E_j.lt)) c94_Vr gr) hZ (ow hw 302 rfl) (ow hw 288 rfl) (by decide) (by decide)) (g := (mkF m 318 #[rv j, rv al, rv hm, iv lv, iv 0, iv p3, iv q3, rv t, iv 2, rv it52, iv gc] [.ref r91])) rfl (by rw [hml]; rfl) (argsL := [.ref r91]) (rest := []) (lenOf own_pd24 rfl) rfl (by show 2 * 0 + _ ≤ _; exact Nat.le_of_eq rfl) (hb hby od643) (fun _ _ => ⟨rfl, e95, (by decide : 7 + 0 ≤ _), (by decide : 16 + 0 ≤ _)⟩)
              dsimp only [Pt.U, Pt.locs, Pt.cells, Pt.slots] at X96 l96 y96 z96 st96 hQ96
              subst y96 z96
              obtain ⟨rfl, N96q, Kc96, V96c⟩ := hQ96
              have N96 := frE l96 N93 N96q
              refine og T96 321 #[rv j, rv al, rv hm, iv lv, iv 0, iv p3, iv q3, rv t, iv 2, rv it52, iv gc] [] st96 ?_
              have c97_E_j := c94_E_j.keep Kc96
              have c97_Fpg := n93_Fpg.keep Kc96 (ninS (Nat.ne_of_lt (Nat.lt_of_lt_of_le c75_E_j.lt s91c)) nin0)
              rw [own_s2_eq] at V96c
              refine own_retV X96 hx hlk hret (hb hby od644) ?_ (by decide) (by decide)
              exact ⟨rfl, N96, c97_E_j, _, _, _, _, c97_Fpg, V96c, (Or.inr (Or.inl ⟨hs1, hs2, hs3, rfl, rfl⟩))⟩
          · as_aux_lemma =>
            refine s_ifY 300 X69 hx (hb hby od629) ((if0 _ _).trans (flt hs2).2.2.2) (by decide) (by decide) ?_
            refine s_goto 260 X69 hx (hb hby od635) (by decide) (by decide) ?_
            refine s_aload X69 hx (hb hby od620) rfl rfl  ?_
            obtain ⟨cq98, kq98, q98a, q98b, q98c⟩ := isOf hZ hh69 (I67_E_i)
            obtain ⟨_, _, ⟨T98, L98, k98, n98⟩, -, X98, ⟨Lc98, hQ98, l98, y98, z98⟩, st98⟩ := X69.interfaceBack hx hown (mvT hZ (ow hw 232 rfl)) (mvT hZ (ow hw 233 rfl)) (mvT hZ (ow hw 234 rfl)) (mvT hZ (ow hw 235 rfl)) (mvT hZ (ow hw 236 rfl)) (mvT hZ (ow hw 237 rfl)) (mvT hZ (ow hw 238 rfl)) (mvT hZ (ow hw 239 rfl)) (by decide) (backOf (W := 0) (own_hn1 l Z a0 hw it52 n3 T65.heap n0 (Nat.le_trans g (Nat.le_of_lt c66_E_j.lt)) I67_I2) hZ (ow hw 240 rfl) (ow hw 216 rfl) (by decide) (by decide)) q98a q98b q98c (g := (mkF m 262 #[rv j, rv al, rv hm, iv lv, iv 0, iv p3, iv q3, rv t, iv 1, rv it52, iv gb] [.ref it52])) rfl (by rw [hml]; rfl) (Steps.refl _) (argsL := []) (rest := []) (lenOf own_pd4 rfl) rfl (by show 2 * 0 + _ ≤ _; exact Nat.le_of_eq rfl) (hb hby od621) (fun _ _ => ⟨rfl, hh69, (by decide : 6 + 0 ≤ _), (by decide : 14 + 0 ≤ _)⟩)
            dsimp only [Pt.U, Pt.locs, Pt.cells, Pt.slots] at X98 l98 y98 z98 st98 hQ98
            subst y98 z98
            obtain ⟨rfl, N98q, hh98⟩ := hQ98
            have N98 := frE l98 N69 N98q
            refine ov T98 267 #[rv j, rv al, rv hm, iv lv, iv 0, iv p3, iv q3, rv t, iv 1, rv it52, iv gb] [.int 1] st98 ?_
            refine s_ifN X98 hx (hb hby od622) ((if0 _ _).trans (feq (by decide)).1) ?_
            refine s_aload X98 hx (hb hby od623) rfl rfl  ?_
            obtain ⟨cq99, kq99, q99a, q99b, q99c⟩ := isOf hZ hh98 (I67_E_i)
            obtain ⟨_, _, ⟨T99, L99, k99, n99⟩, -, X99, ⟨Lc99, hQ99, l99, y99, z99⟩, st99⟩ := X98.interfaceBack hx hown (mvT hZ (ow hw 241 rfl)) (mvT hZ (ow hw 242 rfl)) (mvT hZ (ow hw 243 rfl)) (mvT hZ (ow hw 244 rfl)) (mvT hZ (ow hw 245 rfl)) (mvT hZ (ow hw 246 rfl)) (mvT hZ (ow hw 247 rfl)) (mvT hZ (ow hw 239 rfl)) (by decide) (backOf (W := 0) (own_nxt3 l Z a0 hw it52 hm tb k n1 n2 n3 v3 T65.heap n0 (Nat.le_trans g (Nat.le_of_lt c66_E_j.lt)) I67_E_i I67_I0 I67_I1 I67_I2 I67_I3 I67_I4 c66_HB.2.1 c66_HB.2.2.2.1 c66_HB.1 c66_V c66_NB3.1.1 c66_NB3.1.2.2 c66_NB3.1.2.1 gi52) hZ (ow hw 248 rfl) (ow hw 207 rfl) (by decide) (by decide)) q99a q99b q99c (g := (mkF m 272 #[rv j, rv al, rv hm, iv lv, iv 0, iv p3, iv q3, rv t, iv 1, rv it52, iv gb] [.ref it52])) rfl (by rw [hml]; rfl) (Steps.refl _) (argsL := []) (rest := []) (lenOf own_pd22 rfl) rfl (by show 2 * 0 + _ ≤ _; exact Nat.le_of_eq rfl) (hb hby od624) (fun _ _ => ⟨rfl, hh98, (by decide : 6 + 0 ≤ _), (by decide : 14 + 0 ≤ _)⟩)
            dsimp only [Pt.U, Pt.locs, Pt.cells, Pt.slots] at X99 l99 y99 z99 st99 hQ99
            subst y99 z99
            obtain ⟨rfl, N99q, Kc99, I99c⟩ := hQ99
            have N99 := frE l99 N98 N99q
            refine ov T99 277 #[rv j, rv al, rv hm, iv lv, iv 0, iv p3, iv q3, rv t, iv 1, rv it52, iv gb] [.ref v3] st99 ?_
            have c100_E_j := c66_E_j.keep Kc99
            have c100_Fpg := c66_Fpg.keep Kc99 (ninS ne_j_it52 nin0)
            have c100_V := c66_V.keep Kc99 (ninS ne_tb_it52 nin0)
            have c100_NB3 := c66_NB3.keep Kc99 (ninS ne_n3_it52 nin0) (ninS ne_v3_it52 nin0)
            have c100_HB := c66_HB.keep Kc99 (ninS ne_hm_it52 nin0)
            have c100_Vtx := c66_Vtx.keep Kc99
            have c100_Vt := c66_Vt.keep Kc99 (ninS ne_t_it52 nin0)
            obtain ⟨I101_E_i, I101_I0, I101_I1, I101_I2, I101_I3, I101_I4⟩ := I99c
            obtain ⟨T102, X102, e102, st102⟩ := castY X99 hx hZ hown (ow hw 257 rfl) rfl (Ins.self c100_NB3.2.1) (g := (mkF m 277 #[rv j, rv al, rv hm, iv lv, iv 0, iv p3, iv q3, rv t, iv 1, rv it52, iv gb] [.ref v3])) rfl rfl (hb hby od625)
            refine og T102 280 #[rv j, rv al, rv hm, iv lv, iv 0, iv p3, iv q3, rv t, iv 1, rv it52, iv gb] [.ref v3] st102 ?_
            obtain ⟨cq103, kq103, q103a, q103b, q103c⟩ := isOf hZ e102 (c100_NB3.2.1)
            obtain ⟨_, _, ⟨T103, L103, k103, n103⟩, -, X103, ⟨Lc103, hQ103, l103, y103, z103⟩, st103⟩ := X102.virtualBack hx hown (mvT hZ (ow hw 259 rfl)) (mvT hZ (ow hw 260 rfl)) (notFace_of_selects (args := #[]) (mvT hZ (ow hw 262 rfl))) (mvT hZ (ow hw 262 rfl)) (mvT hZ (ow hw 261 rfl)) (by decide) (backOf (W := 0) (own_ivl l Z a0 hw v3 gc T99.heap n0 (Nat.le_trans g (Nat.le_of_lt c100_E_j.lt)) c100_NB3.2.2) hZ (ow hw 263 rfl) (ow hw 68 rfl) (by decide) (by decide)) q103a q103c (g := (mkF m 280 #[rv j, rv al, rv hm, iv lv, iv 0, iv p3, iv q3, rv t, iv 1, rv it52, iv gb] [.ref v3])) rfl (by rw [hml]; rfl) (Steps.refl _) (argsL := []) (rest := []) (lenOf own_pd6 rfl) rfl (by show 2 * 0 + _ ≤ _; exact Nat.le_of_eq rfl) (hb hby od626) (fun _ _ => ⟨rfl, e102, (by decide : 6 + 0 ≤ _), (by decide : 14 + 0 ≤ _)⟩)
            dsimp only [Pt.U, Pt.locs, Pt.cells, Pt.slots] at X103 l103 y103 z103 st103 hQ103
            subst y103 z103
            obtain ⟨rfl, N103q, hh103⟩ := hQ103
            have N103 := frE l103 N99 N103q
            refine ov T103 283 #[rv j, rv al, rv hm, iv lv, iv 0, iv p3, iv q3, rv t, iv 1, rv it52, iv gb] [.int gc] st103 ?_
            refine og T103 285 #[rv j, rv al, rv hm, iv lv, iv 0, iv p3, iv q3, rv t, iv 1, rv it52, iv gc] [] (fun _ k => XS.istore X103.here hx rfl (hb hby od627) rfl (l' := #[rv j, rv al, rv hm, iv lv, iv 0, iv p3, iv q3, rv t, iv 1, rv it52, iv gc]) rfl k) ?_
            refine s_iload X103 hx (hb hby od628) rfl  ?_
            by_cases hs3 : (0 : Int32) < gc
            · as_aux_lemma =>
              refine s_ifN X103 hx (hb hby od629) ((if0 _ _).trans (tlt hs3).2.2.2) ?_
              refine s_aload X103 hx (hb hby od630) rfl rfl  ?_
              refine s_iload X103 hx (hb hby od631) rfl  ?_
              refine s_iload X103 hx (hb hby od632) rfl  ?_
              have vv104 := c100_Vt
              obtain ⟨cl104, Ar104, qa104, Sz104, Ng104, Ha104, Ga104⟩ := vv104
              have hin104 : ¬ ((1 : Int32) < 0 ∨ cl104.slots.size ≤ ((1 : Int32)).toNatClampNeg) := inb_of Sz104 ⟨by decide, by decide⟩
              obtain ⟨T105, h105, X105, e105, W105, st105⟩ := stI X103 hx hZ hh103 Ar104 (j := (1 : Int32)) hin104 (g := (mkF m 296 #[rv j, rv al, rv hm, iv lv, iv 0, iv p3, iv q3, rv t, iv 1, rv it52, iv gc] [.int gc, .int 1, .ref t])) rfl rfl (hb hby od633)
              have V105 := Arv.set Ar104 qa104 Sz104 Ng104 Ha104 Ga104 rfl W105 1 rfl (Nat.le_of_ble_eq_true rfl)
              have N105 := Fr.snoc X105 N103 gn_t
              refine og T105 297 #[rv j, rv al, rv hm, iv lv, iv 0, iv p3, iv q3, rv t, iv 1, rv it52, iv gc] [] st105 ?_
              have c106_E_j := c100_E_j.wr W105
              have c106_Fpg := c100_Fpg.other W105 (Or.inl ne_j_t)
              have c106_V := c100_V.other W105 ne_tb_t
              have c106_HB := c100_HB.other W105 ne_hm_t
              have c106_Vtx := c100_Vtx.wr W105
              have c106_E_i := I101_E_i.wr W105
              have c106_I0 := I101_I0.other W105 (Or.inl (Ne.symm ne_t_it52))
              have c106_I1 := I101_I1.other W105 (Or.inl (Ne.symm ne_t_it52))
              have c106_I2 := I101_I2.other W105 (Or.inl (Ne.symm ne_t_it52))
              have c106_I3 := I101_I3.other W105 (Or.inl (Ne.symm ne_t_it52))
              have c106_I4 := I101_I4.other W105 (Or.inl (Ne.symm ne_t_it52))
              have V105' : Arv Z h105 t k49 .int 3 [.int ga, .int gc, .int 0] (.int 0) := V105
              refine og T105 300 #[rv j, rv al, rv hm, iv lv, iv 0, iv p3, iv q3, rv t, iv 2, rv it52, iv gc] [] (fun _ k => XS.iinc X105.here hx rfl (hb hby od634) rfl (l' := #[rv j, rv al, rv hm, iv lv, iv 0, iv p3, iv q3, rv t, iv 2, rv it52, iv gc]) rfl k) ?_
              refine s_goto 260 X105 hx (hb hby od635) (by decide) (by decide) ?_
              refine s_aload X105 hx (hb hby od620) rfl rfl  ?_
              obtain ⟨cq107, kq107, q107a, q107b, q107c⟩ := isOf hZ e105 (c106_E_i)
              obtain ⟨_, _, ⟨T107, L107, k107, n107⟩, -, X107, ⟨Lc107, hQ107, l107, y107, z107⟩, st107⟩ := X105.interfaceBack hx hown (mvT hZ (ow hw 232 rfl)) (mvT hZ (ow hw 233 rfl)) (mvT hZ (ow hw 234 rfl)) (mvT hZ (ow hw 235 rfl)) (mvT hZ (ow hw 236 rfl)) (mvT hZ (ow hw 237 rfl)) (mvT hZ (ow hw 238 rfl)) (mvT hZ (ow hw 239 rfl)) (by decide) (backOf (W := 0) (own_hn0 l Z a0 hw it52 h105 n0 (Nat.le_trans g (Nat.le_of_lt c106_E_j.lt)) c106_I2) hZ (ow hw 240 rfl) (ow hw 216 rfl) (by decide) (by decide)) q107a q107b q107c (g := (mkF m 262 #[rv j, rv al, rv hm, iv lv, iv 0, iv p3, iv q3, rv t, iv 2, rv it52, iv gc] [.ref it52])) rfl (by rw [hml]; rfl) (Steps.refl _) (argsL := []) (rest := []) (lenOf own_pd4 rfl) rfl (by show 2 * 0 + _ ≤ _; exact Nat.le_of_eq rfl) (hb hby od621) (fun _ _ => ⟨rfl, e105, (by decide : 6 + 0 ≤ _), (by decide : 14 + 0 ≤ _)⟩)
              dsimp only [Pt.U, Pt.locs, Pt.cells, Pt.slots] at X107 l107 y107 z107 st107 hQ107
              subst y107 z107
              obtain ⟨rfl, N107q, hh107⟩ := hQ107
              have N107 := frE l107 N105 N107q
              refine ov T107 267 #[rv j, rv al, rv hm, iv lv, iv 0, iv p3, iv q3, rv t, iv 2, rv it52, iv gc] [.int 0] st107 ?_
              refine s_ifY 303 X107 hx (hb hby od622) ((if0 _ _).trans (teq rfl).1) (by decide) (by decide) ?_
              refine s_aloadN X107 hx (hb hby od636) rfl rfl  ?_
              refine s_aload X107 hx (hb hby od637) rfl rfl  ?_
              refine s_iload X107 hx (hb hby od638) rfl  ?_
              obtain ⟨_, _, ⟨T108, L108, k108, n108⟩, -, X108, ⟨Lc108, hQ108, l108, y108, z108⟩, st108⟩ := Jvm.LawKit.callS X107 hx hown (mvT hZ (ow hw 286 rfl)) (mvT hZ (ow hw 287 rfl)) (mvT hZ (ow hw 288 rfl)) (mvT hZ (ow hw 289 rfl)) (by decide) (backOf (W := 1) (own_cpi2 l Z a0 hw t ga gc k49 h105 n0 (Nat.le_trans g (Nat.le_of_lt c106_E_j.lt)) V105' c106_Vtx) hZ (ow hw 289 rfl) (ow hw 288 rfl) (by decide) (by decide)) (g := (mkF m 308 #[rv j, rv al, rv hm, iv lv, iv 0, iv p3, iv q3, rv t, iv 2, rv it52, iv gc] [.int 2, .ref t, .ref j])) rfl (by rw [hml]; rfl) (argsL := [.ref t, .int 2]) (rest := [.ref j]) (lenOf own_pd23 rfl) rfl (by show 2 * 0 + _ ≤ _; exact Nat.le_of_eq rfl) (hb hby od639) (fun _ _ => ⟨rfl, hh107, (by decide : 6 + 1 ≤ _), (by decide : 14 + 2 ≤ _)⟩)
              dsimp only [Pt.U, Pt.locs, Pt.cells, Pt.slots] at X108 l108 y108 z108 st108 hQ108
              subst y108 z108
              obtain ⟨r108, k108c, rfl, N108q, Kc108, V108c, s108c⟩ := hQ108
              have N108 := frE l108 N107 N108q
              refine og T108 311 #[rv j, rv al, rv hm, iv lv, iv 0, iv p3, iv q3, rv t, iv 2, rv it52, iv gc] [.ref r108, .ref j] st108 ?_
              have gr : n0 ≤ r108 := Nat.le_trans (Nat.le_trans g (Nat.le_of_lt c106_E_j.lt)) s108c
              have c109_E_j := c106_E_j.keep Kc108
              have c109_Fpg := c106_Fpg.keep Kc108 nin0
              obtain ⟨T110, h110, X110, e110, W110, st110⟩ := putF X108 hx hZ hown (host := "") (Or.inl (ow hw 298 rfl)) Via.refl rfl c109_Fpg c109_E_j (Or.inr ⟨(ow hw 299 rfl), rfl, hnm⟩) (ow hw 149 rfl) (ty := (.array .int)) (by decide) rfl rfl (g := (mkF m 311 #[rv j, rv al, rv hm, iv lv, iv 0, iv p3, iv q3, rv t, iv 2, rv it52, iv gc] [.ref r108, .ref j])) rfl rfl (hb hby od640)
              have N110 := Fr.snoc X110 N108 g
              refine og T110 314 #[rv j, rv al, rv hm, iv lv, iv 0, iv p3, iv q3, rv t, iv 2, rv it52, iv gc] [] st110 ?_
              have n110_Fpg := c109_Fpg.same W110
              have c111_E_j := c109_E_j.wr W110
              have c111_Vr := V108c.other W110 (Ne.symm (Nat.ne_of_lt (Nat.lt_of_lt_of_le c106_E_j.lt s108c)))
              refine s_aloadN X110 hx (hb hby od641) rfl rfl  ?_
              obtain ⟨T112, X112, e112, st112⟩ := getF X110 hx hZ hown (host := "") (Or.inl (ow hw 298 rfl)) Via.refl e110 n110_Fpg (g := (mkF m 315 #[rv j, rv al, rv hm, iv lv, iv 0, iv p3, iv q3, rv t, iv 2, rv it52, iv gc] [.ref j])) rfl rfl (hb hby od642)
              refine og T112 318 #[rv j, rv al, rv hm, iv lv, iv 0, iv p3, iv q3, rv t, iv 2, rv it52, iv gc] [.ref r108] st112 ?_
              obtain ⟨_, _, ⟨T113, L113, k113, n113⟩, -, X113, ⟨Lc113, hQ113, l113, y113, z113⟩, st113⟩ := Jvm.LawKit.callS X112 hx hown (mvT hZ (ow hw 300 rfl)) (mvT hZ (ow hw 301 rfl)) (mvT hZ (ow hw 288 rfl)) (mvT hZ (ow hw 302 rfl)) (by decide) (backOf (W := 0) (own_srt2 l Z a0 hw r108 ga gc k108c h110 n0 (Nat.le_trans g (Nat.le_of_lt c111_E_j.lt)) c111_Vr gr) hZ (ow hw 302 rfl) (ow hw 288 rfl) (by decide) (by decide)) (g := (mkF m 318 #[rv j, rv al, rv hm, iv lv, iv 0, iv p3, iv q3, rv t, iv 2, rv it52, iv gc] [.ref r108])) rfl (by rw [hml]; rfl) (argsL := [.ref r108]) (rest := []) (lenOf own_pd24 rfl) rfl (by show 2 * 0 + _ ≤ _; exact Nat.le_of_eq rfl) (hb hby od643) (fun _ _ => ⟨rfl, e112, (by decide : 7 + 0 ≤ _), (by decide : 16 + 0 ≤ _)⟩)
              dsimp only [Pt.U, Pt.locs, Pt.cells, Pt.slots] at X113 l113 y113 z113 st113 hQ113
              subst y113 z113
              obtain ⟨rfl, N113q, Kc113, V113c⟩ := hQ113
              have N113 := frE l113 N110 N113q
              refine og T113 321 #[rv j, rv al, rv hm, iv lv, iv 0, iv p3, iv q3, rv t, iv 2, rv it52, iv gc] [] st113 ?_
              have c114_E_j := c111_E_j.keep Kc113
              have c114_Fpg := n110_Fpg.keep Kc113 (ninS (Nat.ne_of_lt (Nat.lt_of_lt_of_le c106_E_j.lt s108c)) nin0)
              rw [own_s2_eq] at V113c
              refine own_retV X113 hx hlk hret (hb hby od644) ?_ (by decide) (by decide)
              exact ⟨rfl, N113, c114_E_j, _, _, _, _, c114_Fpg, V113c, (Or.inr (Or.inr (Or.inl ⟨hs1, hs2, hs3, rfl, rfl⟩)))⟩
            · as_aux_lemma =>
              refine s_ifY 300 X103 hx (hb hby od629) ((if0 _ _).trans (flt hs3).2.2.2) (by decide) (by decide) ?_
              refine s_goto 260 X103 hx (hb hby od635) (by decide) (by decide) ?_
              refine s_aload X103 hx (hb hby od620) rfl rfl  ?_
              obtain ⟨cq115, kq115, q115a, q115b, q115c⟩ := isOf hZ hh103 (I101_E_i)
              obtain ⟨_, _, ⟨T115, L115, k115, n115⟩, -, X115, ⟨Lc115, hQ115, l115, y115, z115⟩, st115⟩ := X103.interfaceBack hx hown (mvT hZ (ow hw 232 rfl)) (mvT hZ (ow hw 233 rfl)) (mvT hZ (ow hw 234 rfl)) (mvT hZ (ow hw 235 rfl)) (mvT hZ (ow hw 236 rfl)) (mvT hZ (ow hw 237 rfl)) (mvT hZ (ow hw 238 rfl)) (mvT hZ (ow hw 239 rfl)) (by decide) (backOf (W := 0) (own_hn0 l Z a0 hw it52 T99.heap n0 (Nat.le_trans g (Nat.le_of_lt c100_E_j.lt)) I101_I2) hZ (ow hw 240 rfl) (ow hw 216 rfl) (by decide) (by decide)) q115a q115b q115c (g := (mkF m 262 #[rv j, rv al, rv hm, iv lv, iv 0, iv p3, iv q3, rv t, iv 1, rv it52, iv gc] [.ref it52])) rfl (by rw [hml]; rfl) (Steps.refl _) (argsL := []) (rest := []) (lenOf own_pd4 rfl) rfl (by show 2 * 0 + _ ≤ _; exact Nat.le_of_eq rfl) (hb hby od621) (fun _ _ => ⟨rfl, hh103, (by decide : 6 + 0 ≤ _), (by decide : 14 + 0 ≤ _)⟩)
              dsimp only [Pt.U, Pt.locs, Pt.cells, Pt.slots] at X115 l115 y115 z115 st115 hQ115
              subst y115 z115
              obtain ⟨rfl, N115q, hh115⟩ := hQ115
              have N115 := frE l115 N103 N115q
              refine ov T115 267 #[rv j, rv al, rv hm, iv lv, iv 0, iv p3, iv q3, rv t, iv 1, rv it52, iv gc] [.int 0] st115 ?_
              refine s_ifY 303 X115 hx (hb hby od622) ((if0 _ _).trans (teq rfl).1) (by decide) (by decide) ?_
              refine s_aloadN X115 hx (hb hby od636) rfl rfl  ?_
              refine s_aload X115 hx (hb hby od637) rfl rfl  ?_
              refine s_iload X115 hx (hb hby od638) rfl  ?_
              obtain ⟨_, _, ⟨T116, L116, k116, n116⟩, -, X116, ⟨Lc116, hQ116, l116, y116, z116⟩, st116⟩ := Jvm.LawKit.callS X115 hx hown (mvT hZ (ow hw 286 rfl)) (mvT hZ (ow hw 287 rfl)) (mvT hZ (ow hw 288 rfl)) (mvT hZ (ow hw 289 rfl)) (by decide) (backOf (W := 1) (own_cpi1 l Z a0 hw t ga k49 T99.heap n0 (Nat.le_trans g (Nat.le_of_lt c100_E_j.lt)) c100_Vt c100_Vtx) hZ (ow hw 289 rfl) (ow hw 288 rfl) (by decide) (by decide)) (g := (mkF m 308 #[rv j, rv al, rv hm, iv lv, iv 0, iv p3, iv q3, rv t, iv 1, rv it52, iv gc] [.int 1, .ref t, .ref j])) rfl (by rw [hml]; rfl) (argsL := [.ref t, .int 1]) (rest := [.ref j]) (lenOf own_pd23 rfl) rfl (by show 2 * 0 + _ ≤ _; exact Nat.le_of_eq rfl) (hb hby od639) (fun _ _ => ⟨rfl, hh115, (by decide : 6 + 1 ≤ _), (by decide : 14 + 1 ≤ _)⟩)
              dsimp only [Pt.U, Pt.locs, Pt.cells, Pt.slots] at X116 l116 y116 z116 st116 hQ116
              subst y116 z116
              obtain ⟨r116, k116c, rfl, N116q, Kc116, V116c, s116c⟩ := hQ116
              have N116 := frE l116 N115 N116q
              refine og T116 311 #[rv j, rv al, rv hm, iv lv, iv 0, iv p3, iv q3, rv t, iv 1, rv it52, iv gc] [.ref r116, .ref j] st116 ?_
              have gr : n0 ≤ r116 := Nat.le_trans (Nat.le_trans g (Nat.le_of_lt c100_E_j.lt)) s116c
              have c117_E_j := c100_E_j.keep Kc116
              have c117_Fpg := c100_Fpg.keep Kc116 nin0
              obtain ⟨T118, h118, X118, e118, W118, st118⟩ := putF X116 hx hZ hown (host := "") (Or.inl (ow hw 298 rfl)) Via.refl rfl c117_Fpg c117_E_j (Or.inr ⟨(ow hw 299 rfl), rfl, hnm⟩) (ow hw 149 rfl) (ty := (.array .int)) (by decide) rfl rfl (g := (mkF m 311 #[rv j, rv al, rv hm, iv lv, iv 0, iv p3, iv q3, rv t, iv 1, rv it52, iv gc] [.ref r116, .ref j])) rfl rfl (hb hby od640)
              have N118 := Fr.snoc X118 N116 g
              refine og T118 314 #[rv j, rv al, rv hm, iv lv, iv 0, iv p3, iv q3, rv t, iv 1, rv it52, iv gc] [] st118 ?_
              have n118_Fpg := c117_Fpg.same W118
              have c119_E_j := c117_E_j.wr W118
              have c119_Vr := V116c.other W118 (Ne.symm (Nat.ne_of_lt (Nat.lt_of_lt_of_le c100_E_j.lt s116c)))
              refine s_aloadN X118 hx (hb hby od641) rfl rfl  ?_
              obtain ⟨T120, X120, e120, st120⟩ := getF X118 hx hZ hown (host := "") (Or.inl (ow hw 298 rfl)) Via.refl e118 n118_Fpg (g := (mkF m 315 #[rv j, rv al, rv hm, iv lv, iv 0, iv p3, iv q3, rv t, iv 1, rv it52, iv gc] [.ref j])) rfl rfl (hb hby od642)
              refine og T120 318 #[rv j, rv al, rv hm, iv lv, iv 0, iv p3, iv q3, rv t, iv 1, rv it52, iv gc] [.ref r116] st120 ?_
              obtain ⟨_, _, ⟨T121, L121, k121, n121⟩, -, X121, ⟨Lc121, hQ121, l121, y121, z121⟩, st121⟩ := Jvm.LawKit.callS X120 hx hown (mvT hZ (ow hw 300 rfl)) (mvT hZ (ow hw 301 rfl)) (mvT hZ (ow hw 288 rfl)) (mvT hZ (ow hw 302 rfl)) (by decide) (backOf (W := 0) (own_srt1 l Z a0 hw r116 ga k116c h118 n0 (Nat.le_trans g (Nat.le_of_lt c119_E_j.lt)) c119_Vr gr) hZ (ow hw 302 rfl) (ow hw 288 rfl) (by decide) (by decide)) (g := (mkF m 318 #[rv j, rv al, rv hm, iv lv, iv 0, iv p3, iv q3, rv t, iv 1, rv it52, iv gc] [.ref r116])) rfl (by rw [hml]; rfl) (argsL := [.ref r116]) (rest := []) (lenOf own_pd24 rfl) rfl (by show 2 * 0 + _ ≤ _; exact Nat.le_of_eq rfl) (hb hby od643) (fun _ _ => ⟨rfl, e120, (by decide : 7 + 0 ≤ _), (by decide : 15 + 0 ≤ _)⟩)
              dsimp only [Pt.U, Pt.locs, Pt.cells, Pt.slots] at X121 l121 y121 z121 st121 hQ121
              subst y121 z121
              obtain ⟨rfl, N121q, Kc121, V121c⟩ := hQ121
              have N121 := frE l121 N118 N121q
              refine og T121 321 #[rv j, rv al, rv hm, iv lv, iv 0, iv p3, iv q3, rv t, iv 1, rv it52, iv gc] [] st121 ?_
              have c122_E_j := c119_E_j.keep Kc121
              have c122_Fpg := n118_Fpg.keep Kc121 (ninS (Nat.ne_of_lt (Nat.lt_of_lt_of_le c100_E_j.lt s116c)) nin0)
              refine own_retV X121 hx hlk hret (hb hby od644) ?_ (by decide) (by decide)
              exact ⟨rfl, N121, c122_E_j, _, _, _, _, c122_Fpg, V121c, (Or.inr (Or.inr (Or.inr (Or.inl ⟨hs1, hs2, hs3, rfl, rfl⟩))))⟩
        · as_aux_lemma =>
          refine s_ifY 300 X60 hx (hb hby od629) ((if0 _ _).trans (flt hs1).2.2.2) (by decide) (by decide) ?_
          refine s_goto 260 X60 hx (hb hby od635) (by decide) (by decide) ?_
          refine s_aload X60 hx (hb hby od620) rfl rfl  ?_
          obtain ⟨cq123, kq123, q123a, q123b, q123c⟩ := isOf hZ hh60 (I58_E_i)
          obtain ⟨_, _, ⟨T123, L123, k123, n123⟩, -, X123, ⟨Lc123, hQ123, l123, y123, z123⟩, st123⟩ := X60.interfaceBack hx hown (mvT hZ (ow hw 232 rfl)) (mvT hZ (ow hw 233 rfl)) (mvT hZ (ow hw 234 rfl)) (mvT hZ (ow hw 235 rfl)) (mvT hZ (ow hw 236 rfl)) (mvT hZ (ow hw 237 rfl)) (mvT hZ (ow hw 238 rfl)) (mvT hZ (ow hw 239 rfl)) (by decide) (backOf (W := 0) (own_hn1 l Z a0 hw it52 n2 T56.heap n0 (Nat.le_trans g (Nat.le_of_lt c57_E_j.lt)) I58_I2) hZ (ow hw 240 rfl) (ow hw 216 rfl) (by decide) (by decide)) q123a q123b q123c (g := (mkF m 262 #[rv j, rv al, rv hm, iv lv, iv 0, iv p3, iv q3, rv t, iv 0, rv it52, iv ga] [.ref it52])) rfl (by rw [hml]; rfl) (Steps.refl _) (argsL := []) (rest := []) (lenOf own_pd4 rfl) rfl (by show 2 * 0 + _ ≤ _; exact Nat.le_of_eq rfl) (hb hby od621) (fun _ _ => ⟨rfl, hh60, (by decide : 6 + 0 ≤ _), (by decide : 14 + 0 ≤ _)⟩)
          dsimp only [Pt.U, Pt.locs, Pt.cells, Pt.slots] at X123 l123 y123 z123 st123 hQ123
          subst y123 z123
          obtain ⟨rfl, N123q, hh123⟩ := hQ123
          have N123 := frE l123 N60 N123q
          refine ov T123 267 #[rv j, rv al, rv hm, iv lv, iv 0, iv p3, iv q3, rv t, iv 0, rv it52, iv ga] [.int 1] st123 ?_
          refine s_ifN X123 hx (hb hby od622) ((if0 _ _).trans (feq (by decide)).1) ?_
          refine s_aload X123 hx (hb hby od623) rfl rfl  ?_
          obtain ⟨cq124, kq124, q124a, q124b, q124c⟩ := isOf hZ hh123 (I58_E_i)
          obtain ⟨_, _, ⟨T124, L124, k124, n124⟩, -, X124, ⟨Lc124, hQ124, l124, y124, z124⟩, st124⟩ := X123.interfaceBack hx hown (mvT hZ (ow hw 241 rfl)) (mvT hZ (ow hw 242 rfl)) (mvT hZ (ow hw 243 rfl)) (mvT hZ (ow hw 244 rfl)) (mvT hZ (ow hw 245 rfl)) (mvT hZ (ow hw 246 rfl)) (mvT hZ (ow hw 247 rfl)) (mvT hZ (ow hw 239 rfl)) (by decide) (backOf (W := 0) (own_nxt2 l Z a0 hw it52 hm tb k n1 n2 n3 v2 T56.heap n0 (Nat.le_trans g (Nat.le_of_lt c57_E_j.lt)) I58_E_i I58_I0 I58_I1 I58_I2 I58_I3 I58_I4 c57_HB.2.1 c57_HB.2.2.2.1 c57_HB.1 c57_V c57_NB2.1.1 c57_NB2.1.2.2 c57_NB2.1.2.1 gi52) hZ (ow hw 248 rfl) (ow hw 207 rfl) (by decide) (by decide)) q124a q124b q124c (g := (mkF m 272 #[rv j, rv al, rv hm, iv lv, iv 0, iv p3, iv q3, rv t, iv 0, rv it52, iv ga] [.ref it52])) rfl (by rw [hml]; rfl) (Steps.refl _) (argsL := []) (rest := []) (lenOf own_pd22 rfl) rfl (by show 2 * 0 + _ ≤ _; exact Nat.le_of_eq rfl) (hb hby od624) (fun _ _ => ⟨rfl, hh123, (by decide : 6 + 0 ≤ _), (by decide : 14 + 0 ≤ _)⟩)
          dsimp only [Pt.U, Pt.locs, Pt.cells, Pt.slots] at X124 l124 y124 z124 st124 hQ124
          subst y124 z124
          obtain ⟨rfl, N124q, Kc124, I124c⟩ := hQ124
          have N124 := frE l124 N123 N124q
          refine ov T124 277 #[rv j, rv al, rv hm, iv lv, iv 0, iv p3, iv q3, rv t, iv 0, rv it52, iv ga] [.ref v2] st124 ?_
          have c125_E_j := c57_E_j.keep Kc124
          have c125_Fpg := c57_Fpg.keep Kc124 (ninS ne_j_it52 nin0)
          have c125_V := c57_V.keep Kc124 (ninS ne_tb_it52 nin0)
          have c125_NB2 := c57_NB2.keep Kc124 (ninS ne_n2_it52 nin0) (ninS ne_v2_it52 nin0)
          have c125_NB3 := c57_NB3.keep Kc124 (ninS ne_n3_it52 nin0) (ninS ne_v3_it52 nin0)
          have c125_HB := c57_HB.keep Kc124 (ninS ne_hm_it52 nin0)
          have c125_Vt := c57_Vt.keep Kc124 (ninS ne_t_it52 nin0)
          have c125_Vtx := c57_Vtx.keep Kc124
          obtain ⟨I126_E_i, I126_I0, I126_I1, I126_I2, I126_I3, I126_I4⟩ := I124c
          obtain ⟨T127, X127, e127, st127⟩ := castY X124 hx hZ hown (ow hw 257 rfl) rfl (Ins.self c125_NB2.2.1) (g := (mkF m 277 #[rv j, rv al, rv hm, iv lv, iv 0, iv p3, iv q3, rv t, iv 0, rv it52, iv ga] [.ref v2])) rfl rfl (hb hby od625)
          refine og T127 280 #[rv j, rv al, rv hm, iv lv, iv 0, iv p3, iv q3, rv t, iv 0, rv it52, iv ga] [.ref v2] st127 ?_
          obtain ⟨cq128, kq128, q128a, q128b, q128c⟩ := isOf hZ e127 (c125_NB2.2.1)
          obtain ⟨_, _, ⟨T128, L128, k128, n128⟩, -, X128, ⟨Lc128, hQ128, l128, y128, z128⟩, st128⟩ := X127.virtualBack hx hown (mvT hZ (ow hw 259 rfl)) (mvT hZ (ow hw 260 rfl)) (notFace_of_selects (args := #[]) (mvT hZ (ow hw 262 rfl))) (mvT hZ (ow hw 262 rfl)) (mvT hZ (ow hw 261 rfl)) (by decide) (backOf (W := 0) (own_ivl l Z a0 hw v2 gb T124.heap n0 (Nat.le_trans g (Nat.le_of_lt c125_E_j.lt)) c125_NB2.2.2) hZ (ow hw 263 rfl) (ow hw 68 rfl) (by decide) (by decide)) q128a q128c (g := (mkF m 280 #[rv j, rv al, rv hm, iv lv, iv 0, iv p3, iv q3, rv t, iv 0, rv it52, iv ga] [.ref v2])) rfl (by rw [hml]; rfl) (Steps.refl _) (argsL := []) (rest := []) (lenOf own_pd6 rfl) rfl (by show 2 * 0 + _ ≤ _; exact Nat.le_of_eq rfl) (hb hby od626) (fun _ _ => ⟨rfl, e127, (by decide : 6 + 0 ≤ _), (by decide : 14 + 0 ≤ _)⟩)
          dsimp only [Pt.U, Pt.locs, Pt.cells, Pt.slots] at X128 l128 y128 z128 st128 hQ128
          subst y128 z128
          obtain ⟨rfl, N128q, hh128⟩ := hQ128
          have N128 := frE l128 N124 N128q
          refine ov T128 283 #[rv j, rv al, rv hm, iv lv, iv 0, iv p3, iv q3, rv t, iv 0, rv it52, iv ga] [.int gb] st128 ?_
          refine og T128 285 #[rv j, rv al, rv hm, iv lv, iv 0, iv p3, iv q3, rv t, iv 0, rv it52, iv gb] [] (fun _ k => XS.istore X128.here hx rfl (hb hby od627) rfl (l' := #[rv j, rv al, rv hm, iv lv, iv 0, iv p3, iv q3, rv t, iv 0, rv it52, iv gb]) rfl k) ?_
          refine s_iload X128 hx (hb hby od628) rfl  ?_
          by_cases hs2 : (0 : Int32) < gb
          · as_aux_lemma =>
            refine s_ifN X128 hx (hb hby od629) ((if0 _ _).trans (tlt hs2).2.2.2) ?_
            refine s_aload X128 hx (hb hby od630) rfl rfl  ?_
            refine s_iload X128 hx (hb hby od631) rfl  ?_
            refine s_iload X128 hx (hb hby od632) rfl  ?_
            have vv129 := c125_Vt
            obtain ⟨cl129, Ar129, qa129, Sz129, Ng129, Ha129, Ga129⟩ := vv129
            have hin129 : ¬ ((0 : Int32) < 0 ∨ cl129.slots.size ≤ ((0 : Int32)).toNatClampNeg) := inb_of Sz129 ⟨by decide, by decide⟩
            obtain ⟨T130, h130, X130, e130, W130, st130⟩ := stI X128 hx hZ hh128 Ar129 (j := (0 : Int32)) hin129 (g := (mkF m 296 #[rv j, rv al, rv hm, iv lv, iv 0, iv p3, iv q3, rv t, iv 0, rv it52, iv gb] [.int gb, .int 0, .ref t])) rfl rfl (hb hby od633)
            have V130 := Arv.set Ar129 qa129 Sz129 Ng129 Ha129 Ga129 rfl W130 0 rfl (Nat.le_of_ble_eq_true rfl)
            have N130 := Fr.snoc X130 N128 gn_t
            refine og T130 297 #[rv j, rv al, rv hm, iv lv, iv 0, iv p3, iv q3, rv t, iv 0, rv it52, iv gb] [] st130 ?_
            have c131_E_j := c125_E_j.wr W130
            have c131_Fpg := c125_Fpg.other W130 (Or.inl ne_j_t)
            have c131_V := c125_V.other W130 ne_tb_t
            have c131_NB3 := c125_NB3.other W130 ne_n3_t ne_v3_t
            have c131_HB := c125_HB.other W130 ne_hm_t
            have c131_Vtx := c125_Vtx.wr W130
            have c131_E_i := I126_E_i.wr W130
            have c131_I0 := I126_I0.other W130 (Or.inl (Ne.symm ne_t_it52))
            have c131_I1 := I126_I1.other W130 (Or.inl (Ne.symm ne_t_it52))
            have c131_I2 := I126_I2.other W130 (Or.inl (Ne.symm ne_t_it52))
            have c131_I3 := I126_I3.other W130 (Or.inl (Ne.symm ne_t_it52))
            have c131_I4 := I126_I4.other W130 (Or.inl (Ne.symm ne_t_it52))
            have V130' : Arv Z h130 t k49 .int 3 [.int gb, .int 0, .int 0] (.int 0) := V130
            refine og T130 300 #[rv j, rv al, rv hm, iv lv, iv 0, iv p3, iv q3, rv t, iv 1, rv it52, iv gb] [] (fun _ k => XS.iinc X130.here hx rfl (hb hby od634) rfl (l' := #[rv j, rv al, rv hm, iv lv, iv 0, iv p3, iv q3, rv t, iv 1, rv it52, iv gb]) rfl k) ?_
            refine s_goto 260 X130 hx (hb hby od635) (by decide) (by decide) ?_
            refine s_aload X130 hx (hb hby od620) rfl rfl  ?_
            obtain ⟨cq132, kq132, q132a, q132b, q132c⟩ := isOf hZ e130 (c131_E_i)
            obtain ⟨_, _, ⟨T132, L132, k132, n132⟩, -, X132, ⟨Lc132, hQ132, l132, y132, z132⟩, st132⟩ := X130.interfaceBack hx hown (mvT hZ (ow hw 232 rfl)) (mvT hZ (ow hw 233 rfl)) (mvT hZ (ow hw 234 rfl)) (mvT hZ (ow hw 235 rfl)) (mvT hZ (ow hw 236 rfl)) (mvT hZ (ow hw 237 rfl)) (mvT hZ (ow hw 238 rfl)) (mvT hZ (ow hw 239 rfl)) (by decide) (backOf (W := 0) (own_hn1 l Z a0 hw it52 n3 h130 n0 (Nat.le_trans g (Nat.le_of_lt c131_E_j.lt)) c131_I2) hZ (ow hw 240 rfl) (ow hw 216 rfl) (by decide) (by decide)) q132a q132b q132c (g := (mkF m 262 #[rv j, rv al, rv hm, iv lv, iv 0, iv p3, iv q3, rv t, iv 1, rv it52, iv gb] [.ref it52])) rfl (by rw [hml]; rfl) (Steps.refl _) (argsL := []) (rest := []) (lenOf own_pd4 rfl) rfl (by show 2 * 0 + _ ≤ _; exact Nat.le_of_eq rfl) (hb hby od621) (fun _ _ => ⟨rfl, e130, (by decide : 6 + 0 ≤ _), (by decide : 14 + 0 ≤ _)⟩)
            dsimp only [Pt.U, Pt.locs, Pt.cells, Pt.slots] at X132 l132 y132 z132 st132 hQ132
            subst y132 z132
            obtain ⟨rfl, N132q, hh132⟩ := hQ132
            have N132 := frE l132 N130 N132q
            refine ov T132 267 #[rv j, rv al, rv hm, iv lv, iv 0, iv p3, iv q3, rv t, iv 1, rv it52, iv gb] [.int 1] st132 ?_
            refine s_ifN X132 hx (hb hby od622) ((if0 _ _).trans (feq (by decide)).1) ?_
            refine s_aload X132 hx (hb hby od623) rfl rfl  ?_
            obtain ⟨cq133, kq133, q133a, q133b, q133c⟩ := isOf hZ hh132 (c131_E_i)
            obtain ⟨_, _, ⟨T133, L133, k133, n133⟩, -, X133, ⟨Lc133, hQ133, l133, y133, z133⟩, st133⟩ := X132.interfaceBack hx hown (mvT hZ (ow hw 241 rfl)) (mvT hZ (ow hw 242 rfl)) (mvT hZ (ow hw 243 rfl)) (mvT hZ (ow hw 244 rfl)) (mvT hZ (ow hw 245 rfl)) (mvT hZ (ow hw 246 rfl)) (mvT hZ (ow hw 247 rfl)) (mvT hZ (ow hw 239 rfl)) (by decide) (backOf (W := 0) (own_nxt3 l Z a0 hw it52 hm tb k n1 n2 n3 v3 h130 n0 (Nat.le_trans g (Nat.le_of_lt c131_E_j.lt)) c131_E_i c131_I0 c131_I1 c131_I2 c131_I3 c131_I4 c131_HB.2.1 c131_HB.2.2.2.1 c131_HB.1 c131_V c131_NB3.1.1 c131_NB3.1.2.2 c131_NB3.1.2.1 gi52) hZ (ow hw 248 rfl) (ow hw 207 rfl) (by decide) (by decide)) q133a q133b q133c (g := (mkF m 272 #[rv j, rv al, rv hm, iv lv, iv 0, iv p3, iv q3, rv t, iv 1, rv it52, iv gb] [.ref it52])) rfl (by rw [hml]; rfl) (Steps.refl _) (argsL := []) (rest := []) (lenOf own_pd22 rfl) rfl (by show 2 * 0 + _ ≤ _; exact Nat.le_of_eq rfl) (hb hby od624) (fun _ _ => ⟨rfl, hh132, (by decide : 6 + 0 ≤ _), (by decide : 14 + 0 ≤ _)⟩)
            dsimp only [Pt.U, Pt.locs, Pt.cells, Pt.slots] at X133 l133 y133 z133 st133 hQ133
            subst y133 z133
            obtain ⟨rfl, N133q, Kc133, I133c⟩ := hQ133
            have N133 := frE l133 N132 N133q
            refine ov T133 277 #[rv j, rv al, rv hm, iv lv, iv 0, iv p3, iv q3, rv t, iv 1, rv it52, iv gb] [.ref v3] st133 ?_
            have c134_E_j := c131_E_j.keep Kc133
            have c134_Fpg := c131_Fpg.keep Kc133 (ninS ne_j_it52 nin0)
            have c134_V := c131_V.keep Kc133 (ninS ne_tb_it52 nin0)
            have c134_NB3 := c131_NB3.keep Kc133 (ninS ne_n3_it52 nin0) (ninS ne_v3_it52 nin0)
            have c134_HB := c131_HB.keep Kc133 (ninS ne_hm_it52 nin0)
            have c134_Vtx := c131_Vtx.keep Kc133
            have c134_Vt := V130'.keep Kc133 (ninS ne_t_it52 nin0)
            obtain ⟨I135_E_i, I135_I0, I135_I1, I135_I2, I135_I3, I135_I4⟩ := I133c
            obtain ⟨T136, X136, e136, st136⟩ := castY X133 hx hZ hown (ow hw 257 rfl) rfl (Ins.self c134_NB3.2.1) (g := (mkF m 277 #[rv j, rv al, rv hm, iv lv, iv 0, iv p3, iv q3, rv t, iv 1, rv it52, iv gb] [.ref v3])) rfl rfl (hb hby od625)
            refine og T136 280 #[rv j, rv al, rv hm, iv lv, iv 0, iv p3, iv q3, rv t, iv 1, rv it52, iv gb] [.ref v3] st136 ?_
            obtain ⟨cq137, kq137, q137a, q137b, q137c⟩ := isOf hZ e136 (c134_NB3.2.1)
            obtain ⟨_, _, ⟨T137, L137, k137, n137⟩, -, X137, ⟨Lc137, hQ137, l137, y137, z137⟩, st137⟩ := X136.virtualBack hx hown (mvT hZ (ow hw 259 rfl)) (mvT hZ (ow hw 260 rfl)) (notFace_of_selects (args := #[]) (mvT hZ (ow hw 262 rfl))) (mvT hZ (ow hw 262 rfl)) (mvT hZ (ow hw 261 rfl)) (by decide) (backOf (W := 0) (own_ivl l Z a0 hw v3 gc T133.heap n0 (Nat.le_trans g (Nat.le_of_lt c134_E_j.lt)) c134_NB3.2.2) hZ (ow hw 263 rfl) (ow hw 68 rfl) (by decide) (by decide)) q137a q137c (g := (mkF m 280 #[rv j, rv al, rv hm, iv lv, iv 0, iv p3, iv q3, rv t, iv 1, rv it52, iv gb] [.ref v3])) rfl (by rw [hml]; rfl) (Steps.refl _) (argsL := []) (rest := []) (lenOf own_pd6 rfl) rfl (by show 2 * 0 + _ ≤ _; exact Nat.le_of_eq rfl) (hb hby od626) (fun _ _ => ⟨rfl, e136, (by decide : 6 + 0 ≤ _), (by decide : 14 + 0 ≤ _)⟩)
            dsimp only [Pt.U, Pt.locs, Pt.cells, Pt.slots] at X137 l137 y137 z137 st137 hQ137
            subst y137 z137
            obtain ⟨rfl, N137q, hh137⟩ := hQ137
            have N137 := frE l137 N133 N137q
            refine ov T137 283 #[rv j, rv al, rv hm, iv lv, iv 0, iv p3, iv q3, rv t, iv 1, rv it52, iv gb] [.int gc] st137 ?_
            refine og T137 285 #[rv j, rv al, rv hm, iv lv, iv 0, iv p3, iv q3, rv t, iv 1, rv it52, iv gc] [] (fun _ k => XS.istore X137.here hx rfl (hb hby od627) rfl (l' := #[rv j, rv al, rv hm, iv lv, iv 0, iv p3, iv q3, rv t, iv 1, rv it52, iv gc]) rfl k) ?_
            refine s_iload X137 hx (hb hby od628) rfl  ?_
            by_cases hs3 : (0 : Int32) < gc
            · as_aux_lemma =>
              refine s_ifN X137 hx (hb hby od629) ((if0 _ _).trans (tlt hs3).2.2.2) ?_
              refine s_aload X137 hx (hb hby od630) rfl rfl  ?_
              refine s_iload X137 hx (hb hby od631) rfl  ?_
              refine s_iload X137 hx (hb hby od632) rfl  ?_
              have vv138 := c134_Vt
              obtain ⟨cl138, Ar138, qa138, Sz138, Ng138, Ha138, Ga138⟩ := vv138
              have hin138 : ¬ ((1 : Int32) < 0 ∨ cl138.slots.size ≤ ((1 : Int32)).toNatClampNeg) := inb_of Sz138 ⟨by decide, by decide⟩
              obtain ⟨T139, h139, X139, e139, W139, st139⟩ := stI X137 hx hZ hh137 Ar138 (j := (1 : Int32)) hin138 (g := (mkF m 296 #[rv j, rv al, rv hm, iv lv, iv 0, iv p3, iv q3, rv t, iv 1, rv it52, iv gc] [.int gc, .int 1, .ref t])) rfl rfl (hb hby od633)
              have V139 := Arv.set Ar138 qa138 Sz138 Ng138 Ha138 Ga138 rfl W139 1 rfl (Nat.le_of_ble_eq_true rfl)
              have N139 := Fr.snoc X139 N137 gn_t
              refine og T139 297 #[rv j, rv al, rv hm, iv lv, iv 0, iv p3, iv q3, rv t, iv 1, rv it52, iv gc] [] st139 ?_
              have c140_E_j := c134_E_j.wr W139
              have c140_Fpg := c134_Fpg.other W139 (Or.inl ne_j_t)
              have c140_V := c134_V.other W139 ne_tb_t
              have c140_HB := c134_HB.other W139 ne_hm_t
              have c140_Vtx := c134_Vtx.wr W139
              have c140_E_i := I135_E_i.wr W139
              have c140_I0 := I135_I0.other W139 (Or.inl (Ne.symm ne_t_it52))
              have c140_I1 := I135_I1.other W139 (Or.inl (Ne.symm ne_t_it52))
              have c140_I2 := I135_I2.other W139 (Or.inl (Ne.symm ne_t_it52))
              have c140_I3 := I135_I3.other W139 (Or.inl (Ne.symm ne_t_it52))
              have c140_I4 := I135_I4.other W139 (Or.inl (Ne.symm ne_t_it52))
              have V139' : Arv Z h139 t k49 .int 3 [.int gb, .int gc, .int 0] (.int 0) := V139
              refine og T139 300 #[rv j, rv al, rv hm, iv lv, iv 0, iv p3, iv q3, rv t, iv 2, rv it52, iv gc] [] (fun _ k => XS.iinc X139.here hx rfl (hb hby od634) rfl (l' := #[rv j, rv al, rv hm, iv lv, iv 0, iv p3, iv q3, rv t, iv 2, rv it52, iv gc]) rfl k) ?_
              refine s_goto 260 X139 hx (hb hby od635) (by decide) (by decide) ?_
              refine s_aload X139 hx (hb hby od620) rfl rfl  ?_
              obtain ⟨cq141, kq141, q141a, q141b, q141c⟩ := isOf hZ e139 (c140_E_i)
              obtain ⟨_, _, ⟨T141, L141, k141, n141⟩, -, X141, ⟨Lc141, hQ141, l141, y141, z141⟩, st141⟩ := X139.interfaceBack hx hown (mvT hZ (ow hw 232 rfl)) (mvT hZ (ow hw 233 rfl)) (mvT hZ (ow hw 234 rfl)) (mvT hZ (ow hw 235 rfl)) (mvT hZ (ow hw 236 rfl)) (mvT hZ (ow hw 237 rfl)) (mvT hZ (ow hw 238 rfl)) (mvT hZ (ow hw 239 rfl)) (by decide) (backOf (W := 0) (own_hn0 l Z a0 hw it52 h139 n0 (Nat.le_trans g (Nat.le_of_lt c140_E_j.lt)) c140_I2) hZ (ow hw 240 rfl) (ow hw 216 rfl) (by decide) (by decide)) q141a q141b q141c (g := (mkF m 262 #[rv j, rv al, rv hm, iv lv, iv 0, iv p3, iv q3, rv t, iv 2, rv it52, iv gc] [.ref it52])) rfl (by rw [hml]; rfl) (Steps.refl _) (argsL := []) (rest := []) (lenOf own_pd4 rfl) rfl (by show 2 * 0 + _ ≤ _; exact Nat.le_of_eq rfl) (hb hby od621) (fun _ _ => ⟨rfl, e139, (by decide : 6 + 0 ≤ _), (by decide : 14 + 0 ≤ _)⟩)
              dsimp only [Pt.U, Pt.locs, Pt.cells, Pt.slots] at X141 l141 y141 z141 st141 hQ141
              subst y141 z141
              obtain ⟨rfl, N141q, hh141⟩ := hQ141
              have N141 := frE l141 N139 N141q
              refine ov T141 267 #[rv j, rv al, rv hm, iv lv, iv 0, iv p3, iv q3, rv t, iv 2, rv it52, iv gc] [.int 0] st141 ?_
              refine s_ifY 303 X141 hx (hb hby od622) ((if0 _ _).trans (teq rfl).1) (by decide) (by decide) ?_
              refine s_aloadN X141 hx (hb hby od636) rfl rfl  ?_
              refine s_aload X141 hx (hb hby od637) rfl rfl  ?_
              refine s_iload X141 hx (hb hby od638) rfl  ?_
              obtain ⟨_, _, ⟨T142, L142, k142, n142⟩, -, X142, ⟨Lc142, hQ142, l142, y142, z142⟩, st142⟩ := Jvm.LawKit.callS X141 hx hown (mvT hZ (ow hw 286 rfl)) (mvT hZ (ow hw 287 rfl)) (mvT hZ (ow hw 288 rfl)) (mvT hZ (ow hw 289 rfl)) (by decide) (backOf (W := 1) (own_cpi2 l Z a0 hw t gb gc k49 h139 n0 (Nat.le_trans g (Nat.le_of_lt c140_E_j.lt)) V139' c140_Vtx) hZ (ow hw 289 rfl) (ow hw 288 rfl) (by decide) (by decide)) (g := (mkF m 308 #[rv j, rv al, rv hm, iv lv, iv 0, iv p3, iv q3, rv t, iv 2, rv it52, iv gc] [.int 2, .ref t, .ref j])) rfl (by rw [hml]; rfl) (argsL := [.ref t, .int 2]) (rest := [.ref j]) (lenOf own_pd23 rfl) rfl (by show 2 * 0 + _ ≤ _; exact Nat.le_of_eq rfl) (hb hby od639) (fun _ _ => ⟨rfl, hh141, (by decide : 6 + 1 ≤ _), (by decide : 14 + 2 ≤ _)⟩)
              dsimp only [Pt.U, Pt.locs, Pt.cells, Pt.slots] at X142 l142 y142 z142 st142 hQ142
              subst y142 z142
              obtain ⟨r142, k142c, rfl, N142q, Kc142, V142c, s142c⟩ := hQ142
              have N142 := frE l142 N141 N142q
              refine og T142 311 #[rv j, rv al, rv hm, iv lv, iv 0, iv p3, iv q3, rv t, iv 2, rv it52, iv gc] [.ref r142, .ref j] st142 ?_
              have gr : n0 ≤ r142 := Nat.le_trans (Nat.le_trans g (Nat.le_of_lt c140_E_j.lt)) s142c
              have c143_E_j := c140_E_j.keep Kc142
              have c143_Fpg := c140_Fpg.keep Kc142 nin0
              obtain ⟨T144, h144, X144, e144, W144, st144⟩ := putF X142 hx hZ hown (host := "") (Or.inl (ow hw 298 rfl)) Via.refl rfl c143_Fpg c143_E_j (Or.inr ⟨(ow hw 299 rfl), rfl, hnm⟩) (ow hw 149 rfl) (ty := (.array .int)) (by decide) rfl rfl (g := (mkF m 311 #[rv j, rv al, rv hm, iv lv, iv 0, iv p3, iv q3, rv t, iv 2, rv it52, iv gc] [.ref r142, .ref j])) rfl rfl (hb hby od640)
              have N144 := Fr.snoc X144 N142 g
              refine og T144 314 #[rv j, rv al, rv hm, iv lv, iv 0, iv p3, iv q3, rv t, iv 2, rv it52, iv gc] [] st144 ?_
              have n144_Fpg := c143_Fpg.same W144
              have c145_E_j := c143_E_j.wr W144
              have c145_Vr := V142c.other W144 (Ne.symm (Nat.ne_of_lt (Nat.lt_of_lt_of_le c140_E_j.lt s142c)))
              refine s_aloadN X144 hx (hb hby od641) rfl rfl  ?_
              obtain ⟨T146, X146, e146, st146⟩ := getF X144 hx hZ hown (host := "") (Or.inl (ow hw 298 rfl)) Via.refl e144 n144_Fpg (g := (mkF m 315 #[rv j, rv al, rv hm, iv lv, iv 0, iv p3, iv q3, rv t, iv 2, rv it52, iv gc] [.ref j])) rfl rfl (hb hby od642)
              refine og T146 318 #[rv j, rv al, rv hm, iv lv, iv 0, iv p3, iv q3, rv t, iv 2, rv it52, iv gc] [.ref r142] st146 ?_
              obtain ⟨_, _, ⟨T147, L147, k147, n147⟩, -, X147, ⟨Lc147, hQ147, l147, y147, z147⟩, st147⟩ := Jvm.LawKit.callS X146 hx hown (mvT hZ (ow hw 300 rfl)) (mvT hZ (ow hw 301 rfl)) (mvT hZ (ow hw 288 rfl)) (mvT hZ (ow hw 302 rfl)) (by decide) (backOf (W := 0) (own_srt2 l Z a0 hw r142 gb gc k142c h144 n0 (Nat.le_trans g (Nat.le_of_lt c145_E_j.lt)) c145_Vr gr) hZ (ow hw 302 rfl) (ow hw 288 rfl) (by decide) (by decide)) (g := (mkF m 318 #[rv j, rv al, rv hm, iv lv, iv 0, iv p3, iv q3, rv t, iv 2, rv it52, iv gc] [.ref r142])) rfl (by rw [hml]; rfl) (argsL := [.ref r142]) (rest := []) (lenOf own_pd24 rfl) rfl (by show 2 * 0 + _ ≤ _; exact Nat.le_of_eq rfl) (hb hby od643) (fun _ _ => ⟨rfl, e146, (by decide : 7 + 0 ≤ _), (by decide : 16 + 0 ≤ _)⟩)
              dsimp only [Pt.U, Pt.locs, Pt.cells, Pt.slots] at X147 l147 y147 z147 st147 hQ147
              subst y147 z147
              obtain ⟨rfl, N147q, Kc147, V147c⟩ := hQ147
              have N147 := frE l147 N144 N147q
              refine og T147 321 #[rv j, rv al, rv hm, iv lv, iv 0, iv p3, iv q3, rv t, iv 2, rv it52, iv gc] [] st147 ?_
              have c148_E_j := c145_E_j.keep Kc147
              have c148_Fpg := n144_Fpg.keep Kc147 (ninS (Nat.ne_of_lt (Nat.lt_of_lt_of_le c140_E_j.lt s142c)) nin0)
              rw [own_s2_eq] at V147c
              refine own_retV X147 hx hlk hret (hb hby od644) ?_ (by decide) (by decide)
              exact ⟨rfl, N147, c148_E_j, _, _, _, _, c148_Fpg, V147c, (Or.inr (Or.inr (Or.inr (Or.inr (Or.inl ⟨hs1, hs2, hs3, rfl, rfl⟩)))))⟩
            · as_aux_lemma =>
              refine s_ifY 300 X137 hx (hb hby od629) ((if0 _ _).trans (flt hs3).2.2.2) (by decide) (by decide) ?_
              refine s_goto 260 X137 hx (hb hby od635) (by decide) (by decide) ?_
              refine s_aload X137 hx (hb hby od620) rfl rfl  ?_
              obtain ⟨cq149, kq149, q149a, q149b, q149c⟩ := isOf hZ hh137 (I135_E_i)
              obtain ⟨_, _, ⟨T149, L149, k149, n149⟩, -, X149, ⟨Lc149, hQ149, l149, y149, z149⟩, st149⟩ := X137.interfaceBack hx hown (mvT hZ (ow hw 232 rfl)) (mvT hZ (ow hw 233 rfl)) (mvT hZ (ow hw 234 rfl)) (mvT hZ (ow hw 235 rfl)) (mvT hZ (ow hw 236 rfl)) (mvT hZ (ow hw 237 rfl)) (mvT hZ (ow hw 238 rfl)) (mvT hZ (ow hw 239 rfl)) (by decide) (backOf (W := 0) (own_hn0 l Z a0 hw it52 T133.heap n0 (Nat.le_trans g (Nat.le_of_lt c134_E_j.lt)) I135_I2) hZ (ow hw 240 rfl) (ow hw 216 rfl) (by decide) (by decide)) q149a q149b q149c (g := (mkF m 262 #[rv j, rv al, rv hm, iv lv, iv 0, iv p3, iv q3, rv t, iv 1, rv it52, iv gc] [.ref it52])) rfl (by rw [hml]; rfl) (Steps.refl _) (argsL := []) (rest := []) (lenOf own_pd4 rfl) rfl (by show 2 * 0 + _ ≤ _; exact Nat.le_of_eq rfl) (hb hby od621) (fun _ _ => ⟨rfl, hh137, (by decide : 6 + 0 ≤ _), (by decide : 14 + 0 ≤ _)⟩)
              dsimp only [Pt.U, Pt.locs, Pt.cells, Pt.slots] at X149 l149 y149 z149 st149 hQ149
              subst y149 z149
              obtain ⟨rfl, N149q, hh149⟩ := hQ149
              have N149 := frE l149 N137 N149q
              refine ov T149 267 #[rv j, rv al, rv hm, iv lv, iv 0, iv p3, iv q3, rv t, iv 1, rv it52, iv gc] [.int 0] st149 ?_
              refine s_ifY 303 X149 hx (hb hby od622) ((if0 _ _).trans (teq rfl).1) (by decide) (by decide) ?_
              refine s_aloadN X149 hx (hb hby od636) rfl rfl  ?_
              refine s_aload X149 hx (hb hby od637) rfl rfl  ?_
              refine s_iload X149 hx (hb hby od638) rfl  ?_
              obtain ⟨_, _, ⟨T150, L150, k150, n150⟩, -, X150, ⟨Lc150, hQ150, l150, y150, z150⟩, st150⟩ := Jvm.LawKit.callS X149 hx hown (mvT hZ (ow hw 286 rfl)) (mvT hZ (ow hw 287 rfl)) (mvT hZ (ow hw 288 rfl)) (mvT hZ (ow hw 289 rfl)) (by decide) (backOf (W := 1) (own_cpi1 l Z a0 hw t gb k49 T133.heap n0 (Nat.le_trans g (Nat.le_of_lt c134_E_j.lt)) c134_Vt c134_Vtx) hZ (ow hw 289 rfl) (ow hw 288 rfl) (by decide) (by decide)) (g := (mkF m 308 #[rv j, rv al, rv hm, iv lv, iv 0, iv p3, iv q3, rv t, iv 1, rv it52, iv gc] [.int 1, .ref t, .ref j])) rfl (by rw [hml]; rfl) (argsL := [.ref t, .int 1]) (rest := [.ref j]) (lenOf own_pd23 rfl) rfl (by show 2 * 0 + _ ≤ _; exact Nat.le_of_eq rfl) (hb hby od639) (fun _ _ => ⟨rfl, hh149, (by decide : 6 + 1 ≤ _), (by decide : 14 + 1 ≤ _)⟩)
              dsimp only [Pt.U, Pt.locs, Pt.cells, Pt.slots] at X150 l150 y150 z150 st150 hQ150
              subst y150 z150
              obtain ⟨r150, k150c, rfl, N150q, Kc150, V150c, s150c⟩ := hQ150
              have N150 := frE l150 N149 N150q
              refine og T150 311 #[rv j, rv al, rv hm, iv lv, iv 0, iv p3, iv q3, rv t, iv 1, rv it52, iv gc] [.ref r150, .ref j] st150 ?_
              have gr : n0 ≤ r150 := Nat.le_trans (Nat.le_trans g (Nat.le_of_lt c134_E_j.lt)) s150c
              have c151_E_j := c134_E_j.keep Kc150
              have c151_Fpg := c134_Fpg.keep Kc150 nin0
              obtain ⟨T152, h152, X152, e152, W152, st152⟩ := putF X150 hx hZ hown (host := "") (Or.inl (ow hw 298 rfl)) Via.refl rfl c151_Fpg c151_E_j (Or.inr ⟨(ow hw 299 rfl), rfl, hnm⟩) (ow hw 149 rfl) (ty := (.array .int)) (by decide) rfl rfl (g := (mkF m 311 #[rv j, rv al, rv hm, iv lv, iv 0, iv p3, iv q3, rv t, iv 1, rv it52, iv gc] [.ref r150, .ref j])) rfl rfl (hb hby od640)
              have N152 := Fr.snoc X152 N150 g
              refine og T152 314 #[rv j, rv al, rv hm, iv lv, iv 0, iv p3, iv q3, rv t, iv 1, rv it52, iv gc] [] st152 ?_
              have n152_Fpg := c151_Fpg.same W152
              have c153_E_j := c151_E_j.wr W152
              have c153_Vr := V150c.other W152 (Ne.symm (Nat.ne_of_lt (Nat.lt_of_lt_of_le c134_E_j.lt s150c)))
              refine s_aloadN X152 hx (hb hby od641) rfl rfl  ?_
              obtain ⟨T154, X154, e154, st154⟩ := getF X152 hx hZ hown (host := "") (Or.inl (ow hw 298 rfl)) Via.refl e152 n152_Fpg (g := (mkF m 315 #[rv j, rv al, rv hm, iv lv, iv 0, iv p3, iv q3, rv t, iv 1, rv it52, iv gc] [.ref j])) rfl rfl (hb hby od642)
              refine og T154 318 #[rv j, rv al, rv hm, iv lv, iv 0, iv p3, iv q3, rv t, iv 1, rv it52, iv gc] [.ref r150] st154 ?_
              obtain ⟨_, _, ⟨T155, L155, k155, n155⟩, -, X155, ⟨Lc155, hQ155, l155, y155, z155⟩, st155⟩ := Jvm.LawKit.callS X154 hx hown (mvT hZ (ow hw 300 rfl)) (mvT hZ (ow hw 301 rfl)) (mvT hZ (ow hw 288 rfl)) (mvT hZ (ow hw 302 rfl)) (by decide) (backOf (W := 0) (own_srt1 l Z a0 hw r150 gb k150c h152 n0 (Nat.le_trans g (Nat.le_of_lt c153_E_j.lt)) c153_Vr gr) hZ (ow hw 302 rfl) (ow hw 288 rfl) (by decide) (by decide)) (g := (mkF m 318 #[rv j, rv al, rv hm, iv lv, iv 0, iv p3, iv q3, rv t, iv 1, rv it52, iv gc] [.ref r150])) rfl (by rw [hml]; rfl) (argsL := [.ref r150]) (rest := []) (lenOf own_pd24 rfl) rfl (by show 2 * 0 + _ ≤ _; exact Nat.le_of_eq rfl) (hb hby od643) (fun _ _ => ⟨rfl, e154, (by decide : 7 + 0 ≤ _), (by decide : 15 + 0 ≤ _)⟩)
              dsimp only [Pt.U, Pt.locs, Pt.cells, Pt.slots] at X155 l155 y155 z155 st155 hQ155
              subst y155 z155
              obtain ⟨rfl, N155q, Kc155, V155c⟩ := hQ155
              have N155 := frE l155 N152 N155q
              refine og T155 321 #[rv j, rv al, rv hm, iv lv, iv 0, iv p3, iv q3, rv t, iv 1, rv it52, iv gc] [] st155 ?_
              have c156_E_j := c153_E_j.keep Kc155
              have c156_Fpg := n152_Fpg.keep Kc155 (ninS (Nat.ne_of_lt (Nat.lt_of_lt_of_le c134_E_j.lt s150c)) nin0)
              refine own_retV X155 hx hlk hret (hb hby od644) ?_ (by decide) (by decide)
              exact ⟨rfl, N155, c156_E_j, _, _, _, _, c156_Fpg, V155c, (Or.inr (Or.inr (Or.inr (Or.inr (Or.inr (Or.inl ⟨hs1, hs2, hs3, rfl, rfl⟩))))))⟩
          · as_aux_lemma =>
            refine s_ifY 300 X128 hx (hb hby od629) ((if0 _ _).trans (flt hs2).2.2.2) (by decide) (by decide) ?_
            refine s_goto 260 X128 hx (hb hby od635) (by decide) (by decide) ?_
            refine s_aload X128 hx (hb hby od620) rfl rfl  ?_
            obtain ⟨cq157, kq157, q157a, q157b, q157c⟩ := isOf hZ hh128 (I126_E_i)
            obtain ⟨_, _, ⟨T157, L157, k157, n157⟩, -, X157, ⟨Lc157, hQ157, l157, y157, z157⟩, st157⟩ := X128.interfaceBack hx hown (mvT hZ (ow hw 232 rfl)) (mvT hZ (ow hw 233 rfl)) (mvT hZ (ow hw 234 rfl)) (mvT hZ (ow hw 235 rfl)) (mvT hZ (ow hw 236 rfl)) (mvT hZ (ow hw 237 rfl)) (mvT hZ (ow hw 238 rfl)) (mvT hZ (ow hw 239 rfl)) (by decide) (backOf (W := 0) (own_hn1 l Z a0 hw it52 n3 T124.heap n0 (Nat.le_trans g (Nat.le_of_lt c125_E_j.lt)) I126_I2) hZ (ow hw 240 rfl) (ow hw 216 rfl) (by decide) (by decide)) q157a q157b q157c (g := (mkF m 262 #[rv j, rv al, rv hm, iv lv, iv 0, iv p3, iv q3, rv t, iv 0, rv it52, iv gb] [.ref it52])) rfl (by rw [hml]; rfl) (Steps.refl _) (argsL := []) (rest := []) (lenOf own_pd4 rfl) rfl (by show 2 * 0 + _ ≤ _; exact Nat.le_of_eq rfl) (hb hby od621) (fun _ _ => ⟨rfl, hh128, (by decide : 6 + 0 ≤ _), (by decide : 14 + 0 ≤ _)⟩)
            dsimp only [Pt.U, Pt.locs, Pt.cells, Pt.slots] at X157 l157 y157 z157 st157 hQ157
            subst y157 z157
            obtain ⟨rfl, N157q, hh157⟩ := hQ157
            have N157 := frE l157 N128 N157q
            refine ov T157 267 #[rv j, rv al, rv hm, iv lv, iv 0, iv p3, iv q3, rv t, iv 0, rv it52, iv gb] [.int 1] st157 ?_
            refine s_ifN X157 hx (hb hby od622) ((if0 _ _).trans (feq (by decide)).1) ?_
            refine s_aload X157 hx (hb hby od623) rfl rfl  ?_
            obtain ⟨cq158, kq158, q158a, q158b, q158c⟩ := isOf hZ hh157 (I126_E_i)
            obtain ⟨_, _, ⟨T158, L158, k158, n158⟩, -, X158, ⟨Lc158, hQ158, l158, y158, z158⟩, st158⟩ := X157.interfaceBack hx hown (mvT hZ (ow hw 241 rfl)) (mvT hZ (ow hw 242 rfl)) (mvT hZ (ow hw 243 rfl)) (mvT hZ (ow hw 244 rfl)) (mvT hZ (ow hw 245 rfl)) (mvT hZ (ow hw 246 rfl)) (mvT hZ (ow hw 247 rfl)) (mvT hZ (ow hw 239 rfl)) (by decide) (backOf (W := 0) (own_nxt3 l Z a0 hw it52 hm tb k n1 n2 n3 v3 T124.heap n0 (Nat.le_trans g (Nat.le_of_lt c125_E_j.lt)) I126_E_i I126_I0 I126_I1 I126_I2 I126_I3 I126_I4 c125_HB.2.1 c125_HB.2.2.2.1 c125_HB.1 c125_V c125_NB3.1.1 c125_NB3.1.2.2 c125_NB3.1.2.1 gi52) hZ (ow hw 248 rfl) (ow hw 207 rfl) (by decide) (by decide)) q158a q158b q158c (g := (mkF m 272 #[rv j, rv al, rv hm, iv lv, iv 0, iv p3, iv q3, rv t, iv 0, rv it52, iv gb] [.ref it52])) rfl (by rw [hml]; rfl) (Steps.refl _) (argsL := []) (rest := []) (lenOf own_pd22 rfl) rfl (by show 2 * 0 + _ ≤ _; exact Nat.le_of_eq rfl) (hb hby od624) (fun _ _ => ⟨rfl, hh157, (by decide : 6 + 0 ≤ _), (by decide : 14 + 0 ≤ _)⟩)
            dsimp only [Pt.U, Pt.locs, Pt.cells, Pt.slots] at X158 l158 y158 z158 st158 hQ158
            subst y158 z158
            obtain ⟨rfl, N158q, Kc158, I158c⟩ := hQ158
            have N158 := frE l158 N157 N158q
            refine ov T158 277 #[rv j, rv al, rv hm, iv lv, iv 0, iv p3, iv q3, rv t, iv 0, rv it52, iv gb] [.ref v3] st158 ?_
            have c159_E_j := c125_E_j.keep Kc158
            have c159_Fpg := c125_Fpg.keep Kc158 (ninS ne_j_it52 nin0)
            have c159_V := c125_V.keep Kc158 (ninS ne_tb_it52 nin0)
            have c159_NB3 := c125_NB3.keep Kc158 (ninS ne_n3_it52 nin0) (ninS ne_v3_it52 nin0)
            have c159_HB := c125_HB.keep Kc158 (ninS ne_hm_it52 nin0)
            have c159_Vt := c125_Vt.keep Kc158 (ninS ne_t_it52 nin0)
            have c159_Vtx := c125_Vtx.keep Kc158
            obtain ⟨I160_E_i, I160_I0, I160_I1, I160_I2, I160_I3, I160_I4⟩ := I158c
            obtain ⟨T161, X161, e161, st161⟩ := castY X158 hx hZ hown (ow hw 257 rfl) rfl (Ins.self c159_NB3.2.1) (g := (mkF m 277 #[rv j, rv al, rv hm, iv lv, iv 0, iv p3, iv q3, rv t, iv 0, rv it52, iv gb] [.ref v3])) rfl rfl (hb hby od625)
            refine og T161 280 #[rv j, rv al, rv hm, iv lv, iv 0, iv p3, iv q3, rv t, iv 0, rv it52, iv gb] [.ref v3] st161 ?_
            obtain ⟨cq162, kq162, q162a, q162b, q162c⟩ := isOf hZ e161 (c159_NB3.2.1)
            obtain ⟨_, _, ⟨T162, L162, k162, n162⟩, -, X162, ⟨Lc162, hQ162, l162, y162, z162⟩, st162⟩ := X161.virtualBack hx hown (mvT hZ (ow hw 259 rfl)) (mvT hZ (ow hw 260 rfl)) (notFace_of_selects (args := #[]) (mvT hZ (ow hw 262 rfl))) (mvT hZ (ow hw 262 rfl)) (mvT hZ (ow hw 261 rfl)) (by decide) (backOf (W := 0) (own_ivl l Z a0 hw v3 gc T158.heap n0 (Nat.le_trans g (Nat.le_of_lt c159_E_j.lt)) c159_NB3.2.2) hZ (ow hw 263 rfl) (ow hw 68 rfl) (by decide) (by decide)) q162a q162c (g := (mkF m 280 #[rv j, rv al, rv hm, iv lv, iv 0, iv p3, iv q3, rv t, iv 0, rv it52, iv gb] [.ref v3])) rfl (by rw [hml]; rfl) (Steps.refl _) (argsL := []) (rest := []) (lenOf own_pd6 rfl) rfl (by show 2 * 0 + _ ≤ _; exact Nat.le_of_eq rfl) (hb hby od626) (fun _ _ => ⟨rfl, e161, (by decide : 6 + 0 ≤ _), (by decide : 14 + 0 ≤ _)⟩)
            dsimp only [Pt.U, Pt.locs, Pt.cells, Pt.slots] at X162 l162 y162 z162 st162 hQ162
            subst y162 z162
            obtain ⟨rfl, N162q, hh162⟩ := hQ162
            have N162 := frE l162 N158 N162q
            refine ov T162 283 #[rv j, rv al, rv hm, iv lv, iv 0, iv p3, iv q3, rv t, iv 0, rv it52, iv gb] [.int gc] st162 ?_
            refine og T162 285 #[rv j, rv al, rv hm, iv lv, iv 0, iv p3, iv q3, rv t, iv 0, rv it52, iv gc] [] (fun _ k => XS.istore X162.here hx rfl (hb hby od627) rfl (l' := #[rv j, rv al, rv hm, iv lv, iv 0, iv p3, iv q3, rv t, iv 0, rv it52, iv gc]) rfl k) ?_
            refine s_iload X162 hx (hb hby od628) rfl  ?_
            by_cases hs3 : (0 : Int32) < gc
            · as_aux_lemma =>
              refine s_ifN X162 hx (hb hby od629) ((if0 _ _).trans (tlt hs3).2.2.2) ?_
              refine s_aload X162 hx (hb hby od630) rfl rfl  ?_
              refine s_iload X162 hx (hb hby od631) rfl  ?_
              refine s_iload X162 hx (hb hby od632) rfl  ?_
              have vv163 := c159_Vt
              obtain ⟨cl163, Ar163, qa163, Sz163, Ng163, Ha163, Ga163⟩ := vv163
              have hin163 : ¬ ((0 : Int32) < 0 ∨ cl163.slots.size ≤ ((0 : Int32)).toNatClampNeg) := inb_of Sz163 ⟨by decide, by decide⟩
              obtain ⟨T164, h164, X164, e164, W164, st164⟩ := stI X162 hx hZ hh162 Ar163 (j := (0 : Int32)) hin163 (g := (mkF m 296 #[rv j, rv al, rv hm, iv lv, iv 0, iv p3, iv q3, rv t, iv 0, rv it52, iv gc] [.int gc, .int 0, .ref t])) rfl rfl (hb hby od633)
              have V164 := Arv.set Ar163 qa163 Sz163 Ng163 Ha163 Ga163 rfl W164 0 rfl (Nat.le_of_ble_eq_true rfl)
              have N164 := Fr.snoc X164 N162 gn_t
              refine og T164 297 #[rv j, rv al, rv hm, iv lv, iv 0, iv p3, iv q3, rv t, iv 0, rv it52, iv gc] [] st164 ?_
              have c165_E_j := c159_E_j.wr W164
              have c165_Fpg := c159_Fpg.other W164 (Or.inl ne_j_t)
              have c165_V := c159_V.other W164 ne_tb_t
              have c165_HB := c159_HB.other W164 ne_hm_t
              have c165_Vtx := c159_Vtx.wr W164
              have c165_E_i := I160_E_i.wr W164
              have c165_I0 := I160_I0.other W164 (Or.inl (Ne.symm ne_t_it52))
              have c165_I1 := I160_I1.other W164 (Or.inl (Ne.symm ne_t_it52))
              have c165_I2 := I160_I2.other W164 (Or.inl (Ne.symm ne_t_it52))
              have c165_I3 := I160_I3.other W164 (Or.inl (Ne.symm ne_t_it52))
              have c165_I4 := I160_I4.other W164 (Or.inl (Ne.symm ne_t_it52))
              have V164' : Arv Z h164 t k49 .int 3 [.int gc, .int 0, .int 0] (.int 0) := V164
              refine og T164 300 #[rv j, rv al, rv hm, iv lv, iv 0, iv p3, iv q3, rv t, iv 1, rv it52, iv gc] [] (fun _ k => XS.iinc X164.here hx rfl (hb hby od634) rfl (l' := #[rv j, rv al, rv hm, iv lv, iv 0, iv p3, iv q3, rv t, iv 1, rv it52, iv gc]) rfl k) ?_
              refine s_goto 260 X164 hx (hb hby od635) (by decide) (by decide) ?_
              refine s_aload X164 hx (hb hby od620) rfl rfl  ?_
              obtain ⟨cq166, kq166, q166a, q166b, q166c⟩ := isOf hZ e164 (c165_E_i)
              obtain ⟨_, _, ⟨T166, L166, k166, n166⟩, -, X166, ⟨Lc166, hQ166, l166, y166, z166⟩, st166⟩ := X164.interfaceBack hx hown (mvT hZ (ow hw 232 rfl)) (mvT hZ (ow hw 233 rfl)) (mvT hZ (ow hw 234 rfl)) (mvT hZ (ow hw 235 rfl)) (mvT hZ (ow hw 236 rfl)) (mvT hZ (ow hw 237 rfl)) (mvT hZ (ow hw 238 rfl)) (mvT hZ (ow hw 239 rfl)) (by decide) (backOf (W := 0) (own_hn0 l Z a0 hw it52 h164 n0 (Nat.le_trans g (Nat.le_of_lt c165_E_j.lt)) c165_I2) hZ (ow hw 240 rfl) (ow hw 216 rfl) (by decide) (by decide)) q166a q166b q166c (g := (mkF m 262 #[rv j, rv al, rv hm, iv lv, iv 0, iv p3, iv q3, rv t, iv 1, rv it52, iv gc] [.ref it52])) rfl (by rw [hml]; rfl) (Steps.refl _) (argsL := []) (rest := []) (lenOf own_pd4 rfl) rfl (by show 2 * 0 + _ ≤ _; exact Nat.le_of_eq rfl) (hb hby od621) (fun _ _ => ⟨rfl, e164, (by decide : 6 + 0 ≤ _), (by decide : 14 + 0 ≤ _)⟩)
              dsimp only [Pt.U, Pt.locs, Pt.cells, Pt.slots] at X166 l166 y166 z166 st166 hQ166
              subst y166 z166
              obtain ⟨rfl, N166q, hh166⟩ := hQ166
              have N166 := frE l166 N164 N166q
              refine ov T166 267 #[rv j, rv al, rv hm, iv lv, iv 0, iv p3, iv q3, rv t, iv 1, rv it52, iv gc] [.int 0] st166 ?_
              refine s_ifY 303 X166 hx (hb hby od622) ((if0 _ _).trans (teq rfl).1) (by decide) (by decide) ?_
              refine s_aloadN X166 hx (hb hby od636) rfl rfl  ?_
              refine s_aload X166 hx (hb hby od637) rfl rfl  ?_
              refine s_iload X166 hx (hb hby od638) rfl  ?_
              obtain ⟨_, _, ⟨T167, L167, k167, n167⟩, -, X167, ⟨Lc167, hQ167, l167, y167, z167⟩, st167⟩ := Jvm.LawKit.callS X166 hx hown (mvT hZ (ow hw 286 rfl)) (mvT hZ (ow hw 287 rfl)) (mvT hZ (ow hw 288 rfl)) (mvT hZ (ow hw 289 rfl)) (by decide) (backOf (W := 1) (own_cpi1 l Z a0 hw t gc k49 h164 n0 (Nat.le_trans g (Nat.le_of_lt c165_E_j.lt)) V164' c165_Vtx) hZ (ow hw 289 rfl) (ow hw 288 rfl) (by decide) (by decide)) (g := (mkF m 308 #[rv j, rv al, rv hm, iv lv, iv 0, iv p3, iv q3, rv t, iv 1, rv it52, iv gc] [.int 1, .ref t, .ref j])) rfl (by rw [hml]; rfl) (argsL := [.ref t, .int 1]) (rest := [.ref j]) (lenOf own_pd23 rfl) rfl (by show 2 * 0 + _ ≤ _; exact Nat.le_of_eq rfl) (hb hby od639) (fun _ _ => ⟨rfl, hh166, (by decide : 6 + 1 ≤ _), (by decide : 14 + 1 ≤ _)⟩)
              dsimp only [Pt.U, Pt.locs, Pt.cells, Pt.slots] at X167 l167 y167 z167 st167 hQ167
              subst y167 z167
              obtain ⟨r167, k167c, rfl, N167q, Kc167, V167c, s167c⟩ := hQ167
              have N167 := frE l167 N166 N167q
              refine og T167 311 #[rv j, rv al, rv hm, iv lv, iv 0, iv p3, iv q3, rv t, iv 1, rv it52, iv gc] [.ref r167, .ref j] st167 ?_
              have gr : n0 ≤ r167 := Nat.le_trans (Nat.le_trans g (Nat.le_of_lt c165_E_j.lt)) s167c
              have c168_E_j := c165_E_j.keep Kc167
              have c168_Fpg := c165_Fpg.keep Kc167 nin0
              obtain ⟨T169, h169, X169, e169, W169, st169⟩ := putF X167 hx hZ hown (host := "") (Or.inl (ow hw 298 rfl)) Via.refl rfl c168_Fpg c168_E_j (Or.inr ⟨(ow hw 299 rfl), rfl, hnm⟩) (ow hw 149 rfl) (ty := (.array .int)) (by decide) rfl rfl (g := (mkF m 311 #[rv j, rv al, rv hm, iv lv, iv 0, iv p3, iv q3, rv t, iv 1, rv it52, iv gc] [.ref r167, .ref j])) rfl rfl (hb hby od640)
              have N169 := Fr.snoc X169 N167 g
              refine og T169 314 #[rv j, rv al, rv hm, iv lv, iv 0, iv p3, iv q3, rv t, iv 1, rv it52, iv gc] [] st169 ?_
              have n169_Fpg := c168_Fpg.same W169
              have c170_E_j := c168_E_j.wr W169
              have c170_Vr := V167c.other W169 (Ne.symm (Nat.ne_of_lt (Nat.lt_of_lt_of_le c165_E_j.lt s167c)))
              refine s_aloadN X169 hx (hb hby od641) rfl rfl  ?_
              obtain ⟨T171, X171, e171, st171⟩ := getF X169 hx hZ hown (host := "") (Or.inl (ow hw 298 rfl)) Via.refl e169 n169_Fpg (g := (mkF m 315 #[rv j, rv al, rv hm, iv lv, iv 0, iv p3, iv q3, rv t, iv 1, rv it52, iv gc] [.ref j])) rfl rfl (hb hby od642)
              refine og T171 318 #[rv j, rv al, rv hm, iv lv, iv 0, iv p3, iv q3, rv t, iv 1, rv it52, iv gc] [.ref r167] st171 ?_
              obtain ⟨_, _, ⟨T172, L172, k172, n172⟩, -, X172, ⟨Lc172, hQ172, l172, y172, z172⟩, st172⟩ := Jvm.LawKit.callS X171 hx hown (mvT hZ (ow hw 300 rfl)) (mvT hZ (ow hw 301 rfl)) (mvT hZ (ow hw 288 rfl)) (mvT hZ (ow hw 302 rfl)) (by decide) (backOf (W := 0) (own_srt1 l Z a0 hw r167 gc k167c h169 n0 (Nat.le_trans g (Nat.le_of_lt c170_E_j.lt)) c170_Vr gr) hZ (ow hw 302 rfl) (ow hw 288 rfl) (by decide) (by decide)) (g := (mkF m 318 #[rv j, rv al, rv hm, iv lv, iv 0, iv p3, iv q3, rv t, iv 1, rv it52, iv gc] [.ref r167])) rfl (by rw [hml]; rfl) (argsL := [.ref r167]) (rest := []) (lenOf own_pd24 rfl) rfl (by show 2 * 0 + _ ≤ _; exact Nat.le_of_eq rfl) (hb hby od643) (fun _ _ => ⟨rfl, e171, (by decide : 7 + 0 ≤ _), (by decide : 15 + 0 ≤ _)⟩)
              dsimp only [Pt.U, Pt.locs, Pt.cells, Pt.slots] at X172 l172 y172 z172 st172 hQ172
              subst y172 z172
              obtain ⟨rfl, N172q, Kc172, V172c⟩ := hQ172
              have N172 := frE l172 N169 N172q
              refine og T172 321 #[rv j, rv al, rv hm, iv lv, iv 0, iv p3, iv q3, rv t, iv 1, rv it52, iv gc] [] st172 ?_
              have c173_E_j := c170_E_j.keep Kc172
              have c173_Fpg := n169_Fpg.keep Kc172 (ninS (Nat.ne_of_lt (Nat.lt_of_lt_of_le c165_E_j.lt s167c)) nin0)
              refine own_retV X172 hx hlk hret (hb hby od644) ?_ (by decide) (by decide)
              exact ⟨rfl, N172, c173_E_j, _, _, _, _, c173_Fpg, V172c, (Or.inr (Or.inr (Or.inr (Or.inr (Or.inr (Or.inr (Or.inl ⟨hs1, hs2, hs3, rfl, rfl⟩)))))))⟩
            · as_aux_lemma =>
              refine s_ifY 300 X162 hx (hb hby od629) ((if0 _ _).trans (flt hs3).2.2.2) (by decide) (by decide) ?_
              refine s_goto 260 X162 hx (hb hby od635) (by decide) (by decide) ?_
              refine s_aload X162 hx (hb hby od620) rfl rfl  ?_
              obtain ⟨cq174, kq174, q174a, q174b, q174c⟩ := isOf hZ hh162 (I160_E_i)
              obtain ⟨_, _, ⟨T174, L174, k174, n174⟩, -, X174, ⟨Lc174, hQ174, l174, y174, z174⟩, st174⟩ := X162.interfaceBack hx hown (mvT hZ (ow hw 232 rfl)) (mvT hZ (ow hw 233 rfl)) (mvT hZ (ow hw 234 rfl)) (mvT hZ (ow hw 235 rfl)) (mvT hZ (ow hw 236 rfl)) (mvT hZ (ow hw 237 rfl)) (mvT hZ (ow hw 238 rfl)) (mvT hZ (ow hw 239 rfl)) (by decide) (backOf (W := 0) (own_hn0 l Z a0 hw it52 T158.heap n0 (Nat.le_trans g (Nat.le_of_lt c159_E_j.lt)) I160_I2) hZ (ow hw 240 rfl) (ow hw 216 rfl) (by decide) (by decide)) q174a q174b q174c (g := (mkF m 262 #[rv j, rv al, rv hm, iv lv, iv 0, iv p3, iv q3, rv t, iv 0, rv it52, iv gc] [.ref it52])) rfl (by rw [hml]; rfl) (Steps.refl _) (argsL := []) (rest := []) (lenOf own_pd4 rfl) rfl (by show 2 * 0 + _ ≤ _; exact Nat.le_of_eq rfl) (hb hby od621) (fun _ _ => ⟨rfl, hh162, (by decide : 6 + 0 ≤ _), (by decide : 14 + 0 ≤ _)⟩)
              dsimp only [Pt.U, Pt.locs, Pt.cells, Pt.slots] at X174 l174 y174 z174 st174 hQ174
              subst y174 z174
              obtain ⟨rfl, N174q, hh174⟩ := hQ174
              have N174 := frE l174 N162 N174q
              refine ov T174 267 #[rv j, rv al, rv hm, iv lv, iv 0, iv p3, iv q3, rv t, iv 0, rv it52, iv gc] [.int 0] st174 ?_
              refine s_ifY 303 X174 hx (hb hby od622) ((if0 _ _).trans (teq rfl).1) (by decide) (by decide) ?_
              refine s_aloadN X174 hx (hb hby od636) rfl rfl  ?_
              refine s_aload X174 hx (hb hby od637) rfl rfl  ?_
              refine s_iload X174 hx (hb hby od638) rfl  ?_
              obtain ⟨_, _, ⟨T175, L175, k175, n175⟩, -, X175, ⟨Lc175, hQ175, l175, y175, z175⟩, st175⟩ := Jvm.LawKit.callS X174 hx hown (mvT hZ (ow hw 286 rfl)) (mvT hZ (ow hw 287 rfl)) (mvT hZ (ow hw 288 rfl)) (mvT hZ (ow hw 289 rfl)) (by decide) (backOf (W := 1) (own_cpi0 l Z a0 hw t  k49 T158.heap n0 (Nat.le_trans g (Nat.le_of_lt c159_E_j.lt)) c159_Vt c159_Vtx) hZ (ow hw 289 rfl) (ow hw 288 rfl) (by decide) (by decide)) (g := (mkF m 308 #[rv j, rv al, rv hm, iv lv, iv 0, iv p3, iv q3, rv t, iv 0, rv it52, iv gc] [.int 0, .ref t, .ref j])) rfl (by rw [hml]; rfl) (argsL := [.ref t, .int 0]) (rest := [.ref j]) (lenOf own_pd23 rfl) rfl (by show 2 * 0 + _ ≤ _; exact Nat.le_of_eq rfl) (hb hby od639) (fun _ _ => ⟨rfl, hh174, (by decide : 6 + 1 ≤ _), (by decide : 14 + 0 ≤ _)⟩)
              dsimp only [Pt.U, Pt.locs, Pt.cells, Pt.slots] at X175 l175 y175 z175 st175 hQ175
              subst y175 z175
              obtain ⟨r175, k175c, rfl, N175q, Kc175, V175c, s175c⟩ := hQ175
              have N175 := frE l175 N174 N175q
              refine og T175 311 #[rv j, rv al, rv hm, iv lv, iv 0, iv p3, iv q3, rv t, iv 0, rv it52, iv gc] [.ref r175, .ref j] st175 ?_
              have gr : n0 ≤ r175 := Nat.le_trans (Nat.le_trans g (Nat.le_of_lt c159_E_j.lt)) s175c
              have c176_E_j := c159_E_j.keep Kc175
              have c176_Fpg := c159_Fpg.keep Kc175 nin0
              obtain ⟨T177, h177, X177, e177, W177, st177⟩ := putF X175 hx hZ hown (host := "") (Or.inl (ow hw 298 rfl)) Via.refl rfl c176_Fpg c176_E_j (Or.inr ⟨(ow hw 299 rfl), rfl, hnm⟩) (ow hw 149 rfl) (ty := (.array .int)) (by decide) rfl rfl (g := (mkF m 311 #[rv j, rv al, rv hm, iv lv, iv 0, iv p3, iv q3, rv t, iv 0, rv it52, iv gc] [.ref r175, .ref j])) rfl rfl (hb hby od640)
              have N177 := Fr.snoc X177 N175 g
              refine og T177 314 #[rv j, rv al, rv hm, iv lv, iv 0, iv p3, iv q3, rv t, iv 0, rv it52, iv gc] [] st177 ?_
              have n177_Fpg := c176_Fpg.same W177
              have c178_E_j := c176_E_j.wr W177
              have c178_Vr := V175c.other W177 (Ne.symm (Nat.ne_of_lt (Nat.lt_of_lt_of_le c159_E_j.lt s175c)))
              refine s_aloadN X177 hx (hb hby od641) rfl rfl  ?_
              obtain ⟨T179, X179, e179, st179⟩ := getF X177 hx hZ hown (host := "") (Or.inl (ow hw 298 rfl)) Via.refl e177 n177_Fpg (g := (mkF m 315 #[rv j, rv al, rv hm, iv lv, iv 0, iv p3, iv q3, rv t, iv 0, rv it52, iv gc] [.ref j])) rfl rfl (hb hby od642)
              refine og T179 318 #[rv j, rv al, rv hm, iv lv, iv 0, iv p3, iv q3, rv t, iv 0, rv it52, iv gc] [.ref r175] st179 ?_
              obtain ⟨_, _, ⟨T180, L180, k180, n180⟩, -, X180, ⟨Lc180, hQ180, l180, y180, z180⟩, st180⟩ := Jvm.LawKit.callS X179 hx hown (mvT hZ (ow hw 300 rfl)) (mvT hZ (ow hw 301 rfl)) (mvT hZ (ow hw 288 rfl)) (mvT hZ (ow hw 302 rfl)) (by decide) (backOf (W := 0) (own_srt0 l Z a0 hw r175  k175c h177 n0 (Nat.le_trans g (Nat.le_of_lt c178_E_j.lt)) c178_Vr gr) hZ (ow hw 302 rfl) (ow hw 288 rfl) (by decide) (by decide)) (g := (mkF m 318 #[rv j, rv al, rv hm, iv lv, iv 0, iv p3, iv q3, rv t, iv 0, rv it52, iv gc] [.ref r175])) rfl (by rw [hml]; rfl) (argsL := [.ref r175]) (rest := []) (lenOf own_pd24 rfl) rfl (by show 2 * 0 + _ ≤ _; exact Nat.le_of_eq rfl) (hb hby od643) (fun _ _ => ⟨rfl, e179, (by decide : 7 + 0 ≤ _), (by decide : 14 + 0 ≤ _)⟩)
              dsimp only [Pt.U, Pt.locs, Pt.cells, Pt.slots] at X180 l180 y180 z180 st180 hQ180
              subst y180 z180
              obtain ⟨rfl, N180q, Kc180, V180c⟩ := hQ180
              have N180 := frE l180 N177 N180q
              refine og T180 321 #[rv j, rv al, rv hm, iv lv, iv 0, iv p3, iv q3, rv t, iv 0, rv it52, iv gc] [] st180 ?_
              have c181_E_j := c178_E_j.keep Kc180
              have c181_Fpg := n177_Fpg.keep Kc180 (ninS (Nat.ne_of_lt (Nat.lt_of_lt_of_le c159_E_j.lt s175c)) nin0)
              refine own_retV X180 hx hlk hret (hb hby od644) ?_ (by decide) (by decide)
              exact ⟨rfl, N180, c181_E_j, _, _, _, _, c181_Fpg, V180c, (Or.inr (Or.inr (Or.inr (Or.inr (Or.inr (Or.inr (Or.inr (⟨hs1, hs2, hs3, rfl, rfl⟩))))))))⟩
      obtain ⟨cq182, q182, q182'⟩ := (c38_E_j).cell
      obtain ⟨_, _, ⟨T182, L182, k182, n182⟩, -, X182, ⟨Lc182, hQ182, l182, y182, z182⟩, st182⟩ := X41.privateBack hx hown (mvT hZ (ow hw 266 rfl)) (mvT hZ (ow hw 267 rfl)) (own_sel hZ (ow hw 268 rfl) (ow hw 267 rfl) (ow hw 149 rfl)) (Cond.privateMethod_at (mvP hZ (ow hw 268 rfl) (args := #[]))) (mvT hZ (ow hw 269 rfl)) (by decide) (backOf (W := 0) (own_irg l Z a0 hw j gc lv T37.heap n0 (Nat.le_trans g (Nat.le_of_lt c38_E_j.lt)) c38_Flv) hZ (ow hw 269 rfl) (ow hw 150 rfl) (by decide) (by decide)) (g := (mkF m 195 #[rv j, rv al, rv hm, iv lv, iv 0, iv p2, iv q2, rv it19, iv gc, .unset, .unset] [.int gc, .ref j])) rfl (by rw [hml]; rfl) (Steps.refl _) (a := j) (by rw [hh41]; exact q182) q182' (argsL := [.int gc]) (rest := []) (lenOf own_pd25 rfl) rfl (by show 2 * 0 + _ ≤ _; exact Nat.le_of_eq rfl) (hb hby od602) (fun _ _ => ⟨rfl, hh41, (by decide : 4 + 0 ≤ _), (by decide : 6 + 0 ≤ _)⟩)
      dsimp only [Pt.U, Pt.locs, Pt.cells, Pt.slots] at X182 l182 y182 z182 st182 hQ182
      subst y182 z182
      obtain ⟨z182, rfl, N182q, hh182⟩ := hQ182
      have N182 := frE l182 N41 N182q
      refine ov T182 198 #[rv j, rv al, rv hm, iv lv, iv 0, iv p2, iv q2, rv it19, iv gc, .unset, .unset] [.int z182] st182 ?_
      by_cases haz : z182 = (0 : Int32)
      · as_aux_lemma =>
        refine s_ifY 207 X182 hx (hb hby od645) ((if0 _ _).trans (teq haz).1) (by decide) (by decide) ?_
        refine s_aloadN X182 hx (hb hby od646) rfl rfl  ?_
        refine s_iload X182 hx (hb hby od647) rfl  ?_
        obtain ⟨cq183, q183, q183'⟩ := (c38_E_j).cell
        obtain ⟨_, _, ⟨T183, L183, k183, n183⟩, -, X183, ⟨Lc183, hQ183, l183, y183, z183⟩, st183⟩ := X182.privateBack hx hown (mvT hZ (ow hw 270 rfl)) (mvT hZ (ow hw 271 rfl)) (own_sel hZ (ow hw 272 rfl) (ow hw 271 rfl) (ow hw 149 rfl)) (Cond.privateMethod_at (mvP hZ (ow hw 272 rfl) (args := #[]))) (mvT hZ (ow hw 273 rfl)) (by decide) (backOf (W := 0) (own_inr l Z a0 hw j gc lv T37.heap n0 (Nat.le_trans g (Nat.le_of_lt c38_E_j.lt)) c38_Flv) hZ (ow hw 273 rfl) (ow hw 150 rfl) (by decide) (by decide)) (g := (mkF m 210 #[rv j, rv al, rv hm, iv lv, iv 0, iv p2, iv q2, rv it19, iv gc, .unset, .unset] [.int gc, .ref j])) rfl (by rw [hml]; rfl) (Steps.refl _) (a := j) (by rw [hh182]; exact q183) q183' (argsL := [.int gc]) (rest := []) (lenOf own_pd25 rfl) rfl (by show 2 * 0 + _ ≤ _; exact Nat.le_of_eq rfl) (hb hby od648) (fun _ _ => ⟨rfl, hh182, (by decide : 4 + 0 ≤ _), (by decide : 6 + 0 ≤ _)⟩)
        dsimp only [Pt.U, Pt.locs, Pt.cells, Pt.slots] at X183 l183 y183 z183 st183 hQ183
        subst y183 z183
        obtain ⟨z183, rfl, N183q, hh183⟩ := hQ183
        have N183 := frE l183 N182 N183q
        refine ov T183 213 #[rv j, rv al, rv hm, iv lv, iv 0, iv p2, iv q2, rv it19, iv gc, .unset, .unset] [.int z183] st183 ?_
        by_cases hbz : z183 = (0 : Int32)
        · as_aux_lemma =>
          refine s_ifY 219 X183 hx (hb hby od649) ((if0 _ _).trans (teq hbz).1) (by decide) (by decide) ?_
          exact JL3 _ _ _ _ X183 hh183 N183 
        · as_aux_lemma =>
          refine s_ifN X183 hx (hb hby od649) ((if0 _ _).trans (feq hbz).1) ?_
          refine og T183 219 #[rv j, rv al, rv hm, iv lv, iv 0, iv p2, .val (.int (q2 + (1 : Int32))), rv it19, iv gc, .unset, .unset] [] (fun _ k => XS.iinc X183.here hx rfl (hb hby od650) rfl (l' := #[rv j, rv al, rv hm, iv lv, iv 0, iv p2, .val (.int (q2 + (1 : Int32))), rv it19, iv gc, .unset, .unset]) rfl k) ?_
          exact JL3 _ _ _ _ X183 hh183 N183 
      · as_aux_lemma =>
        refine s_ifN X182 hx (hb hby od645) ((if0 _ _).trans (feq haz).1) ?_
        refine og T182 204 #[rv j, rv al, rv hm, iv lv, iv 0, .val (.int (p2 + (1 : Int32))), iv q2, rv it19, iv gc, .unset, .unset] [] (fun _ k => XS.iinc X182.here hx rfl (hb hby od651) rfl (l' := #[rv j, rv al, rv hm, iv lv, iv 0, .val (.int (p2 + (1 : Int32))), iv q2, rv it19, iv gc, .unset, .unset]) rfl k) ?_
        refine s_goto 219 X182 hx (hb hby od652) (by decide) (by decide) ?_
        exact JL3 _ _ _ _ X182 hh182 N182 
    obtain ⟨cq184, q184, q184'⟩ := (c31_E_j).cell
    obtain ⟨_, _, ⟨T184, L184, k184, n184⟩, -, X184, ⟨Lc184, hQ184, l184, y184, z184⟩, st184⟩ := X34.privateBack hx hown (mvT hZ (ow hw 266 rfl)) (mvT hZ (ow hw 267 rfl)) (own_sel hZ (ow hw 268 rfl) (ow hw 267 rfl) (ow hw 149 rfl)) (Cond.privateMethod_at (mvP hZ (ow hw 268 rfl) (args := #[]))) (mvT hZ (ow hw 269 rfl)) (by decide) (backOf (W := 0) (own_irg l Z a0 hw j gb lv T30.heap n0 (Nat.le_trans g (Nat.le_of_lt c31_E_j.lt)) c31_Flv) hZ (ow hw 269 rfl) (ow hw 150 rfl) (by decide) (by decide)) (g := (mkF m 195 #[rv j, rv al, rv hm, iv lv, iv 0, iv p1, iv q1, rv it19, iv gb, .unset, .unset] [.int gb, .ref j])) rfl (by rw [hml]; rfl) (Steps.refl _) (a := j) (by rw [hh34]; exact q184) q184' (argsL := [.int gb]) (rest := []) (lenOf own_pd25 rfl) rfl (by show 2 * 0 + _ ≤ _; exact Nat.le_of_eq rfl) (hb hby od602) (fun _ _ => ⟨rfl, hh34, (by decide : 4 + 0 ≤ _), (by decide : 6 + 0 ≤ _)⟩)
    dsimp only [Pt.U, Pt.locs, Pt.cells, Pt.slots] at X184 l184 y184 z184 st184 hQ184
    subst y184 z184
    obtain ⟨z184, rfl, N184q, hh184⟩ := hQ184
    have N184 := frE l184 N34 N184q
    refine ov T184 198 #[rv j, rv al, rv hm, iv lv, iv 0, iv p1, iv q1, rv it19, iv gb, .unset, .unset] [.int z184] st184 ?_
    by_cases haz : z184 = (0 : Int32)
    · as_aux_lemma =>
      refine s_ifY 207 X184 hx (hb hby od645) ((if0 _ _).trans (teq haz).1) (by decide) (by decide) ?_
      refine s_aloadN X184 hx (hb hby od646) rfl rfl  ?_
      refine s_iload X184 hx (hb hby od647) rfl  ?_
      obtain ⟨cq185, q185, q185'⟩ := (c31_E_j).cell
      obtain ⟨_, _, ⟨T185, L185, k185, n185⟩, -, X185, ⟨Lc185, hQ185, l185, y185, z185⟩, st185⟩ := X184.privateBack hx hown (mvT hZ (ow hw 270 rfl)) (mvT hZ (ow hw 271 rfl)) (own_sel hZ (ow hw 272 rfl) (ow hw 271 rfl) (ow hw 149 rfl)) (Cond.privateMethod_at (mvP hZ (ow hw 272 rfl) (args := #[]))) (mvT hZ (ow hw 273 rfl)) (by decide) (backOf (W := 0) (own_inr l Z a0 hw j gb lv T30.heap n0 (Nat.le_trans g (Nat.le_of_lt c31_E_j.lt)) c31_Flv) hZ (ow hw 273 rfl) (ow hw 150 rfl) (by decide) (by decide)) (g := (mkF m 210 #[rv j, rv al, rv hm, iv lv, iv 0, iv p1, iv q1, rv it19, iv gb, .unset, .unset] [.int gb, .ref j])) rfl (by rw [hml]; rfl) (Steps.refl _) (a := j) (by rw [hh184]; exact q185) q185' (argsL := [.int gb]) (rest := []) (lenOf own_pd25 rfl) rfl (by show 2 * 0 + _ ≤ _; exact Nat.le_of_eq rfl) (hb hby od648) (fun _ _ => ⟨rfl, hh184, (by decide : 4 + 0 ≤ _), (by decide : 6 + 0 ≤ _)⟩)
      dsimp only [Pt.U, Pt.locs, Pt.cells, Pt.slots] at X185 l185 y185 z185 st185 hQ185
      subst y185 z185
      obtain ⟨z185, rfl, N185q, hh185⟩ := hQ185
      have N185 := frE l185 N184 N185q
      refine ov T185 213 #[rv j, rv al, rv hm, iv lv, iv 0, iv p1, iv q1, rv it19, iv gb, .unset, .unset] [.int z185] st185 ?_
      by_cases hbz : z185 = (0 : Int32)
      · as_aux_lemma =>
        refine s_ifY 219 X185 hx (hb hby od649) ((if0 _ _).trans (teq hbz).1) (by decide) (by decide) ?_
        exact JL2 _ _ _ _ X185 hh185 N185 
      · as_aux_lemma =>
        refine s_ifN X185 hx (hb hby od649) ((if0 _ _).trans (feq hbz).1) ?_
        refine og T185 219 #[rv j, rv al, rv hm, iv lv, iv 0, iv p1, .val (.int (q1 + (1 : Int32))), rv it19, iv gb, .unset, .unset] [] (fun _ k => XS.iinc X185.here hx rfl (hb hby od650) rfl (l' := #[rv j, rv al, rv hm, iv lv, iv 0, iv p1, .val (.int (q1 + (1 : Int32))), rv it19, iv gb, .unset, .unset]) rfl k) ?_
        exact JL2 _ _ _ _ X185 hh185 N185 
    · as_aux_lemma =>
      refine s_ifN X184 hx (hb hby od645) ((if0 _ _).trans (feq haz).1) ?_
      refine og T184 204 #[rv j, rv al, rv hm, iv lv, iv 0, .val (.int (p1 + (1 : Int32))), iv q1, rv it19, iv gb, .unset, .unset] [] (fun _ k => XS.iinc X184.here hx rfl (hb hby od651) rfl (l' := #[rv j, rv al, rv hm, iv lv, iv 0, .val (.int (p1 + (1 : Int32))), iv q1, rv it19, iv gb, .unset, .unset]) rfl k) ?_
      refine s_goto 219 X184 hx (hb hby od652) (by decide) (by decide) ?_
      exact JL2 _ _ _ _ X184 hh184 N184 
  obtain ⟨cq186, q186, q186'⟩ := (c24_E_j).cell
  obtain ⟨_, _, ⟨T186, L186, k186, n186⟩, -, X186, ⟨Lc186, hQ186, l186, y186, z186⟩, st186⟩ := X27.privateBack hx hown (mvT hZ (ow hw 266 rfl)) (mvT hZ (ow hw 267 rfl)) (own_sel hZ (ow hw 268 rfl) (ow hw 267 rfl) (ow hw 149 rfl)) (Cond.privateMethod_at (mvP hZ (ow hw 268 rfl) (args := #[]))) (mvT hZ (ow hw 269 rfl)) (by decide) (backOf (W := 0) (own_irg l Z a0 hw j ga lv T23.heap n0 (Nat.le_trans g (Nat.le_of_lt c24_E_j.lt)) c24_Flv) hZ (ow hw 269 rfl) (ow hw 150 rfl) (by decide) (by decide)) (g := (mkF m 195 #[rv j, rv al, rv hm, iv lv, iv 0, iv 0, iv 0, rv it19, iv ga, .unset, .unset] [.int ga, .ref j])) rfl (by rw [hml]; rfl) (Steps.refl _) (a := j) (by rw [hh27]; exact q186) q186' (argsL := [.int ga]) (rest := []) (lenOf own_pd25 rfl) rfl (by show 2 * 0 + _ ≤ _; exact Nat.le_of_eq rfl) (hb hby od602) (fun _ _ => ⟨rfl, hh27, (by decide : 4 + 0 ≤ _), (by decide : 6 + 0 ≤ _)⟩)
  dsimp only [Pt.U, Pt.locs, Pt.cells, Pt.slots] at X186 l186 y186 z186 st186 hQ186
  subst y186 z186
  obtain ⟨z186, rfl, N186q, hh186⟩ := hQ186
  have N186 := frE l186 N27 N186q
  refine ov T186 198 #[rv j, rv al, rv hm, iv lv, iv 0, iv 0, iv 0, rv it19, iv ga, .unset, .unset] [.int z186] st186 ?_
  by_cases haz : z186 = (0 : Int32)
  · as_aux_lemma =>
    refine s_ifY 207 X186 hx (hb hby od645) ((if0 _ _).trans (teq haz).1) (by decide) (by decide) ?_
    refine s_aloadN X186 hx (hb hby od646) rfl rfl  ?_
    refine s_iload X186 hx (hb hby od647) rfl  ?_
    obtain ⟨cq187, q187, q187'⟩ := (c24_E_j).cell
    obtain ⟨_, _, ⟨T187, L187, k187, n187⟩, -, X187, ⟨Lc187, hQ187, l187, y187, z187⟩, st187⟩ := X186.privateBack hx hown (mvT hZ (ow hw 270 rfl)) (mvT hZ (ow hw 271 rfl)) (own_sel hZ (ow hw 272 rfl) (ow hw 271 rfl) (ow hw 149 rfl)) (Cond.privateMethod_at (mvP hZ (ow hw 272 rfl) (args := #[]))) (mvT hZ (ow hw 273 rfl)) (by decide) (backOf (W := 0) (own_inr l Z a0 hw j ga lv T23.heap n0 (Nat.le_trans g (Nat.le_of_lt c24_E_j.lt)) c24_Flv) hZ (ow hw 273 rfl) (ow hw 150 rfl) (by decide) (by decide)) (g := (mkF m 210 #[rv j, rv al, rv hm, iv lv, iv 0, iv 0, iv 0, rv it19, iv ga, .unset, .unset] [.int ga, .ref j])) rfl (by rw [hml]; rfl) (Steps.refl _) (a := j) (by rw [hh186]; exact q187) q187' (argsL := [.int ga]) (rest := []) (lenOf own_pd25 rfl) rfl (by show 2 * 0 + _ ≤ _; exact Nat.le_of_eq rfl) (hb hby od648) (fun _ _ => ⟨rfl, hh186, (by decide : 4 + 0 ≤ _), (by decide : 6 + 0 ≤ _)⟩)
    dsimp only [Pt.U, Pt.locs, Pt.cells, Pt.slots] at X187 l187 y187 z187 st187 hQ187
    subst y187 z187
    obtain ⟨z187, rfl, N187q, hh187⟩ := hQ187
    have N187 := frE l187 N186 N187q
    refine ov T187 213 #[rv j, rv al, rv hm, iv lv, iv 0, iv 0, iv 0, rv it19, iv ga, .unset, .unset] [.int z187] st187 ?_
    by_cases hbz : z187 = (0 : Int32)
    · as_aux_lemma =>
      refine s_ifY 219 X187 hx (hb hby od649) ((if0 _ _).trans (teq hbz).1) (by decide) (by decide) ?_
      exact JL1 _ _ _ _ X187 hh187 N187 
    · as_aux_lemma =>
      refine s_ifN X187 hx (hb hby od649) ((if0 _ _).trans (feq hbz).1) ?_
      refine og T187 219 #[rv j, rv al, rv hm, iv lv, iv 0, iv 0, iv 1, rv it19, iv ga, .unset, .unset] [] (fun _ k => XS.iinc X187.here hx rfl (hb hby od650) rfl (l' := #[rv j, rv al, rv hm, iv lv, iv 0, iv 0, iv 1, rv it19, iv ga, .unset, .unset]) rfl k) ?_
      exact JL1 _ _ _ _ X187 hh187 N187 
  · as_aux_lemma =>
    refine s_ifN X186 hx (hb hby od645) ((if0 _ _).trans (feq haz).1) ?_
    refine og T186 204 #[rv j, rv al, rv hm, iv lv, iv 0, iv 1, iv 0, rv it19, iv ga, .unset, .unset] [] (fun _ k => XS.iinc X186.here hx rfl (hb hby od651) rfl (l' := #[rv j, rv al, rv hm, iv lv, iv 0, iv 1, iv 0, rv it19, iv ga, .unset, .unset]) rfl k) ?_
    refine s_goto 219 X186 hx (hb hby od652) (by decide) (by decide) ?_
    exact JL1 _ _ _ _ X186 hh186 N186 
set_option maxRecDepth 65536 in
set_option maxHeartbeats 40000000 in
theorem own_pg (l : Launch) (Z : State) (a0 : Array Value) (hw : ∀ d ∈ tables_1, d.before a0 Z = true) (j : Addr) (pg : Addr) (k : ClassId) (n : Int32) (vs : List Value) (h0 : Heap) (n0 : Nat) (Z0 : n0 ≤ h0.size) (Fpg : Fld Z h0 j "com/example/nimble_fusion/nimblefusion/scoring/JudgedRanking" "positiveGrades" "[I" (.ref pg)) (V : Arv Z h0 pg k .int n vs (.int 0)) :
    own_C l Z (⟨"com/example/nimble_fusion/nimblefusion/scoring/JudgedRanking", "positivelyGraded", "()I"⟩ : MethodName) prog_48_method_11_code 1 (some .int) [] ({ frames := 0, cells := 0, slots := 0, locals := 0 } : Room) #[.ref j] h0 (own_Qz n h0 n0) := by
  refine MetFree.of_bodySF (plainFor_of_name own_pn13) hisR ?_
  intro p e s m args below meth c s₁ Bd hml hP hK
  obtain ⟨rfl, hZ, hh⟩ := hP
  obtain ⟨hx, hby, hlk, hret, hown, hnm, X0, e0⟩ := own_hd Bd hh
  have N0 := Fr.nil n0
  refine own_open (own_ef1 m j) ?_
  refine s_aloadN X0 hx (hb hby od653) rfl rfl  ?_
  obtain ⟨T1, X1, e1, st1⟩ := getF X0 hx hZ hown (host := "") (Or.inl (ow hw 298 rfl)) Via.refl e0 Fpg (g := (mkF m 1 #[rv j] [.ref j])) rfl rfl (hb hby od654)
  refine og T1 4 #[rv j] [.ref pg] st1 ?_
  have vv2 := V
  obtain ⟨cl2, Ar2, qa2, Sz2, Ng2, Ha2, Ga2⟩ := vv2
  refine og T1 5 #[rv j] [(.int cl2.slots.size.toInt32)] (fun _ k => X1.arraylength hx (by rw [e1]; exact Ar2.1) (State.isArrayOf_alike hZ.alike Ar2.2.1) (g := (mkF m 4 #[rv j] [.ref pg])) rfl rfl (hb hby od655) _ k) ?_
  rw [len_of Sz2 Ng2]
  refine own_retI X1 hx hlk hret (hb hby od656) ?_ (by decide) (by decide)
  rw [e1]
  exact ⟨rfl, N0, rfl⟩
set_option maxRecDepth 65536 in
set_option maxHeartbeats 40000000 in
theorem own_ig11 (l : Launch) (Z : State) (a0 : Array Value) (hw : ∀ d ∈ tables_1, d.before a0 Z = true) (j : Addr) (x1 : Int32) (pg : Addr) (k : ClassId) (h0 : Heap) (n0 : Nat) (Z0 : n0 ≤ h0.size) (Fpg : Fld Z h0 j "com/example/nimble_fusion/nimblefusion/scoring/JudgedRanking" "positiveGrades" "[I" (.ref pg)) (V : Arv Z h0 pg k .int (1 : Int32) [.int x1] (.int 0)) :
    own_C l Z (⟨"com/example/nimble_fusion/nimblefusion/scoring/JudgedRanking", "idealGrade", "(I)I"⟩ : MethodName) prog_48_method_12_code 2 (some .int) [] ({ frames := 0, cells := 0, slots := 0, locals := 0 } : Room) #[.ref j, .int 1] h0 (own_Qz x1 h0 n0) := by
  refine MetFree.of_bodySF (plainFor_of_name own_pn13) hisR ?_
  intro p e s m args below meth c s₁ Bd hml hP hK
  obtain ⟨rfl, hZ, hh⟩ := hP
  obtain ⟨hx, hby, hlk, hret, hown, hnm, X0, e0⟩ := own_hd Bd hh
  have N0 := Fr.nil n0
  refine own_open (own_ef5 m j ((1 : Int32))) ?_
  refine s_aloadN X0 hx (hb hby od657) rfl rfl  ?_
  obtain ⟨T1, X1, e1, st1⟩ := getF X0 hx hZ hown (host := "") (Or.inl (ow hw 298 rfl)) Via.refl e0 Fpg (g := (mkF m 1 #[rv j, iv 1] [.ref j])) rfl rfl (hb hby od658)
  refine og T1 4 #[rv j, iv 1] [.ref pg] st1 ?_
  refine s_aloadN X1 hx (hb hby od659) rfl rfl  ?_
  obtain ⟨T2, X2, e2, st2⟩ := getF X1 hx hZ hown (host := "") (Or.inl (ow hw 298 rfl)) Via.refl e1 Fpg (g := (mkF m 5 #[rv j, iv 1] [.ref j, .ref pg])) rfl rfl (hb hby od660)
  refine og T2 8 #[rv j, iv 1] [.ref pg, .ref pg] st2 ?_
  have vv3 := V
  obtain ⟨cl3, Ar3, qa3, Sz3, Ng3, Ha3, Ga3⟩ := vv3
  refine og T2 9 #[rv j, iv 1] [(.int cl3.slots.size.toInt32), .ref pg] (fun _ k => X2.arraylength hx (by rw [e2]; exact Ar3.1) (State.isArrayOf_alike hZ.alike Ar3.2.1) (g := (mkF m 8 #[rv j, iv 1] [.ref pg, .ref pg])) rfl rfl (hb hby od661) _ k) ?_
  rw [len_of Sz3 Ng3]
  refine s_iloadN X2 hx (hb hby od662) rfl  ?_
  refine og T2 11 #[rv j, iv 1] [.int 0, .ref pg] (fun _ k => XS.isub X2.here hx rfl (hb hby od663) rfl k) ?_
  have vv4 := V
  obtain ⟨cl4, Ar4, qa4, Sz4, Ng4, Ha4, Ga4⟩ := vv4
  have hin4 : ¬ ((0 : Int32) < 0 ∨ cl4.slots.size ≤ ((0 : Int32)).toNatClampNeg) := inb_of Sz4 ⟨by decide, by decide⟩
  refine og T2 12 #[rv j, iv 1] [.int x1] (fun _ k => X2.iaload hx (j := (0 : Int32)) (v := (.int x1)) (by rw [e2]; exact Ar4.1) (State.isArrayOf_alike hZ.alike Ar4.2.1) Ar4.2.2 hin4 (Ha4.at hin4 rfl) (g := (mkF m 11 #[rv j, iv 1] [.int 0, .ref pg])) rfl rfl (hb hby od664) _ k) ?_
  refine own_retI X2 hx hlk hret (hb hby od665) ?_ (by decide) (by decide)
  rw [e2]
  exact ⟨rfl, N0, rfl⟩
set_option maxRecDepth 65536 in
set_option maxHeartbeats 40000000 in
theorem own_ig21 (l : Launch) (Z : State) (a0 : Array Value) (hw : ∀ d ∈ tables_1, d.before a0 Z = true) (j : Addr) (x1 x2 : Int32) (pg : Addr) (k : ClassId) (h0 : Heap) (n0 : Nat) (Z0 : n0 ≤ h0.size) (Fpg : Fld Z h0 j "com/example/nimble_fusion/nimblefusion/scoring/JudgedRanking" "positiveGrades" "[I" (.ref pg)) (V : Arv Z h0 pg k .int (2 : Int32) [.int x1, .int x2] (.int 0)) :
    own_C l Z (⟨"com/example/nimble_fusion/nimblefusion/scoring/JudgedRanking", "idealGrade", "(I)I"⟩ : MethodName) prog_48_method_12_code 2 (some .int) [] ({ frames := 0, cells := 0, slots := 0, locals := 0 } : Room) #[.ref j, .int 1] h0 (own_Qz x2 h0 n0) := by
  refine MetFree.of_bodySF (plainFor_of_name own_pn13) hisR ?_
  intro p e s m args below meth c s₁ Bd hml hP hK
  obtain ⟨rfl, hZ, hh⟩ := hP
  obtain ⟨hx, hby, hlk, hret, hown, hnm, X0, e0⟩ := own_hd Bd hh
  have N0 := Fr.nil n0
  refine own_open (own_ef5 m j ((1 : Int32))) ?_
  refine s_aloadN X0 hx (hb hby od657) rfl rfl  ?_
  obtain ⟨T1, X1, e1, st1⟩ := getF X0 hx hZ hown (host := "") (Or.inl (ow hw 298 rfl)) Via.refl e0 Fpg (g := (mkF m 1 #[rv j, iv 1] [.ref j])) rfl rfl (hb hby od658)
  refine og T1 4 #[rv j, iv 1] [.ref pg] st1 ?_
  refine s_aloadN X1 hx (hb hby od659) rfl rfl  ?_
  obtain ⟨T2, X2, e2, st2⟩ := getF X1 hx hZ hown (host := "") (Or.inl (ow hw 298 rfl)) Via.refl e1 Fpg (g := (mkF m 5 #[rv j, iv 1] [.ref j, .ref pg])) rfl rfl (hb hby od660)
  refine og T2 8 #[rv j, iv 1] [.ref pg, .ref pg] st2 ?_
  have vv3 := V
  obtain ⟨cl3, Ar3, qa3, Sz3, Ng3, Ha3, Ga3⟩ := vv3
  refine og T2 9 #[rv j, iv 1] [(.int cl3.slots.size.toInt32), .ref pg] (fun _ k => X2.arraylength hx (by rw [e2]; exact Ar3.1) (State.isArrayOf_alike hZ.alike Ar3.2.1) (g := (mkF m 8 #[rv j, iv 1] [.ref pg, .ref pg])) rfl rfl (hb hby od661) _ k) ?_
  rw [len_of Sz3 Ng3]
  refine s_iloadN X2 hx (hb hby od662) rfl  ?_
  refine og T2 11 #[rv j, iv 1] [.int 1, .ref pg] (fun _ k => XS.isub X2.here hx rfl (hb hby od663) rfl k) ?_
  have vv4 := V
  obtain ⟨cl4, Ar4, qa4, Sz4, Ng4, Ha4, Ga4⟩ := vv4
  have hin4 : ¬ ((1 : Int32) < 0 ∨ cl4.slots.size ≤ ((1 : Int32)).toNatClampNeg) := inb_of Sz4 ⟨by decide, by decide⟩
  refine og T2 12 #[rv j, iv 1] [.int x2] (fun _ k => X2.iaload hx (j := (1 : Int32)) (v := (.int x2)) (by rw [e2]; exact Ar4.1) (State.isArrayOf_alike hZ.alike Ar4.2.1) Ar4.2.2 hin4 (Ha4.at hin4 rfl) (g := (mkF m 11 #[rv j, iv 1] [.int 1, .ref pg])) rfl rfl (hb hby od664) _ k) ?_
  refine own_retI X2 hx hlk hret (hb hby od665) ?_ (by decide) (by decide)
  rw [e2]
  exact ⟨rfl, N0, rfl⟩
set_option maxRecDepth 65536 in
set_option maxHeartbeats 40000000 in
theorem own_ig22 (l : Launch) (Z : State) (a0 : Array Value) (hw : ∀ d ∈ tables_1, d.before a0 Z = true) (j : Addr) (x1 x2 : Int32) (pg : Addr) (k : ClassId) (h0 : Heap) (n0 : Nat) (Z0 : n0 ≤ h0.size) (Fpg : Fld Z h0 j "com/example/nimble_fusion/nimblefusion/scoring/JudgedRanking" "positiveGrades" "[I" (.ref pg)) (V : Arv Z h0 pg k .int (2 : Int32) [.int x1, .int x2] (.int 0)) :
    own_C l Z (⟨"com/example/nimble_fusion/nimblefusion/scoring/JudgedRanking", "idealGrade", "(I)I"⟩ : MethodName) prog_48_method_12_code 2 (some .int) [] ({ frames := 0, cells := 0, slots := 0, locals := 0 } : Room) #[.ref j, .int 2] h0 (own_Qz x1 h0 n0) := by
  refine MetFree.of_bodySF (plainFor_of_name own_pn13) hisR ?_
  intro p e s m args below meth c s₁ Bd hml hP hK
  obtain ⟨rfl, hZ, hh⟩ := hP
  obtain ⟨hx, hby, hlk, hret, hown, hnm, X0, e0⟩ := own_hd Bd hh
  have N0 := Fr.nil n0
  refine own_open (own_ef5 m j ((2 : Int32))) ?_
  refine s_aloadN X0 hx (hb hby od657) rfl rfl  ?_
  obtain ⟨T1, X1, e1, st1⟩ := getF X0 hx hZ hown (host := "") (Or.inl (ow hw 298 rfl)) Via.refl e0 Fpg (g := (mkF m 1 #[rv j, iv 2] [.ref j])) rfl rfl (hb hby od658)
  refine og T1 4 #[rv j, iv 2] [.ref pg] st1 ?_
  refine s_aloadN X1 hx (hb hby od659) rfl rfl  ?_
  obtain ⟨T2, X2, e2, st2⟩ := getF X1 hx hZ hown (host := "") (Or.inl (ow hw 298 rfl)) Via.refl e1 Fpg (g := (mkF m 5 #[rv j, iv 2] [.ref j, .ref pg])) rfl rfl (hb hby od660)
  refine og T2 8 #[rv j, iv 2] [.ref pg, .ref pg] st2 ?_
  have vv3 := V
  obtain ⟨cl3, Ar3, qa3, Sz3, Ng3, Ha3, Ga3⟩ := vv3
  refine og T2 9 #[rv j, iv 2] [(.int cl3.slots.size.toInt32), .ref pg] (fun _ k => X2.arraylength hx (by rw [e2]; exact Ar3.1) (State.isArrayOf_alike hZ.alike Ar3.2.1) (g := (mkF m 8 #[rv j, iv 2] [.ref pg, .ref pg])) rfl rfl (hb hby od661) _ k) ?_
  rw [len_of Sz3 Ng3]
  refine s_iloadN X2 hx (hb hby od662) rfl  ?_
  refine og T2 11 #[rv j, iv 2] [.int 0, .ref pg] (fun _ k => XS.isub X2.here hx rfl (hb hby od663) rfl k) ?_
  have vv4 := V
  obtain ⟨cl4, Ar4, qa4, Sz4, Ng4, Ha4, Ga4⟩ := vv4
  have hin4 : ¬ ((0 : Int32) < 0 ∨ cl4.slots.size ≤ ((0 : Int32)).toNatClampNeg) := inb_of Sz4 ⟨by decide, by decide⟩
  refine og T2 12 #[rv j, iv 2] [.int x1] (fun _ k => X2.iaload hx (j := (0 : Int32)) (v := (.int x1)) (by rw [e2]; exact Ar4.1) (State.isArrayOf_alike hZ.alike Ar4.2.1) Ar4.2.2 hin4 (Ha4.at hin4 rfl) (g := (mkF m 11 #[rv j, iv 2] [.int 0, .ref pg])) rfl rfl (hb hby od664) _ k) ?_
  refine own_retI X2 hx hlk hret (hb hby od665) ?_ (by decide) (by decide)
  rw [e2]
  exact ⟨rfl, N0, rfl⟩
set_option maxRecDepth 65536 in
set_option maxHeartbeats 40000000 in
theorem own_ig31 (l : Launch) (Z : State) (a0 : Array Value) (hw : ∀ d ∈ tables_1, d.before a0 Z = true) (j : Addr) (x1 x2 x3 : Int32) (pg : Addr) (k : ClassId) (h0 : Heap) (n0 : Nat) (Z0 : n0 ≤ h0.size) (Fpg : Fld Z h0 j "com/example/nimble_fusion/nimblefusion/scoring/JudgedRanking" "positiveGrades" "[I" (.ref pg)) (V : Arv Z h0 pg k .int (3 : Int32) [.int x1, .int x2, .int x3] (.int 0)) :
    own_C l Z (⟨"com/example/nimble_fusion/nimblefusion/scoring/JudgedRanking", "idealGrade", "(I)I"⟩ : MethodName) prog_48_method_12_code 2 (some .int) [] ({ frames := 0, cells := 0, slots := 0, locals := 0 } : Room) #[.ref j, .int 1] h0 (own_Qz x3 h0 n0) := by
  refine MetFree.of_bodySF (plainFor_of_name own_pn13) hisR ?_
  intro p e s m args below meth c s₁ Bd hml hP hK
  obtain ⟨rfl, hZ, hh⟩ := hP
  obtain ⟨hx, hby, hlk, hret, hown, hnm, X0, e0⟩ := own_hd Bd hh
  have N0 := Fr.nil n0
  refine own_open (own_ef5 m j ((1 : Int32))) ?_
  refine s_aloadN X0 hx (hb hby od657) rfl rfl  ?_
  obtain ⟨T1, X1, e1, st1⟩ := getF X0 hx hZ hown (host := "") (Or.inl (ow hw 298 rfl)) Via.refl e0 Fpg (g := (mkF m 1 #[rv j, iv 1] [.ref j])) rfl rfl (hb hby od658)
  refine og T1 4 #[rv j, iv 1] [.ref pg] st1 ?_
  refine s_aloadN X1 hx (hb hby od659) rfl rfl  ?_
  obtain ⟨T2, X2, e2, st2⟩ := getF X1 hx hZ hown (host := "") (Or.inl (ow hw 298 rfl)) Via.refl e1 Fpg (g := (mkF m 5 #[rv j, iv 1] [.ref j, .ref pg])) rfl rfl (hb hby od660)
  refine og T2 8 #[rv j, iv 1] [.ref pg, .ref pg] st2 ?_
  have vv3 := V
  obtain ⟨cl3, Ar3, qa3, Sz3, Ng3, Ha3, Ga3⟩ := vv3
  refine og T2 9 #[rv j, iv 1] [(.int cl3.slots.size.toInt32), .ref pg] (fun _ k => X2.arraylength hx (by rw [e2]; exact Ar3.1) (State.isArrayOf_alike hZ.alike Ar3.2.1) (g := (mkF m 8 #[rv j, iv 1] [.ref pg, .ref pg])) rfl rfl (hb hby od661) _ k) ?_
  rw [len_of Sz3 Ng3]
  refine s_iloadN X2 hx (hb hby od662) rfl  ?_
  refine og T2 11 #[rv j, iv 1] [.int 2, .ref pg] (fun _ k => XS.isub X2.here hx rfl (hb hby od663) rfl k) ?_
  have vv4 := V
  obtain ⟨cl4, Ar4, qa4, Sz4, Ng4, Ha4, Ga4⟩ := vv4
  have hin4 : ¬ ((2 : Int32) < 0 ∨ cl4.slots.size ≤ ((2 : Int32)).toNatClampNeg) := inb_of Sz4 ⟨by decide, by decide⟩
  refine og T2 12 #[rv j, iv 1] [.int x3] (fun _ k => X2.iaload hx (j := (2 : Int32)) (v := (.int x3)) (by rw [e2]; exact Ar4.1) (State.isArrayOf_alike hZ.alike Ar4.2.1) Ar4.2.2 hin4 (Ha4.at hin4 rfl) (g := (mkF m 11 #[rv j, iv 1] [.int 2, .ref pg])) rfl rfl (hb hby od664) _ k) ?_
  refine own_retI X2 hx hlk hret (hb hby od665) ?_ (by decide) (by decide)
  rw [e2]
  exact ⟨rfl, N0, rfl⟩
set_option maxRecDepth 65536 in
set_option maxHeartbeats 40000000 in
theorem own_ig32 (l : Launch) (Z : State) (a0 : Array Value) (hw : ∀ d ∈ tables_1, d.before a0 Z = true) (j : Addr) (x1 x2 x3 : Int32) (pg : Addr) (k : ClassId) (h0 : Heap) (n0 : Nat) (Z0 : n0 ≤ h0.size) (Fpg : Fld Z h0 j "com/example/nimble_fusion/nimblefusion/scoring/JudgedRanking" "positiveGrades" "[I" (.ref pg)) (V : Arv Z h0 pg k .int (3 : Int32) [.int x1, .int x2, .int x3] (.int 0)) :
    own_C l Z (⟨"com/example/nimble_fusion/nimblefusion/scoring/JudgedRanking", "idealGrade", "(I)I"⟩ : MethodName) prog_48_method_12_code 2 (some .int) [] ({ frames := 0, cells := 0, slots := 0, locals := 0 } : Room) #[.ref j, .int 2] h0 (own_Qz x2 h0 n0) := by
  refine MetFree.of_bodySF (plainFor_of_name own_pn13) hisR ?_
  intro p e s m args below meth c s₁ Bd hml hP hK
  obtain ⟨rfl, hZ, hh⟩ := hP
  obtain ⟨hx, hby, hlk, hret, hown, hnm, X0, e0⟩ := own_hd Bd hh
  have N0 := Fr.nil n0
  refine own_open (own_ef5 m j ((2 : Int32))) ?_
  refine s_aloadN X0 hx (hb hby od657) rfl rfl  ?_
  obtain ⟨T1, X1, e1, st1⟩ := getF X0 hx hZ hown (host := "") (Or.inl (ow hw 298 rfl)) Via.refl e0 Fpg (g := (mkF m 1 #[rv j, iv 2] [.ref j])) rfl rfl (hb hby od658)
  refine og T1 4 #[rv j, iv 2] [.ref pg] st1 ?_
  refine s_aloadN X1 hx (hb hby od659) rfl rfl  ?_
  obtain ⟨T2, X2, e2, st2⟩ := getF X1 hx hZ hown (host := "") (Or.inl (ow hw 298 rfl)) Via.refl e1 Fpg (g := (mkF m 5 #[rv j, iv 2] [.ref j, .ref pg])) rfl rfl (hb hby od660)
  refine og T2 8 #[rv j, iv 2] [.ref pg, .ref pg] st2 ?_
  have vv3 := V
  obtain ⟨cl3, Ar3, qa3, Sz3, Ng3, Ha3, Ga3⟩ := vv3
  refine og T2 9 #[rv j, iv 2] [(.int cl3.slots.size.toInt32), .ref pg] (fun _ k => X2.arraylength hx (by rw [e2]; exact Ar3.1) (State.isArrayOf_alike hZ.alike Ar3.2.1) (g := (mkF m 8 #[rv j, iv 2] [.ref pg, .ref pg])) rfl rfl (hb hby od661) _ k) ?_
  rw [len_of Sz3 Ng3]
  refine s_iloadN X2 hx (hb hby od662) rfl  ?_
  refine og T2 11 #[rv j, iv 2] [.int 1, .ref pg] (fun _ k => XS.isub X2.here hx rfl (hb hby od663) rfl k) ?_
  have vv4 := V
  obtain ⟨cl4, Ar4, qa4, Sz4, Ng4, Ha4, Ga4⟩ := vv4
  have hin4 : ¬ ((1 : Int32) < 0 ∨ cl4.slots.size ≤ ((1 : Int32)).toNatClampNeg) := inb_of Sz4 ⟨by decide, by decide⟩
  refine og T2 12 #[rv j, iv 2] [.int x2] (fun _ k => X2.iaload hx (j := (1 : Int32)) (v := (.int x2)) (by rw [e2]; exact Ar4.1) (State.isArrayOf_alike hZ.alike Ar4.2.1) Ar4.2.2 hin4 (Ha4.at hin4 rfl) (g := (mkF m 11 #[rv j, iv 2] [.int 1, .ref pg])) rfl rfl (hb hby od664) _ k) ?_
  refine own_retI X2 hx hlk hret (hb hby od665) ?_ (by decide) (by decide)
  rw [e2]
  exact ⟨rfl, N0, rfl⟩
set_option maxRecDepth 65536 in
set_option maxHeartbeats 40000000 in
theorem own_ig33 (l : Launch) (Z : State) (a0 : Array Value) (hw : ∀ d ∈ tables_1, d.before a0 Z = true) (j : Addr) (x1 x2 x3 : Int32) (pg : Addr) (k : ClassId) (h0 : Heap) (n0 : Nat) (Z0 : n0 ≤ h0.size) (Fpg : Fld Z h0 j "com/example/nimble_fusion/nimblefusion/scoring/JudgedRanking" "positiveGrades" "[I" (.ref pg)) (V : Arv Z h0 pg k .int (3 : Int32) [.int x1, .int x2, .int x3] (.int 0)) :
    own_C l Z (⟨"com/example/nimble_fusion/nimblefusion/scoring/JudgedRanking", "idealGrade", "(I)I"⟩ : MethodName) prog_48_method_12_code 2 (some .int) [] ({ frames := 0, cells := 0, slots := 0, locals := 0 } : Room) #[.ref j, .int 3] h0 (own_Qz x1 h0 n0) := by
  refine MetFree.of_bodySF (plainFor_of_name own_pn13) hisR ?_
  intro p e s m args below meth c s₁ Bd hml hP hK
  obtain ⟨rfl, hZ, hh⟩ := hP
  obtain ⟨hx, hby, hlk, hret, hown, hnm, X0, e0⟩ := own_hd Bd hh
  have N0 := Fr.nil n0
  refine own_open (own_ef5 m j ((3 : Int32))) ?_
  refine s_aloadN X0 hx (hb hby od657) rfl rfl  ?_
  obtain ⟨T1, X1, e1, st1⟩ := getF X0 hx hZ hown (host := "") (Or.inl (ow hw 298 rfl)) Via.refl e0 Fpg (g := (mkF m 1 #[rv j, iv 3] [.ref j])) rfl rfl (hb hby od658)
  refine og T1 4 #[rv j, iv 3] [.ref pg] st1 ?_
  refine s_aloadN X1 hx (hb hby od659) rfl rfl  ?_
  obtain ⟨T2, X2, e2, st2⟩ := getF X1 hx hZ hown (host := "") (Or.inl (ow hw 298 rfl)) Via.refl e1 Fpg (g := (mkF m 5 #[rv j, iv 3] [.ref j, .ref pg])) rfl rfl (hb hby od660)
  refine og T2 8 #[rv j, iv 3] [.ref pg, .ref pg] st2 ?_
  have vv3 := V
  obtain ⟨cl3, Ar3, qa3, Sz3, Ng3, Ha3, Ga3⟩ := vv3
  refine og T2 9 #[rv j, iv 3] [(.int cl3.slots.size.toInt32), .ref pg] (fun _ k => X2.arraylength hx (by rw [e2]; exact Ar3.1) (State.isArrayOf_alike hZ.alike Ar3.2.1) (g := (mkF m 8 #[rv j, iv 3] [.ref pg, .ref pg])) rfl rfl (hb hby od661) _ k) ?_
  rw [len_of Sz3 Ng3]
  refine s_iloadN X2 hx (hb hby od662) rfl  ?_
  refine og T2 11 #[rv j, iv 3] [.int 0, .ref pg] (fun _ k => XS.isub X2.here hx rfl (hb hby od663) rfl k) ?_
  have vv4 := V
  obtain ⟨cl4, Ar4, qa4, Sz4, Ng4, Ha4, Ga4⟩ := vv4
  have hin4 : ¬ ((0 : Int32) < 0 ∨ cl4.slots.size ≤ ((0 : Int32)).toNatClampNeg) := inb_of Sz4 ⟨by decide, by decide⟩
  refine og T2 12 #[rv j, iv 3] [.int x1] (fun _ k => X2.iaload hx (j := (0 : Int32)) (v := (.int x1)) (by rw [e2]; exact Ar4.1) (State.isArrayOf_alike hZ.alike Ar4.2.1) Ar4.2.2 hin4 (Ha4.at hin4 rfl) (g := (mkF m 11 #[rv j, iv 3] [.int 0, .ref pg])) rfl rfl (hb hby od664) _ k) ?_
  refine own_retI X2 hx hlk hret (hb hby od665) ?_ (by decide) (by decide)
  rw [e2]
  exact ⟨rfl, N0, rfl⟩
set_option maxRecDepth 65536 in
set_option maxHeartbeats 40000000 in
theorem own_rm0 (l : Launch) (Z : State) (a0 : Array Value) (hw : ∀ d ∈ tables_1, d.before a0 Z = true) (ga : Int32) (gb : Int32) (gc : Int32) (lv : Int32) (dd ca : Addr) (cl : Cell) (cs : Int32) (h0 : Heap) (n0 : Nat) (Z0 : n0 ≤ h0.size) (SD : Sta Z h0 "java/util/ArrayList" "DEFAULTCAPACITY_EMPTY_ELEMENTDATA" "[Ljava/lang/Object;" (.ref dd)) (SC : Sta Z h0 "java/lang/String" "COMPACT_STRINGS" "Z" (.int cs)) (SH : Sta Z h0 "java/lang/Integer$IntegerCache" "high" "I" (.int 127)) (SA : Sta Z h0 "java/lang/Integer$IntegerCache" "cache" "[Ljava/lang/Integer;" (.ref ca)) (O : Old Z n0 h0) (B : Bxs Z ca cl "java/lang/Integer" "I" 256 (fun j => .int (j - 128))) (hcs : ¬ cs = (0 : Int32)) :
    own_C l Z x code maxLocals ret tables_1 room_1 #[.int ga, .int gb, .int gc, .int lv] h0 (own_Q0 n0) := by
  refine MetFree.of_bodySF (plainFor_of_name own_pn16) hisR ?_
  intro p e s m args below meth c s₁ Bd hml hP hK
  obtain ⟨rfl, hZ, hh⟩ := hP
  obtain ⟨hx, hby, hlk, hret, hown, hnm, X0, e0⟩ := own_hd Bd hh
  have N0 := Fr.nil n0
  refine own_open (own_ef18 m ga gb gc lv) ?_
  obtain ⟨T1, h1, X1, e1, E1, A1, D1, -, st1⟩ := newO X0 hx hZ hown (ow hw 0 rfl) (ow hw 1 rfl) (ow hw 2 rfl) e0 (g := (mkF m 0 #[iv ga, iv gb, iv gc, iv lv, .unset, .unset, .unset, .unset, .unset, .unset, .unset, .unset, .unset, .unset, .unset] [])) rfl (hb hby at_0) (by decide) (by decide)
  obtain ⟨al, g1⟩ : ∃ z, z = h0.size := ⟨_, rfl⟩
  rw [← g1] at A1 D1 st1
  refine og T1 3 #[iv ga, iv gb, iv gc, iv lv, .unset, .unset, .unset, .unset, .unset, .unset, .unset, .unset, .unset, .unset, .unset] [.ref al] st1 ?_
  have sz_al : h0.size ≤ al := Nat.le_trans (Keep.refl h0 []).1 (Nat.le_of_eq g1.symm)
  have gn_al : n0 ≤ al := Nat.le_trans Z0 sz_al
  have c2_SD := SD.ext E1
  have c2_SC := SC.ext E1
  have c2_SH := SH.ext E1
  have c2_SA := SA.ext E1
  have c2_O := O.ext E1
  have K1 := (Keep.refl h0 []).ext E1
  refine s_dup X1 hx (hb hby at_3) rfl ?_
  obtain ⟨_, _, ⟨T3, L3, k3, n3⟩, -, X3, ⟨Lc3, hQ3, l3, y3, z3⟩, st3⟩ := X1.specialBack hx (y := (⟨"java/util/ArrayList", "<init>", "()V"⟩ : MethodName)) rfl hown (mvT hZ (ow hw 3 rfl)) (mvT hZ (ow hw 4 rfl)) (mvT hZ (ow hw 5 rfl)) (by decide) (backOf (W := 1) (own_ini l Z a0 hw al dd h1 n0 (Nat.le_trans Z0 K1.1) A1 (D1 (Or.inl (ow hw 22 rfl)) (ty := .int) (by decide)) (D1 (Or.inl (ow hw 25 rfl)) (ty := (.array (.object "java/lang/Object"))) (by decide)) (D1 (Or.inl (ow hw 168 rfl)) (ty := .int) (by decide)) c2_SD gn_al) hZ (ow hw 5 rfl) (ow hw 2 rfl) (by decide) (by decide)) (g := (mkF m 4 #[iv ga, iv gb, iv gc, iv lv, .unset, .unset, .unset, .unset, .unset, .unset, .unset, .unset, .unset, .unset, .unset] [.ref al, .ref al])) rfl (by rw [hml]; rfl) (Steps.refl _) (a := al) (argsL := []) (rest := [.ref al]) (lenOf own_pd0 rfl) rfl (by show 2 * 0 + _ ≤ _; exact Nat.le_of_eq rfl) (hb hby at_4) (fun _ _ => ⟨rfl, e1, (by decide : 1 + 0 ≤ _), (by decide : 3 + 0 ≤ _)⟩)
  dsimp only [Pt.U, Pt.locs, Pt.cells, Pt.slots] at X3 l3 y3 z3 st3 hQ3
  subst y3 z3
  obtain ⟨rfl, N3q, Kc3, E3c, F3c⟩ := hQ3
  have N3 := frE l3 N0 N3q
  refine ov T3 7 #[iv ga, iv gb, iv gc, iv lv, .unset, .unset, .unset, .unset, .unset, .unset, .unset, .unset, .unset, .unset, .unset] [.ref al] st3 ?_
  have c4_SC := own_Sk c2_SC Kc3 (allS A1.own_nst all0)
  have c4_SH := own_Sk c2_SH Kc3 (allS A1.own_nst all0)
  have c4_SA := own_Sk c2_SA Kc3 (allS A1.own_nst all0)
  have c4_O := c2_O.keep Kc3 (allS gn_al all0)
  have K3x := K1.trans Kc3 (allS (Or.inr sz_al) all0)
  refine og T3 9 #[iv ga, iv gb, iv gc, iv lv, rv al, .unset, .unset, .unset, .unset, .unset, .unset, .unset, .unset, .unset, .unset] [] (fun _ k => XS.astore X3.here hx rfl (hb hby at_7) rfl rfl (l' := #[iv ga, iv gb, iv gc, iv lv, rv al, .unset, .unset, .unset, .unset, .unset, .unset, .unset, .unset, .unset, .unset]) rfl k) ?_
  obtain ⟨T5, h5, X5, e5, E5, A5, D5, -, st5⟩ := newO X3 hx hZ hown (ow hw 26 rfl) (ow hw 27 rfl) (ow hw 28 rfl) rfl (g := (mkF m 9 #[iv ga, iv gb, iv gc, iv lv, rv al, .unset, .unset, .unset, .unset, .unset, .unset, .unset, .unset, .unset, .unset] [])) rfl (hb hby at_9) (by decide) (by decide)
  obtain ⟨hm, g5⟩ : ∃ z, z = T3.heap.size := ⟨_, rfl⟩
  rw [← g5] at A5 D5 st5
  refine og T5 12 #[iv ga, iv gb, iv gc, iv lv, rv al, .unset, .unset, .unset, .unset, .unset, .unset, .unset, .unset, .unset, .unset] [.ref hm] st5 ?_
  have sz_hm : h0.size ≤ hm := Nat.le_trans K3x.1 (Nat.le_of_eq g5.symm)
  have gn_hm : n0 ≤ hm := Nat.le_trans Z0 sz_hm
  have ne_al_hm : al ≠ hm := Nat.ne_of_lt (Nat.lt_of_lt_of_le E3c.lt (Nat.le_of_eq g5.symm))
  have c6_SC := c4_SC.ext E5
  have c6_SH := c4_SH.ext E5
  have c6_SA := c4_SA.ext E5
  have c6_O := c4_O.ext E5
  have c6_E_a := E3c.ext E5
  have c6_Fs := F3c.ext E5
  have K5 := K3x.ext E5
  refine s_dup X5 hx (hb hby at_12) rfl ?_
  obtain ⟨_, _, ⟨T7, L7, k7, n7⟩, -, X7, ⟨Lc7, hQ7, l7, y7, z7⟩, st7⟩ := X5.specialBack hx (y := (⟨"java/util/HashMap", "<init>", "()V"⟩ : MethodName)) rfl hown (mvT hZ (ow hw 29 rfl)) (mvT hZ (ow hw 30 rfl)) (mvT hZ (ow hw 31 rfl)) (by decide) (backOf (W := 1) (own_hmi l Z a0 hw hm h5 n0 (Nat.le_trans Z0 K5.1) A5 (D5 (Or.inl (ow hw 109 rfl)) (ty := (.array (.object "java/util/HashMap$Node"))) (by decide)) (D5 (Or.inl (ow hw 142 rfl)) (ty := .int) (by decide)) (D5 (Or.inl (ow hw 140 rfl)) (ty := .int) (by decide)) (D5 (Or.inl (ow hw 116 rfl)) (ty := .int) (by decide)) (D5 (Or.inl (ow hw 184 rfl)) (ty := (.object "java/util/Collection")) (by decide)) (D5 (Or.inr (ow hw 41 rfl)) (ty := .float) (by decide)) gn_hm) hZ (ow hw 31 rfl) (ow hw 28 rfl) (by decide) (by decide)) (g := (mkF m 13 #[iv ga, iv gb, iv gc, iv lv, rv al, .unset, .unset, .unset, .unset, .unset, .unset, .unset, .unset, .unset, .unset] [.ref hm, .ref hm])) rfl (by rw [hml]; rfl) (Steps.refl _) (a := hm) (argsL := []) (rest := [.ref hm]) (lenOf own_pd0 rfl) rfl (by show 2 * 0 + _ ≤ _; exact Nat.le_of_eq rfl) (hb hby at_13) (fun _ _ => ⟨rfl, e5, (by decide : 2 + 0 ≤ _), (by decide : 11 + 0 ≤ _)⟩)
  dsimp only [Pt.U, Pt.locs, Pt.cells, Pt.slots] at X7 l7 y7 z7 st7 hQ7
  subst y7 z7
  obtain ⟨rfl, N7q, Kc7, H7c⟩ := hQ7
  have N7 := frE l7 N3 N7q
  refine ov T7 16 #[iv ga, iv gb, iv gc, iv lv, rv al, .unset, .unset, .unset, .unset, .unset, .unset, .unset, .unset, .unset, .unset] [.ref hm] st7 ?_
  have c8_SC := own_Sk c6_SC Kc7 (allS A5.own_nst all0)
  have c8_SH := own_Sk c6_SH Kc7 (allS A5.own_nst all0)
  have c8_SA := own_Sk c6_SA Kc7 (allS A5.own_nst all0)
  have c8_O := c6_O.keep Kc7 (allS gn_hm all0)
  have c8_E_a := c6_E_a.keep Kc7
  have c8_Fs := c6_Fs.keep Kc7 (ninS ne_al_hm nin0)
  have K7x := K5.trans Kc7 (allS (Or.inr sz_hm) all0)
  refine og T7 18 #[iv ga, iv gb, iv gc, iv lv, rv al, rv hm, .unset, .unset, .unset, .unset, .unset, .unset, .unset, .unset, .unset] [] (fun _ k => XS.astore X7.here hx rfl (hb hby at_16) rfl rfl (l' := #[iv ga, iv gb, iv gc, iv lv, rv al, rv hm, .unset, .unset, .unset, .unset, .unset, .unset, .unset, .unset, .unset]) rfl k) ?_
  refine s_aload X7 hx (hb hby at_18) rfl rfl  ?_
  refine s_bipush 97 X7 hx (hb hby at_20) rfl ?_
  obtain ⟨_, _, ⟨T9, L9, k9, n9⟩, -, X9, ⟨Lc9, hQ9, l9, y9, z9⟩, st9⟩ := Jvm.LawKit.callS X7 hx hown (mvT hZ (ow hw 42 rfl)) (mvT hZ (ow hw 43 rfl)) (mvT hZ (ow hw 44 rfl)) (mvT hZ (ow hw 45 rfl)) (by decide) (backOf (W := 1) (own_vc97 l Z a0 hw cs T7.heap n0 (Nat.le_trans Z0 K7x.1) c8_SC hcs) hZ (ow hw 45 rfl) (ow hw 44 rfl) (by decide) (by decide)) (g := (mkF m 22 #[iv ga, iv gb, iv gc, iv lv, rv al, rv hm, .unset, .unset, .unset, .unset, .unset, .unset, .unset, .unset, .unset] [.int 97, .ref hm])) rfl (by rw [hml]; rfl) (argsL := [.int 97]) (rest := [.ref hm]) (lenOf own_pd26 rfl) rfl (by show 2 * 0 + _ ≤ _; exact Nat.le_of_eq rfl) (hb hby at_22) (fun _ _ => ⟨rfl, rfl, (by decide : 2 + 2 ≤ _), (by decide : 11 + 5 ≤ _)⟩)
  dsimp only [Pt.U, Pt.locs, Pt.cells, Pt.slots] at X9 l9 y9 z9 st9 hQ9
  subst y9 z9
  obtain ⟨ky1, ar1, kb1, rfl, N9q, Kc9, S9c, V9c, s9c⟩ := hQ9
  have N9 := frE l9 N7 N9q
  refine og T9 25 #[iv ga, iv gb, iv gc, iv lv, rv al, rv hm, .unset, .unset, .unset, .unset, .unset, .unset, .unset, .unset, .unset] [.ref ky1, .ref hm] st9 ?_
  have sz_ky1 : h0.size ≤ ky1 := Nat.le_trans K7x.1 s9c
  have gn_ky1 : n0 ≤ ky1 := Nat.le_trans Z0 sz_ky1
  have ne_al_ky1 : al ≠ ky1 := Nat.ne_of_lt (Nat.lt_of_lt_of_le c8_E_a.lt s9c)
  have ne_hm_ky1 : hm ≠ ky1 := Nat.ne_of_lt (Nat.lt_of_lt_of_le H7c.1.lt s9c)
  have c10_SC := own_Sk c8_SC Kc9 all0
  have c10_SH := own_Sk c8_SH Kc9 all0
  have c10_SA := own_Sk c8_SA Kc9 all0
  have c10_O := c8_O.keep Kc9 all0
  have c10_E_a := c8_E_a.keep Kc9
  have c10_Fs := c8_Fs.keep Kc9 nin0
  have c10_HB := H7c.keep Kc9 nin0
  have K9x := K7x.trans Kc9 all0
  obtain ⟨s11_E_x, s11_F1, s11_F2, s11_F3, s11_F4⟩ := S9c
  refine s_iloadN X9 hx (hb hby at_25) rfl  ?_
  obtain ⟨_, _, ⟨T12, L12, k12, n12⟩, -, X12, ⟨Lc12, hQ12, l12, y12, z12⟩, st12⟩ := Jvm.LawKit.callS X9 hx hown (mvT hZ (ow hw 66 rfl)) (mvT hZ (ow hw 67 rfl)) (mvT hZ (ow hw 68 rfl)) (mvT hZ (ow hw 69 rfl)) (by decide) (backOf (W := 2) (own_vi l Z a0 hw ga ca cl T9.heap n0 (Nat.le_trans Z0 K9x.1) c10_SH c10_SA B c10_O) hZ (ow hw 69 rfl) (ow hw 68 rfl) (by decide) (by decide)) (g := (mkF m 26 #[iv ga, iv gb, iv gc, iv lv, rv al, rv hm, .unset, .unset, .unset, .unset, .unset, .unset, .unset, .unset, .unset] [.int ga, .ref ky1, .ref hm])) rfl (by rw [hml]; rfl) (argsL := [.int ga]) (rest := [.ref ky1, .ref hm]) (lenOf own_pd27 rfl) rfl (by show 2 * 0 + _ ≤ _; exact Nat.le_of_eq rfl) (hb hby at_26) (fun _ _ => ⟨rfl, rfl, (by decide : 4 + 1 ≤ _), (by decide : 16 + 1 ≤ _)⟩)
  dsimp only [Pt.U, Pt.locs, Pt.cells, Pt.slots] at X12 l12 y12 z12 st12 hQ12
  subst y12 z12
  obtain ⟨v1, rfl, N12q, Kc12, E12c, F12c⟩ := hQ12
  have N12 := frE l12 N9 N12q
  refine og T12 29 #[iv ga, iv gb, iv gc, iv lv, rv al, rv hm, .unset, .unset, .unset, .unset, .unset, .unset, .unset, .unset, .unset] [.ref v1, .ref ky1, .ref hm] st12 ?_
  have c13_SC := own_Sk c10_SC Kc12 all0
  have c13_SH := own_Sk c10_SH Kc12 all0
  have c13_SA := own_Sk c10_SA Kc12 all0
  have c13_O := c10_O.keep Kc12 all0
  have c13_E_a := c10_E_a.keep Kc12
  have c13_Fs := c10_Fs.keep Kc12 nin0
  have c13_HB := c10_HB.keep Kc12 nin0
  have c13_kE_x := s11_E_x.keep Kc12
  have c13_kF1 := s11_F1.keep Kc12 nin0
  have c13_kF2 := s11_F2.keep Kc12 nin0
  have c13_kF3 := s11_F3.keep Kc12 nin0
  have c13_kF4 := s11_F4.keep Kc12 nin0
  have c13_VB := V9c.keep Kc12 nin0
  have K12x := K9x.trans Kc12 all0
  obtain ⟨cq14, kq14, q14a, q14b, q14c⟩ := isOf hZ rfl (c13_HB.1)
  obtain ⟨_, _, ⟨T14, L14, k14, n14⟩, -, X14, ⟨Lc14, hQ14, l14, y14, z14⟩, st14⟩ := X12.interfaceBack hx hown (mvT hZ (ow hw 73 rfl)) (mvT hZ (ow hw 74 rfl)) (mvT hZ (ow hw 75 rfl)) (mvT hZ (ow hw 76 rfl)) (mvT hZ (ow hw 77 rfl)) (mvT hZ (ow hw 78 rfl)) (mvT hZ (ow hw 79 rfl)) (mvT hZ (ow hw 80 rfl)) (by decide) (backOf (W := 0) (own_put1 l Z a0 hw hm ky1 v1  ar1 kb1 cs T12.heap n0 (Nat.le_trans Z0 K12x.1) c13_HB.1 c13_HB.2.1 c13_HB.2.2.1 c13_HB.2.2.2.1 c13_HB.2.2.2.2.1 c13_HB.2.2.2.2.2 c13_kE_x c13_kF1 c13_kF2 c13_kF3 c13_kF4 c13_VB c13_SC  gn_hm hcs gn_ky1) hZ (ow hw 81 rfl) (ow hw 28 rfl) (by decide) (by decide)) q14a q14b q14c (g := (mkF m 29 #[iv ga, iv gb, iv gc, iv lv, rv al, rv hm, .unset, .unset, .unset, .unset, .unset, .unset, .unset, .unset, .unset] [.ref v1, .ref ky1, .ref hm])) rfl (by rw [hml]; rfl) (Steps.refl _) (argsL := [.ref ky1, .ref v1]) (rest := []) (lenOf own_pd28 rfl) rfl (by show 2 * 0 + _ ≤ _; exact Nat.le_of_eq rfl) (hb hby at_29) (fun _ _ => ⟨rfl, rfl, (by decide : 5 + 2 ≤ _), (by decide : 17 + 20 ≤ _)⟩)
  dsimp only [Pt.U, Pt.locs, Pt.cells, Pt.slots] at X14 l14 y14 z14 st14 hQ14
  subst y14 z14
  obtain ⟨rfl, N14q, Kc14, tb, kt, n1, H14c, V14c, Ov, N14c, st14c, sn14c⟩ := hQ14
  have N14 := frE l14 N12 N14q
  refine ov T14 34 #[iv ga, iv gb, iv gc, iv lv, rv al, rv hm, .unset, .unset, .unset, .unset, .unset, .unset, .unset, .unset, .unset] [.null] st14 ?_
  have sz_tb : h0.size ≤ tb := Nat.le_trans K12x.1 st14c
  have c15_SC := own_Sk c13_SC Kc14 (allS c13_kE_x.own_nst (allS c13_HB.1.own_nst all0))
  have c15_SH := own_Sk c13_SH Kc14 (allS c13_kE_x.own_nst (allS c13_HB.1.own_nst all0))
  have c15_SA := own_Sk c13_SA Kc14 (allS c13_kE_x.own_nst (allS c13_HB.1.own_nst all0))
  have c15_O := c13_O.keep Kc14 (allS gn_ky1 (allS gn_hm all0))
  have c15_E_a := c13_E_a.keep Kc14
  have c15_Fs := c13_Fs.keep Kc14 (ninS ne_al_ky1 (ninS ne_al_hm nin0))
  have c15_Eb1 := E12c.keep Kc14
  have c15_Fb1 := F12c.keep Kc14 (ninS (ne_exa E12c c13_kE_x (by decide)) (ninS (ne_exa E12c c13_HB.1 (by decide)) nin0))
  have K14x := K12x.trans Kc14 (allS (Or.inr sz_ky1) (allS (Or.inr sz_hm) all0))
  have nb1 : own_NB Z T14.heap n1 v1 ga := ⟨N14c, c15_Eb1, c15_Fb1⟩
  refine s_pop X14 hx (hb hby at_34) rfl ?_
  refine s_aload X14 hx (hb hby at_35) rfl rfl  ?_
  refine s_bipush 98 X14 hx (hb hby at_37) rfl ?_
  obtain ⟨_, _, ⟨T16, L16, k16, n16⟩, -, X16, ⟨Lc16, hQ16, l16, y16, z16⟩, st16⟩ := Jvm.LawKit.callS X14 hx hown (mvT hZ (ow hw 42 rfl)) (mvT hZ (ow hw 43 rfl)) (mvT hZ (ow hw 44 rfl)) (mvT hZ (ow hw 45 rfl)) (by decide) (backOf (W := 1) (own_vc98 l Z a0 hw cs T14.heap n0 (Nat.le_trans Z0 K14x.1) c15_SC hcs) hZ (ow hw 45 rfl) (ow hw 44 rfl) (by decide) (by decide)) (g := (mkF m 39 #[iv ga, iv gb, iv gc, iv lv, rv al, rv hm, .unset, .unset, .unset, .unset, .unset, .unset, .unset, .unset, .unset] [.int 98, .ref hm])) rfl (by rw [hml]; rfl) (argsL := [.int 98]) (rest := [.ref hm]) (lenOf own_pd26 rfl) rfl (by show 2 * 0 + _ ≤ _; exact Nat.le_of_eq rfl) (hb hby at_39) (fun _ _ => ⟨rfl, rfl, (by decide : 7 + 2 ≤ _), (by decide : 37 + 5 ≤ _)⟩)
  dsimp only [Pt.U, Pt.locs, Pt.cells, Pt.slots] at X16 l16 y16 z16 st16 hQ16
  subst y16 z16
  obtain ⟨ky2, ar2, kb2, rfl, N16q, Kc16, S16c, V16c, s16c⟩ := hQ16
  have N16 := frE l16 N14 N16q
  refine og T16 42 #[iv ga, iv gb, iv gc, iv lv, rv al, rv hm, .unset, .unset, .unset, .unset, .unset, .unset, .unset, .unset, .unset] [.ref ky2, .ref hm] st16 ?_
  have sz_ky2 : h0.size ≤ ky2 := Nat.le_trans K14x.1 s16c
  have gn_ky2 : n0 ≤ ky2 := Nat.le_trans Z0 sz_ky2
  have ne_al_ky2 : al ≠ ky2 := Nat.ne_of_lt (Nat.lt_of_lt_of_le c15_E_a.lt s16c)
  have ne_hm_ky2 : hm ≠ ky2 := Nat.ne_of_lt (Nat.lt_of_lt_of_le H14c.1.lt s16c)
  have ne_tb_ky2 : tb ≠ ky2 := Nat.ne_of_lt (Nat.lt_of_lt_of_le V14c.lt s16c)
  have ne_n1_ky2 : n1 ≠ ky2 := Nat.ne_of_lt (Nat.lt_of_lt_of_le nb1.1.1.lt s16c)
  have ne_v1_ky2 : v1 ≠ ky2 := Nat.ne_of_lt (Nat.lt_of_lt_of_le nb1.2.1.lt s16c)
  have c17_SC := own_Sk c15_SC Kc16 all0
  have c17_SH := own_Sk c15_SH Kc16 all0
  have c17_SA := own_Sk c15_SA Kc16 all0
  have c17_O := c15_O.keep Kc16 all0
  have c17_E_a := c15_E_a.keep Kc16
  have c17_Fs := c15_Fs.keep Kc16 nin0
  have c17_HB := H14c.keep Kc16 nin0
  have c17_V := V14c.keep Kc16 nin0
  have c17_NB1 := nb1.keep Kc16 nin0 nin0
  have K16x := K14x.trans Kc16 all0
  obtain ⟨s18_E_x, s18_F1, s18_F2, s18_F3, s18_F4⟩ := S16c
  refine s_iloadN X16 hx (hb hby at_42) rfl  ?_
  obtain ⟨_, _, ⟨T19, L19, k19, n19⟩, -, X19, ⟨Lc19, hQ19, l19, y19, z19⟩, st19⟩ := Jvm.LawKit.callS X16 hx hown (mvT hZ (ow hw 66 rfl)) (mvT hZ (ow hw 67 rfl)) (mvT hZ (ow hw 68 rfl)) (mvT hZ (ow hw 69 rfl)) (by decide) (backOf (W := 2) (own_vi l Z a0 hw gb ca cl T16.heap n0 (Nat.le_trans Z0 K16x.1) c17_SH c17_SA B c17_O) hZ (ow hw 69 rfl) (ow hw 68 rfl) (by decide) (by decide)) (g := (mkF m 43 #[iv ga, iv gb, iv gc, iv lv, rv al, rv hm, .unset, .unset, .unset, .unset, .unset, .unset, .unset, .unset, .unset] [.int gb, .ref ky2, .ref hm])) rfl (by rw [hml]; rfl) (argsL := [.int gb]) (rest := [.ref ky2, .ref hm]) (lenOf own_pd27 rfl) rfl (by show 2 * 0 + _ ≤ _; exact Nat.le_of_eq rfl) (hb hby at_43) (fun _ _ => ⟨rfl, rfl, (by decide : 9 + 1 ≤ _), (by decide : 42 + 1 ≤ _)⟩)
  dsimp only [Pt.U, Pt.locs, Pt.cells, Pt.slots] at X19 l19 y19 z19 st19 hQ19
  subst y19 z19
  obtain ⟨v2, rfl, N19q, Kc19, E19c, F19c⟩ := hQ19
  have N19 := frE l19 N16 N19q
  refine og T19 46 #[iv ga, iv gb, iv gc, iv lv, rv al, rv hm, .unset, .unset, .unset, .unset, .unset, .unset, .unset, .unset, .unset] [.ref v2, .ref ky2, .ref hm] st19 ?_
  have c20_SC := own_Sk c17_SC Kc19 all0
  have c20_SH := own_Sk c17_SH Kc19 all0
  have c20_SA := own_Sk c17_SA Kc19 all0
  have c20_O := c17_O.keep Kc19 all0
  have c20_E_a := c17_E_a.keep Kc19
  have c20_Fs := c17_Fs.keep Kc19 nin0
  have c20_HB := c17_HB.keep Kc19 nin0
  have c20_V := c17_V.keep Kc19 nin0
  have c20_NB1 := c17_NB1.keep Kc19 nin0 nin0
  have c20_kE_x := s18_E_x.keep Kc19
  have c20_kF1 := s18_F1.keep Kc19 nin0
  have c20_kF2 := s18_F2.keep Kc19 nin0
  have c20_kF3 := s18_F3.keep Kc19 nin0
  have c20_kF4 := s18_F4.keep Kc19 nin0
  have c20_VB := V16c.keep Kc19 nin0
  have K19x := K16x.trans Kc19 all0
  obtain ⟨cq21, kq21, q21a, q21b, q21c⟩ := isOf hZ rfl (c20_HB.1)
  obtain ⟨_, _, ⟨T21, L21, k21, n21⟩, -, X21, ⟨Lc21, hQ21, l21, y21, z21⟩, st21⟩ := X19.interfaceBack hx hown (mvT hZ (ow hw 73 rfl)) (mvT hZ (ow hw 74 rfl)) (mvT hZ (ow hw 75 rfl)) (mvT hZ (ow hw 76 rfl)) (mvT hZ (ow hw 77 rfl)) (mvT hZ (ow hw 78 rfl)) (mvT hZ (ow hw 79 rfl)) (mvT hZ (ow hw 80 rfl)) (by decide) (backOf (W := 0) (own_put2 l Z a0 hw hm ky2 v2 tb kt n1 ar2 kb2 cs T19.heap n0 (Nat.le_trans Z0 K19x.1) c20_HB.1 c20_HB.2.1 c20_HB.2.2.1 c20_HB.2.2.2.1 c20_HB.2.2.2.2.1 c20_HB.2.2.2.2.2 c20_V c20_kE_x c20_kF1 c20_kF2 c20_kF3 c20_kF4 c20_VB c20_SC Ov (Nat.le_trans Z0 sz_tb) gn_hm hcs gn_ky2) hZ (ow hw 81 rfl) (ow hw 28 rfl) (by decide) (by decide)) q21a q21b q21c (g := (mkF m 46 #[iv ga, iv gb, iv gc, iv lv, rv al, rv hm, .unset, .unset, .unset, .unset, .unset, .unset, .unset, .unset, .unset] [.ref v2, .ref ky2, .ref hm])) rfl (by rw [hml]; rfl) (Steps.refl _) (argsL := [.ref ky2, .ref v2]) (rest := []) (lenOf own_pd28 rfl) rfl (by show 2 * 0 + _ ≤ _; exact Nat.le_of_eq rfl) (hb hby at_46) (fun _ _ => ⟨rfl, rfl, (by decide : 10 + 1 ≤ _), (by decide : 43 + 4 ≤ _)⟩)
  dsimp only [Pt.U, Pt.locs, Pt.cells, Pt.slots] at X21 l21 y21 z21 st21 hQ21
  subst y21 z21
  obtain ⟨rfl, N21q, Kc21, n2, H21c, V21c, N21c, sn21c⟩ := hQ21
  have N21 := frE l21 N19 N21q
  refine ov T21 51 #[iv ga, iv gb, iv gc, iv lv, rv al, rv hm, .unset, .unset, .unset, .unset, .unset, .unset, .unset, .unset, .unset] [.null] st21 ?_
  have c22_SC := own_Sk c20_SC Kc21 (allS c20_kE_x.own_nst (allS c20_HB.1.own_nst (allS c20_V.own_nst all0)))
  have c22_SH := own_Sk c20_SH Kc21 (allS c20_kE_x.own_nst (allS c20_HB.1.own_nst (allS c20_V.own_nst all0)))
  have c22_SA := own_Sk c20_SA Kc21 (allS c20_kE_x.own_nst (allS c20_HB.1.own_nst (allS c20_V.own_nst all0)))
  have c22_O := c20_O.keep Kc21 (allS gn_ky2 (allS gn_hm (allS (Nat.le_trans Z0 sz_tb) all0)))
  have c22_E_a := c20_E_a.keep Kc21
  have c22_Fs := c20_Fs.keep Kc21 (ninS ne_al_ky2 (ninS ne_al_hm (ninS (own_nea c20_E_a c20_V (ow hw 1 rfl)) nin0)))
  have c22_NB1 := c20_NB1.keep Kc21 (ninS ne_n1_ky2 (ninS (ne_exa c20_NB1.1.1 c20_HB.1 (by decide)) (ninS (own_nea c20_NB1.1.1 c20_V (ow hw 124 rfl)) nin0))) (ninS ne_v1_ky2 (ninS (ne_exa c20_NB1.2.1 c20_HB.1 (by decide)) (ninS (own_nea c20_NB1.2.1 c20_V (ow hw 337 rfl)) nin0)))
  have c22_Eb2 := E19c.keep Kc21
  have c22_Fb2 := F19c.keep Kc21 (ninS (ne_exa E19c c20_kE_x (by decide)) (ninS (ne_exa E19c c20_HB.1 (by decide)) (ninS (own_nea E19c c20_V (ow hw 337 rfl)) nin0)))
  have K21x := K19x.trans Kc21 (allS (Or.inr sz_ky2) (allS (Or.inr sz_hm) (allS (Or.inr sz_tb) all0)))
  have nb2 : own_NB Z T21.heap n2 v2 gb := ⟨N21c, c22_Eb2, c22_Fb2⟩
  refine s_pop X21 hx (hb hby at_51) rfl ?_
  refine s_aload X21 hx (hb hby at_52) rfl rfl  ?_
  refine s_bipush 99 X21 hx (hb hby at_54) rfl ?_
  obtain ⟨_, _, ⟨T23, L23, k23, n23⟩, -, X23, ⟨Lc23, hQ23, l23, y23, z23⟩, st23⟩ := Jvm.LawKit.callS X21 hx hown (mvT hZ (ow hw 42 rfl)) (mvT hZ (ow hw 43 rfl)) (mvT hZ (ow hw 44 rfl)) (mvT hZ (ow hw 45 rfl)) (by decide) (backOf (W := 1) (own_vc99 l Z a0 hw cs T21.heap n0 (Nat.le_trans Z0 K21x.1) c22_SC hcs) hZ (ow hw 45 rfl) (ow hw 44 rfl) (by decide) (by decide)) (g := (mkF m 56 #[iv ga, iv gb, iv gc, iv lv, rv al, rv hm, .unset, .unset, .unset, .unset, .unset, .unset, .unset, .unset, .unset] [.int 99, .ref hm])) rfl (by rw [hml]; rfl) (argsL := [.int 99]) (rest := [.ref hm]) (lenOf own_pd26 rfl) rfl (by show 2 * 0 + _ ≤ _; exact Nat.le_of_eq rfl) (hb hby at_56) (fun _ _ => ⟨rfl, rfl, (by decide : 11 + 2 ≤ _), (by decide : 47 + 5 ≤ _)⟩)
  dsimp only [Pt.U, Pt.locs, Pt.cells, Pt.slots] at X23 l23 y23 z23 st23 hQ23
  subst y23 z23
  obtain ⟨ky3, ar3, kb3, rfl, N23q, Kc23, S23c, V23c, s23c⟩ := hQ23
  have N23 := frE l23 N21 N23q
  refine og T23 59 #[iv ga, iv gb, iv gc, iv lv, rv al, rv hm, .unset, .unset, .unset, .unset, .unset, .unset, .unset, .unset, .unset] [.ref ky3, .ref hm] st23 ?_
  have sz_ky3 : h0.size ≤ ky3 := Nat.le_trans K21x.1 s23c
  have gn_ky3 : n0 ≤ ky3 := Nat.le_trans Z0 sz_ky3
  have ne_al_ky3 : al ≠ ky3 := Nat.ne_of_lt (Nat.lt_of_lt_of_le c22_E_a.lt s23c)
  have ne_n1_ky3 : n1 ≠ ky3 := Nat.ne_of_lt (Nat.lt_of_lt_of_le c22_NB1.1.1.lt s23c)
  have ne_v1_ky3 : v1 ≠ ky3 := Nat.ne_of_lt (Nat.lt_of_lt_of_le c22_NB1.2.1.lt s23c)
  have ne_hm_ky3 : hm ≠ ky3 := Nat.ne_of_lt (Nat.lt_of_lt_of_le H21c.1.lt s23c)
  have ne_tb_ky3 : tb ≠ ky3 := Nat.ne_of_lt (Nat.lt_of_lt_of_le V21c.lt s23c)
  have ne_n2_ky3 : n2 ≠ ky3 := Nat.ne_of_lt (Nat.lt_of_lt_of_le nb2.1.1.lt s23c)
  have ne_v2_ky3 : v2 ≠ ky3 := Nat.ne_of_lt (Nat.lt_of_lt_of_le nb2.2.1.lt s23c)
  have c24_SC := own_Sk c22_SC Kc23 all0
  have c24_SH := own_Sk c22_SH Kc23 all0
  have c24_SA := own_Sk c22_SA Kc23 all0
  have c24_O := c22_O.keep Kc23 all0
  have c24_E_a := c22_E_a.keep Kc23
  have c24_Fs := c22_Fs.keep Kc23 nin0
  have c24_NB1 := c22_NB1.keep Kc23 nin0 nin0
  have c24_HB := H21c.keep Kc23 nin0
  have c24_V := V21c.keep Kc23 nin0
  have c24_NB2 := nb2.keep Kc23 nin0 nin0
  have K23x := K21x.trans Kc23 all0
  obtain ⟨s25_E_x, s25_F1, s25_F2, s25_F3, s25_F4⟩ := S23c
  refine s_iloadN X23 hx (hb hby at_59) rfl  ?_
  obtain ⟨_, _, ⟨T26, L26, k26, n26⟩, -, X26, ⟨Lc26, hQ26, l26, y26, z26⟩, st26⟩ := Jvm.LawKit.callS X23 hx hown (mvT hZ (ow hw 66 rfl)) (mvT hZ (ow hw 67 rfl)) (mvT hZ (ow hw 68 rfl)) (mvT hZ (ow hw 69 rfl)) (by decide) (backOf (W := 2) (own_vi l Z a0 hw gc ca cl T23.heap n0 (Nat.le_trans Z0 K23x.1) c24_SH c24_SA B c24_O) hZ (ow hw 69 rfl) (ow hw 68 rfl) (by decide) (by decide)) (g := (mkF m 60 #[iv ga, iv gb, iv gc, iv lv, rv al, rv hm, .unset, .unset, .unset, .unset, .unset, .unset, .unset, .unset, .unset] [.int gc, .ref ky3, .ref hm])) rfl (by rw [hml]; rfl) (argsL := [.int gc]) (rest := [.ref ky3, .ref hm]) (lenOf own_pd27 rfl) rfl (by show 2 * 0 + _ ≤ _; exact Nat.le_of_eq rfl) (hb hby at_60) (fun _ _ => ⟨rfl, rfl, (by decide : 13 + 1 ≤ _), (by decide : 52 + 1 ≤ _)⟩)
  dsimp only [Pt.U, Pt.locs, Pt.cells, Pt.slots] at X26 l26 y26 z26 st26 hQ26
  subst y26 z26
  obtain ⟨v3, rfl, N26q, Kc26, E26c, F26c⟩ := hQ26
  have N26 := frE l26 N23 N26q
  refine og T26 63 #[iv ga, iv gb, iv gc, iv lv, rv al, rv hm, .unset, .unset, .unset, .unset, .unset, .unset, .unset, .unset, .unset] [.ref v3, .ref ky3, .ref hm] st26 ?_
  have c27_SC := own_Sk c24_SC Kc26 all0
  have c27_SH := own_Sk c24_SH Kc26 all0
  have c27_SA := own_Sk c24_SA Kc26 all0
  have c27_O := c24_O.keep Kc26 all0
  have c27_E_a := c24_E_a.keep Kc26
  have c27_Fs := c24_Fs.keep Kc26 nin0
  have c27_NB1 := c24_NB1.keep Kc26 nin0 nin0
  have c27_HB := c24_HB.keep Kc26 nin0
  have c27_V := c24_V.keep Kc26 nin0
  have c27_NB2 := c24_NB2.keep Kc26 nin0 nin0
  have c27_kE_x := s25_E_x.keep Kc26
  have c27_kF1 := s25_F1.keep Kc26 nin0
  have c27_kF2 := s25_F2.keep Kc26 nin0
  have c27_kF3 := s25_F3.keep Kc26 nin0
  have c27_kF4 := s25_F4.keep Kc26 nin0
  have c27_VB := V23c.keep Kc26 nin0
  have K26x := K23x.trans Kc26 all0
  obtain ⟨cq28, kq28, q28a, q28b, q28c⟩ := isOf hZ rfl (c27_HB.1)
  obtain ⟨_, _, ⟨T28, L28, k28, n28⟩, -, X28, ⟨Lc28, hQ28, l28, y28, z28⟩, st28⟩ := X26.interfaceBack hx hown (mvT hZ (ow hw 73 rfl)) (mvT hZ (ow hw 74 rfl)) (mvT hZ (ow hw 75 rfl)) (mvT hZ (ow hw 76 rfl)) (mvT hZ (ow hw 77 rfl)) (mvT hZ (ow hw 78 rfl)) (mvT hZ (ow hw 79 rfl)) (mvT hZ (ow hw 80 rfl)) (by decide) (backOf (W := 0) (own_put3 l Z a0 hw hm ky3 v3 tb kt n1 n2 ar3 kb3 cs T26.heap n0 (Nat.le_trans Z0 K26x.1) c27_HB.1 c27_HB.2.1 c27_HB.2.2.1 c27_HB.2.2.2.1 c27_HB.2.2.2.2.1 c27_HB.2.2.2.2.2 c27_V c27_kE_x c27_kF1 c27_kF2 c27_kF3 c27_kF4 c27_VB c27_SC Ov (Nat.le_trans Z0 sz_tb) gn_hm hcs gn_ky3) hZ (ow hw 81 rfl) (ow hw 28 rfl) (by decide) (by decide)) q28a q28b q28c (g := (mkF m 63 #[iv ga, iv gb, iv gc, iv lv, rv al, rv hm, .unset, .unset, .unset, .unset, .unset, .unset, .unset, .unset, .unset] [.ref v3, .ref ky3, .ref hm])) rfl (by rw [hml]; rfl) (Steps.refl _) (argsL := [.ref ky3, .ref v3]) (rest := []) (lenOf own_pd28 rfl) rfl (by show 2 * 0 + _ ≤ _; exact Nat.le_of_eq rfl) (hb hby at_63) (fun _ _ => ⟨rfl, rfl, (by decide : 14 + 1 ≤ _), (by decide : 53 + 4 ≤ _)⟩)
  dsimp only [Pt.U, Pt.locs, Pt.cells, Pt.slots] at X28 l28 y28 z28 st28 hQ28
  subst y28 z28
  obtain ⟨rfl, N28q, Kc28, n3, H28c, V28c, N28c, sn28c⟩ := hQ28
  have N28 := frE l28 N26 N28q
  refine ov T28 68 #[iv ga, iv gb, iv gc, iv lv, rv al, rv hm, .unset, .unset, .unset, .unset, .unset, .unset, .unset, .unset, .unset] [.null] st28 ?_
  have c29_SC := own_Sk c27_SC Kc28 (allS c27_kE_x.own_nst (allS c27_HB.1.own_nst (allS c27_V.own_nst all0)))
  have c29_SH := own_Sk c27_SH Kc28 (allS c27_kE_x.own_nst (allS c27_HB.1.own_nst (allS c27_V.own_nst all0)))
  have c29_SA := own_Sk c27_SA Kc28 (allS c27_kE_x.own_nst (allS c27_HB.1.own_nst (allS c27_V.own_nst all0)))
  have c29_O := c27_O.keep Kc28 (allS gn_ky3 (allS gn_hm (allS (Nat.le_trans Z0 sz_tb) all0)))
  have c29_E_a := c27_E_a.keep Kc28
  have c29_Fs := c27_Fs.keep Kc28 (ninS ne_al_ky3 (ninS ne_al_hm (ninS (own_nea c27_E_a c27_V (ow hw 1 rfl)) nin0)))
  have c29_NB1 := c27_NB1.keep Kc28 (ninS ne_n1_ky3 (ninS (ne_exa c27_NB1.1.1 c27_HB.1 (by decide)) (ninS (own_nea c27_NB1.1.1 c27_V (ow hw 124 rfl)) nin0))) (ninS ne_v1_ky3 (ninS (ne_exa c27_NB1.2.1 c27_HB.1 (by decide)) (ninS (own_nea c27_NB1.2.1 c27_V (ow hw 337 rfl)) nin0)))
  have c29_NB2 := c27_NB2.keep Kc28 (ninS ne_n2_ky3 (ninS (ne_exa c27_NB2.1.1 c27_HB.1 (by decide)) (ninS (own_nea c27_NB2.1.1 c27_V (ow hw 124 rfl)) nin0))) (ninS ne_v2_ky3 (ninS (ne_exa c27_NB2.2.1 c27_HB.1 (by decide)) (ninS (own_nea c27_NB2.2.1 c27_V (ow hw 337 rfl)) nin0)))
  have c29_Eb3 := E26c.keep Kc28
  have c29_Fb3 := F26c.keep Kc28 (ninS (ne_exa E26c c27_kE_x (by decide)) (ninS (ne_exa E26c c27_HB.1 (by decide)) (ninS (own_nea E26c c27_V (ow hw 337 rfl)) nin0)))
  have K28x := K26x.trans Kc28 (allS (Or.inr sz_ky3) (allS (Or.inr sz_hm) (allS (Or.inr sz_tb) all0)))
  have nb3 : own_NB Z T28.heap n3 v3 gc := ⟨N28c, c29_Eb3, c29_Fb3⟩
  refine s_pop X28 hx (hb hby at_68) rfl ?_
  obtain ⟨T30, h30, X30, e30, E30, A30, D30, -, st30⟩ := newO X28 hx hZ hown (ow hw 148 rfl) (ow hw 149 rfl) (ow hw 150 rfl) rfl (g := (mkF m 69 #[iv ga, iv gb, iv gc, iv lv, rv al, rv hm, .unset, .unset, .unset, .unset, .unset, .unset, .unset, .unset, .unset] [])) rfl (hb hby at_69) (by decide) (by decide)
  obtain ⟨j, g30⟩ : ∃ z, z = T28.heap.size := ⟨_, rfl⟩
  rw [← g30] at A30 D30 st30
  refine og T30 72 #[iv ga, iv gb, iv gc, iv lv, rv al, rv hm, .unset, .unset, .unset, .unset, .unset, .unset, .unset, .unset, .unset] [.ref j] st30 ?_
  have sz_j : h0.size ≤ j := Nat.le_trans K28x.1 (Nat.le_of_eq g30.symm)
  have gn_j : n0 ≤ j := Nat.le_trans Z0 sz_j
  have ne_al_j : al ≠ j := Nat.ne_of_lt (Nat.lt_of_lt_of_le c29_E_a.lt (Nat.le_of_eq g30.symm))
  have ne_n1_j : n1 ≠ j := Nat.ne_of_lt (Nat.lt_of_lt_of_le c29_NB1.1.1.lt (Nat.le_of_eq g30.symm))
  have ne_v1_j : v1 ≠ j := Nat.ne_of_lt (Nat.lt_of_lt_of_le c29_NB1.2.1.lt (Nat.le_of_eq g30.symm))
  have ne_n2_j : n2 ≠ j := Nat.ne_of_lt (Nat.lt_of_lt_of_le c29_NB2.1.1.lt (Nat.le_of_eq g30.symm))
  have ne_v2_j : v2 ≠ j := Nat.ne_of_lt (Nat.lt_of_lt_of_le c29_NB2.2.1.lt (Nat.le_of_eq g30.symm))
  have ne_hm_j : hm ≠ j := Nat.ne_of_lt (Nat.lt_of_lt_of_le H28c.1.lt (Nat.le_of_eq g30.symm))
  have ne_tb_j : tb ≠ j := Nat.ne_of_lt (Nat.lt_of_lt_of_le V28c.lt (Nat.le_of_eq g30.symm))
  have ne_n3_j : n3 ≠ j := Nat.ne_of_lt (Nat.lt_of_lt_of_le nb3.1.1.lt (Nat.le_of_eq g30.symm))
  have ne_v3_j : v3 ≠ j := Nat.ne_of_lt (Nat.lt_of_lt_of_le nb3.2.1.lt (Nat.le_of_eq g30.symm))
  have c31_E_a := c29_E_a.ext E30
  have c31_Fs := c29_Fs.ext E30
  have c31_NB1 := c29_NB1.ext E30
  have c31_NB2 := c29_NB2.ext E30
  have c31_HB := H28c.ext E30
  have c31_V := V28c.ext E30
  have c31_NB3 := nb3.ext E30
  have K30 := K28x.ext E30
  refine s_dup X30 hx (hb hby at_72) rfl ?_
  refine s_aload X30 hx (hb hby at_73) rfl rfl  ?_
  refine s_aload X30 hx (hb hby at_75) rfl rfl  ?_
  refine s_iloadN X30 hx (hb hby at_77) rfl  ?_
  refine og T30 80 #[iv ga, iv gb, iv gc, iv lv, rv al, rv hm, .unset, .unset, .unset, .unset, .unset, .unset, .unset, .unset, .unset] [.int 2147483647, .int lv, .ref hm, .ref al, .ref j, .ref j] (fun _ k => X30.ldcInt hx hown (mvT hZ (ow hw 151 rfl)) (g := (mkF m 78 #[iv ga, iv gb, iv gc, iv lv, rv al, rv hm, .unset, .unset, .unset, .unset, .unset, .unset, .unset, .unset, .unset] [.int lv, .ref hm, .ref al, .ref j, .ref j])) rfl (hb hby at_78) _ k) ?_
  refine og T30 81 #[iv ga, iv gb, iv gc, iv lv, rv al, rv hm, .unset, .unset, .unset, .unset, .unset, .unset, .unset, .unset, .unset] [(.int (lv &&& (2147483647 : Int32))), .ref hm, .ref al, .ref j, .ref j] (fun _ k => XS.iand X30.here hx rfl (hb hby at_80) rfl k) ?_
  obtain ⟨_, _, ⟨T32, L32, k32, n32⟩, -, X32, ⟨Lc32, hQ32, l32, y32, z32⟩, st32⟩ := X30.specialBack hx (y := (⟨"com/example/nimble_fusion/nimblefusion/scoring/JudgedRanking", "<init>", "(Ljava/util/List;Ljava/util/Map;I)V"⟩ : MethodName)) rfl hown (mvT hZ (ow hw 152 rfl)) (mvT hZ (ow hw 153 rfl)) (mvT hZ (ow hw 154 rfl)) (by decide) (backOf (W := 1) (own_jri l Z a0 hw j al hm (lv &&& (2147483647 : Int32)) tb kt n1 n2 n3 v1 v2 v3 ga gb gc h30 n0 (Nat.le_trans Z0 K30.1) A30 (D30 (Or.inr (ow hw 157 rfl)) (ty := .int) (by decide)) (D30 (Or.inr (ow hw 171 rfl)) (ty := (.array .int)) (by decide)) (D30 (Or.inr (ow hw 173 rfl)) (ty := (.array .int)) (by decide)) (D30 (Or.inr (ow hw 275 rfl)) (ty := .int) (by decide)) (D30 (Or.inr (ow hw 277 rfl)) (ty := .int) (by decide)) (D30 (Or.inr (ow hw 299 rfl)) (ty := (.array .int)) (by decide)) c31_E_a c31_Fs c31_V c31_HB c31_NB1 c31_NB2 c31_NB3 gn_j gn_hm) hZ (ow hw 154 rfl) (ow hw 150 rfl) (by decide) (by decide)) (g := (mkF m 81 #[iv ga, iv gb, iv gc, iv lv, rv al, rv hm, .unset, .unset, .unset, .unset, .unset, .unset, .unset, .unset, .unset] [(.int (lv &&& (2147483647 : Int32))), .ref hm, .ref al, .ref j, .ref j])) rfl (by rw [hml]; rfl) (Steps.refl _) (a := j) (argsL := [.ref al, .ref hm, (.int (lv &&& (2147483647 : Int32)))]) (rest := [.ref j]) (lenOf own_pd29 rfl) rfl (by show 2 * 0 + _ ≤ _; exact Nat.le_of_eq rfl) (hb hby at_81) (fun _ _ => ⟨rfl, e30, (by decide : 16 + 7 ≤ _), (by decide : 63 + 17 ≤ _)⟩)
  dsimp only [Pt.U, Pt.locs, Pt.cells, Pt.slots] at X32 l32 y32 z32 st32 hQ32
  subst y32 z32
  obtain ⟨rfl, N32q, E32c, pg, kp, np, vp, F32c, V32c, R32c⟩ := hQ32
  have N32 := frE l32 N28 N32q
  refine ov T32 84 #[iv ga, iv gb, iv gc, iv lv, rv al, rv hm, .unset, .unset, .unset, .unset, .unset, .unset, .unset, .unset, .unset] [.ref j] st32 ?_
  refine og T32 86 #[iv ga, iv gb, iv gc, iv lv, rv al, rv hm, rv j, .unset, .unset, .unset, .unset, .unset, .unset, .unset, .unset] [] (fun _ k => XS.astore X32.here hx rfl (hb hby at_84) rfl rfl (l' := #[iv ga, iv gb, iv gc, iv lv, rv al, rv hm, rv j, .unset, .unset, .unset, .unset, .unset, .unset, .unset, .unset]) rfl k) ?_
  refine s_iloadN X32 hx (hb hby at_86) rfl  ?_
  have J95 : ∀ (ya : Int32), (own_P ga ya ga) →  own_E p e below s (own_Q0 n0) (room_1).cells (room_1).slots (T32.setTop (mkF m 95 #[iv ga, iv gb, iv gc, iv lv, rv al, rv hm, rv j, .unset, .unset, .unset, .unset, .unset, .unset, .unset, .unset] [.int ya])) := by
    intro ya hya
    refine og T32 97 #[iv ga, iv gb, iv gc, iv lv, rv al, rv hm, rv j, iv ya, .unset, .unset, .unset, .unset, .unset, .unset, .unset] [] (fun _ k => XS.istore X32.here hx rfl (hb hby at_95) rfl (l' := #[iv ga, iv gb, iv gc, iv lv, rv al, rv hm, rv j, iv ya, .unset, .unset, .unset, .unset, .unset, .unset, .unset]) rfl k) ?_
    refine s_iloadN X32 hx (hb hby at_97) rfl  ?_
    have J106 : ∀ (yb : Int32), (own_P gb yb gb) →  own_E p e below s (own_Q0 n0) (room_1).cells (room_1).slots (T32.setTop (mkF m 106 #[iv ga, iv gb, iv gc, iv lv, rv al, rv hm, rv j, iv ya, .unset, .unset, .unset, .unset, .unset, .unset, .unset] [.int yb])) := by
      intro yb hyb
      refine og T32 108 #[iv ga, iv gb, iv gc, iv lv, rv al, rv hm, rv j, iv ya, iv yb, .unset, .unset, .unset, .unset, .unset, .unset] [] (fun _ k => XS.istore X32.here hx rfl (hb hby at_106) rfl (l' := #[iv ga, iv gb, iv gc, iv lv, rv al, rv hm, rv j, iv ya, iv yb, .unset, .unset, .unset, .unset, .unset, .unset]) rfl k) ?_
      refine s_iloadN X32 hx (hb hby at_108) rfl  ?_
      have J117 : ∀ (yc : Int32), (own_P gc yc gc) →  own_E p e below s (own_Q0 n0) (room_1).cells (room_1).slots (T32.setTop (mkF m 117 #[iv ga, iv gb, iv gc, iv lv, rv al, rv hm, rv j, iv ya, iv yb, .unset, .unset, .unset, .unset, .unset, .unset] [.int yc])) := by
        intro yc hyc
        refine og T32 119 #[iv ga, iv gb, iv gc, iv lv, rv al, rv hm, rv j, iv ya, iv yb, iv yc, .unset, .unset, .unset, .unset, .unset] [] (fun _ k => XS.istore X32.here hx rfl (hb hby at_117) rfl (l' := #[iv ga, iv gb, iv gc, iv lv, rv al, rv hm, rv j, iv ya, iv yb, iv yc, .unset, .unset, .unset, .unset, .unset]) rfl k) ?_
        refine s_iloadN X32 hx (hb hby at_119) rfl  ?_
        have J128 : ∀ (ea : Int32), (own_P ga ea 1) →  own_E p e below s (own_Q0 n0) (room_1).cells (room_1).slots (T32.setTop (mkF m 128 #[iv ga, iv gb, iv gc, iv lv, rv al, rv hm, rv j, iv ya, iv yb, iv yc, .unset, .unset, .unset, .unset, .unset] [.int ea])) := by
          intro ea hea
          refine s_iloadN X32 hx (hb hby at_128) rfl  ?_
          have J137 : ∀ (eb : Int32), (own_P gb eb 1) →  own_E p e below s (own_Q0 n0) (room_1).cells (room_1).slots (T32.setTop (mkF m 137 #[iv ga, iv gb, iv gc, iv lv, rv al, rv hm, rv j, iv ya, iv yb, iv yc, .unset, .unset, .unset, .unset, .unset] [.int eb, .int ea])) := by
            intro eb heb
            refine og T32 138 #[iv ga, iv gb, iv gc, iv lv, rv al, rv hm, rv j, iv ya, iv yb, iv yc, .unset, .unset, .unset, .unset, .unset] [(.int (ea + eb))] (fun _ k => XS.iadd X32.here hx rfl (hb hby at_137) rfl k) ?_
            refine s_iloadN X32 hx (hb hby at_138) rfl  ?_
            have J147 : ∀ (ec : Int32), (own_P gc ec 1) →  own_E p e below s (own_Q0 n0) (room_1).cells (room_1).slots (T32.setTop (mkF m 147 #[iv ga, iv gb, iv gc, iv lv, rv al, rv hm, rv j, iv ya, iv yb, iv yc, .unset, .unset, .unset, .unset, .unset] [.int ec, (.int (ea + eb))])) := by
              intro ec hec
              refine og T32 148 #[iv ga, iv gb, iv gc, iv lv, rv al, rv hm, rv j, iv ya, iv yb, iv yc, .unset, .unset, .unset, .unset, .unset] [(.int ((ea + eb) + ec))] (fun _ k => XS.iadd X32.here hx rfl (hb hby at_147) rfl k) ?_
              refine og T32 150 #[iv ga, iv gb, iv gc, iv lv, rv al, rv hm, rv j, iv ya, iv yb, iv yc, .val (.int ((ea + eb) + ec)), .unset, .unset, .unset, .unset] [] (fun _ k => XS.istore X32.here hx rfl (hb hby at_148) rfl (l' := #[iv ga, iv gb, iv gc, iv lv, rv al, rv hm, rv j, iv ya, iv yb, iv yc, .val (.int ((ea + eb) + ec)), .unset, .unset, .unset, .unset]) rfl k) ?_
              refine s_iload X32 hx (hb hby at_150) rfl  ?_
              refine s_iload X32 hx (hb hby at_152) rfl  ?_
              refine s_iload X32 hx (hb hby at_154) rfl  ?_
              obtain ⟨_, _, ⟨T33, L33, k33, n33⟩, -, X33, ⟨Lc33, hQ33, l33, y33, z33⟩, st33⟩ := Jvm.LawKit.callS X32 hx hown (mvT hZ (ow hw 313 rfl)) (mvT hZ (ow hw 314 rfl)) (mvT hZ (ow hw 292 rfl)) (mvT hZ (ow hw 315 rfl)) (by decide) (backOf (W := 1) (own_mx_ l Z a0 hw yb yc T32.heap n0 (Nat.le_trans gn_j (Nat.le_of_lt E32c.lt))) hZ (ow hw 315 rfl) (ow hw 292 rfl) (by decide) (by decide)) (g := (mkF m 156 #[iv ga, iv gb, iv gc, iv lv, rv al, rv hm, rv j, iv ya, iv yb, iv yc, .val (.int ((ea + eb) + ec)), .unset, .unset, .unset, .unset] [.int yc, .int yb, .int ya])) rfl (by rw [hml]; rfl) (argsL := [.int yb, .int yc]) (rest := [.int ya]) (lenOf own_pd16 rfl) rfl (by show 2 * 0 + _ ≤ _; exact Nat.le_of_eq rfl) (hb hby at_156) (fun _ _ => ⟨rfl, rfl, (by decide : 23 + 0 ≤ _), (by decide : 80 + 0 ≤ _)⟩)
              dsimp only [Pt.U, Pt.locs, Pt.cells, Pt.slots] at X33 l33 y33 z33 st33 hQ33
              subst y33 z33
              obtain ⟨rfl, N33q, hh33⟩ := hQ33
              have N33 := frE l33 N32 N33q
              refine og T33 159 #[iv ga, iv gb, iv gc, iv lv, rv al, rv hm, rv j, iv ya, iv yb, iv yc, .val (.int ((ea + eb) + ec)), .unset, .unset, .unset, .unset] [(.int (own_mx yb yc)), .int ya] st33 ?_
              obtain ⟨_, _, ⟨T34, L34, k34, n34⟩, -, X34, ⟨Lc34, hQ34, l34, y34, z34⟩, st34⟩ := Jvm.LawKit.callS X33 hx hown (mvT hZ (ow hw 313 rfl)) (mvT hZ (ow hw 314 rfl)) (mvT hZ (ow hw 292 rfl)) (mvT hZ (ow hw 315 rfl)) (by decide) (backOf (W := 0) (own_mx_ l Z a0 hw ya (own_mx yb yc) T32.heap n0 (Nat.le_trans gn_j (Nat.le_of_lt E32c.lt))) hZ (ow hw 315 rfl) (ow hw 292 rfl) (by decide) (by decide)) (g := (mkF m 159 #[iv ga, iv gb, iv gc, iv lv, rv al, rv hm, rv j, iv ya, iv yb, iv yc, .val (.int ((ea + eb) + ec)), .unset, .unset, .unset, .unset] [(.int (own_mx yb yc)), .int ya])) rfl (by rw [hml]; rfl) (argsL := [.int ya, (.int (own_mx yb yc))]) (rest := []) (lenOf own_pd16 rfl) rfl (by show 2 * 0 + _ ≤ _; exact Nat.le_of_eq rfl) (hb hby at_159) (fun _ _ => ⟨rfl, hh33, (by decide : 23 + 0 ≤ _), (by decide : 80 + 0 ≤ _)⟩)
              dsimp only [Pt.U, Pt.locs, Pt.cells, Pt.slots] at X34 l34 y34 z34 st34 hQ34
              subst y34 z34
              obtain ⟨rfl, N34q, hh34⟩ := hQ34
              have N34 := frE l34 N33 N34q
              refine og T34 162 #[iv ga, iv gb, iv gc, iv lv, rv al, rv hm, rv j, iv ya, iv yb, iv yc, .val (.int ((ea + eb) + ec)), .unset, .unset, .unset, .unset] [(.int (own_mx ya (own_mx yb yc)))] st34 ?_
              refine og T34 164 #[iv ga, iv gb, iv gc, iv lv, rv al, rv hm, rv j, iv ya, iv yb, iv yc, .val (.int ((ea + eb) + ec)), .val (.int (own_mx ya (own_mx yb yc))), .unset, .unset, .unset] [] (fun _ k => XS.istore X34.here hx rfl (hb hby at_162) rfl (l' := #[iv ga, iv gb, iv gc, iv lv, rv al, rv hm, rv j, iv ya, iv yb, iv yc, .val (.int ((ea + eb) + ec)), .val (.int (own_mx ya (own_mx yb yc))), .unset, .unset, .unset]) rfl k) ?_
              refine s_iload X34 hx (hb hby at_164) rfl  ?_
              refine s_iload X34 hx (hb hby at_166) rfl  ?_
              refine s_iload X34 hx (hb hby at_168) rfl  ?_
              obtain ⟨_, _, ⟨T35, L35, k35, n35⟩, -, X35, ⟨Lc35, hQ35, l35, y35, z35⟩, st35⟩ := Jvm.LawKit.callS X34 hx hown (mvT hZ (ow hw 316 rfl)) (mvT hZ (ow hw 291 rfl)) (mvT hZ (ow hw 292 rfl)) (mvT hZ (ow hw 293 rfl)) (by decide) (backOf (W := 1) (own_mn_ l Z a0 hw yb yc T32.heap n0 (Nat.le_trans gn_j (Nat.le_of_lt E32c.lt))) hZ (ow hw 293 rfl) (ow hw 292 rfl) (by decide) (by decide)) (g := (mkF m 170 #[iv ga, iv gb, iv gc, iv lv, rv al, rv hm, rv j, iv ya, iv yb, iv yc, .val (.int ((ea + eb) + ec)), .val (.int (own_mx ya (own_mx yb yc))), .unset, .unset, .unset] [.int yc, .int yb, .int ya])) rfl (by rw [hml]; rfl) (argsL := [.int yb, .int yc]) (rest := [.int ya]) (lenOf own_pd16 rfl) rfl (by show 2 * 0 + _ ≤ _; exact Nat.le_of_eq rfl) (hb hby at_170) (fun _ _ => ⟨rfl, hh34, (by decide : 23 + 0 ≤ _), (by decide : 80 + 0 ≤ _)⟩)
              dsimp only [Pt.U, Pt.locs, Pt.cells, Pt.slots] at X35 l35 y35 z35 st35 hQ35
              subst y35 z35
              obtain ⟨rfl, N35q, hh35⟩ := hQ35
              have N35 := frE l35 N34 N35q
              refine og T35 173 #[iv ga, iv gb, iv gc, iv lv, rv al, rv hm, rv j, iv ya, iv yb, iv yc, .val (.int ((ea + eb) + ec)), .val (.int (own_mx ya (own_mx yb yc))), .unset, .unset, .unset] [(.int (own_mn yb yc)), .int ya] st35 ?_
              obtain ⟨_, _, ⟨T36, L36, k36, n36⟩, -, X36, ⟨Lc36, hQ36, l36, y36, z36⟩, st36⟩ := Jvm.LawKit.callS X35 hx hown (mvT hZ (ow hw 316 rfl)) (mvT hZ (ow hw 291 rfl)) (mvT hZ (ow hw 292 rfl)) (mvT hZ (ow hw 293 rfl)) (by decide) (backOf (W := 0) (own_mn_ l Z a0 hw ya (own_mn yb yc) T32.heap n0 (Nat.le_trans gn_j (Nat.le_of_lt E32c.lt))) hZ (ow hw 293 rfl) (ow hw 292 rfl) (by decide) (by decide)) (g := (mkF m 173 #[iv ga, iv gb, iv gc, iv lv, rv al, rv hm, rv j, iv ya, iv yb, iv yc, .val (.int ((ea + eb) + ec)), .val (.int (own_mx ya (own_mx yb yc))), .unset, .unset, .unset] [(.int (own_mn yb yc)), .int ya])) rfl (by rw [hml]; rfl) (argsL := [.int ya, (.int (own_mn yb yc))]) (rest := []) (lenOf own_pd16 rfl) rfl (by show 2 * 0 + _ ≤ _; exact Nat.le_of_eq rfl) (hb hby at_173) (fun _ _ => ⟨rfl, hh35, (by decide : 23 + 0 ≤ _), (by decide : 80 + 0 ≤ _)⟩)
              dsimp only [Pt.U, Pt.locs, Pt.cells, Pt.slots] at X36 l36 y36 z36 st36 hQ36
              subst y36 z36
              obtain ⟨rfl, N36q, hh36⟩ := hQ36
              have N36 := frE l36 N35 N36q
              refine og T36 176 #[iv ga, iv gb, iv gc, iv lv, rv al, rv hm, rv j, iv ya, iv yb, iv yc, .val (.int ((ea + eb) + ec)), .val (.int (own_mx ya (own_mx yb yc))), .unset, .unset, .unset] [(.int (own_mn ya (own_mn yb yc)))] st36 ?_
              refine og T36 178 #[iv ga, iv gb, iv gc, iv lv, rv al, rv hm, rv j, iv ya, iv yb, iv yc, .val (.int ((ea + eb) + ec)), .val (.int (own_mx ya (own_mx yb yc))), .val (.int (own_mn ya (own_mn yb yc))), .unset, .unset] [] (fun _ k => XS.istore X36.here hx rfl (hb hby at_176) rfl (l' := #[iv ga, iv gb, iv gc, iv lv, rv al, rv hm, rv j, iv ya, iv yb, iv yc, .val (.int ((ea + eb) + ec)), .val (.int (own_mx ya (own_mx yb yc))), .val (.int (own_mn ya (own_mn yb yc))), .unset, .unset]) rfl k) ?_
              refine s_iload X36 hx (hb hby at_178) rfl  ?_
              refine s_iload X36 hx (hb hby at_180) rfl  ?_
              obtain ⟨_, _, ⟨T37, L37, k37, n37⟩, -, X37, ⟨Lc37, hQ37, l37, y37, z37⟩, st37⟩ := Jvm.LawKit.callS X36 hx hown (mvT hZ (ow hw 316 rfl)) (mvT hZ (ow hw 291 rfl)) (mvT hZ (ow hw 292 rfl)) (mvT hZ (ow hw 293 rfl)) (by decide) (backOf (W := 0) (own_mn_ l Z a0 hw ya yb T32.heap n0 (Nat.le_trans gn_j (Nat.le_of_lt E32c.lt))) hZ (ow hw 293 rfl) (ow hw 292 rfl) (by decide) (by decide)) (g := (mkF m 182 #[iv ga, iv gb, iv gc, iv lv, rv al, rv hm, rv j, iv ya, iv yb, iv yc, .val (.int ((ea + eb) + ec)), .val (.int (own_mx ya (own_mx yb yc))), .val (.int (own_mn ya (own_mn yb yc))), .unset, .unset] [.int yb, .int ya])) rfl (by rw [hml]; rfl) (argsL := [.int ya, .int yb]) (rest := []) (lenOf own_pd16 rfl) rfl (by show 2 * 0 + _ ≤ _; exact Nat.le_of_eq rfl) (hb hby at_182) (fun _ _ => ⟨rfl, hh36, (by decide : 23 + 0 ≤ _), (by decide : 80 + 0 ≤ _)⟩)
              dsimp only [Pt.U, Pt.locs, Pt.cells, Pt.slots] at X37 l37 y37 z37 st37 hQ37
              subst y37 z37
              obtain ⟨rfl, N37q, hh37⟩ := hQ37
              have N37 := frE l37 N36 N37q
              refine og T37 185 #[iv ga, iv gb, iv gc, iv lv, rv al, rv hm, rv j, iv ya, iv yb, iv yc, .val (.int ((ea + eb) + ec)), .val (.int (own_mx ya (own_mx yb yc))), .val (.int (own_mn ya (own_mn yb yc))), .unset, .unset] [(.int (own_mn ya yb))] st37 ?_
              refine s_iload X37 hx (hb hby at_185) rfl  ?_
              refine s_iload X37 hx (hb hby at_187) rfl  ?_
              obtain ⟨_, _, ⟨T38, L38, k38, n38⟩, -, X38, ⟨Lc38, hQ38, l38, y38, z38⟩, st38⟩ := Jvm.LawKit.callS X37 hx hown (mvT hZ (ow hw 313 rfl)) (mvT hZ (ow hw 314 rfl)) (mvT hZ (ow hw 292 rfl)) (mvT hZ (ow hw 315 rfl)) (by decide) (backOf (W := 1) (own_mx_ l Z a0 hw ya yb T32.heap n0 (Nat.le_trans gn_j (Nat.le_of_lt E32c.lt))) hZ (ow hw 315 rfl) (ow hw 292 rfl) (by decide) (by decide)) (g := (mkF m 189 #[iv ga, iv gb, iv gc, iv lv, rv al, rv hm, rv j, iv ya, iv yb, iv yc, .val (.int ((ea + eb) + ec)), .val (.int (own_mx ya (own_mx yb yc))), .val (.int (own_mn ya (own_mn yb yc))), .unset, .unset] [.int yb, .int ya, (.int (own_mn ya yb))])) rfl (by rw [hml]; rfl) (argsL := [.int ya, .int yb]) (rest := [(.int (own_mn ya yb))]) (lenOf own_pd16 rfl) rfl (by show 2 * 0 + _ ≤ _; exact Nat.le_of_eq rfl) (hb hby at_189) (fun _ _ => ⟨rfl, hh37, (by decide : 23 + 0 ≤ _), (by decide : 80 + 0 ≤ _)⟩)
              dsimp only [Pt.U, Pt.locs, Pt.cells, Pt.slots] at X38 l38 y38 z38 st38 hQ38
              subst y38 z38
              obtain ⟨rfl, N38q, hh38⟩ := hQ38
              have N38 := frE l38 N37 N38q
              refine og T38 192 #[iv ga, iv gb, iv gc, iv lv, rv al, rv hm, rv j, iv ya, iv yb, iv yc, .val (.int ((ea + eb) + ec)), .val (.int (own_mx ya (own_mx yb yc))), .val (.int (own_mn ya (own_mn yb yc))), .unset, .unset] [(.int (own_mx ya yb)), (.int (own_mn ya yb))] st38 ?_
              refine s_iload X38 hx (hb hby at_192) rfl  ?_
              obtain ⟨_, _, ⟨T39, L39, k39, n39⟩, -, X39, ⟨Lc39, hQ39, l39, y39, z39⟩, st39⟩ := Jvm.LawKit.callS X38 hx hown (mvT hZ (ow hw 316 rfl)) (mvT hZ (ow hw 291 rfl)) (mvT hZ (ow hw 292 rfl)) (mvT hZ (ow hw 293 rfl)) (by decide) (backOf (W := 1) (own_mn_ l Z a0 hw (own_mx ya yb) yc T32.heap n0 (Nat.le_trans gn_j (Nat.le_of_lt E32c.lt))) hZ (ow hw 293 rfl) (ow hw 292 rfl) (by decide) (by decide)) (g := (mkF m 194 #[iv ga, iv gb, iv gc, iv lv, rv al, rv hm, rv j, iv ya, iv yb, iv yc, .val (.int ((ea + eb) + ec)), .val (.int (own_mx ya (own_mx yb yc))), .val (.int (own_mn ya (own_mn yb yc))), .unset, .unset] [.int yc, (.int (own_mx ya yb)), (.int (own_mn ya yb))])) rfl (by rw [hml]; rfl) (argsL := [(.int (own_mx ya yb)), .int yc]) (rest := [(.int (own_mn ya yb))]) (lenOf own_pd16 rfl) rfl (by show 2 * 0 + _ ≤ _; exact Nat.le_of_eq rfl) (hb hby at_194) (fun _ _ => ⟨rfl, hh38, (by decide : 23 + 0 ≤ _), (by decide : 80 + 0 ≤ _)⟩)
              dsimp only [Pt.U, Pt.locs, Pt.cells, Pt.slots] at X39 l39 y39 z39 st39 hQ39
              subst y39 z39
              obtain ⟨rfl, N39q, hh39⟩ := hQ39
              have N39 := frE l39 N38 N39q
              refine og T39 197 #[iv ga, iv gb, iv gc, iv lv, rv al, rv hm, rv j, iv ya, iv yb, iv yc, .val (.int ((ea + eb) + ec)), .val (.int (own_mx ya (own_mx yb yc))), .val (.int (own_mn ya (own_mn yb yc))), .unset, .unset] [(.int (own_mn (own_mx ya yb) yc)), (.int (own_mn ya yb))] st39 ?_
              obtain ⟨_, _, ⟨T40, L40, k40, n40⟩, -, X40, ⟨Lc40, hQ40, l40, y40, z40⟩, st40⟩ := Jvm.LawKit.callS X39 hx hown (mvT hZ (ow hw 313 rfl)) (mvT hZ (ow hw 314 rfl)) (mvT hZ (ow hw 292 rfl)) (mvT hZ (ow hw 315 rfl)) (by decide) (backOf (W := 0) (own_mx_ l Z a0 hw (own_mn ya yb) (own_mn (own_mx ya yb) yc) T32.heap n0 (Nat.le_trans gn_j (Nat.le_of_lt E32c.lt))) hZ (ow hw 315 rfl) (ow hw 292 rfl) (by decide) (by decide)) (g := (mkF m 197 #[iv ga, iv gb, iv gc, iv lv, rv al, rv hm, rv j, iv ya, iv yb, iv yc, .val (.int ((ea + eb) + ec)), .val (.int (own_mx ya (own_mx yb yc))), .val (.int (own_mn ya (own_mn yb yc))), .unset, .unset] [(.int (own_mn (own_mx ya yb) yc)), (.int (own_mn ya yb))])) rfl (by rw [hml]; rfl) (argsL := [(.int (own_mn ya yb)), (.int (own_mn (own_mx ya yb) yc))]) (rest := []) (lenOf own_pd16 rfl) rfl (by show 2 * 0 + _ ≤ _; exact Nat.le_of_eq rfl) (hb hby at_197) (fun _ _ => ⟨rfl, hh39, (by decide : 23 + 0 ≤ _), (by decide : 80 + 0 ≤ _)⟩)
              dsimp only [Pt.U, Pt.locs, Pt.cells, Pt.slots] at X40 l40 y40 z40 st40 hQ40
              subst y40 z40
              obtain ⟨rfl, N40q, hh40⟩ := hQ40
              have N40 := frE l40 N39 N40q
              refine og T40 200 #[iv ga, iv gb, iv gc, iv lv, rv al, rv hm, rv j, iv ya, iv yb, iv yc, .val (.int ((ea + eb) + ec)), .val (.int (own_mx ya (own_mx yb yc))), .val (.int (own_mn ya (own_mn yb yc))), .unset, .unset] [(.int (own_mx (own_mn ya yb) (own_mn (own_mx ya yb) yc)))] st40 ?_
              refine og T40 202 #[iv ga, iv gb, iv gc, iv lv, rv al, rv hm, rv j, iv ya, iv yb, iv yc, .val (.int ((ea + eb) + ec)), .val (.int (own_mx ya (own_mx yb yc))), .val (.int (own_mn ya (own_mn yb yc))), .val (.int (own_mx (own_mn ya yb) (own_mn (own_mx ya yb) yc))), .unset] [] (fun _ k => XS.istore X40.here hx rfl (hb hby at_200) rfl (l' := #[iv ga, iv gb, iv gc, iv lv, rv al, rv hm, rv j, iv ya, iv yb, iv yc, .val (.int ((ea + eb) + ec)), .val (.int (own_mx ya (own_mx yb yc))), .val (.int (own_mn ya (own_mn yb yc))), .val (.int (own_mx (own_mn ya yb) (own_mn (own_mx ya yb) yc))), .unset]) rfl k) ?_
              have J202 : ∀ (cnt hi lo mi : Int32), own_F cnt hi lo mi np vp → own_E p e below s (own_Q0 n0) (room_1).cells (room_1).slots (T40.setTop (mkF m 202 #[iv ga, iv gb, iv gc, iv lv, rv al, rv hm, rv j, iv ya, iv yb, iv yc, iv cnt, iv hi, iv lo, iv mi, .unset] [])) := by
                intro cnt hi lo mi hfin
                rcases hfin with ⟨rfl, rfl, rfl⟩ | ⟨rfl, rfl, rfl⟩ | ⟨rfl, rfl, rfl⟩ | ⟨rfl, rfl, rfl⟩
                · skip
                  refine s_aload X40 hx (hb hby at_202) rfl rfl  ?_
                  obtain ⟨cq41, kq41, q41a, q41b, q41c⟩ := isOf hZ hh40 (E32c)
                  obtain ⟨_, _, ⟨T41, L41, k41, n41⟩, -, X41, ⟨Lc41, hQ41, l41, y41, z41⟩, st41⟩ := X40.virtualBack hx hown (mvT hZ (ow hw 317 rfl)) (mvT hZ (ow hw 318 rfl)) (notFace_of_selects (args := #[]) (mvT hZ (ow hw 320 rfl))) (mvT hZ (ow hw 320 rfl)) (mvT hZ (ow hw 319 rfl)) (by decide) (backOf (W := 0) (own_pg l Z a0 hw j pg kp (0 : Int32) [] T32.heap n0 (Nat.le_trans gn_j (Nat.le_of_lt E32c.lt)) F32c V32c) hZ (ow hw 321 rfl) (ow hw 150 rfl) (by decide) (by decide)) q41a q41c (g := (mkF m 204 #[iv ga, iv gb, iv gc, iv lv, rv al, rv hm, rv j, iv ya, iv yb, iv yc, iv 0, iv hi, iv lo, iv mi, .unset] [.ref j])) rfl (by rw [hml]; rfl) (Steps.refl _) (argsL := []) (rest := []) (lenOf own_pd6 rfl) rfl (by show 2 * 0 + _ ≤ _; exact Nat.le_of_eq rfl) (hb hby at_204) (fun _ _ => ⟨rfl, hh40, (by decide : 23 + 0 ≤ _), (by decide : 80 + 0 ≤ _)⟩)
                  dsimp only [Pt.U, Pt.locs, Pt.cells, Pt.slots] at X41 l41 y41 z41 st41 hQ41
                  subst y41 z41
                  obtain ⟨rfl, N41q, hh41⟩ := hQ41
                  have N41 := frE l41 N40 N41q
                  refine ov T41 207 #[iv ga, iv gb, iv gc, iv lv, rv al, rv hm, rv j, iv ya, iv yb, iv yc, iv 0, iv hi, iv lo, iv mi, .unset] [.int 0] st41 ?_
                  refine s_iload X41 hx (hb hby at_207) rfl  ?_
                  refine s_icmpY 214 X41 hx (hb hby at_209) (teq rfl).1 (by decide) (by decide) ?_
                  refine s_iconst 1 X41 hx (hb hby at_214) rfl ?_
                  refine og T41 217 #[iv ga, iv gb, iv gc, iv lv, rv al, rv hm, rv j, iv ya, iv yb, iv yc, iv 0, iv hi, iv lo, iv mi, iv 1] [] (fun _ k => XS.istore X41.here hx rfl (hb hby at_215) rfl (l' := #[iv ga, iv gb, iv gc, iv lv, rv al, rv hm, rv j, iv ya, iv yb, iv yc, iv 0, iv hi, iv lo, iv mi, iv 1]) rfl k) ?_
                  refine s_iload X41 hx (hb hby at_217) rfl  ?_
                  refine s_iconst 1 X41 hx (hb hby at_219) rfl ?_
                  refine s_icmpY 246 X41 hx (hb hby at_220) (tlt (by decide)).1 (by decide) (by decide) ?_
                  refine s_iload X41 hx (hb hby at_246) rfl  ?_
                  refine s_iconst 2 X41 hx (hb hby at_248) rfl ?_
                  refine s_icmpY 275 X41 hx (hb hby at_249) (tlt (by decide)).1 (by decide) (by decide) ?_
                  refine s_iload X41 hx (hb hby at_275) rfl  ?_
                  refine s_iconst 3 X41 hx (hb hby at_277) rfl ?_
                  refine s_icmpY 304 X41 hx (hb hby at_278) (tlt (by decide)).1 (by decide) (by decide) ?_
                  refine s_iload X41 hx (hb hby at_304) rfl  ?_
                  refine own_retZ X41 hx hlk (t := .boolean) hret (by simp) (hb hby at_306) ?_ (by decide) (by decide)
                  rw [hh41]
                  exact ⟨rfl, N41⟩
                · skip
                  refine s_aload X40 hx (hb hby at_202) rfl rfl  ?_
                  obtain ⟨cq42, kq42, q42a, q42b, q42c⟩ := isOf hZ hh40 (E32c)
                  obtain ⟨_, _, ⟨T42, L42, k42, n42⟩, -, X42, ⟨Lc42, hQ42, l42, y42, z42⟩, st42⟩ := X40.virtualBack hx hown (mvT hZ (ow hw 317 rfl)) (mvT hZ (ow hw 318 rfl)) (notFace_of_selects (args := #[]) (mvT hZ (ow hw 320 rfl))) (mvT hZ (ow hw 320 rfl)) (mvT hZ (ow hw 319 rfl)) (by decide) (backOf (W := 0) (own_pg l Z a0 hw j pg kp (1 : Int32) [.int hi] T32.heap n0 (Nat.le_trans gn_j (Nat.le_of_lt E32c.lt)) F32c V32c) hZ (ow hw 321 rfl) (ow hw 150 rfl) (by decide) (by decide)) q42a q42c (g := (mkF m 204 #[iv ga, iv gb, iv gc, iv lv, rv al, rv hm, rv j, iv ya, iv yb, iv yc, iv 1, iv hi, iv lo, iv mi, .unset] [.ref j])) rfl (by rw [hml]; rfl) (Steps.refl _) (argsL := []) (rest := []) (lenOf own_pd6 rfl) rfl (by show 2 * 0 + _ ≤ _; exact Nat.le_of_eq rfl) (hb hby at_204) (fun _ _ => ⟨rfl, hh40, (by decide : 23 + 0 ≤ _), (by decide : 80 + 0 ≤ _)⟩)
                  dsimp only [Pt.U, Pt.locs, Pt.cells, Pt.slots] at X42 l42 y42 z42 st42 hQ42
                  subst y42 z42
                  obtain ⟨rfl, N42q, hh42⟩ := hQ42
                  have N42 := frE l42 N40 N42q
                  refine ov T42 207 #[iv ga, iv gb, iv gc, iv lv, rv al, rv hm, rv j, iv ya, iv yb, iv yc, iv 1, iv hi, iv lo, iv mi, .unset] [.int 1] st42 ?_
                  refine s_iload X42 hx (hb hby at_207) rfl  ?_
                  refine s_icmpY 214 X42 hx (hb hby at_209) (teq rfl).1 (by decide) (by decide) ?_
                  refine s_iconst 1 X42 hx (hb hby at_214) rfl ?_
                  refine og T42 217 #[iv ga, iv gb, iv gc, iv lv, rv al, rv hm, rv j, iv ya, iv yb, iv yc, iv 1, iv hi, iv lo, iv mi, iv 1] [] (fun _ k => XS.istore X42.here hx rfl (hb hby at_215) rfl (l' := #[iv ga, iv gb, iv gc, iv lv, rv al, rv hm, rv j, iv ya, iv yb, iv yc, iv 1, iv hi, iv lo, iv mi, iv 1]) rfl k) ?_
                  refine s_iload X42 hx (hb hby at_217) rfl  ?_
                  refine s_iconst 1 X42 hx (hb hby at_219) rfl ?_
                  refine s_icmpN X42 hx (hb hby at_220) (flt (by decide)).1 ?_
                  refine s_iload X42 hx (hb hby at_223) rfl  ?_
                  refine s_ifN X42 hx (hb hby at_225) ((if0 _ _).trans (feq (by decide)).1) ?_
                  refine s_aload X42 hx (hb hby at_228) rfl rfl  ?_
                  refine s_iconst 1 X42 hx (hb hby at_230) rfl ?_
                  obtain ⟨cq43, kq43, q43a, q43b, q43c⟩ := isOf hZ hh42 (E32c)
                  obtain ⟨_, _, ⟨T43, L43, k43, n43⟩, -, X43, ⟨Lc43, hQ43, l43, y43, z43⟩, st43⟩ := X42.virtualBack hx hown (mvT hZ (ow hw 322 rfl)) (mvT hZ (ow hw 323 rfl)) (notFace_of_selects (args := #[]) (mvT hZ (ow hw 325 rfl))) (mvT hZ (ow hw 325 rfl)) (mvT hZ (ow hw 324 rfl)) (by decide) (backOf (W := 0) (own_ig11 l Z a0 hw j hi pg kp T32.heap n0 (Nat.le_trans gn_j (Nat.le_of_lt E32c.lt)) F32c V32c) hZ (ow hw 326 rfl) (ow hw 150 rfl) (by decide) (by decide)) q43a q43c (g := (mkF m 231 #[iv ga, iv gb, iv gc, iv lv, rv al, rv hm, rv j, iv ya, iv yb, iv yc, iv 1, iv hi, iv lo, iv mi, iv 1] [.int 1, .ref j])) rfl (by rw [hml]; rfl) (Steps.refl _) (argsL := [.int 1]) (rest := []) (lenOf own_pd30 rfl) rfl (by show 2 * 0 + _ ≤ _; exact Nat.le_of_eq rfl) (hb hby at_231) (fun _ _ => ⟨rfl, hh42, (by decide : 23 + 0 ≤ _), (by decide : 80 + 0 ≤ _)⟩)
                  dsimp only [Pt.U, Pt.locs, Pt.cells, Pt.slots] at X43 l43 y43 z43 st43 hQ43
                  subst y43 z43
                  obtain ⟨rfl, N43q, hh43⟩ := hQ43
                  have N43 := frE l43 N42 N43q
                  refine ov T43 234 #[iv ga, iv gb, iv gc, iv lv, rv al, rv hm, rv j, iv ya, iv yb, iv yc, iv 1, iv hi, iv lo, iv mi, iv 1] [.int hi] st43 ?_
                  refine s_iload X43 hx (hb hby at_234) rfl  ?_
                  refine s_icmpN X43 hx (hb hby at_236) (teq rfl).2 ?_
                  refine s_iconst 1 X43 hx (hb hby at_239) rfl ?_
                  refine s_goto 244 X43 hx (hb hby at_240) (by decide) (by decide) ?_
                  refine og T43 246 #[iv ga, iv gb, iv gc, iv lv, rv al, rv hm, rv j, iv ya, iv yb, iv yc, iv 1, iv hi, iv lo, iv mi, iv 1] [] (fun _ k => XS.istore X43.here hx rfl (hb hby at_244) rfl (l' := #[iv ga, iv gb, iv gc, iv lv, rv al, rv hm, rv j, iv ya, iv yb, iv yc, iv 1, iv hi, iv lo, iv mi, iv 1]) rfl k) ?_
                  refine s_iload X43 hx (hb hby at_246) rfl  ?_
                  refine s_iconst 2 X43 hx (hb hby at_248) rfl ?_
                  refine s_icmpY 275 X43 hx (hb hby at_249) (tlt (by decide)).1 (by decide) (by decide) ?_
                  refine s_iload X43 hx (hb hby at_275) rfl  ?_
                  refine s_iconst 3 X43 hx (hb hby at_277) rfl ?_
                  refine s_icmpY 304 X43 hx (hb hby at_278) (tlt (by decide)).1 (by decide) (by decide) ?_
                  refine s_iload X43 hx (hb hby at_304) rfl  ?_
                  refine own_retZ X43 hx hlk (t := .boolean) hret (by simp) (hb hby at_306) ?_ (by decide) (by decide)
                  rw [hh43]
                  exact ⟨rfl, N43⟩
                · skip
                  refine s_aload X40 hx (hb hby at_202) rfl rfl  ?_
                  obtain ⟨cq44, kq44, q44a, q44b, q44c⟩ := isOf hZ hh40 (E32c)
                  obtain ⟨_, _, ⟨T44, L44, k44, n44⟩, -, X44, ⟨Lc44, hQ44, l44, y44, z44⟩, st44⟩ := X40.virtualBack hx hown (mvT hZ (ow hw 317 rfl)) (mvT hZ (ow hw 318 rfl)) (notFace_of_selects (args := #[]) (mvT hZ (ow hw 320 rfl))) (mvT hZ (ow hw 320 rfl)) (mvT hZ (ow hw 319 rfl)) (by decide) (backOf (W := 0) (own_pg l Z a0 hw j pg kp (2 : Int32) [.int mi, .int hi] T32.heap n0 (Nat.le_trans gn_j (Nat.le_of_lt E32c.lt)) F32c V32c) hZ (ow hw 321 rfl) (ow hw 150 rfl) (by decide) (by decide)) q44a q44c (g := (mkF m 204 #[iv ga, iv gb, iv gc, iv lv, rv al, rv hm, rv j, iv ya, iv yb, iv yc, iv 2, iv hi, iv lo, iv mi, .unset] [.ref j])) rfl (by rw [hml]; rfl) (Steps.refl _) (argsL := []) (rest := []) (lenOf own_pd6 rfl) rfl (by show 2 * 0 + _ ≤ _; exact Nat.le_of_eq rfl) (hb hby at_204) (fun _ _ => ⟨rfl, hh40, (by decide : 23 + 0 ≤ _), (by decide : 80 + 0 ≤ _)⟩)
                  dsimp only [Pt.U, Pt.locs, Pt.cells, Pt.slots] at X44 l44 y44 z44 st44 hQ44
                  subst y44 z44
                  obtain ⟨rfl, N44q, hh44⟩ := hQ44
                  have N44 := frE l44 N40 N44q
                  refine ov T44 207 #[iv ga, iv gb, iv gc, iv lv, rv al, rv hm, rv j, iv ya, iv yb, iv yc, iv 2, iv hi, iv lo, iv mi, .unset] [.int 2] st44 ?_
                  refine s_iload X44 hx (hb hby at_207) rfl  ?_
                  refine s_icmpY 214 X44 hx (hb hby at_209) (teq rfl).1 (by decide) (by decide) ?_
                  refine s_iconst 1 X44 hx (hb hby at_214) rfl ?_
                  refine og T44 217 #[iv ga, iv gb, iv gc, iv lv, rv al, rv hm, rv j, iv ya, iv yb, iv yc, iv 2, iv hi, iv lo, iv mi, iv 1] [] (fun _ k => XS.istore X44.here hx rfl (hb hby at_215) rfl (l' := #[iv ga, iv gb, iv gc, iv lv, rv al, rv hm, rv j, iv ya, iv yb, iv yc, iv 2, iv hi, iv lo, iv mi, iv 1]) rfl k) ?_
                  refine s_iload X44 hx (hb hby at_217) rfl  ?_
                  refine s_iconst 1 X44 hx (hb hby at_219) rfl ?_
                  refine s_icmpN X44 hx (hb hby at_220) (flt (by decide)).1 ?_
                  refine s_iload X44 hx (hb hby at_223) rfl  ?_
                  refine s_ifN X44 hx (hb hby at_225) ((if0 _ _).trans (feq (by decide)).1) ?_
                  refine s_aload X44 hx (hb hby at_228) rfl rfl  ?_
                  refine s_iconst 1 X44 hx (hb hby at_230) rfl ?_
                  obtain ⟨cq45, kq45, q45a, q45b, q45c⟩ := isOf hZ hh44 (E32c)
                  obtain ⟨_, _, ⟨T45, L45, k45, n45⟩, -, X45, ⟨Lc45, hQ45, l45, y45, z45⟩, st45⟩ := X44.virtualBack hx hown (mvT hZ (ow hw 322 rfl)) (mvT hZ (ow hw 323 rfl)) (notFace_of_selects (args := #[]) (mvT hZ (ow hw 325 rfl))) (mvT hZ (ow hw 325 rfl)) (mvT hZ (ow hw 324 rfl)) (by decide) (backOf (W := 0) (own_ig21 l Z a0 hw j mi hi pg kp T32.heap n0 (Nat.le_trans gn_j (Nat.le_of_lt E32c.lt)) F32c V32c) hZ (ow hw 326 rfl) (ow hw 150 rfl) (by decide) (by decide)) q45a q45c (g := (mkF m 231 #[iv ga, iv gb, iv gc, iv lv, rv al, rv hm, rv j, iv ya, iv yb, iv yc, iv 2, iv hi, iv lo, iv mi, iv 1] [.int 1, .ref j])) rfl (by rw [hml]; rfl) (Steps.refl _) (argsL := [.int 1]) (rest := []) (lenOf own_pd30 rfl) rfl (by show 2 * 0 + _ ≤ _; exact Nat.le_of_eq rfl) (hb hby at_231) (fun _ _ => ⟨rfl, hh44, (by decide : 23 + 0 ≤ _), (by decide : 80 + 0 ≤ _)⟩)
                  dsimp only [Pt.U, Pt.locs, Pt.cells, Pt.slots] at X45 l45 y45 z45 st45 hQ45
                  subst y45 z45
                  obtain ⟨rfl, N45q, hh45⟩ := hQ45
                  have N45 := frE l45 N44 N45q
                  refine ov T45 234 #[iv ga, iv gb, iv gc, iv lv, rv al, rv hm, rv j, iv ya, iv yb, iv yc, iv 2, iv hi, iv lo, iv mi, iv 1] [.int hi] st45 ?_
                  refine s_iload X45 hx (hb hby at_234) rfl  ?_
                  refine s_icmpN X45 hx (hb hby at_236) (teq rfl).2 ?_
                  refine s_iconst 1 X45 hx (hb hby at_239) rfl ?_
                  refine s_goto 244 X45 hx (hb hby at_240) (by decide) (by decide) ?_
                  refine og T45 246 #[iv ga, iv gb, iv gc, iv lv, rv al, rv hm, rv j, iv ya, iv yb, iv yc, iv 2, iv hi, iv lo, iv mi, iv 1] [] (fun _ k => XS.istore X45.here hx rfl (hb hby at_244) rfl (l' := #[iv ga, iv gb, iv gc, iv lv, rv al, rv hm, rv j, iv ya, iv yb, iv yc, iv 2, iv hi, iv lo, iv mi, iv 1]) rfl k) ?_
                  refine s_iload X45 hx (hb hby at_246) rfl  ?_
                  refine s_iconst 2 X45 hx (hb hby at_248) rfl ?_
                  refine s_icmpN X45 hx (hb hby at_249) (flt (by decide)).1 ?_
                  refine s_iload X45 hx (hb hby at_252) rfl  ?_
                  refine s_ifN X45 hx (hb hby at_254) ((if0 _ _).trans (feq (by decide)).1) ?_
                  refine s_aload X45 hx (hb hby at_257) rfl rfl  ?_
                  refine s_iconst 2 X45 hx (hb hby at_259) rfl ?_
                  obtain ⟨cq46, kq46, q46a, q46b, q46c⟩ := isOf hZ hh45 (E32c)
                  obtain ⟨_, _, ⟨T46, L46, k46, n46⟩, -, X46, ⟨Lc46, hQ46, l46, y46, z46⟩, st46⟩ := X45.virtualBack hx hown (mvT hZ (ow hw 322 rfl)) (mvT hZ (ow hw 323 rfl)) (notFace_of_selects (args := #[]) (mvT hZ (ow hw 325 rfl))) (mvT hZ (ow hw 325 rfl)) (mvT hZ (ow hw 324 rfl)) (by decide) (backOf (W := 0) (own_ig22 l Z a0 hw j mi hi pg kp T32.heap n0 (Nat.le_trans gn_j (Nat.le_of_lt E32c.lt)) F32c V32c) hZ (ow hw 326 rfl) (ow hw 150 rfl) (by decide) (by decide)) q46a q46c (g := (mkF m 260 #[iv ga, iv gb, iv gc, iv lv, rv al, rv hm, rv j, iv ya, iv yb, iv yc, iv 2, iv hi, iv lo, iv mi, iv 1] [.int 2, .ref j])) rfl (by rw [hml]; rfl) (Steps.refl _) (argsL := [.int 2]) (rest := []) (lenOf own_pd30 rfl) rfl (by show 2 * 0 + _ ≤ _; exact Nat.le_of_eq rfl) (hb hby at_260) (fun _ _ => ⟨rfl, hh45, (by decide : 23 + 0 ≤ _), (by decide : 80 + 0 ≤ _)⟩)
                  dsimp only [Pt.U, Pt.locs, Pt.cells, Pt.slots] at X46 l46 y46 z46 st46 hQ46
                  subst y46 z46
                  obtain ⟨rfl, N46q, hh46⟩ := hQ46
                  have N46 := frE l46 N45 N46q
                  refine ov T46 263 #[iv ga, iv gb, iv gc, iv lv, rv al, rv hm, rv j, iv ya, iv yb, iv yc, iv 2, iv hi, iv lo, iv mi, iv 1] [.int mi] st46 ?_
                  refine s_iload X46 hx (hb hby at_263) rfl  ?_
                  refine s_icmpN X46 hx (hb hby at_265) (teq rfl).2 ?_
                  refine s_iconst 1 X46 hx (hb hby at_268) rfl ?_
                  refine s_goto 273 X46 hx (hb hby at_269) (by decide) (by decide) ?_
                  refine og T46 275 #[iv ga, iv gb, iv gc, iv lv, rv al, rv hm, rv j, iv ya, iv yb, iv yc, iv 2, iv hi, iv lo, iv mi, iv 1] [] (fun _ k => XS.istore X46.here hx rfl (hb hby at_273) rfl (l' := #[iv ga, iv gb, iv gc, iv lv, rv al, rv hm, rv j, iv ya, iv yb, iv yc, iv 2, iv hi, iv lo, iv mi, iv 1]) rfl k) ?_
                  refine s_iload X46 hx (hb hby at_275) rfl  ?_
                  refine s_iconst 3 X46 hx (hb hby at_277) rfl ?_
                  refine s_icmpY 304 X46 hx (hb hby at_278) (tlt (by decide)).1 (by decide) (by decide) ?_
                  refine s_iload X46 hx (hb hby at_304) rfl  ?_
                  refine own_retZ X46 hx hlk (t := .boolean) hret (by simp) (hb hby at_306) ?_ (by decide) (by decide)
                  rw [hh46]
                  exact ⟨rfl, N46⟩
                · skip
                  refine s_aload X40 hx (hb hby at_202) rfl rfl  ?_
                  obtain ⟨cq47, kq47, q47a, q47b, q47c⟩ := isOf hZ hh40 (E32c)
                  obtain ⟨_, _, ⟨T47, L47, k47, n47⟩, -, X47, ⟨Lc47, hQ47, l47, y47, z47⟩, st47⟩ := X40.virtualBack hx hown (mvT hZ (ow hw 317 rfl)) (mvT hZ (ow hw 318 rfl)) (notFace_of_selects (args := #[]) (mvT hZ (ow hw 320 rfl))) (mvT hZ (ow hw 320 rfl)) (mvT hZ (ow hw 319 rfl)) (by decide) (backOf (W := 0) (own_pg l Z a0 hw j pg kp (3 : Int32) [.int lo, .int mi, .int hi] T32.heap n0 (Nat.le_trans gn_j (Nat.le_of_lt E32c.lt)) F32c V32c) hZ (ow hw 321 rfl) (ow hw 150 rfl) (by decide) (by decide)) q47a q47c (g := (mkF m 204 #[iv ga, iv gb, iv gc, iv lv, rv al, rv hm, rv j, iv ya, iv yb, iv yc, iv 3, iv hi, iv lo, iv mi, .unset] [.ref j])) rfl (by rw [hml]; rfl) (Steps.refl _) (argsL := []) (rest := []) (lenOf own_pd6 rfl) rfl (by show 2 * 0 + _ ≤ _; exact Nat.le_of_eq rfl) (hb hby at_204) (fun _ _ => ⟨rfl, hh40, (by decide : 23 + 0 ≤ _), (by decide : 80 + 0 ≤ _)⟩)
                  dsimp only [Pt.U, Pt.locs, Pt.cells, Pt.slots] at X47 l47 y47 z47 st47 hQ47
                  subst y47 z47
                  obtain ⟨rfl, N47q, hh47⟩ := hQ47
                  have N47 := frE l47 N40 N47q
                  refine ov T47 207 #[iv ga, iv gb, iv gc, iv lv, rv al, rv hm, rv j, iv ya, iv yb, iv yc, iv 3, iv hi, iv lo, iv mi, .unset] [.int 3] st47 ?_
                  refine s_iload X47 hx (hb hby at_207) rfl  ?_
                  refine s_icmpY 214 X47 hx (hb hby at_209) (teq rfl).1 (by decide) (by decide) ?_
                  refine s_iconst 1 X47 hx (hb hby at_214) rfl ?_
                  refine og T47 217 #[iv ga, iv gb, iv gc, iv lv, rv al, rv hm, rv j, iv ya, iv yb, iv yc, iv 3, iv hi, iv lo, iv mi, iv 1] [] (fun _ k => XS.istore X47.here hx rfl (hb hby at_215) rfl (l' := #[iv ga, iv gb, iv gc, iv lv, rv al, rv hm, rv j, iv ya, iv yb, iv yc, iv 3, iv hi, iv lo, iv mi, iv 1]) rfl k) ?_
                  refine s_iload X47 hx (hb hby at_217) rfl  ?_
                  refine s_iconst 1 X47 hx (hb hby at_219) rfl ?_
                  refine s_icmpN X47 hx (hb hby at_220) (flt (by decide)).1 ?_
                  refine s_iload X47 hx (hb hby at_223) rfl  ?_
                  refine s_ifN X47 hx (hb hby at_225) ((if0 _ _).trans (feq (by decide)).1) ?_
                  refine s_aload X47 hx (hb hby at_228) rfl rfl  ?_
                  refine s_iconst 1 X47 hx (hb hby at_230) rfl ?_
                  obtain ⟨cq48, kq48, q48a, q48b, q48c⟩ := isOf hZ hh47 (E32c)
                  obtain ⟨_, _, ⟨T48, L48, k48, n48⟩, -, X48, ⟨Lc48, hQ48, l48, y48, z48⟩, st48⟩ := X47.virtualBack hx hown (mvT hZ (ow hw 322 rfl)) (mvT hZ (ow hw 323 rfl)) (notFace_of_selects (args := #[]) (mvT hZ (ow hw 325 rfl))) (mvT hZ (ow hw 325 rfl)) (mvT hZ (ow hw 324 rfl)) (by decide) (backOf (W := 0) (own_ig31 l Z a0 hw j lo mi hi pg kp T32.heap n0 (Nat.le_trans gn_j (Nat.le_of_lt E32c.lt)) F32c V32c) hZ (ow hw 326 rfl) (ow hw 150 rfl) (by decide) (by decide)) q48a q48c (g := (mkF m 231 #[iv ga, iv gb, iv gc, iv lv, rv al, rv hm, rv j, iv ya, iv yb, iv yc, iv 3, iv hi, iv lo, iv mi, iv 1] [.int 1, .ref j])) rfl (by rw [hml]; rfl) (Steps.refl _) (argsL := [.int 1]) (rest := []) (lenOf own_pd30 rfl) rfl (by show 2 * 0 + _ ≤ _; exact Nat.le_of_eq rfl) (hb hby at_231) (fun _ _ => ⟨rfl, hh47, (by decide : 23 + 0 ≤ _), (by decide : 80 + 0 ≤ _)⟩)
                  dsimp only [Pt.U, Pt.locs, Pt.cells, Pt.slots] at X48 l48 y48 z48 st48 hQ48
                  subst y48 z48
                  obtain ⟨rfl, N48q, hh48⟩ := hQ48
                  have N48 := frE l48 N47 N48q
                  refine ov T48 234 #[iv ga, iv gb, iv gc, iv lv, rv al, rv hm, rv j, iv ya, iv yb, iv yc, iv 3, iv hi, iv lo, iv mi, iv 1] [.int hi] st48 ?_
                  refine s_iload X48 hx (hb hby at_234) rfl  ?_
                  refine s_icmpN X48 hx (hb hby at_236) (teq rfl).2 ?_
                  refine s_iconst 1 X48 hx (hb hby at_239) rfl ?_
                  refine s_goto 244 X48 hx (hb hby at_240) (by decide) (by decide) ?_
                  refine og T48 246 #[iv ga, iv gb, iv gc, iv lv, rv al, rv hm, rv j, iv ya, iv yb, iv yc, iv 3, iv hi, iv lo, iv mi, iv 1] [] (fun _ k => XS.istore X48.here hx rfl (hb hby at_244) rfl (l' := #[iv ga, iv gb, iv gc, iv lv, rv al, rv hm, rv j, iv ya, iv yb, iv yc, iv 3, iv hi, iv lo, iv mi, iv 1]) rfl k) ?_
                  refine s_iload X48 hx (hb hby at_246) rfl  ?_
                  refine s_iconst 2 X48 hx (hb hby at_248) rfl ?_
                  refine s_icmpN X48 hx (hb hby at_249) (flt (by decide)).1 ?_
                  refine s_iload X48 hx (hb hby at_252) rfl  ?_
                  refine s_ifN X48 hx (hb hby at_254) ((if0 _ _).trans (feq (by decide)).1) ?_
                  refine s_aload X48 hx (hb hby at_257) rfl rfl  ?_
                  refine s_iconst 2 X48 hx (hb hby at_259) rfl ?_
                  obtain ⟨cq49, kq49, q49a, q49b, q49c⟩ := isOf hZ hh48 (E32c)
                  obtain ⟨_, _, ⟨T49, L49, k49, n49⟩, -, X49, ⟨Lc49, hQ49, l49, y49, z49⟩, st49⟩ := X48.virtualBack hx hown (mvT hZ (ow hw 322 rfl)) (mvT hZ (ow hw 323 rfl)) (notFace_of_selects (args := #[]) (mvT hZ (ow hw 325 rfl))) (mvT hZ (ow hw 325 rfl)) (mvT hZ (ow hw 324 rfl)) (by decide) (backOf (W := 0) (own_ig32 l Z a0 hw j lo mi hi pg kp T32.heap n0 (Nat.le_trans gn_j (Nat.le_of_lt E32c.lt)) F32c V32c) hZ (ow hw 326 rfl) (ow hw 150 rfl) (by decide) (by decide)) q49a q49c (g := (mkF m 260 #[iv ga, iv gb, iv gc, iv lv, rv al, rv hm, rv j, iv ya, iv yb, iv yc, iv 3, iv hi, iv lo, iv mi, iv 1] [.int 2, .ref j])) rfl (by rw [hml]; rfl) (Steps.refl _) (argsL := [.int 2]) (rest := []) (lenOf own_pd30 rfl) rfl (by show 2 * 0 + _ ≤ _; exact Nat.le_of_eq rfl) (hb hby at_260) (fun _ _ => ⟨rfl, hh48, (by decide : 23 + 0 ≤ _), (by decide : 80 + 0 ≤ _)⟩)
                  dsimp only [Pt.U, Pt.locs, Pt.cells, Pt.slots] at X49 l49 y49 z49 st49 hQ49
                  subst y49 z49
                  obtain ⟨rfl, N49q, hh49⟩ := hQ49
                  have N49 := frE l49 N48 N49q
                  refine ov T49 263 #[iv ga, iv gb, iv gc, iv lv, rv al, rv hm, rv j, iv ya, iv yb, iv yc, iv 3, iv hi, iv lo, iv mi, iv 1] [.int mi] st49 ?_
                  refine s_iload X49 hx (hb hby at_263) rfl  ?_
                  refine s_icmpN X49 hx (hb hby at_265) (teq rfl).2 ?_
                  refine s_iconst 1 X49 hx (hb hby at_268) rfl ?_
                  refine s_goto 273 X49 hx (hb hby at_269) (by decide) (by decide) ?_
                  refine og T49 275 #[iv ga, iv gb, iv gc, iv lv, rv al, rv hm, rv j, iv ya, iv yb, iv yc, iv 3, iv hi, iv lo, iv mi, iv 1] [] (fun _ k => XS.istore X49.here hx rfl (hb hby at_273) rfl (l' := #[iv ga, iv gb, iv gc, iv lv, rv al, rv hm, rv j, iv ya, iv yb, iv yc, iv 3, iv hi, iv lo, iv mi, iv 1]) rfl k) ?_
                  refine s_iload X49 hx (hb hby at_275) rfl  ?_
                  refine s_iconst 3 X49 hx (hb hby at_277) rfl ?_
                  refine s_icmpN X49 hx (hb hby at_278) (flt (by decide)).1 ?_
                  refine s_iload X49 hx (hb hby at_281) rfl  ?_
                  refine s_ifN X49 hx (hb hby at_283) ((if0 _ _).trans (feq (by decide)).1) ?_
                  refine s_aload X49 hx (hb hby at_286) rfl rfl  ?_
                  refine s_iconst 3 X49 hx (hb hby at_288) rfl ?_
                  obtain ⟨cq50, kq50, q50a, q50b, q50c⟩ := isOf hZ hh49 (E32c)
                  obtain ⟨_, _, ⟨T50, L50, k50, n50⟩, -, X50, ⟨Lc50, hQ50, l50, y50, z50⟩, st50⟩ := X49.virtualBack hx hown (mvT hZ (ow hw 322 rfl)) (mvT hZ (ow hw 323 rfl)) (notFace_of_selects (args := #[]) (mvT hZ (ow hw 325 rfl))) (mvT hZ (ow hw 325 rfl)) (mvT hZ (ow hw 324 rfl)) (by decide) (backOf (W := 0) (own_ig33 l Z a0 hw j lo mi hi pg kp T32.heap n0 (Nat.le_trans gn_j (Nat.le_of_lt E32c.lt)) F32c V32c) hZ (ow hw 326 rfl) (ow hw 150 rfl) (by decide) (by decide)) q50a q50c (g := (mkF m 289 #[iv ga, iv gb, iv gc, iv lv, rv al, rv hm, rv j, iv ya, iv yb, iv yc, iv 3, iv hi, iv lo, iv mi, iv 1] [.int 3, .ref j])) rfl (by rw [hml]; rfl) (Steps.refl _) (argsL := [.int 3]) (rest := []) (lenOf own_pd30 rfl) rfl (by show 2 * 0 + _ ≤ _; exact Nat.le_of_eq rfl) (hb hby at_289) (fun _ _ => ⟨rfl, hh49, (by decide : 23 + 0 ≤ _), (by decide : 80 + 0 ≤ _)⟩)
                  dsimp only [Pt.U, Pt.locs, Pt.cells, Pt.slots] at X50 l50 y50 z50 st50 hQ50
                  subst y50 z50
                  obtain ⟨rfl, N50q, hh50⟩ := hQ50
                  have N50 := frE l50 N49 N50q
                  refine ov T50 292 #[iv ga, iv gb, iv gc, iv lv, rv al, rv hm, rv j, iv ya, iv yb, iv yc, iv 3, iv hi, iv lo, iv mi, iv 1] [.int lo] st50 ?_
                  refine s_iload X50 hx (hb hby at_292) rfl  ?_
                  refine s_icmpN X50 hx (hb hby at_294) (teq rfl).2 ?_
                  refine s_iconst 1 X50 hx (hb hby at_297) rfl ?_
                  refine s_goto 302 X50 hx (hb hby at_298) (by decide) (by decide) ?_
                  refine og T50 304 #[iv ga, iv gb, iv gc, iv lv, rv al, rv hm, rv j, iv ya, iv yb, iv yc, iv 3, iv hi, iv lo, iv mi, iv 1] [] (fun _ k => XS.istore X50.here hx rfl (hb hby at_302) rfl (l' := #[iv ga, iv gb, iv gc, iv lv, rv al, rv hm, rv j, iv ya, iv yb, iv yc, iv 3, iv hi, iv lo, iv mi, iv 1]) rfl k) ?_
                  refine s_iload X50 hx (hb hby at_304) rfl  ?_
                  refine own_retZ X50 hx hlk (t := .boolean) hret (by simp) (hb hby at_306) ?_ (by decide) (by decide)
                  rw [hh50]
                  exact ⟨rfl, N50⟩
              exact J202 _ _ _ _ (own_fin R32c hya hyb hyc hea heb hec)
            by_cases h139 : (0 : Int32) < gc
            · skip
              refine s_ifN X32 hx (hb hby at_139) ((if0 _ _).trans (tlt h139).2.2.2) ?_
              refine s_iconst 1 X32 hx (hb hby at_142) rfl ?_
              refine s_goto 147 X32 hx (hb hby at_143) (by decide) (by decide) ?_
              exact J147 _ (Or.inl ⟨h139, rfl⟩)
            · skip
              refine s_ifY 146 X32 hx (hb hby at_139) ((if0 _ _).trans (flt h139).2.2.2) (by decide) (by decide) ?_
              refine s_iconst 0 X32 hx (hb hby at_146) rfl ?_
              exact J147 _ (Or.inr ⟨h139, rfl⟩)
          by_cases h129 : (0 : Int32) < gb
          · skip
            refine s_ifN X32 hx (hb hby at_129) ((if0 _ _).trans (tlt h129).2.2.2) ?_
            refine s_iconst 1 X32 hx (hb hby at_132) rfl ?_
            refine s_goto 137 X32 hx (hb hby at_133) (by decide) (by decide) ?_
            exact J137 _ (Or.inl ⟨h129, rfl⟩)
          · skip
            refine s_ifY 136 X32 hx (hb hby at_129) ((if0 _ _).trans (flt h129).2.2.2) (by decide) (by decide) ?_
            refine s_iconst 0 X32 hx (hb hby at_136) rfl ?_
            exact J137 _ (Or.inr ⟨h129, rfl⟩)
        by_cases h120 : (0 : Int32) < ga
        · skip
          refine s_ifN X32 hx (hb hby at_120) ((if0 _ _).trans (tlt h120).2.2.2) ?_
          refine s_iconst 1 X32 hx (hb hby at_123) rfl ?_
          refine s_goto 128 X32 hx (hb hby at_124) (by decide) (by decide) ?_
          exact J128 _ (Or.inl ⟨h120, rfl⟩)
        · skip
          refine s_ifY 127 X32 hx (hb hby at_120) ((if0 _ _).trans (flt h120).2.2.2) (by decide) (by decide) ?_
          refine s_iconst 0 X32 hx (hb hby at_127) rfl ?_
          exact J128 _ (Or.inr ⟨h120, rfl⟩)
      by_cases h109 : (0 : Int32) < gc
      · skip
        refine s_ifN X32 hx (hb hby at_109) ((if0 _ _).trans (tlt h109).2.2.2) ?_
        refine s_iloadN X32 hx (hb hby at_112) rfl  ?_
        refine s_goto 117 X32 hx (hb hby at_113) (by decide) (by decide) ?_
        exact J117 _ (Or.inl ⟨h109, rfl⟩)
      · skip
        refine s_ifY 116 X32 hx (hb hby at_109) ((if0 _ _).trans (flt h109).2.2.2) (by decide) (by decide) ?_
        refine s_iconst 0 X32 hx (hb hby at_116) rfl ?_
        exact J117 _ (Or.inr ⟨h109, rfl⟩)
    by_cases h98 : (0 : Int32) < gb
    · skip
      refine s_ifN X32 hx (hb hby at_98) ((if0 _ _).trans (tlt h98).2.2.2) ?_
      refine s_iloadN X32 hx (hb hby at_101) rfl  ?_
      refine s_goto 106 X32 hx (hb hby at_102) (by decide) (by decide) ?_
      exact J106 _ (Or.inl ⟨h98, rfl⟩)
    · skip
      refine s_ifY 105 X32 hx (hb hby at_98) ((if0 _ _).trans (flt h98).2.2.2) (by decide) (by decide) ?_
      refine s_iconst 0 X32 hx (hb hby at_105) rfl ?_
      exact J106 _ (Or.inr ⟨h98, rfl⟩)
  by_cases h87 : (0 : Int32) < ga
  · skip
    refine s_ifN X32 hx (hb hby at_87) ((if0 _ _).trans (tlt h87).2.2.2) ?_
    refine s_iloadN X32 hx (hb hby at_90) rfl  ?_
    refine s_goto 95 X32 hx (hb hby at_91) (by decide) (by decide) ?_
    exact J95 _ (Or.inl ⟨h87, rfl⟩)
  · skip
    refine s_ifY 94 X32 hx (hb hby at_87) ((if0 _ _).trans (flt h87).2.2.2) (by decide) (by decide) ?_
    refine s_iconst 0 X32 hx (hb hby at_94) rfl ?_
    exact J95 _ (Or.inr ⟨h87, rfl⟩)
set_option maxRecDepth 65536 in
set_option maxHeartbeats 40000000 in
theorem comes_1 {Post : Tables → Env → Array Value → State → Outcome → State → Prop} (hpost : ∀ tb e args s v u, (limb_1_1.after args s (.returned v) u = true ∧ limb_1_2.after args s (.returned v) u = true ∧ True) → FrameEnd s (.returned v) u (Jvm.fieldLocs frame_1_writes args s ++ Jvm.arrayLocs frame_1_arrays args s ++ Jvm.staticLocs frame_1_statics s) 56 256 → Post tb e args s (.returned v) u) :
    ArmFor flags0 classFile x code maxLocals ret World_1 tables_1 room_1 Calls_1 rest_1 Pre_1 Post := by
  intro l hfl _ _ p e ha hc hk s m args below hf hA hF happ hP
  obtain ⟨hcalls, hrest, hpre⟩ := hP
  obtain ⟨-, -, -, hnamed, -, -, -, hat⟩ := (Spec.applies_iff hf).mp happ
  obtain ⟨hg, hn⟩ := and_e (Cond.before_iff.mp (show (Jvm.Cond.and given_1 narrow_1).before args s = true from hpre))
  obtain ⟨g0, gg0⟩ := and_e hg
  obtain ⟨w0, w1, w2, w3, rfl⟩ : ∃ w0 w1 w2 w3 : Value, args = #[w0, w1, w2, w3] := by
    have hs : args.size = 4 := by simpa [Cond.value, given_1] using g0
    obtain ⟨L⟩ := args
    match L, hs with
    | [w0, w1, w2, w3], _ => exact ⟨w0, w1, w2, w3, rfl⟩
  have hw := fun d (hd : d ∈ tables_1) => atoms_spec (ws := Jvm.Cond.code x code maxLocals ret :: tables_1) hat d (List.mem_cons_of_mem _ hd)
  obtain ⟨gi0, gg1⟩ := and_e gg0
  obtain ⟨i0, ei0⟩ := is_v gi0
  obtain rfl : w0 = (.int i0) := Option.some.inj ei0
  obtain ⟨gi1, gg2⟩ := and_e gg1
  obtain ⟨i1, ei1⟩ := is_v gi1
  obtain rfl : w1 = (.int i1) := Option.some.inj ei1
  obtain ⟨gi2, gg3⟩ := and_e gg2
  obtain ⟨i2, ei2⟩ := is_v gi2
  obtain rfl : w2 = (.int i2) := Option.some.inj ei2
  obtain ⟨i3, ei3⟩ := is_v gg3
  obtain rfl : w3 = (.int i3) := Option.some.inj ei3
  obtain ⟨hsets, hown0⟩ := atoms_of _ (rest_1_c_eq ▸ (show rest_1_c.before _ s = true from hrest))
  have hfit : Fit s := fun {y c} hc i hi => by
    obtain ⟨ha, rfl⟩ := Array.getElem?_eq_some_iff.mp hc
    have q := List.all_eq_true.mp ((Array.all_eq_true_iff_forall_mem.mp hF) _ (Array.getElem_mem ha)) i (List.mem_range.mpr hi)
    simpa [Array.getElem?_eq_getElem hi] using q
  obtain ⟨dd, edd⟩ := exa_v (Cond.before_iff.mp (hsets _ (List.mem_of_getElem? (i := 7) rfl)))
  have SD := Sta.start edd (Or.inr ⟨(ow hw 2 rfl), (hsets _ (List.mem_of_getElem? (i := 2) rfl))⟩)
  obtain ⟨cs, ecs⟩ := is_v (Cond.before_iff.mp (hsets _ (List.mem_of_getElem? (i := 10) rfl)))
  have SC := Sta.start ecs (Or.inl (hsets _ (List.mem_of_getElem? (i := 9) rfl)))
  have hcs : ¬ cs = (0 : Int32) := gotF (Cond.eq_ints ecs (Term.int_eval 0)) (not_v (Cond.before_iff.mp (hsets _ (List.mem_of_getElem? (i := 11) rfl))))
  have ehi := eqv_i (F := .int 127) (y := 127) rfl (Cond.before_iff.mp (hsets _ (List.mem_of_getElem? (i := 21) rfl)))
  have SH := Sta.start ehi (Or.inl (hsets _ (List.mem_of_getElem? (i := 19) rfl)))
  obtain ⟨ca, eca⟩ := exa_v (Cond.before_iff.mp (hsets _ (List.mem_of_getElem? (i := 23) rfl)))
  have SA := Sta.start eca (Or.inr ⟨(ow hw 71 rfl), (hsets _ (List.mem_of_getElem? (i := 20) rfl))⟩)
  obtain ⟨cl, Ac⟩ := Arr.start eca (Cond.before_iff.mp (hsets _ (List.mem_of_getElem? (i := 22) rfl)))
  have B := own_bxs eca Ac (Cond.before_iff.mp (hsets _ (List.mem_of_getElem? (i := 24) rfl))) (Cond.before_iff.mp (hsets _ (List.mem_of_getElem? (i := 25) rfl))) (fun _ => rfl)
  obtain ⟨n, o, h1, h2, h3, _, L, rfl, ⟨rfl, N⟩, hq⟩ := own_rm0 l s _ hw i0 i1 i2 i3 dd ca cl cs s.heap s.heap.size (Nat.le_refl _) SD SC SH SA (Old.start s) B hcs p e ha hc hk s m _ below hf ((Spec.applies_iff_loose hf).mp happ).1 ⟨rfl, State.Warmed39.refl s, rfl⟩ trivial
  refine ⟨n, _, h1, h2, h3, hpost _ _ _ _ _ _ ⟨Cond.after_iff.mpr rfl, Cond.after_iff.mpr (eq_i res_at (Term.int_eval (1)) rfl), trivial⟩ ⟨hq.1, hq.2.1, (hq.2.2.sift fun y hy => Or.inr (N y hy)).mono (by decide) (by decide)⟩⟩
theorem main_1_1 : Claimed_1_1 := comes_1 fun _ _ _ _ _ _ h hF => ⟨h.1, hF⟩
theorem main_1_2 : Claimed_1_2 := comes_1 fun _ _ _ _ _ _ h hF => ⟨h.2.1, hF⟩
end Jvm.Pilot.@@N@@
namespace Jvm.Pilot.@@N@@
open Jvm Jvm.ClassFile Sem Op Lib Jvm.Free Jvm.Stand Jvm.Pilot.@@N@@.Jvm.D
/-! MADE BY PROGRAM (witnessworld.py) out of the Statement's table words and the real class files: 44 classes; the members and pool entries that the words name. The judged class is class 1, her method 1. -/
namespace start1
open Jvm.ClassFile
def u (s : String) : CpInfo := .utf8 (stringToUtf16 s)
/-- a pool by its gaps: so many unusable entries, then the entry; so many at the end -/
def gap : Nat → List CpInfo → List CpInfo
  | 0, r => r
  | n + 1, r => .unusable :: gap n r
def poolList (es : List (Nat × CpInfo)) (last : Nat) : List CpInfo := es.foldr (fun e r => gap e.1 (e.2 :: r)) (gap last [])
def pool (es : List (Nat × CpInfo)) (last : Nat) : Array CpInfo := ⟨poolList es last⟩
def fileOf (pool : Array CpInfo) (this : Nat) (attrs : Array Attribute := #[]) (ms : Array MethodInfo := #[]) (fl : Nat := 33) (sup : Nat := 0) (ifs : Array Nat := #[]) (fds : Array FieldInfo := #[]) : ClassFile where
  minorVersion := 0
  majorVersion := 65
  constantPool := pool
  accessFlags := fl
  thisClass := this
  superClass := sup
  interfaces := ifs
  fields := fds
  methods := ms
  attributes := attrs
def plain (name : String) (sup : Option ClassId) : Class where
  name := name
  kind := .ordinary
  loader := none
  accessFlags := 33
  super := sup
  interfaces := #[]
  cf := none
  fields := #[]
  methods := #[]
  instanceTypes := #[]
  staticTypes := #[]
  resolved := #[]
  callSites := []
  init := .initialized
  statics := none
  mirror := none

def pool0 : Array CpInfo := pool [(5, u "<init>"), (0, u "()V"), (1, .class_ 10), (1, u "java/lang/Object"), (16, u "hashCode"), (0, u "()I"), (67, u "clone"), (0, u "()Ljava/lang/Object;")] 26

def k0c0 : Code := { maxStack := 0, maxLocals := 1, code := object_method_1_code, exceptionTable := #[], attributes := #[] }
def k0m0 : Method := { name := "<init>", desc := "()V", sig := { parameters := [], returnType := none }, accessFlags := 1, code := some k0c0 }
def k0m1 : Method := { name := "hashCode", desc := "()I", sig := { parameters := [], returnType := some .int }, accessFlags := 257, code := none }
def k0m2 : Method := { name := "clone", desc := "()Ljava/lang/Object;", sig := { parameters := [], returnType := some (.object "java/lang/Object") }, accessFlags := 260, code := none }
/-- java/lang/Object -/
def k0 : Class := { plain "java/lang/Object" none with
  accessFlags := 33
  interfaces := #[]
  cf := some (fileOf pool0 8 #[] #[{ accessFlags := 1, nameIndex := 5, descriptorIndex := 6, attributes := #[] }, { accessFlags := 257, nameIndex := 27, descriptorIndex := 28, attributes := #[] }, { accessFlags := 260, nameIndex := 96, descriptorIndex := 97, attributes := #[] }] 33 0 #[] #[])
  fields := #[]
  methods := #[k0m0, k0m1, k0m2]
  instanceTypes := #[]
  staticTypes := #[]
  resolved := Array.replicate 124 none
  statics := none }

def pool1 : Array CpInfo := pool [(2, .class_ 4), (0, .nameAndType 5 6), (0, u "java/lang/Object"), (0, u "<init>"), (0, u "()V"), (0, .class_ 8), (0, u "java/util/ArrayList"), (0, .methodref 7 3), (0, .class_ 11), (0, u "java/util/HashMap"), (0, .methodref 10 3), (0, .methodref 14 15), (0, .class_ 16), (0, .nameAndType 17 18), (0, u "java/lang/String"), (0, u "valueOf"), (0, u "(C)Ljava/lang/String;"), (0, .methodref 20 21), (0, .class_ 22), (0, .nameAndType 17 23), (0, u "java/lang/Integer"), (0, u "(I)Ljava/lang/Integer;"), (0, .interfaceMethodref 25 26), (0, .class_ 27), (0, .nameAndType 28 29), (0, u "java/util/Map"), (0, u "put"), (0, u "(Ljava/lang/Object;Ljava/lang/Object;)Ljava/lang/Object;"), (0, .class_ 31), (0, u "com/example/nimble_fusion/nimblefusion/scoring/JudgedRanking"), (0, .integer 2147483647), (0, .methodref 30 34), (0, .nameAndType 5 35), (0, u "(Ljava/util/List;Ljava/util/Map;I)V"), (0, .methodref 37 38), (0, .class_ 39), (0, .nameAndType 40 41), (0, u "java/lang/Math"), (0, u "max"), (0, u "(II)I"), (0, .methodref 37 43), (0, .nameAndType 44 41), (0, u "min"), (0, .methodref 30 46), (0, .nameAndType 47 48), (0, u "positivelyGraded"), (0, u "()I"), (0, .methodref 30 50), (0, .nameAndType 51 52), (0, u "idealGrade"), (0, u "(I)I"), (0, .class_ 54), (0, u "com/example/nimble_fusion/nimblefusion/scoring/JudgedRankingIdealGradePinLaw"), (2, u "law"), (0, u "(IIII)Z")] 5

def k1m0 : Method := { name := "<init>", desc := "()V", sig := { parameters := [], returnType := none }, accessFlags := 1, code := none }
def k1c1 : Code := { maxStack := 6, maxLocals := 15, code := code, exceptionTable := #[], attributes := #[] }
def k1m1 : Method := { name := "law", desc := "(IIII)Z", sig := { parameters := [.int, .int, .int, .int], returnType := some .boolean }, accessFlags := 9, code := some k1c1 }
/-- com/example/nimble_fusion/nimblefusion/scoring/JudgedRankingIdealGradePinLaw -/
def k1 : Class := { plain "com/example/nimble_fusion/nimblefusion/scoring/JudgedRankingIdealGradePinLaw" (some 0) with
  accessFlags := 49
  interfaces := #[]
  cf := some (fileOf pool1 53 #[] #[{ accessFlags := 1, nameIndex := 5, descriptorIndex := 6, attributes := #[] }, { accessFlags := 9, nameIndex := 57, descriptorIndex := 58, attributes := #[] }] 49 2 #[] #[])
  fields := #[]
  methods := #[k1m0, k1m1]
  instanceTypes := #[]
  staticTypes := #[]
  resolved := Array.replicate 64 none
  statics := none }

def pool2 : Array CpInfo := pool [(8, .class_ 10), (1, u "java/lang/Iterable"), (24, .class_ 36), (0, u "java/lang/Object")] 25

/-- java/lang/Iterable -/
def k2 : Class := { plain "java/lang/Iterable" (some 0) with
  accessFlags := 1537
  interfaces := #[]
  cf := some (fileOf pool2 8 #[] #[] 1537 35 #[] #[])
  fields := #[]
  methods := #[]
  instanceTypes := #[]
  staticTypes := #[]
  resolved := Array.replicate 62 none
  statics := none }

def pool3 : Array CpInfo := pool [(10, .class_ 12), (1, u "java/util/Collection"), (10, u "iterator"), (0, u "()Ljava/util/Iterator;"), (35, .class_ 61), (0, u "java/lang/Object"), (0, .class_ 63), (0, u "java/lang/Iterable")] 51

def k3m0 : Method := { name := "iterator", desc := "()Ljava/util/Iterator;", sig := { parameters := [], returnType := some (.object "java/util/Iterator") }, accessFlags := 1025, code := none }
/-- java/util/Collection -/
def k3 : Class := { plain "java/util/Collection" (some 0) with
  accessFlags := 1537
  interfaces := #[2]
  cf := some (fileOf pool3 10 #[] #[{ accessFlags := 1025, nameIndex := 23, descriptorIndex := 24, attributes := #[] }] 1537 60 #[62] #[])
  fields := #[]
  methods := #[k3m0]
  instanceTypes := #[]
  staticTypes := #[]
  resolved := Array.replicate 115 none
  statics := none }

def pool4 : Array CpInfo := pool [(1, .methodref 2 3), (0, .class_ 4), (0, .nameAndType 5 6), (0, u "java/lang/Object"), (0, u "<init>"), (0, u "()V"), (1, .class_ 10), (1, u "java/util/AbstractCollection"), (66, .class_ 78), (0, u "java/util/Collection")] 81

def k4c0 : Code := { maxStack := 1, maxLocals := 1, code := jdk_22_method_1_code, exceptionTable := #[], attributes := #[] }
def k4m0 : Method := { name := "<init>", desc := "()V", sig := { parameters := [], returnType := none }, accessFlags := 4, code := some k4c0 }
/-- java/util/AbstractCollection -/
def k4 : Class := { plain "java/util/AbstractCollection" (some 0) with
  accessFlags := 1057
  interfaces := #[3]
  cf := some (fileOf pool4 8 #[] #[{ accessFlags := 4, nameIndex := 5, descriptorIndex := 6, attributes := #[] }] 1057 2 #[77] #[])
  fields := #[]
  methods := #[k4m0]
  instanceTypes := #[]
  staticTypes := #[]
  resolved := Array.replicate 160 none
  statics := none }

def pool5 : Array CpInfo := pool [(8, .class_ 10), (1, u "java/util/SequencedCollection"), (15, .class_ 27), (0, u "java/lang/Object"), (0, .class_ 29), (0, u "java/util/Collection")] 27

/-- java/util/SequencedCollection -/
def k5 : Class := { plain "java/util/SequencedCollection" (some 0) with
  accessFlags := 1537
  interfaces := #[3]
  cf := some (fileOf pool5 8 #[] #[] 1537 26 #[28] #[])
  fields := #[]
  methods := #[]
  instanceTypes := #[]
  staticTypes := #[]
  resolved := Array.replicate 57 none
  statics := none }

def pool6 : Array CpInfo := pool [(8, .class_ 10), (1, u "java/util/List"), (68, u "size"), (0, u "()I"), (22, .class_ 104), (0, u "java/lang/Object"), (15, .class_ 121), (0, u "java/util/SequencedCollection")] 129

def k6m0 : Method := { name := "size", desc := "()I", sig := { parameters := [], returnType := some .int }, accessFlags := 1025, code := none }
/-- java/util/List -/
def k6 : Class := { plain "java/util/List" (some 0) with
  accessFlags := 1537
  interfaces := #[5]
  cf := some (fileOf pool6 8 #[] #[{ accessFlags := 1025, nameIndex := 79, descriptorIndex := 80, attributes := #[] }] 1537 103 #[120] #[])
  fields := #[]
  methods := #[k6m0]
  instanceTypes := #[]
  staticTypes := #[]
  resolved := Array.replicate 251 none
  statics := none }

def pool7 : Array CpInfo := pool [(1, .methodref 2 3), (0, .class_ 4), (0, .nameAndType 5 6), (0, u "java/util/AbstractCollection"), (0, u "<init>"), (0, u "()V"), (0, .fieldref 8 9), (0, .class_ 10), (0, .nameAndType 11 12), (0, u "java/util/AbstractList"), (0, u "modCount"), (0, u "I"), (64, .class_ 78), (0, u "java/util/AbstractList$Itr"), (3, .class_ 83), (0, u "java/util/AbstractList$ListItr"), (9, .class_ 94), (0, u "java/util/AbstractList$RandomAccessSubList"), (3, .class_ 99), (0, u "java/util/AbstractList$SubList"), (33, .class_ 134), (0, u "java/util/List"), (73, .class_ 209), (0, u "java/util/AbstractList$SubList$1"), (0, .class_ 211), (0, u "java/util/AbstractList$RandomAccessSpliterator")] 6

def k7c0 : Code := { maxStack := 2, maxLocals := 1, code := jdk_39_method_1_code, exceptionTable := #[], attributes := #[] }
def k7m0 : Method := { name := "<init>", desc := "()V", sig := { parameters := [], returnType := none }, accessFlags := 4, code := some k7c0 }
/-- java/util/AbstractList -/
def k7 : Class := { plain "java/util/AbstractList" (some 4) with
  accessFlags := 1057
  interfaces := #[6]
  cf := some (fileOf pool7 8 #[.nestMembers #[93, 98, 208, 210, 82, 77]] #[{ accessFlags := 4, nameIndex := 5, descriptorIndex := 6, attributes := #[] }] 1057 2 #[133] #[{ accessFlags := 132, nameIndex := 11, descriptorIndex := 12, attributes := #[] }])
  fields := #[{ name := "modCount", type := .int, accessFlags := 132, slot := 0, constantValue := 0 }]
  methods := #[k7m0]
  instanceTypes := #[.int]
  staticTypes := #[]
  resolved := Array.replicate 218 none
  statics := none }

def pool8 : Array CpInfo := pool [(1, .class_ 2), (0, u "java/util/RandomAccess"), (0, .class_ 4), (0, u "java/lang/Object")] 2

/-- java/util/RandomAccess -/
def k8 : Class := { plain "java/util/RandomAccess" (some 0) with
  accessFlags := 1537
  interfaces := #[]
  cf := some (fileOf pool8 1 #[] #[] 1537 3 #[] #[])
  fields := #[]
  methods := #[]
  instanceTypes := #[]
  staticTypes := #[]
  resolved := Array.replicate 7 none
  statics := none }

def pool9 : Array CpInfo := pool [(1, .class_ 2), (0, u "java/lang/Cloneable"), (0, .class_ 4), (0, u "java/lang/Object")] 2

/-- java/lang/Cloneable -/
def k9 : Class := { plain "java/lang/Cloneable" (some 0) with
  accessFlags := 1537
  interfaces := #[]
  cf := some (fileOf pool9 1 #[] #[] 1537 3 #[] #[])
  fields := #[]
  methods := #[]
  instanceTypes := #[]
  staticTypes := #[]
  resolved := Array.replicate 7 none
  statics := none }

def pool10 : Array CpInfo := pool [(1, .class_ 2), (0, u "java/io/Serializable"), (0, .class_ 4), (0, u "java/lang/Object")] 2

/-- java/io/Serializable -/
def k10 : Class := { plain "java/io/Serializable" (some 0) with
  accessFlags := 1537
  interfaces := #[]
  cf := some (fileOf pool10 1 #[] #[] 1537 3 #[] #[])
  fields := #[]
  methods := #[]
  instanceTypes := #[]
  staticTypes := #[]
  resolved := Array.replicate 7 none
  statics := none }

def pool11 : Array CpInfo := pool [(1, .methodref 2 3), (0, .class_ 4), (0, .nameAndType 5 6), (0, u "java/util/AbstractList"), (0, u "<init>"), (0, u "()V"), (2, .fieldref 10 11), (0, .class_ 12), (0, .nameAndType 13 14), (0, u "java/util/ArrayList"), (0, u "elementData"), (0, u "[Ljava/lang/Object;"), (2, u "EMPTY_ELEMENTDATA"), (21, .fieldref 10 40), (0, .nameAndType 41 14), (0, u "DEFAULTCAPACITY_EMPTY_ELEMENTDATA"), (6, .fieldref 10 49), (0, .nameAndType 50 51), (0, u "size"), (0, u "I"), (96, .class_ 149), (0, u "java/util/List"), (36, u "()I"), (75, .class_ 263), (0, u "java/util/ArrayList$ListItr"), (3, .class_ 268), (0, u "java/util/ArrayList$Itr"), (7, .class_ 277), (0, u "java/util/ArrayList$SubList"), (12, .class_ 291), (0, u "java/util/ArrayList$ArrayListSpliterator"), (37, .class_ 330), (0, u "java/util/RandomAccess"), (0, .class_ 332), (0, u "java/lang/Cloneable"), (0, .class_ 334), (0, u "java/io/Serializable"), (0, u "serialVersionUID"), (0, u "J"), (3, u "DEFAULT_CAPACITY"), (159, .class_ 501), (0, u "java/util/ArrayList$SubList$2"), (0, .class_ 503), (0, u "java/util/ArrayList$SubList$1")] 5

def k11c0 : Code := { maxStack := 2, maxLocals := 1, code := jdk_38_method_2_code, exceptionTable := #[], attributes := #[] }
def k11m0 : Method := { name := "<init>", desc := "()V", sig := { parameters := [], returnType := none }, accessFlags := 1, code := some k11c0 }
def k11c1 : Code := { maxStack := 1, maxLocals := 1, code := jdk_38_method_8_code, exceptionTable := #[], attributes := #[] }
def k11m1 : Method := { name := "size", desc := "()I", sig := { parameters := [], returnType := some .int }, accessFlags := 1, code := some k11c1 }
/-- java/util/ArrayList -/
def k11 : Class := { plain "java/util/ArrayList" (some 7) with
  accessFlags := 33
  interfaces := #[6, 8, 9, 10]
  cf := some (fileOf pool11 10 #[.nestMembers #[290, 276, 500, 502, 262, 267]] #[{ accessFlags := 1, nameIndex := 5, descriptorIndex := 6, attributes := #[] }, { accessFlags := 1, nameIndex := 50, descriptorIndex := 186, attributes := #[] }] 33 2 #[148, 329, 331, 333] #[{ accessFlags := 26, nameIndex := 335, descriptorIndex := 336, attributes := #[] }, { accessFlags := 26, nameIndex := 340, descriptorIndex := 51, attributes := #[] }, { accessFlags := 26, nameIndex := 17, descriptorIndex := 14, attributes := #[] }, { accessFlags := 26, nameIndex := 41, descriptorIndex := 14, attributes := #[] }, { accessFlags := 128, nameIndex := 13, descriptorIndex := 14, attributes := #[] }, { accessFlags := 2, nameIndex := 50, descriptorIndex := 51, attributes := #[] }])
  fields := #[{ name := "serialVersionUID", type := .long, accessFlags := 26, slot := 0, constantValue := 0 }, { name := "DEFAULT_CAPACITY", type := .int, accessFlags := 26, slot := 1, constantValue := 0 }, { name := "EMPTY_ELEMENTDATA", type := (.array (.object "java/lang/Object")), accessFlags := 26, slot := 2, constantValue := 0 }, { name := "DEFAULTCAPACITY_EMPTY_ELEMENTDATA", type := (.array (.object "java/lang/Object")), accessFlags := 26, slot := 3, constantValue := 0 }, { name := "elementData", type := (.array (.object "java/lang/Object")), accessFlags := 128, slot := 1, constantValue := 0 }, { name := "size", type := .int, accessFlags := 2, slot := 2, constantValue := 0 }]
  methods := #[k11m0, k11m1]
  instanceTypes := #[.int, (.array (.object "java/lang/Object")), .int]
  staticTypes := #[.long, .int, (.array (.object "java/lang/Object")), (.array (.object "java/lang/Object"))]
  resolved := Array.replicate 509 none
  statics := some 0 }

def pool12 : Array CpInfo := pool [(2, .class_ 4), (1, u "java/util/Map"), (31, .class_ 37), (0, u "java/util/Map$Entry"), (25, u "(Ljava/lang/Object;Ljava/lang/Object;)Ljava/lang/Object;"), (5, u "put"), (23, .class_ 94), (0, u "java/lang/Object"), (25, u "size"), (0, u "()I"), (11, u "values"), (0, u "()Ljava/util/Collection;")] 128

def k12m0 : Method := { name := "size", desc := "()I", sig := { parameters := [], returnType := some .int }, accessFlags := 1025, code := none }
def k12m1 : Method := { name := "put", desc := "(Ljava/lang/Object;Ljava/lang/Object;)Ljava/lang/Object;", sig := { parameters := [(.object "java/lang/Object"), (.object "java/lang/Object")], returnType := some (.object "java/lang/Object") }, accessFlags := 1025, code := none }
def k12m2 : Method := { name := "values", desc := "()Ljava/util/Collection;", sig := { parameters := [], returnType := some (.object "java/util/Collection") }, accessFlags := 1025, code := none }
/-- java/util/Map -/
def k12 : Class := { plain "java/util/Map" (some 0) with
  accessFlags := 1537
  interfaces := #[]
  cf := some (fileOf pool12 2 #[.nestMembers #[36]] #[{ accessFlags := 1025, nameIndex := 120, descriptorIndex := 121, attributes := #[] }, { accessFlags := 1025, nameIndex := 69, descriptorIndex := 63, attributes := #[] }, { accessFlags := 1025, nameIndex := 133, descriptorIndex := 134, attributes := #[] }] 1537 93 #[] #[])
  fields := #[]
  methods := #[k12m0, k12m1, k12m2]
  instanceTypes := #[]
  staticTypes := #[]
  resolved := Array.replicate 263 none
  statics := none }

def pool13 : Array CpInfo := pool [(1, .methodref 2 3), (0, .class_ 4), (0, .nameAndType 5 6), (0, u "java/lang/Object"), (0, u "<init>"), (0, u "()V"), (1, .class_ 10), (1, u "java/util/AbstractMap"), (42, .class_ 54), (0, u "java/util/Map"), (9, u "keySet"), (0, u "Ljava/util/Set;"), (0, .class_ 67), (0, u "java/util/AbstractMap$1"), (5, u "values"), (0, u "Ljava/util/Collection;"), (0, .class_ 76), (0, u "java/util/AbstractMap$2"), (104, .class_ 182), (0, u "java/util/AbstractMap$ViewCollection"), (0, .class_ 184), (0, u "java/util/AbstractMap$SimpleImmutableEntry"), (0, .class_ 186), (0, u "java/util/AbstractMap$SimpleEntry"), (0, .class_ 188), (0, u "java/util/AbstractMap$2$1"), (0, .class_ 190), (0, u "java/util/AbstractMap$1$1")] 5

def k13c0 : Code := { maxStack := 1, maxLocals := 1, code := jdk_71_method_1_code, exceptionTable := #[], attributes := #[] }
def k13m0 : Method := { name := "<init>", desc := "()V", sig := { parameters := [], returnType := none }, accessFlags := 4, code := some k13c0 }
/-- java/util/AbstractMap -/
def k13 : Class := { plain "java/util/AbstractMap" (some 0) with
  accessFlags := 1057
  interfaces := #[12]
  cf := some (fileOf pool13 8 #[.nestMembers #[181, 183, 185, 75, 187, 66, 189]] #[{ accessFlags := 4, nameIndex := 5, descriptorIndex := 6, attributes := #[] }] 1057 2 #[53] #[{ accessFlags := 128, nameIndex := 64, descriptorIndex := 65, attributes := #[] }, { accessFlags := 128, nameIndex := 73, descriptorIndex := 74, attributes := #[] }])
  fields := #[{ name := "keySet", type := (.object "java/util/Set"), accessFlags := 128, slot := 0, constantValue := 0 }, { name := "values", type := (.object "java/util/Collection"), accessFlags := 128, slot := 1, constantValue := 0 }]
  methods := #[k13m0]
  instanceTypes := #[(.object "java/util/Set"), (.object "java/util/Collection")]
  staticTypes := #[]
  resolved := Array.replicate 196 none
  statics := none }

def pool14 : Array CpInfo := pool [(1, .methodref 2 3), (0, .class_ 4), (0, .nameAndType 5 6), (0, u "java/lang/Object"), (0, u "hashCode"), (0, u "()I"), (26, u "(Ljava/lang/Object;)I"), (6, .class_ 41), (0, u "java/util/HashMap"), (1, .methodref 44 45), (0, .class_ 46), (0, .nameAndType 47 48), (0, u "java/util/AbstractMap"), (0, u "<init>"), (0, u "()V"), (32, .fieldref 40 82), (0, .nameAndType 83 84), (0, u "loadFactor"), (0, u "F"), (3, .fieldref 40 89), (0, .nameAndType 90 91), (0, u "threshold"), (0, u "I"), (0, .float 1061158912), (8, .class_ 103), (1, u "java/util/Map"), (0, u "size"), (0, .fieldref 40 106), (0, .nameAndType 107 108), (0, u "table"), (0, u "[Ljava/util/HashMap$Node;"), (8, .methodref 40 118), (0, .nameAndType 119 120), (0, u "resize"), (0, u "()[Ljava/util/HashMap$Node;"), (2, u "entrySet"), (25, .methodref 40 150), (0, .nameAndType 151 33), (0, u "hash"), (0, .methodref 40 153), (0, .nameAndType 154 155), (0, u "putVal"), (0, u "(ILjava/lang/Object;Ljava/lang/Object;ZZ)Ljava/lang/Object;"), (0, .fieldref 40 157), (0, .nameAndType 104 91), (5, .class_ 165), (1, u "java/util/HashMap$Node"), (14, .class_ 181), (0, u "java/util/HashMap$TreeNode"), (4, .methodref 40 187), (0, .nameAndType 188 189), (0, u "newNode"), (0, u "(ILjava/lang/Object;Ljava/lang/Object;Ljava/util/HashMap$Node;)Ljava/util/HashMap$Node;"), (12, .fieldref 40 203), (0, .nameAndType 204 91), (0, u "modCount"), (0, .methodref 40 206), (0, .nameAndType 207 208), (0, u "afterNodeInsertion"), (0, u "(Z)V"), (33, u "Ljava/util/Set;"), (0, .class_ 244), (0, u "java/util/HashMap$KeySet"), (1, .nameAndType 47 247), (0, u "(Ljava/util/HashMap;)V"), (11, .fieldref 40 260), (0, .nameAndType 261 262), (0, u "values"), (0, u "Ljava/util/Collection;"), (0, .class_ 264), (0, u "java/util/HashMap$Values"), (0, .methodref 263 246), (2, .class_ 269), (0, u "java/util/HashMap$EntrySet"), (17, u "(Ljava/lang/Object;Ljava/lang/Object;)Ljava/lang/Object;"), (58, .class_ 348), (1, u "java/util/HashMap$UnsafeHolder"), (26, .methodref 163 376), (0, .nameAndType 47 377), (0, u "(ILjava/lang/Object;Ljava/lang/Object;Ljava/util/HashMap$Node;)V"), (14, .class_ 393), (0, u "java/lang/Cloneable"), (0, .class_ 395), (0, u "java/io/Serializable"), (0, u "serialVersionUID"), (0, u "J"), (3, u "DEFAULT_INITIAL_CAPACITY"), (1, u "MAXIMUM_CAPACITY"), (0, u "DEFAULT_LOAD_FACTOR"), (0, u "TREEIFY_THRESHOLD"), (1, u "UNTREEIFY_THRESHOLD"), (1, u "MIN_TREEIFY_CAPACITY"), (60, u "put"), (45, u "()Ljava/util/Collection;"), (79, .class_ 597), (0, u "java/util/HashMap$EntrySpliterator"), (0, .class_ 599), (0, u "java/util/HashMap$ValueSpliterator"), (0, .class_ 601), (0, u "java/util/HashMap$KeySpliterator"), (0, .class_ 603), (0, u "java/util/HashMap$HashMapSpliterator"), (0, .class_ 605), (0, u "java/util/HashMap$EntryIterator"), (0, .class_ 607), (0, u "java/util/HashMap$ValueIterator"), (0, .class_ 609), (0, u "java/util/HashMap$KeyIterator"), (0, .class_ 611), (0, u "java/util/HashMap$HashIterator")] 17

def k14c0 : Code := { maxStack := 3, maxLocals := 2, code := jdk_69_method_1_code, exceptionTable := #[], attributes := #[] }
def k14m0 : Method := { name := "hash", desc := "(Ljava/lang/Object;)I", sig := { parameters := [(.object "java/lang/Object")], returnType := some .int }, accessFlags := 24, code := some k14c0 }
def k14c1 : Code := { maxStack := 2, maxLocals := 1, code := jdk_69_method_7_code, exceptionTable := #[], attributes := #[] }
def k14m1 : Method := { name := "<init>", desc := "()V", sig := { parameters := [], returnType := none }, accessFlags := 1, code := some k14c1 }
def k14c2 : Code := { maxStack := 1, maxLocals := 1, code := jdk_69_method_10_code, exceptionTable := #[], attributes := #[] }
def k14m2 : Method := { name := "size", desc := "()I", sig := { parameters := [], returnType := some .int }, accessFlags := 1, code := some k14c2 }
def k14c3 : Code := { maxStack := 6, maxLocals := 3, code := jdk_69_method_15_code, exceptionTable := #[], attributes := #[] }
def k14m3 : Method := { name := "put", desc := "(Ljava/lang/Object;Ljava/lang/Object;)Ljava/lang/Object;", sig := { parameters := [(.object "java/lang/Object"), (.object "java/lang/Object")], returnType := some (.object "java/lang/Object") }, accessFlags := 1, code := some k14c3 }
def k14c4 : Code := { maxStack := 7, maxLocals := 13, code := jdk_69_method_16_code, exceptionTable := #[], attributes := #[] }
def k14m4 : Method := { name := "putVal", desc := "(ILjava/lang/Object;Ljava/lang/Object;ZZ)Ljava/lang/Object;", sig := { parameters := [.int, (.object "java/lang/Object"), (.object "java/lang/Object"), .boolean, .boolean], returnType := some (.object "java/lang/Object") }, accessFlags := 16, code := some k14c4 }
def k14c5 : Code := { maxStack := 5, maxLocals := 14, code := jdk_69_method_17_code, exceptionTable := #[], attributes := #[] }
def k14m5 : Method := { name := "resize", desc := "()[Ljava/util/HashMap$Node;", sig := { parameters := [], returnType := some (.array (.object "java/util/HashMap$Node")) }, accessFlags := 16, code := some k14c5 }
def k14c6 : Code := { maxStack := 3, maxLocals := 2, code := jdk_69_method_28_code, exceptionTable := #[], attributes := #[] }
def k14m6 : Method := { name := "values", desc := "()Ljava/util/Collection;", sig := { parameters := [], returnType := some (.object "java/util/Collection") }, accessFlags := 1, code := some k14c6 }
def k14c7 : Code := { maxStack := 6, maxLocals := 5, code := jdk_69_method_46_code, exceptionTable := #[], attributes := #[] }
def k14m7 : Method := { name := "newNode", desc := "(ILjava/lang/Object;Ljava/lang/Object;Ljava/util/HashMap$Node;)Ljava/util/HashMap$Node;", sig := { parameters := [.int, (.object "java/lang/Object"), (.object "java/lang/Object"), (.object "java/util/HashMap$Node")], returnType := some (.object "java/util/HashMap$Node") }, accessFlags := 0, code := some k14c7 }
def k14c8 : Code := { maxStack := 0, maxLocals := 2, code := jdk_69_method_52_code, exceptionTable := #[], attributes := #[] }
def k14m8 : Method := { name := "afterNodeInsertion", desc := "(Z)V", sig := { parameters := [.boolean], returnType := none }, accessFlags := 0, code := some k14c8 }
/-- java/util/HashMap -/
def k14 : Class := { plain "java/util/HashMap" (some 13) with
  accessFlags := 33
  interfaces := #[12, 9, 10]
  cf := some (fileOf pool14 40 #[.nestMembers #[180, 596, 598, 600, 602, 604, 606, 608, 610, 346, 268, 263, 243, 163]] #[{ accessFlags := 24, nameIndex := 151, descriptorIndex := 33, attributes := #[] }, { accessFlags := 1, nameIndex := 47, descriptorIndex := 48, attributes := #[] }, { accessFlags := 1, nameIndex := 104, descriptorIndex := 6, attributes := #[] }, { accessFlags := 1, nameIndex := 470, descriptorIndex := 287, attributes := #[] }, { accessFlags := 16, nameIndex := 154, descriptorIndex := 155, attributes := #[] }, { accessFlags := 16, nameIndex := 119, descriptorIndex := 120, attributes := #[] }, { accessFlags := 1, nameIndex := 261, descriptorIndex := 516, attributes := #[] }, { accessFlags := 0, nameIndex := 188, descriptorIndex := 189, attributes := #[] }, { accessFlags := 0, nameIndex := 207, descriptorIndex := 208, attributes := #[] }] 33 44 #[101, 392, 394] #[{ accessFlags := 26, nameIndex := 396, descriptorIndex := 397, attributes := #[] }, { accessFlags := 24, nameIndex := 401, descriptorIndex := 91, attributes := #[] }, { accessFlags := 24, nameIndex := 403, descriptorIndex := 91, attributes := #[] }, { accessFlags := 24, nameIndex := 404, descriptorIndex := 84, attributes := #[] }, { accessFlags := 24, nameIndex := 405, descriptorIndex := 91, attributes := #[] }, { accessFlags := 24, nameIndex := 407, descriptorIndex := 91, attributes := #[] }, { accessFlags := 24, nameIndex := 409, descriptorIndex := 91, attributes := #[] }, { accessFlags := 128, nameIndex := 107, descriptorIndex := 108, attributes := #[] }, { accessFlags := 128, nameIndex := 123, descriptorIndex := 242, attributes := #[] }, { accessFlags := 128, nameIndex := 104, descriptorIndex := 91, attributes := #[] }, { accessFlags := 128, nameIndex := 204, descriptorIndex := 91, attributes := #[] }, { accessFlags := 0, nameIndex := 90, descriptorIndex := 91, attributes := #[] }, { accessFlags := 16, nameIndex := 83, descriptorIndex := 84, attributes := #[] }])
  fields := #[{ name := "serialVersionUID", type := .long, accessFlags := 26, slot := 0, constantValue := 0 }, { name := "DEFAULT_INITIAL_CAPACITY", type := .int, accessFlags := 24, slot := 1, constantValue := 0 }, { name := "MAXIMUM_CAPACITY", type := .int, accessFlags := 24, slot := 2, constantValue := 0 }, { name := "DEFAULT_LOAD_FACTOR", type := .float, accessFlags := 24, slot := 3, constantValue := 0 }, { name := "TREEIFY_THRESHOLD", type := .int, accessFlags := 24, slot := 4, constantValue := 0 }, { name := "UNTREEIFY_THRESHOLD", type := .int, accessFlags := 24, slot := 5, constantValue := 0 }, { name := "MIN_TREEIFY_CAPACITY", type := .int, accessFlags := 24, slot := 6, constantValue := 0 }, { name := "table", type := (.array (.object "java/util/HashMap$Node")), accessFlags := 128, slot := 2, constantValue := 0 }, { name := "entrySet", type := (.object "java/util/Set"), accessFlags := 128, slot := 3, constantValue := 0 }, { name := "size", type := .int, accessFlags := 128, slot := 4, constantValue := 0 }, { name := "modCount", type := .int, accessFlags := 128, slot := 5, constantValue := 0 }, { name := "threshold", type := .int, accessFlags := 0, slot := 6, constantValue := 0 }, { name := "loadFactor", type := .float, accessFlags := 16, slot := 7, constantValue := 0 }]
  methods := #[k14m0, k14m1, k14m2, k14m3, k14m4, k14m5, k14m6, k14m7, k14m8]
  instanceTypes := #[(.object "java/util/Set"), (.object "java/util/Collection"), (.array (.object "java/util/HashMap$Node")), (.object "java/util/Set"), .int, .int, .int, .float]
  staticTypes := #[.long, .int, .int, .float, .int, .int, .int]
  resolved := Array.replicate 629 none
  statics := none }

def pool15 : Array CpInfo := pool [(1, .class_ 2), (0, u "java/lang/Comparable"), (0, .class_ 4), (0, u "java/lang/Object")] 7

/-- java/lang/Comparable -/
def k15 : Class := { plain "java/lang/Comparable" (some 0) with
  accessFlags := 1537
  interfaces := #[]
  cf := some (fileOf pool15 1 #[] #[] 1537 3 #[] #[])
  fields := #[]
  methods := #[]
  instanceTypes := #[]
  staticTypes := #[]
  resolved := Array.replicate 12 none
  statics := none }

def pool16 : Array CpInfo := pool [(2, .class_ 4), (1, u "java/lang/CharSequence"), (42, .class_ 48), (0, u "java/lang/CharSequence$1CodePointIterator"), (10, .class_ 60), (0, u "java/lang/CharSequence$1CharIterator"), (5, .class_ 67), (0, u "java/lang/Object")] 63

/-- java/lang/CharSequence -/
def k16 : Class := { plain "java/lang/CharSequence" (some 0) with
  accessFlags := 1537
  interfaces := #[]
  cf := some (fileOf pool16 2 #[.nestMembers #[47, 59]] #[] 1537 66 #[] #[])
  fields := #[]
  methods := #[]
  instanceTypes := #[]
  staticTypes := #[]
  resolved := Array.replicate 131 none
  statics := none }

def pool17 : Array CpInfo := pool [(1, .class_ 2), (0, u "java/lang/constant/Constable"), (0, .class_ 4), (0, u "java/lang/Object")] 6

/-- java/lang/constant/Constable -/
def k17 : Class := { plain "java/lang/constant/Constable" (some 0) with
  accessFlags := 1537
  interfaces := #[]
  cf := some (fileOf pool17 1 #[] #[] 1537 3 #[] #[])
  fields := #[]
  methods := #[]
  instanceTypes := #[]
  staticTypes := #[]
  resolved := Array.replicate 11 none
  statics := none }

def pool18 : Array CpInfo := pool [(1, .class_ 2), (0, u "java/lang/constant/ConstantDesc"), (0, .class_ 4), (0, u "java/lang/Object")] 32

/-- java/lang/constant/ConstantDesc -/
def k18 : Class := { plain "java/lang/constant/ConstantDesc" (some 0) with
  accessFlags := 1537
  interfaces := #[]
  cf := some (fileOf pool18 1 #[] #[] 1537 3 #[] #[])
  fields := #[]
  methods := #[]
  instanceTypes := #[]
  staticTypes := #[]
  resolved := Array.replicate 37 none
  statics := none }

def pool19 : Array CpInfo := pool [(1, .methodref 2 3), (0, .class_ 4), (0, .nameAndType 5 6), (0, u "java/lang/Object"), (0, u "<init>"), (0, u "()V"), (2, .fieldref 10 11), (0, .class_ 12), (0, .nameAndType 13 14), (0, u "java/lang/String"), (0, u "value"), (0, u "[B"), (0, .fieldref 10 16), (0, .nameAndType 17 18), (0, u "coder"), (0, u "B"), (0, .fieldref 10 20), (0, .nameAndType 21 22), (0, u "hash"), (0, u "I"), (0, .fieldref 10 24), (0, .nameAndType 25 26), (0, u "hashIsZero"), (0, u "Z"), (11, .fieldref 10 39), (0, .nameAndType 40 26), (0, u "COMPACT_STRINGS"), (12, u "toBytes"), (53, .class_ 109), (1, u "java/lang/StringLatin1"), (32, u "()Z"), (66, .methodref 10 210), (0, .nameAndType 5 211), (0, u "([BB)V"), (122, u "()I"), (34, u "(C)Z"), (122, .methodref 10 493), (0, .nameAndType 494 142), (0, u "isLatin1"), (80, .class_ 576), (0, u "java/lang/CharSequence"), (22, u "CASE_INSENSITIVE_ORDER"), (0, u "Ljava/util/Comparator;"), (27, .methodref 107 629), (0, .nameAndType 630 631), (0, u "hashCode"), (0, u "([B)I"), (150, u "valueOf"), (0, u "(C)Ljava/lang/String;"), (231, .methodref 107 1016), (0, .nameAndType 1017 369), (0, u "canEncode"), (0, .methodref 107 1019), (0, .nameAndType 53 1020), (0, u "(C)[B"), (80, u "serialPersistentFields"), (0, u "[Ljava/io/ObjectStreamField;"), (0, .class_ 1104), (0, u "java/lang/String$CaseInsensitiveComparator"), (1, .class_ 1107), (0, u "java/io/Serializable"), (0, .class_ 1109), (0, u "java/lang/Comparable"), (0, .class_ 1111), (0, u "java/lang/constant/Constable"), (0, .class_ 1113), (0, u "java/lang/constant/ConstantDesc"), (2, u "serialVersionUID"), (0, u "J"), (3, u "REPL"), (0, u "C"), (2, u "LATIN1"), (1, u "UTF16")] 323

def k19m0 : Method := { name := "<init>", desc := "()V", sig := { parameters := [], returnType := none }, accessFlags := 1, code := none }
def k19c1 : Code := { maxStack := 2, maxLocals := 2, code := jdk_42_method_78_code, exceptionTable := #[], attributes := #[] }
def k19m1 : Method := { name := "hashCode", desc := "()I", sig := { parameters := [], returnType := some .int }, accessFlags := 1, code := some k19c1 }
def k19c2 : Code := { maxStack := 4, maxLocals := 1, code := jdk_42_method_139_code, exceptionTable := #[], attributes := #[] }
def k19m2 : Method := { name := "valueOf", desc := "(C)Ljava/lang/String;", sig := { parameters := [.char], returnType := some (.object "java/lang/String") }, accessFlags := 9, code := some k19c2 }
def k19c3 : Code := { maxStack := 2, maxLocals := 3, code := jdk_42_method_151_code, exceptionTable := #[], attributes := #[] }
def k19m3 : Method := { name := "<init>", desc := "([BB)V", sig := { parameters := [(.array .byte), .byte], returnType := none }, accessFlags := 0, code := some k19c3 }
def k19c4 : Code := { maxStack := 1, maxLocals := 1, code := jdk_42_method_154_code, exceptionTable := #[], attributes := #[] }
def k19m4 : Method := { name := "isLatin1", desc := "()Z", sig := { parameters := [], returnType := some .boolean }, accessFlags := 0, code := some k19c4 }
/-- java/lang/String -/
def k19 : Class := { plain "java/lang/String" (some 0) with
  accessFlags := 49
  interfaces := #[10, 15, 16, 17, 18]
  cf := some (fileOf pool19 10 #[.nestMembers #[1103]] #[{ accessFlags := 1, nameIndex := 5, descriptorIndex := 6, attributes := #[] }, { accessFlags := 1, nameIndex := 630, descriptorIndex := 334, attributes := #[] }, { accessFlags := 9, nameIndex := 782, descriptorIndex := 783, attributes := #[] }, { accessFlags := 0, nameIndex := 5, descriptorIndex := 211, attributes := #[] }, { accessFlags := 0, nameIndex := 494, descriptorIndex := 142, attributes := #[] }] 49 2 #[1106, 1108, 575, 1110, 1112] #[{ accessFlags := 18, nameIndex := 13, descriptorIndex := 14, attributes := #[] }, { accessFlags := 18, nameIndex := 17, descriptorIndex := 18, attributes := #[] }, { accessFlags := 2, nameIndex := 21, descriptorIndex := 22, attributes := #[] }, { accessFlags := 2, nameIndex := 25, descriptorIndex := 26, attributes := #[] }, { accessFlags := 26, nameIndex := 1116, descriptorIndex := 1117, attributes := #[] }, { accessFlags := 24, nameIndex := 40, descriptorIndex := 26, attributes := #[] }, { accessFlags := 26, nameIndex := 1101, descriptorIndex := 1102, attributes := #[] }, { accessFlags := 26, nameIndex := 1121, descriptorIndex := 1122, attributes := #[] }, { accessFlags := 25, nameIndex := 599, descriptorIndex := 600, attributes := #[] }, { accessFlags := 24, nameIndex := 1125, descriptorIndex := 18, attributes := #[] }, { accessFlags := 24, nameIndex := 1127, descriptorIndex := 18, attributes := #[] }])
  fields := #[{ name := "value", type := (.array .byte), accessFlags := 18, slot := 0, constantValue := 0 }, { name := "coder", type := .byte, accessFlags := 18, slot := 1, constantValue := 0 }, { name := "hash", type := .int, accessFlags := 2, slot := 2, constantValue := 0 }, { name := "hashIsZero", type := .boolean, accessFlags := 2, slot := 3, constantValue := 0 }, { name := "serialVersionUID", type := .long, accessFlags := 26, slot := 0, constantValue := 0 }, { name := "COMPACT_STRINGS", type := .boolean, accessFlags := 24, slot := 1, constantValue := 0 }, { name := "serialPersistentFields", type := (.array (.object "java/io/ObjectStreamField")), accessFlags := 26, slot := 2, constantValue := 0 }, { name := "REPL", type := .char, accessFlags := 26, slot := 3, constantValue := 0 }, { name := "CASE_INSENSITIVE_ORDER", type := (.object "java/util/Comparator"), accessFlags := 25, slot := 4, constantValue := 0 }, { name := "LATIN1", type := .byte, accessFlags := 24, slot := 5, constantValue := 0 }, { name := "UTF16", type := .byte, accessFlags := 24, slot := 6, constantValue := 0 }]
  methods := #[k19m0, k19m1, k19m2, k19m3, k19m4]
  instanceTypes := #[(.array .byte), .byte, .int, .boolean]
  staticTypes := #[.long, .boolean, (.array (.object "java/io/ObjectStreamField")), .char, (.object "java/util/Comparator"), .byte, .byte]
  resolved := Array.replicate 1451 none
  statics := some 1 }

def pool20 : Array CpInfo := pool [(4, .class_ 6), (1, u "java/lang/Object"), (0, u "<init>"), (0, u "()V"), (5, .class_ 16), (1, u "java/lang/StringLatin1"), (40, u "([B)I"), (32, u "canEncode"), (14, u "(C)Z"), (15, u "$assertionsDisabled"), (0, u "Z"), (98, .class_ 223), (1, u "java/lang/StringLatin1$LinesSpliterator"), (74, u "hashCode"), (81, u "toBytes"), (1, u "(C)[B"), (7, .class_ 391), (0, u "java/lang/StringLatin1$CharsSpliterator")] 3

def k20m0 : Method := { name := "<init>", desc := "()V", sig := { parameters := [], returnType := none }, accessFlags := 0, code := none }
def k20c1 : Code := { maxStack := 2, maxLocals := 1, code := jdk_43_method_3_code, exceptionTable := #[], attributes := #[] }
def k20m1 : Method := { name := "canEncode", desc := "(C)Z", sig := { parameters := [.char], returnType := some .boolean }, accessFlags := 9, code := some k20c1 }
def k20c2 : Code := { maxStack := 5, maxLocals := 1, code := jdk_43_method_21_code, exceptionTable := #[], attributes := #[] }
def k20m2 : Method := { name := "hashCode", desc := "([B)I", sig := { parameters := [(.array .byte)], returnType := some .int }, accessFlags := 9, code := some k20c2 }
def k20c3 : Code := { maxStack := 4, maxLocals := 1, code := jdk_43_method_46_code, exceptionTable := #[], attributes := #[] }
def k20m3 : Method := { name := "toBytes", desc := "(C)[B", sig := { parameters := [.char], returnType := some (.array .byte) }, accessFlags := 9, code := some k20c3 }
/-- java/lang/StringLatin1 -/
def k20 : Class := { plain "java/lang/StringLatin1" (some 0) with
  accessFlags := 48
  interfaces := #[]
  cf := some (fileOf pool20 14 #[.nestMembers #[390, 221]] #[{ accessFlags := 0, nameIndex := 7, descriptorIndex := 8, attributes := #[] }, { accessFlags := 9, nameIndex := 90, descriptorIndex := 105, attributes := #[] }, { accessFlags := 9, nameIndex := 298, descriptorIndex := 57, attributes := #[] }, { accessFlags := 9, nameIndex := 380, descriptorIndex := 382, attributes := #[] }] 48 4 #[] #[{ accessFlags := 4120, nameIndex := 121, descriptorIndex := 122, attributes := #[] }])
  fields := #[{ name := "$assertionsDisabled", type := .boolean, accessFlags := 4120, slot := 0, constantValue := 0 }]
  methods := #[k20m0, k20m1, k20m2, k20m3]
  instanceTypes := #[]
  staticTypes := #[.boolean]
  resolved := Array.replicate 395 none
  statics := none }

def pool21 : Array CpInfo := pool [(1, .methodref 2 3), (0, .class_ 4), (0, .nameAndType 5 6), (0, u "java/lang/Object"), (0, u "<init>"), (0, u "()V"), (1, .class_ 10), (1, u "java/lang/Number"), (2, .class_ 14), (0, u "java/io/Serializable"), (0, u "serialVersionUID"), (0, u "J")] 20

def k21c0 : Code := { maxStack := 1, maxLocals := 1, code := jdk_18_method_1_code, exceptionTable := #[], attributes := #[] }
def k21m0 : Method := { name := "<init>", desc := "()V", sig := { parameters := [], returnType := none }, accessFlags := 1, code := some k21c0 }
/-- java/lang/Number -/
def k21 : Class := { plain "java/lang/Number" (some 0) with
  accessFlags := 1057
  interfaces := #[10]
  cf := some (fileOf pool21 8 #[] #[{ accessFlags := 1, nameIndex := 5, descriptorIndex := 6, attributes := #[] }] 1057 2 #[13] #[{ accessFlags := 26, nameIndex := 15, descriptorIndex := 16, attributes := #[] }])
  fields := #[{ name := "serialVersionUID", type := .long, accessFlags := 26, slot := 0, constantValue := 0 }]
  methods := #[k21m0]
  instanceTypes := #[]
  staticTypes := #[.long]
  resolved := Array.replicate 37 none
  statics := none }

def pool22 : Array CpInfo := pool [(1, .class_ 2), (0, u "java/lang/Integer"), (16, u "digits"), (0, u "[C"), (46, u "<init>"), (17, u "DigitOnes"), (0, u "[B"), (2, u "DigitTens"), (10, .nameAndType 67 101), (0, u "()V"), (19, u "()I"), (65, u "valueOf"), (0, u "(I)Ljava/lang/Integer;"), (0, .class_ 190), (0, u "java/lang/Integer$IntegerCache"), (0, .fieldref 189 192), (0, .nameAndType 193 194), (0, u "high"), (0, u "I"), (0, .fieldref 189 196), (0, .nameAndType 197 198), (0, u "cache"), (0, u "[Ljava/lang/Integer;"), (0, .methodref 1 200), (0, .nameAndType 67 201), (0, u "(I)V"), (0, .methodref 203 100), (0, .class_ 204), (0, u "java/lang/Number"), (0, .fieldref 1 206), (0, .nameAndType 207 194), (0, u "value"), (5, u "intValue"), (88, u "TYPE"), (0, u "Ljava/lang/Class;"), (0, .class_ 305), (0, u "java/lang/Comparable"), (0, .class_ 307), (0, u "java/lang/constant/Constable"), (0, .class_ 309), (0, u "java/lang/constant/ConstantDesc"), (0, u "MIN_VALUE"), (1, u "MAX_VALUE"), (3, u "SIZE"), (1, u "BYTES"), (1, u "serialVersionUID"), (0, u "J")] 131

def k22c0 : Code := { maxStack := 3, maxLocals := 1, code := jdk_33_method_22_code, exceptionTable := #[], attributes := #[] }
def k22m0 : Method := { name := "valueOf", desc := "(I)Ljava/lang/Integer;", sig := { parameters := [.int], returnType := some (.object "java/lang/Integer") }, accessFlags := 9, code := some k22c0 }
def k22c1 : Code := { maxStack := 2, maxLocals := 2, code := jdk_33_method_23_code, exceptionTable := #[], attributes := #[] }
def k22m1 : Method := { name := "<init>", desc := "(I)V", sig := { parameters := [.int], returnType := none }, accessFlags := 1, code := some k22c1 }
def k22c2 : Code := { maxStack := 1, maxLocals := 1, code := jdk_33_method_27_code, exceptionTable := #[], attributes := #[] }
def k22m2 : Method := { name := "intValue", desc := "()I", sig := { parameters := [], returnType := some .int }, accessFlags := 1, code := some k22c2 }
/-- java/lang/Integer -/
def k22 : Class := { plain "java/lang/Integer" (some 21) with
  accessFlags := 49
  interfaces := #[15, 17, 18]
  cf := some (fileOf pool22 1 #[.nestMembers #[189]] #[{ accessFlags := 9, nameIndex := 187, descriptorIndex := 188, attributes := #[] }, { accessFlags := 1, nameIndex := 67, descriptorIndex := 201, attributes := #[] }, { accessFlags := 1, nameIndex := 213, descriptorIndex := 121, attributes := #[] }] 49 203 #[304, 306, 308] #[{ accessFlags := 25, nameIndex := 310, descriptorIndex := 194, attributes := #[] }, { accessFlags := 25, nameIndex := 312, descriptorIndex := 194, attributes := #[] }, { accessFlags := 25, nameIndex := 302, descriptorIndex := 303, attributes := #[] }, { accessFlags := 24, nameIndex := 19, descriptorIndex := 20, attributes := #[] }, { accessFlags := 24, nameIndex := 89, descriptorIndex := 86, attributes := #[] }, { accessFlags := 24, nameIndex := 85, descriptorIndex := 86, attributes := #[] }, { accessFlags := 18, nameIndex := 207, descriptorIndex := 194, attributes := #[] }, { accessFlags := 25, nameIndex := 316, descriptorIndex := 194, attributes := #[] }, { accessFlags := 25, nameIndex := 318, descriptorIndex := 194, attributes := #[] }, { accessFlags := 26, nameIndex := 320, descriptorIndex := 321, attributes := #[] }])
  fields := #[{ name := "MIN_VALUE", type := .int, accessFlags := 25, slot := 0, constantValue := 0 }, { name := "MAX_VALUE", type := .int, accessFlags := 25, slot := 1, constantValue := 0 }, { name := "TYPE", type := (.object "java/lang/Class"), accessFlags := 25, slot := 2, constantValue := 0 }, { name := "digits", type := (.array .char), accessFlags := 24, slot := 3, constantValue := 0 }, { name := "DigitTens", type := (.array .byte), accessFlags := 24, slot := 4, constantValue := 0 }, { name := "DigitOnes", type := (.array .byte), accessFlags := 24, slot := 5, constantValue := 0 }, { name := "value", type := .int, accessFlags := 18, slot := 0, constantValue := 0 }, { name := "SIZE", type := .int, accessFlags := 25, slot := 6, constantValue := 0 }, { name := "BYTES", type := .int, accessFlags := 25, slot := 7, constantValue := 0 }, { name := "serialVersionUID", type := .long, accessFlags := 26, slot := 8, constantValue := 0 }]
  methods := #[k22m0, k22m1, k22m2]
  instanceTypes := #[.int]
  staticTypes := #[.int, .int, (.object "java/lang/Class"), (.array .char), (.array .byte), (.array .byte), .int, .int, .long]
  resolved := Array.replicate 453 none
  statics := none }

def pool23 : Array CpInfo := pool [(2, .class_ 4), (1, u "java/lang/Object"), (0, u "<init>"), (0, u "()V"), (0, .class_ 8), (0, u "java/lang/Integer"), (7, .class_ 18), (1, u "java/lang/Integer$IntegerCache"), (0, u "$assertionsDisabled"), (0, u "Z"), (26, u "high"), (0, u "I"), (8, u "archivedCache"), (0, u "[Ljava/lang/Integer;"), (12, u "cache"), (0, u "low")] 27

def k23m0 : Method := { name := "<init>", desc := "()V", sig := { parameters := [], returnType := none }, accessFlags := 2, code := none }
/-- java/lang/Integer$IntegerCache -/
def k23 : Class := { plain "java/lang/Integer$IntegerCache" (some 0) with
  accessFlags := 48
  interfaces := #[]
  cf := some (fileOf pool23 16 #[.nestHost 7] #[{ accessFlags := 2, nameIndex := 5, descriptorIndex := 6, attributes := #[] }] 48 2 #[] #[{ accessFlags := 24, nameIndex := 72, descriptorIndex := 48, attributes := #[] }, { accessFlags := 24, nameIndex := 47, descriptorIndex := 48, attributes := #[] }, { accessFlags := 24, nameIndex := 71, descriptorIndex := 58, attributes := #[] }, { accessFlags := 8, nameIndex := 57, descriptorIndex := 58, attributes := #[] }, { accessFlags := 4120, nameIndex := 19, descriptorIndex := 20, attributes := #[] }])
  fields := #[{ name := "low", type := .int, accessFlags := 24, slot := 0, constantValue := 0 }, { name := "high", type := .int, accessFlags := 24, slot := 1, constantValue := 0 }, { name := "cache", type := (.array (.object "java/lang/Integer")), accessFlags := 24, slot := 2, constantValue := 0 }, { name := "archivedCache", type := (.array (.object "java/lang/Integer")), accessFlags := 8, slot := 3, constantValue := 0 }, { name := "$assertionsDisabled", type := .boolean, accessFlags := 4120, slot := 4, constantValue := 0 }]
  methods := #[k23m0]
  instanceTypes := #[]
  staticTypes := #[.int, .int, (.array (.object "java/lang/Integer")), (.array (.object "java/lang/Integer")), .boolean]
  resolved := Array.replicate 100 none
  statics := some 2 }

def pool24 : Array CpInfo := pool [(23, .class_ 25), (1, u "java/util/Map$Entry"), (6, .class_ 34), (1, u "java/util/Map"), (34, .class_ 70), (0, u "java/lang/Object")] 107

/-- java/util/Map$Entry -/
def k24 : Class := { plain "java/util/Map$Entry" (some 0) with
  accessFlags := 1537
  interfaces := #[]
  cf := some (fileOf pool24 23 #[.nestHost 32] #[] 1537 69 #[] #[])
  fields := #[]
  methods := #[]
  instanceTypes := #[]
  staticTypes := #[]
  resolved := Array.replicate 178 none
  statics := none }

def pool25 : Array CpInfo := pool [(1, .methodref 2 3), (0, .class_ 4), (0, .nameAndType 5 6), (0, u "java/lang/Object"), (0, u "<init>"), (0, u "()V"), (0, .fieldref 8 9), (0, .class_ 10), (0, .nameAndType 11 12), (0, u "java/util/HashMap$Node"), (0, u "hash"), (0, u "I"), (0, .fieldref 8 14), (0, .nameAndType 15 16), (0, u "key"), (0, u "Ljava/lang/Object;"), (0, .fieldref 8 18), (0, .nameAndType 19 16), (0, u "value"), (0, .fieldref 8 21), (0, .nameAndType 22 23), (0, u "next"), (0, u "Ljava/util/HashMap$Node;"), (22, .class_ 47), (0, u "java/util/Map$Entry"), (15, u "(ILjava/lang/Object;Ljava/lang/Object;Ljava/util/HashMap$Node;)V"), (24, .class_ 89), (0, u "java/util/HashMap")] 5

def k25c0 : Code := { maxStack := 2, maxLocals := 5, code := jdk_70_method_1_code, exceptionTable := #[], attributes := #[] }
def k25m0 : Method := { name := "<init>", desc := "(ILjava/lang/Object;Ljava/lang/Object;Ljava/util/HashMap$Node;)V", sig := { parameters := [.int, (.object "java/lang/Object"), (.object "java/lang/Object"), (.object "java/util/HashMap$Node")], returnType := none }, accessFlags := 0, code := some k25c0 }
/-- java/util/HashMap$Node -/
def k25 : Class := { plain "java/util/HashMap$Node" (some 0) with
  accessFlags := 32
  interfaces := #[24]
  cf := some (fileOf pool25 8 #[.nestHost 88] #[{ accessFlags := 0, nameIndex := 5, descriptorIndex := 63, attributes := #[] }] 32 2 #[46] #[{ accessFlags := 16, nameIndex := 11, descriptorIndex := 12, attributes := #[] }, { accessFlags := 16, nameIndex := 15, descriptorIndex := 16, attributes := #[] }, { accessFlags := 0, nameIndex := 19, descriptorIndex := 16, attributes := #[] }, { accessFlags := 0, nameIndex := 22, descriptorIndex := 23, attributes := #[] }])
  fields := #[{ name := "hash", type := .int, accessFlags := 16, slot := 0, constantValue := 0 }, { name := "key", type := (.object "java/lang/Object"), accessFlags := 16, slot := 1, constantValue := 0 }, { name := "value", type := (.object "java/lang/Object"), accessFlags := 0, slot := 2, constantValue := 0 }, { name := "next", type := (.object "java/util/HashMap$Node"), accessFlags := 0, slot := 3, constantValue := 0 }]
  methods := #[k25m0]
  instanceTypes := #[.int, (.object "java/lang/Object"), (.object "java/lang/Object"), (.object "java/util/HashMap$Node")]
  staticTypes := #[]
  resolved := Array.replicate 95 none
  statics := none }

def pool26 : Array CpInfo := pool [(1, .methodref 2 3), (0, .class_ 4), (0, .nameAndType 5 6), (0, u "java/lang/Object"), (0, u "<init>"), (0, u "()V"), (0, .fieldref 8 9), (0, .class_ 10), (0, .nameAndType 11 12), (0, u "com/example/nimble_fusion/nimblefusion/scoring/JudgedRanking"), (0, u "relevanceLevel"), (0, u "I"), (0, .interfaceMethodref 14 15), (0, .class_ 16), (0, .nameAndType 17 18), (0, u "java/util/List"), (0, u "size"), (0, u "()I"), (0, .fieldref 8 20), (0, .nameAndType 21 22), (0, u "gradeAt"), (0, u "[I"), (10, .methodref 34 35), (0, .class_ 36), (0, .nameAndType 37 38), (0, u "java/lang/Integer"), (0, u "valueOf"), (0, u "(I)Ljava/lang/Integer;"), (1, .class_ 42), (1, u "java/util/Map"), (2, .methodref 34 46), (0, .nameAndType 47 18), (0, u "intValue"), (0, .methodref 8 49), (0, .nameAndType 50 51), (0, u "isRelevantGrade"), (0, u "(I)Z"), (0, .fieldref 8 53), (0, .nameAndType 54 22), (0, u "relevantRanks"), (3, .interfaceMethodref 40 59), (0, .nameAndType 60 61), (0, u "values"), (0, u "()Ljava/util/Collection;"), (0, .interfaceMethodref 63 64), (0, .class_ 65), (0, .nameAndType 66 67), (0, u "java/util/Collection"), (0, u "iterator"), (0, u "()Ljava/util/Iterator;"), (0, .interfaceMethodref 69 70), (0, .class_ 71), (0, .nameAndType 72 73), (0, u "java/util/Iterator"), (0, u "hasNext"), (0, u "()Z"), (0, .interfaceMethodref 69 75), (0, .nameAndType 76 77), (0, u "next"), (0, u "()Ljava/lang/Object;"), (0, .methodref 8 79), (0, .nameAndType 80 51), (0, u "isNonRelevantGrade"), (0, .fieldref 8 82), (0, .nameAndType 83 12), (0, u "relevant"), (0, .fieldref 8 85), (0, .nameAndType 86 12), (0, u "judgedNonRelevant"), (0, .interfaceMethodref 40 15), (0, .methodref 89 90), (0, .class_ 91), (0, .nameAndType 92 93), (0, u "java/util/Arrays"), (0, u "copyOf"), (0, u "([II)[I"), (0, .fieldref 8 95), (0, .nameAndType 96 22), (0, u "positiveGrades"), (0, .methodref 89 98), (0, .nameAndType 99 100), (0, u "sort"), (0, u "([I)V"), (4, u "NOT_JUDGED"), (2, u "(Ljava/util/List;Ljava/util/Map;I)V"), (9, u "(I)I"), (3, u "positivelyGraded"), (0, u "idealGrade")] 2

def k26c0 : Code := { maxStack := 5, maxLocals := 11, code := prog_48_method_1_code, exceptionTable := #[], attributes := #[] }
def k26m0 : Method := { name := "<init>", desc := "(Ljava/util/List;Ljava/util/Map;I)V", sig := { parameters := [(.object "java/util/List"), (.object "java/util/Map"), .int], returnType := none }, accessFlags := 0, code := some k26c0 }
def k26c1 : Code := { maxStack := 1, maxLocals := 1, code := prog_48_method_11_code, exceptionTable := #[], attributes := #[] }
def k26m1 : Method := { name := "positivelyGraded", desc := "()I", sig := { parameters := [], returnType := some .int }, accessFlags := 1, code := some k26c1 }
def k26c2 : Code := { maxStack := 3, maxLocals := 2, code := prog_48_method_12_code, exceptionTable := #[], attributes := #[] }
def k26m2 : Method := { name := "idealGrade", desc := "(I)I", sig := { parameters := [.int], returnType := some .int }, accessFlags := 1, code := some k26c2 }
def k26c3 : Code := { maxStack := 2, maxLocals := 2, code := prog_48_method_13_code, exceptionTable := #[], attributes := #[] }
def k26m3 : Method := { name := "isRelevantGrade", desc := "(I)Z", sig := { parameters := [.int], returnType := some .boolean }, accessFlags := 2, code := some k26c3 }
def k26c4 : Code := { maxStack := 2, maxLocals := 2, code := prog_48_method_14_code, exceptionTable := #[], attributes := #[] }
def k26m4 : Method := { name := "isNonRelevantGrade", desc := "(I)Z", sig := { parameters := [.int], returnType := some .boolean }, accessFlags := 2, code := some k26c4 }
/-- com/example/nimble_fusion/nimblefusion/scoring/JudgedRanking -/
def k26 : Class := { plain "com/example/nimble_fusion/nimblefusion/scoring/JudgedRanking" (some 0) with
  accessFlags := 49
  interfaces := #[]
  cf := some (fileOf pool26 8 #[] #[{ accessFlags := 0, nameIndex := 5, descriptorIndex := 108, attributes := #[] }, { accessFlags := 1, nameIndex := 122, descriptorIndex := 18, attributes := #[] }, { accessFlags := 1, nameIndex := 123, descriptorIndex := 118, attributes := #[] }, { accessFlags := 2, nameIndex := 50, descriptorIndex := 51, attributes := #[] }, { accessFlags := 2, nameIndex := 80, descriptorIndex := 51, attributes := #[] }] 49 2 #[] #[{ accessFlags := 26, nameIndex := 105, descriptorIndex := 12, attributes := #[] }, { accessFlags := 18, nameIndex := 11, descriptorIndex := 12, attributes := #[] }, { accessFlags := 18, nameIndex := 21, descriptorIndex := 22, attributes := #[] }, { accessFlags := 18, nameIndex := 54, descriptorIndex := 22, attributes := #[] }, { accessFlags := 18, nameIndex := 96, descriptorIndex := 22, attributes := #[] }, { accessFlags := 18, nameIndex := 83, descriptorIndex := 12, attributes := #[] }, { accessFlags := 18, nameIndex := 86, descriptorIndex := 12, attributes := #[] }])
  fields := #[{ name := "NOT_JUDGED", type := .int, accessFlags := 26, slot := 0, constantValue := 0 }, { name := "relevanceLevel", type := .int, accessFlags := 18, slot := 0, constantValue := 0 }, { name := "gradeAt", type := (.array .int), accessFlags := 18, slot := 1, constantValue := 0 }, { name := "relevantRanks", type := (.array .int), accessFlags := 18, slot := 2, constantValue := 0 }, { name := "positiveGrades", type := (.array .int), accessFlags := 18, slot := 3, constantValue := 0 }, { name := "relevant", type := .int, accessFlags := 18, slot := 4, constantValue := 0 }, { name := "judgedNonRelevant", type := .int, accessFlags := 18, slot := 5, constantValue := 0 }]
  methods := #[k26m0, k26m1, k26m2, k26m3, k26m4]
  instanceTypes := #[.int, (.array .int), (.array .int), (.array .int), .int, .int]
  staticTypes := #[.int]
  resolved := Array.replicate 126 none
  statics := none }

def pool27 : Array CpInfo := pool [(1, .fieldref 2 3), (0, .class_ 4), (0, .nameAndType 5 6), (0, u "java/util/HashMap$Values"), (0, u "this$0"), (0, u "Ljava/util/HashMap;"), (0, .methodref 8 9), (0, .class_ 10), (0, .nameAndType 11 12), (0, u "java/util/AbstractCollection"), (0, u "<init>"), (0, u "()V"), (1, .class_ 16), (1, u "java/util/HashMap"), (5, .class_ 23), (0, u "java/util/HashMap$ValueIterator"), (0, .methodref 22 25), (0, .nameAndType 11 26), (0, u "(Ljava/util/HashMap;)V"), (56, u "iterator"), (0, u "()Ljava/util/Iterator;")] 35

def k27c0 : Code := { maxStack := 2, maxLocals := 2, code := jdk_2571_method_1_code, exceptionTable := #[], attributes := #[] }
def k27m0 : Method := { name := "<init>", desc := "(Ljava/util/HashMap;)V", sig := { parameters := [(.object "java/util/HashMap")], returnType := none }, accessFlags := 0, code := some k27c0 }
def k27c1 : Code := { maxStack := 3, maxLocals := 1, code := jdk_2571_method_4_code, exceptionTable := #[], attributes := #[] }
def k27m1 : Method := { name := "iterator", desc := "()Ljava/util/Iterator;", sig := { parameters := [], returnType := some (.object "java/util/Iterator") }, accessFlags := 17, code := some k27c1 }
/-- java/util/HashMap$Values -/
def k27 : Class := { plain "java/util/HashMap$Values" (some 4) with
  accessFlags := 48
  interfaces := #[]
  cf := some (fileOf pool27 2 #[.nestHost 14] #[{ accessFlags := 0, nameIndex := 11, descriptorIndex := 26, attributes := #[] }, { accessFlags := 17, nameIndex := 83, descriptorIndex := 84, attributes := #[] }] 48 8 #[] #[{ accessFlags := 4112, nameIndex := 5, descriptorIndex := 6, attributes := #[] }])
  fields := #[{ name := "this$0", type := (.object "java/util/HashMap"), accessFlags := 4112, slot := 0, constantValue := 0 }]
  methods := #[k27m0, k27m1]
  instanceTypes := #[(.object "java/util/HashMap")]
  staticTypes := #[]
  resolved := Array.replicate 120 none
  statics := none }

def pool28 : Array CpInfo := pool [(1, .fieldref 2 3), (0, .class_ 4), (0, .nameAndType 5 6), (0, u "java/util/HashMap$HashIterator"), (0, u "this$0"), (0, u "Ljava/util/HashMap;"), (0, .methodref 8 9), (0, .class_ 10), (0, .nameAndType 11 12), (0, u "java/lang/Object"), (0, u "<init>"), (0, u "()V"), (0, .fieldref 14 15), (0, .class_ 16), (0, .nameAndType 17 18), (0, u "java/util/HashMap"), (0, u "modCount"), (0, u "I"), (0, .fieldref 2 20), (0, .nameAndType 21 18), (0, u "expectedModCount"), (0, .fieldref 14 23), (0, .nameAndType 24 25), (0, u "table"), (0, u "[Ljava/util/HashMap$Node;"), (0, .fieldref 2 27), (0, .nameAndType 28 29), (0, u "next"), (0, u "Ljava/util/HashMap$Node;"), (0, .fieldref 2 31), (0, .nameAndType 32 29), (0, u "current"), (0, .fieldref 2 34), (0, .nameAndType 35 18), (0, u "index"), (0, .fieldref 14 37), (0, .nameAndType 38 18), (0, u "size"), (6, .fieldref 46 27), (0, .class_ 47), (0, u "java/util/HashMap$Node"), (16, u "(Ljava/util/HashMap;)V"), (12, u "hasNext"), (0, u "()Z"), (0, u "nextNode"), (0, u "()Ljava/util/HashMap$Node;")] 10

def k28c0 : Code := { maxStack := 6, maxLocals := 3, code := jdk_99_method_1_code, exceptionTable := #[], attributes := #[] }
def k28m0 : Method := { name := "<init>", desc := "(Ljava/util/HashMap;)V", sig := { parameters := [(.object "java/util/HashMap")], returnType := none }, accessFlags := 0, code := some k28c0 }
def k28c1 : Code := { maxStack := 1, maxLocals := 1, code := jdk_99_method_2_code, exceptionTable := #[], attributes := #[] }
def k28m1 : Method := { name := "hasNext", desc := "()Z", sig := { parameters := [], returnType := some .boolean }, accessFlags := 17, code := some k28c1 }
def k28c2 : Code := { maxStack := 6, maxLocals := 3, code := jdk_99_method_3_code, exceptionTable := #[], attributes := #[] }
def k28m2 : Method := { name := "nextNode", desc := "()Ljava/util/HashMap$Node;", sig := { parameters := [], returnType := some (.object "java/util/HashMap$Node") }, accessFlags := 16, code := some k28c2 }
/-- java/util/HashMap$HashIterator -/
def k28 : Class := { plain "java/util/HashMap$HashIterator" (some 0) with
  accessFlags := 1056
  interfaces := #[]
  cf := some (fileOf pool28 2 #[.nestHost 14] #[{ accessFlags := 0, nameIndex := 11, descriptorIndex := 64, attributes := #[] }, { accessFlags := 17, nameIndex := 77, descriptorIndex := 78, attributes := #[] }, { accessFlags := 16, nameIndex := 79, descriptorIndex := 80, attributes := #[] }] 1056 8 #[] #[{ accessFlags := 0, nameIndex := 28, descriptorIndex := 29, attributes := #[] }, { accessFlags := 0, nameIndex := 32, descriptorIndex := 29, attributes := #[] }, { accessFlags := 0, nameIndex := 21, descriptorIndex := 18, attributes := #[] }, { accessFlags := 0, nameIndex := 35, descriptorIndex := 18, attributes := #[] }, { accessFlags := 4112, nameIndex := 5, descriptorIndex := 6, attributes := #[] }])
  fields := #[{ name := "next", type := (.object "java/util/HashMap$Node"), accessFlags := 0, slot := 0, constantValue := 0 }, { name := "current", type := (.object "java/util/HashMap$Node"), accessFlags := 0, slot := 1, constantValue := 0 }, { name := "expectedModCount", type := .int, accessFlags := 0, slot := 2, constantValue := 0 }, { name := "index", type := .int, accessFlags := 0, slot := 3, constantValue := 0 }, { name := "this$0", type := (.object "java/util/HashMap"), accessFlags := 4112, slot := 4, constantValue := 0 }]
  methods := #[k28m0, k28m1, k28m2]
  instanceTypes := #[(.object "java/util/HashMap$Node"), (.object "java/util/HashMap$Node"), .int, .int, (.object "java/util/HashMap")]
  staticTypes := #[]
  resolved := Array.replicate 91 none
  statics := none }

def pool29 : Array CpInfo := pool [(16, .class_ 18), (1, u "java/util/Iterator"), (0, u "hasNext"), (0, u "()Z"), (2, u "next"), (0, u "()Ljava/lang/Object;"), (6, .class_ 32), (0, u "java/lang/Object")] 20

def k29m0 : Method := { name := "hasNext", desc := "()Z", sig := { parameters := [], returnType := some .boolean }, accessFlags := 1025, code := none }
def k29m1 : Method := { name := "next", desc := "()Ljava/lang/Object;", sig := { parameters := [], returnType := some (.object "java/lang/Object") }, accessFlags := 1025, code := none }
/-- java/util/Iterator -/
def k29 : Class := { plain "java/util/Iterator" (some 0) with
  accessFlags := 1537
  interfaces := #[]
  cf := some (fileOf pool29 16 #[] #[{ accessFlags := 1025, nameIndex := 19, descriptorIndex := 20, attributes := #[] }, { accessFlags := 1025, nameIndex := 23, descriptorIndex := 24, attributes := #[] }] 1537 31 #[] #[])
  fields := #[]
  methods := #[k29m0, k29m1]
  instanceTypes := #[]
  staticTypes := #[]
  resolved := Array.replicate 53 none
  statics := none }

def pool30 : Array CpInfo := pool [(1, .methodref 2 3), (0, .class_ 4), (0, .nameAndType 5 6), (0, u "java/util/HashMap$HashIterator"), (0, u "<init>"), (0, u "(Ljava/util/HashMap;)V"), (0, .methodref 8 9), (0, .class_ 10), (0, .nameAndType 11 12), (0, u "java/util/HashMap$ValueIterator"), (0, u "nextNode"), (0, u "()Ljava/util/HashMap$Node;"), (0, .fieldref 14 15), (0, .class_ 16), (0, .nameAndType 17 18), (0, u "java/util/HashMap$Node"), (0, u "value"), (0, u "Ljava/lang/Object;"), (0, .class_ 20), (0, u "java/util/Iterator"), (10, u "next"), (0, u "()Ljava/lang/Object;"), (6, .class_ 40), (0, u "java/util/HashMap")] 4

def k30c0 : Code := { maxStack := 2, maxLocals := 2, code := jdk_2569_method_1_code, exceptionTable := #[], attributes := #[] }
def k30m0 : Method := { name := "<init>", desc := "(Ljava/util/HashMap;)V", sig := { parameters := [(.object "java/util/HashMap")], returnType := none }, accessFlags := 0, code := some k30c0 }
def k30c1 : Code := { maxStack := 1, maxLocals := 1, code := jdk_2569_method_2_code, exceptionTable := #[], attributes := #[] }
def k30m1 : Method := { name := "next", desc := "()Ljava/lang/Object;", sig := { parameters := [], returnType := some (.object "java/lang/Object") }, accessFlags := 17, code := some k30c1 }
/-- java/util/HashMap$ValueIterator -/
def k30 : Class := { plain "java/util/HashMap$ValueIterator" (some 28) with
  accessFlags := 48
  interfaces := #[29]
  cf := some (fileOf pool30 8 #[.nestHost 39] #[{ accessFlags := 0, nameIndex := 5, descriptorIndex := 6, attributes := #[] }, { accessFlags := 17, nameIndex := 31, descriptorIndex := 32, attributes := #[] }] 48 2 #[19] #[])
  fields := #[]
  methods := #[k30m0, k30m1]
  instanceTypes := #[(.object "java/util/HashMap$Node"), (.object "java/util/HashMap$Node"), .int, .int, (.object "java/util/HashMap")]
  staticTypes := #[]
  resolved := Array.replicate 45 none
  statics := none }

def pool31 : Array CpInfo := pool [(2, .class_ 4), (1, u "java/lang/Object"), (0, u "<init>"), (0, u "()V"), (0, .methodref 8 9), (0, .class_ 10), (0, .nameAndType 11 12), (0, u "java/util/DualPivotQuicksort"), (0, u "sort"), (0, u "([IIII)V"), (1, .class_ 16), (1, u "java/util/Arrays"), (57, .class_ 76), (1, u "java/util/Arrays$NaturalOrder"), (32, u "()Ljava/lang/Object;"), (3, .class_ 115), (1, u "java/util/Arrays$LegacyMergeSort"), (1, u "Z"), (10, .nameAndType 129 109), (0, u "clone"), (20, .methodref 151 152), (0, .class_ 153), (0, .nameAndType 154 155), (0, u "java/lang/System"), (0, u "arraycopy"), (0, u "(Ljava/lang/Object;ILjava/lang/Object;II)V"), (146, u "copyOf"), (1, .methodref 305 306), (0, .class_ 307), (0, .nameAndType 308 309), (0, u "java/lang/Math"), (0, u "min"), (0, u "(II)I"), (6, .methodref 317 128), (0, .class_ 318), (0, u "[I"), (56, .class_ 376), (0, u "java/util/Arrays$ArrayList"), (68, u "$assertionsDisabled"), (269, u "MIN_ARRAY_SORT_GRAN"), (0, u "I"), (2, u "INSERTIONSORT_THRESHOLD"), (6, u "([I)V"), (144, u "([II)[I"), (103, .class_ 976), (0, u "java/util/Arrays$ArrayItr")] 52

def k31m0 : Method := { name := "<init>", desc := "()V", sig := { parameters := [], returnType := none }, accessFlags := 2, code := none }
def k31c1 : Code := { maxStack := 4, maxLocals := 1, code := jdk_65_method_2_code, exceptionTable := #[], attributes := #[] }
def k31m1 : Method := { name := "sort", desc := "([I)V", sig := { parameters := [(.array .int)], returnType := none }, accessFlags := 9, code := some k31c1 }
def k31c2 : Code := { maxStack := 6, maxLocals := 3, code := jdk_65_method_123_code, exceptionTable := #[], attributes := #[] }
def k31m2 : Method := { name := "copyOf", desc := "([II)[I", sig := { parameters := [(.array .int), .int], returnType := some (.array .int) }, accessFlags := 9, code := some k31c2 }
/-- java/util/Arrays -/
def k31 : Class := { plain "java/util/Arrays" (some 0) with
  accessFlags := 49
  interfaces := #[]
  cf := some (fileOf pool31 14 #[.nestMembers #[975, 375, 113, 74]] #[{ accessFlags := 2, nameIndex := 5, descriptorIndex := 6, attributes := #[] }, { accessFlags := 9, nameIndex := 11, descriptorIndex := 726, attributes := #[] }, { accessFlags := 9, nameIndex := 302, descriptorIndex := 871, attributes := #[] }] 49 2 #[] #[{ accessFlags := 26, nameIndex := 715, descriptorIndex := 716, attributes := #[] }, { accessFlags := 26, nameIndex := 719, descriptorIndex := 716, attributes := #[] }, { accessFlags := 4120, nameIndex := 445, descriptorIndex := 117, attributes := #[] }])
  fields := #[{ name := "MIN_ARRAY_SORT_GRAN", type := .int, accessFlags := 26, slot := 0, constantValue := 0 }, { name := "INSERTIONSORT_THRESHOLD", type := .int, accessFlags := 26, slot := 1, constantValue := 0 }, { name := "$assertionsDisabled", type := .boolean, accessFlags := 4120, slot := 2, constantValue := 0 }]
  methods := #[k31m0, k31m1, k31m2]
  instanceTypes := #[]
  staticTypes := #[.int, .int, .boolean]
  resolved := Array.replicate 1029 none
  statics := none }

def pool32 : Array CpInfo := pool [(1, .class_ 2), (0, u "java/lang/Math"), (1, .class_ 6), (1, u "java/lang/Object"), (0, u "<init>"), (0, u "()V"), (89, .class_ 100), (1, u "java/lang/Math$RandomNumberGeneratorHolder"), (71, u "negativeZeroFloatBits"), (0, u "J"), (2, u "negativeZeroDoubleBits"), (21, u "max"), (2, u "min"), (43, u "$assertionsDisabled"), (0, u "Z"), (88, u "(II)I"), (2, u "twoToTheDoubleScaleDown"), (0, u "D"), (4, u "twoToTheDoubleScaleUp"), (9, u "E"), (3, u "PI"), (2, u "TAU"), (2, u "DEGREES_TO_RADIANS"), (0, u "RADIANS_TO_DEGREES")] 94

def k32m0 : Method := { name := "<init>", desc := "()V", sig := { parameters := [], returnType := none }, accessFlags := 2, code := none }
def k32c1 : Code := { maxStack := 2, maxLocals := 2, code := jdk_29_method_65_code, exceptionTable := #[], attributes := #[] }
def k32m1 : Method := { name := "max", desc := "(II)I", sig := { parameters := [.int, .int], returnType := some .int }, accessFlags := 9, code := some k32c1 }
def k32c2 : Code := { maxStack := 2, maxLocals := 2, code := jdk_29_method_69_code, exceptionTable := #[], attributes := #[] }
def k32m2 : Method := { name := "min", desc := "(II)I", sig := { parameters := [.int, .int], returnType := some .int }, accessFlags := 9, code := some k32c2 }
/-- java/lang/Math -/
def k32 : Class := { plain "java/lang/Math" (some 0) with
  accessFlags := 49
  interfaces := #[]
  cf := some (fileOf pool32 1 #[.nestMembers #[98]] #[{ accessFlags := 2, nameIndex := 7, descriptorIndex := 8, attributes := #[] }, { accessFlags := 9, nameIndex := 198, descriptorIndex := 335, attributes := #[] }, { accessFlags := 9, nameIndex := 201, descriptorIndex := 335, attributes := #[] }] 49 4 #[] #[{ accessFlags := 25, nameIndex := 354, descriptorIndex := 339, attributes := #[] }, { accessFlags := 25, nameIndex := 358, descriptorIndex := 339, attributes := #[] }, { accessFlags := 25, nameIndex := 361, descriptorIndex := 339, attributes := #[] }, { accessFlags := 26, nameIndex := 364, descriptorIndex := 339, attributes := #[] }, { accessFlags := 26, nameIndex := 365, descriptorIndex := 339, attributes := #[] }, { accessFlags := 26, nameIndex := 172, descriptorIndex := 173, attributes := #[] }, { accessFlags := 26, nameIndex := 176, descriptorIndex := 173, attributes := #[] }, { accessFlags := 8, nameIndex := 344, descriptorIndex := 339, attributes := #[] }, { accessFlags := 8, nameIndex := 338, descriptorIndex := 339, attributes := #[] }, { accessFlags := 4120, nameIndex := 245, descriptorIndex := 246, attributes := #[] }])
  fields := #[{ name := "E", type := .double, accessFlags := 25, slot := 0, constantValue := 0 }, { name := "PI", type := .double, accessFlags := 25, slot := 1, constantValue := 0 }, { name := "TAU", type := .double, accessFlags := 25, slot := 2, constantValue := 0 }, { name := "DEGREES_TO_RADIANS", type := .double, accessFlags := 26, slot := 3, constantValue := 0 }, { name := "RADIANS_TO_DEGREES", type := .double, accessFlags := 26, slot := 4, constantValue := 0 }, { name := "negativeZeroFloatBits", type := .long, accessFlags := 26, slot := 5, constantValue := 0 }, { name := "negativeZeroDoubleBits", type := .long, accessFlags := 26, slot := 6, constantValue := 0 }, { name := "twoToTheDoubleScaleUp", type := .double, accessFlags := 8, slot := 7, constantValue := 0 }, { name := "twoToTheDoubleScaleDown", type := .double, accessFlags := 8, slot := 8, constantValue := 0 }, { name := "$assertionsDisabled", type := .boolean, accessFlags := 4120, slot := 9, constantValue := 0 }]
  methods := #[k32m0, k32m1, k32m2]
  instanceTypes := #[]
  staticTypes := #[.double, .double, .double, .double, .double, .long, .long, .double, .double, .boolean]
  resolved := Array.replicate 460 none
  statics := none }

def pool33 : Array CpInfo := pool [(2, .class_ 4), (1, u "java/lang/Object"), (0, u "<init>"), (0, u "()V"), (1, .class_ 10), (1, u "java/lang/System"), (0, u "allowSecurityManager"), (0, u "I"), (16, u "cons"), (0, u "Ljava/io/Console;"), (77, .class_ 110), (1, u "java/lang/System$CallersHolder"), (43, u "initialErrStream"), (0, u "Ljava/io/PrintStream;"), (19, u "security"), (0, u "Ljava/lang/SecurityManager;"), (31, .class_ 209), (0, u "java/lang/System$1"), (7, u "props"), (0, u "Ljava/util/Properties;"), (2, u "lineSeparator"), (0, u "Ljava/lang/String;"), (96, .class_ 321), (1, u "java/lang/System$LoggerFinder"), (5, .class_ 328), (0, u "java/lang/System$Logger"), (67, u "err"), (2, u "out"), (91, u "notSupportedJnuEncoding"), (15, u "in"), (17, u "initialIn"), (0, u "Ljava/io/InputStream;"), (35, u "bootLayer"), (0, u "Ljava/lang/ModuleLayer;"), (99, .class_ 664), (0, u "java/lang/System$2"), (9, u "NEVER"), (2, u "MAYBE"), (49, u "arraycopy"), (0, u "(Ljava/lang/Object;ILjava/lang/Object;II)V"), (72, .class_ 802), (0, u "java/lang/System$Logger$Level")] 31

def k33m0 : Method := { name := "<init>", desc := "()V", sig := { parameters := [], returnType := none }, accessFlags := 2, code := none }
def k33m1 : Method := { name := "arraycopy", desc := "(Ljava/lang/Object;ILjava/lang/Object;II)V", sig := { parameters := [(.object "java/lang/Object"), .int, (.object "java/lang/Object"), .int, .int], returnType := none }, accessFlags := 265, code := none }
/-- java/lang/System -/
def k33 : Class := { plain "java/lang/System" (some 0) with
  accessFlags := 49
  interfaces := #[]
  cf := some (fileOf pool33 8 #[.nestMembers #[319, 327, 801, 108, 663, 208]] #[{ accessFlags := 2, nameIndex := 5, descriptorIndex := 6, attributes := #[] }, { accessFlags := 265, nameIndex := 727, descriptorIndex := 728, attributes := #[] }] 49 2 #[] #[{ accessFlags := 25, nameIndex := 507, descriptorIndex := 526, attributes := #[] }, { accessFlags := 25, nameIndex := 399, descriptorIndex := 155, attributes := #[] }, { accessFlags := 25, nameIndex := 396, descriptorIndex := 155, attributes := #[] }, { accessFlags := 10, nameIndex := 525, descriptorIndex := 526, attributes := #[] }, { accessFlags := 26, nameIndex := 674, descriptorIndex := 12, attributes := #[] }, { accessFlags := 26, nameIndex := 677, descriptorIndex := 12, attributes := #[] }, { accessFlags := 10, nameIndex := 11, descriptorIndex := 12, attributes := #[] }, { accessFlags := 74, nameIndex := 175, descriptorIndex := 176, attributes := #[] }, { accessFlags := 10, nameIndex := 491, descriptorIndex := 222, attributes := #[] }, { accessFlags := 74, nameIndex := 29, descriptorIndex := 30, attributes := #[] }, { accessFlags := 74, nameIndex := 154, descriptorIndex := 155, attributes := #[] }, { accessFlags := 10, nameIndex := 217, descriptorIndex := 218, attributes := #[] }, { accessFlags := 10, nameIndex := 221, descriptorIndex := 222, attributes := #[] }, { accessFlags := 8, nameIndex := 562, descriptorIndex := 563, attributes := #[] }])
  fields := #[{ name := "in", type := (.object "java/io/InputStream"), accessFlags := 25, slot := 0, constantValue := 0 }, { name := "out", type := (.object "java/io/PrintStream"), accessFlags := 25, slot := 1, constantValue := 0 }, { name := "err", type := (.object "java/io/PrintStream"), accessFlags := 25, slot := 2, constantValue := 0 }, { name := "initialIn", type := (.object "java/io/InputStream"), accessFlags := 10, slot := 3, constantValue := 0 }, { name := "NEVER", type := .int, accessFlags := 26, slot := 4, constantValue := 0 }, { name := "MAYBE", type := .int, accessFlags := 26, slot := 5, constantValue := 0 }, { name := "allowSecurityManager", type := .int, accessFlags := 10, slot := 6, constantValue := 0 }, { name := "security", type := (.object "java/lang/SecurityManager"), accessFlags := 74, slot := 7, constantValue := 0 }, { name := "notSupportedJnuEncoding", type := (.object "java/lang/String"), accessFlags := 10, slot := 8, constantValue := 0 }, { name := "cons", type := (.object "java/io/Console"), accessFlags := 74, slot := 9, constantValue := 0 }, { name := "initialErrStream", type := (.object "java/io/PrintStream"), accessFlags := 74, slot := 10, constantValue := 0 }, { name := "props", type := (.object "java/util/Properties"), accessFlags := 10, slot := 11, constantValue := 0 }, { name := "lineSeparator", type := (.object "java/lang/String"), accessFlags := 10, slot := 12, constantValue := 0 }, { name := "bootLayer", type := (.object "java/lang/ModuleLayer"), accessFlags := 8, slot := 13, constantValue := 0 }]
  methods := #[k33m0, k33m1]
  instanceTypes := #[]
  staticTypes := #[(.object "java/io/InputStream"), (.object "java/io/PrintStream"), (.object "java/io/PrintStream"), (.object "java/io/InputStream"), .int, .int, .int, (.object "java/lang/SecurityManager"), (.object "java/lang/String"), (.object "java/io/Console"), (.object "java/io/PrintStream"), (.object "java/util/Properties"), (.object "java/lang/String"), (.object "java/lang/ModuleLayer")]
  resolved := Array.replicate 834 none
  statics := none }

def pool34 : Array CpInfo := pool [(1, .class_ 2), (0, u "java/util/DualPivotQuicksort"), (5, .class_ 10), (1, u "java/lang/Object"), (0, u "<init>"), (0, u "()V"), (4, .class_ 18), (0, u "java/util/DualPivotQuicksort$Sorter"), (7, .methodref 1 27), (0, .nameAndType 28 29), (0, u "sort"), (0, u "(Ljava/util/DualPivotQuicksort$Sorter;[IIII)V"), (3, u "([IIII)V"), (0, .methodref 1 35), (0, .nameAndType 36 37), (0, u "insertionSort"), (0, u "([III)V"), (30, u "I"), (4, .class_ 74), (0, u "java/util/DualPivotQuicksort$RunMerger"), (10, .class_ 86), (0, u "java/util/DualPivotQuicksort$Merger"), (127, u "MAX_MIXED_INSERTION_SORT_SIZE"), (2, u "MAX_INSERTION_SORT_SIZE"), (1, u "MIN_PARALLEL_SORT_SIZE"), (1, u "MIN_TRY_MERGE_SIZE"), (0, u "MIN_FIRST_RUN_SIZE"), (1, u "MIN_FIRST_RUNS_FACTOR"), (1, u "MAX_RUN_CAPACITY"), (1, u "MIN_RUN_COUNT"), (1, u "MIN_PARALLEL_MERGE_PARTS_SIZE"), (0, u "MIN_BYTE_COUNTING_SORT_SIZE"), (1, u "MIN_SHORT_OR_CHAR_COUNTING_SORT_SIZE"), (1, u "DELTA"), (1, u "MAX_RECURSION_DEPTH"), (1, u "NUM_BYTE_VALUES"), (1, u "MAX_BYTE_INDEX"), (0, u "NUM_CHAR_VALUES"), (0, u "NUM_SHORT_VALUES"), (0, u "MAX_SHORT_INDEX")] 86

def k34m0 : Method := { name := "<init>", desc := "()V", sig := { parameters := [], returnType := none }, accessFlags := 2, code := none }
def k34c1 : Code := { maxStack := 9, maxLocals := 7, code := jdk_2529_method_3_code, exceptionTable := #[], attributes := #[] }
def k34m1 : Method := { name := "sort", desc := "([IIII)V", sig := { parameters := [(.array .int), .int, .int, .int], returnType := none }, accessFlags := 8, code := some k34c1 }
def k34c2 : Code := { maxStack := 6, maxLocals := 21, code := jdk_2529_method_4_code, exceptionTable := #[], attributes := #[] }
def k34m2 : Method := { name := "sort", desc := "(Ljava/util/DualPivotQuicksort$Sorter;[IIII)V", sig := { parameters := [(.object "java/util/DualPivotQuicksort$Sorter"), (.array .int), .int, .int, .int], returnType := none }, accessFlags := 8, code := some k34c2 }
def k34c3 : Code := { maxStack := 4, maxLocals := 6, code := jdk_2529_method_6_code, exceptionTable := #[], attributes := #[] }
def k34m3 : Method := { name := "insertionSort", desc := "([III)V", sig := { parameters := [(.array .int), .int, .int], returnType := none }, accessFlags := 10, code := some k34c3 }
/-- java/util/DualPivotQuicksort -/
def k34 : Class := { plain "java/util/DualPivotQuicksort" (some 0) with
  accessFlags := 48
  interfaces := #[]
  cf := some (fileOf pool34 1 #[.nestMembers #[73, 85, 17]] #[{ accessFlags := 2, nameIndex := 11, descriptorIndex := 12, attributes := #[] }, { accessFlags := 8, nameIndex := 28, descriptorIndex := 33, attributes := #[] }, { accessFlags := 8, nameIndex := 28, descriptorIndex := 29, attributes := #[] }, { accessFlags := 10, nameIndex := 36, descriptorIndex := 37, attributes := #[] }] 48 8 #[] #[{ accessFlags := 26, nameIndex := 214, descriptorIndex := 68, attributes := #[] }, { accessFlags := 26, nameIndex := 217, descriptorIndex := 68, attributes := #[] }, { accessFlags := 26, nameIndex := 219, descriptorIndex := 68, attributes := #[] }, { accessFlags := 26, nameIndex := 221, descriptorIndex := 68, attributes := #[] }, { accessFlags := 26, nameIndex := 222, descriptorIndex := 68, attributes := #[] }, { accessFlags := 26, nameIndex := 224, descriptorIndex := 68, attributes := #[] }, { accessFlags := 26, nameIndex := 226, descriptorIndex := 68, attributes := #[] }, { accessFlags := 26, nameIndex := 228, descriptorIndex := 68, attributes := #[] }, { accessFlags := 26, nameIndex := 230, descriptorIndex := 68, attributes := #[] }, { accessFlags := 26, nameIndex := 231, descriptorIndex := 68, attributes := #[] }, { accessFlags := 26, nameIndex := 233, descriptorIndex := 68, attributes := #[] }, { accessFlags := 26, nameIndex := 235, descriptorIndex := 68, attributes := #[] }, { accessFlags := 26, nameIndex := 237, descriptorIndex := 68, attributes := #[] }, { accessFlags := 26, nameIndex := 239, descriptorIndex := 68, attributes := #[] }, { accessFlags := 26, nameIndex := 241, descriptorIndex := 68, attributes := #[] }, { accessFlags := 26, nameIndex := 242, descriptorIndex := 68, attributes := #[] }, { accessFlags := 26, nameIndex := 243, descriptorIndex := 68, attributes := #[] }, { accessFlags := 26, nameIndex := 244, descriptorIndex := 68, attributes := #[] }])
  fields := #[{ name := "MAX_MIXED_INSERTION_SORT_SIZE", type := .int, accessFlags := 26, slot := 0, constantValue := 0 }, { name := "MAX_INSERTION_SORT_SIZE", type := .int, accessFlags := 26, slot := 1, constantValue := 0 }, { name := "MIN_PARALLEL_SORT_SIZE", type := .int, accessFlags := 26, slot := 2, constantValue := 0 }, { name := "MIN_TRY_MERGE_SIZE", type := .int, accessFlags := 26, slot := 3, constantValue := 0 }, { name := "MIN_FIRST_RUN_SIZE", type := .int, accessFlags := 26, slot := 4, constantValue := 0 }, { name := "MIN_FIRST_RUNS_FACTOR", type := .int, accessFlags := 26, slot := 5, constantValue := 0 }, { name := "MAX_RUN_CAPACITY", type := .int, accessFlags := 26, slot := 6, constantValue := 0 }, { name := "MIN_RUN_COUNT", type := .int, accessFlags := 26, slot := 7, constantValue := 0 }, { name := "MIN_PARALLEL_MERGE_PARTS_SIZE", type := .int, accessFlags := 26, slot := 8, constantValue := 0 }, { name := "MIN_BYTE_COUNTING_SORT_SIZE", type := .int, accessFlags := 26, slot := 9, constantValue := 0 }, { name := "MIN_SHORT_OR_CHAR_COUNTING_SORT_SIZE", type := .int, accessFlags := 26, slot := 10, constantValue := 0 }, { name := "DELTA", type := .int, accessFlags := 26, slot := 11, constantValue := 0 }, { name := "MAX_RECURSION_DEPTH", type := .int, accessFlags := 26, slot := 12, constantValue := 0 }, { name := "NUM_BYTE_VALUES", type := .int, accessFlags := 26, slot := 13, constantValue := 0 }, { name := "MAX_BYTE_INDEX", type := .int, accessFlags := 26, slot := 14, constantValue := 0 }, { name := "NUM_CHAR_VALUES", type := .int, accessFlags := 26, slot := 15, constantValue := 0 }, { name := "NUM_SHORT_VALUES", type := .int, accessFlags := 26, slot := 16, constantValue := 0 }, { name := "MAX_SHORT_INDEX", type := .int, accessFlags := 26, slot := 17, constantValue := 0 }]
  methods := #[k34m0, k34m1, k34m2, k34m3]
  instanceTypes := #[]
  staticTypes := #[.int, .int, .int, .int, .int, .int, .int, .int, .int, .int, .int, .int, .int, .int, .int, .int, .int, .int]
  resolved := Array.replicate 331 none
  statics := none }

def pool35 : Array CpInfo := pool [(2, .class_ 4), (1, u "java/lang/Object"), (0, u "<init>"), (0, u "()V"), (17, .class_ 26), (1, u "jdk/internal/util/Preconditions"), (28, .class_ 56), (0, u "jdk/internal/util/Preconditions$4"), (57, .class_ 115), (0, u "jdk/internal/util/Preconditions$1"), (7, u "SIOOBE_FORMATTER"), (0, u "Ljava/util/function/BiFunction;"), (0, .class_ 126), (0, u "jdk/internal/util/Preconditions$2"), (3, u "AIOOBE_FORMATTER"), (0, .class_ 132), (0, u "jdk/internal/util/Preconditions$3"), (3, u "IOOBE_FORMATTER")] 57

def k35m0 : Method := { name := "<init>", desc := "()V", sig := { parameters := [], returnType := none }, accessFlags := 1, code := none }
/-- jdk/internal/util/Preconditions -/
def k35 : Class := { plain "jdk/internal/util/Preconditions" (some 0) with
  accessFlags := 33
  interfaces := #[]
  cf := some (fileOf pool35 24 #[.nestMembers #[55, 131, 125, 114]] #[{ accessFlags := 1, nameIndex := 5, descriptorIndex := 6, attributes := #[] }] 33 2 #[] #[{ accessFlags := 25, nameIndex := 123, descriptorIndex := 124, attributes := #[] }, { accessFlags := 25, nameIndex := 130, descriptorIndex := 124, attributes := #[] }, { accessFlags := 25, nameIndex := 136, descriptorIndex := 124, attributes := #[] }])
  fields := #[{ name := "SIOOBE_FORMATTER", type := (.object "java/util/function/BiFunction"), accessFlags := 25, slot := 0, constantValue := 0 }, { name := "AIOOBE_FORMATTER", type := (.object "java/util/function/BiFunction"), accessFlags := 25, slot := 1, constantValue := 0 }, { name := "IOOBE_FORMATTER", type := (.object "java/util/function/BiFunction"), accessFlags := 25, slot := 2, constantValue := 0 }]
  methods := #[k35m0]
  instanceTypes := #[]
  staticTypes := #[(.object "java/util/function/BiFunction"), (.object "java/util/function/BiFunction"), (.object "java/util/function/BiFunction")]
  resolved := Array.replicate 194 none
  statics := some 3 }

def pool36 : Array CpInfo := pool [(9, u "<init>"), (6, .class_ 18), (1, u "java/lang/Object"), (0, u "()V"), (1, .class_ 23), (1, u "jdk/internal/util/ArraysSupport"), (0, u "LOG2_ARRAY_LONG_INDEX_SCALE"), (0, u "I"), (2, u "U"), (0, u "Ljdk/internal/misc/Unsafe;"), (8, u "BIG_ENDIAN"), (0, u "Z"), (8, u "LOG2_BYTE_BIT_SIZE"), (4, u "LOG2_ARRAY_INT_INDEX_SCALE"), (54, u "JLA"), (0, u "Ljdk/internal/access/JavaLangAccess;"), (11, u "LOG2_ARRAY_BOOLEAN_INDEX_SCALE"), (9, u "LOG2_ARRAY_BYTE_INDEX_SCALE"), (5, u "LOG2_ARRAY_CHAR_INDEX_SCALE"), (5, u "LOG2_ARRAY_SHORT_INDEX_SCALE"), (18, u "LOG2_ARRAY_FLOAT_INDEX_SCALE"), (24, u "LOG2_ARRAY_DOUBLE_INDEX_SCALE"), (89, u "T_BOOLEAN"), (2, u "T_CHAR"), (1, u "T_FLOAT"), (1, u "T_DOUBLE"), (1, u "T_BYTE"), (1, u "T_SHORT"), (1, u "T_INT"), (1, u "T_LONG"), (1, u "SOFT_MAX_ARRAY_LENGTH")] 83

def k36m0 : Method := { name := "<init>", desc := "()V", sig := { parameters := [], returnType := none }, accessFlags := 2, code := none }
/-- jdk/internal/util/ArraysSupport -/
def k36 : Class := { plain "jdk/internal/util/ArraysSupport" (some 0) with
  accessFlags := 33
  interfaces := #[]
  cf := some (fileOf pool36 21 #[] #[{ accessFlags := 2, nameIndex := 9, descriptorIndex := 19, attributes := #[] }] 33 16 #[] #[{ accessFlags := 24, nameIndex := 28, descriptorIndex := 29, attributes := #[] }, { accessFlags := 26, nameIndex := 38, descriptorIndex := 39, attributes := #[] }, { accessFlags := 25, nameIndex := 121, descriptorIndex := 25, attributes := #[] }, { accessFlags := 25, nameIndex := 131, descriptorIndex := 25, attributes := #[] }, { accessFlags := 25, nameIndex := 137, descriptorIndex := 25, attributes := #[] }, { accessFlags := 25, nameIndex := 143, descriptorIndex := 25, attributes := #[] }, { accessFlags := 25, nameIndex := 53, descriptorIndex := 25, attributes := #[] }, { accessFlags := 25, nameIndex := 24, descriptorIndex := 25, attributes := #[] }, { accessFlags := 25, nameIndex := 162, descriptorIndex := 25, attributes := #[] }, { accessFlags := 25, nameIndex := 187, descriptorIndex := 25, attributes := #[] }, { accessFlags := 26, nameIndex := 48, descriptorIndex := 25, attributes := #[] }, { accessFlags := 25, nameIndex := 277, descriptorIndex := 25, attributes := #[] }, { accessFlags := 25, nameIndex := 280, descriptorIndex := 25, attributes := #[] }, { accessFlags := 25, nameIndex := 282, descriptorIndex := 25, attributes := #[] }, { accessFlags := 25, nameIndex := 284, descriptorIndex := 25, attributes := #[] }, { accessFlags := 25, nameIndex := 286, descriptorIndex := 25, attributes := #[] }, { accessFlags := 25, nameIndex := 288, descriptorIndex := 25, attributes := #[] }, { accessFlags := 25, nameIndex := 290, descriptorIndex := 25, attributes := #[] }, { accessFlags := 25, nameIndex := 292, descriptorIndex := 25, attributes := #[] }, { accessFlags := 26, nameIndex := 108, descriptorIndex := 109, attributes := #[] }, { accessFlags := 25, nameIndex := 294, descriptorIndex := 25, attributes := #[] }])
  fields := #[{ name := "U", type := (.object "jdk/internal/misc/Unsafe"), accessFlags := 24, slot := 0, constantValue := 0 }, { name := "BIG_ENDIAN", type := .boolean, accessFlags := 26, slot := 1, constantValue := 0 }, { name := "LOG2_ARRAY_BOOLEAN_INDEX_SCALE", type := .int, accessFlags := 25, slot := 2, constantValue := 0 }, { name := "LOG2_ARRAY_BYTE_INDEX_SCALE", type := .int, accessFlags := 25, slot := 3, constantValue := 0 }, { name := "LOG2_ARRAY_CHAR_INDEX_SCALE", type := .int, accessFlags := 25, slot := 4, constantValue := 0 }, { name := "LOG2_ARRAY_SHORT_INDEX_SCALE", type := .int, accessFlags := 25, slot := 5, constantValue := 0 }, { name := "LOG2_ARRAY_INT_INDEX_SCALE", type := .int, accessFlags := 25, slot := 6, constantValue := 0 }, { name := "LOG2_ARRAY_LONG_INDEX_SCALE", type := .int, accessFlags := 25, slot := 7, constantValue := 0 }, { name := "LOG2_ARRAY_FLOAT_INDEX_SCALE", type := .int, accessFlags := 25, slot := 8, constantValue := 0 }, { name := "LOG2_ARRAY_DOUBLE_INDEX_SCALE", type := .int, accessFlags := 25, slot := 9, constantValue := 0 }, { name := "LOG2_BYTE_BIT_SIZE", type := .int, accessFlags := 26, slot := 10, constantValue := 0 }, { name := "T_BOOLEAN", type := .int, accessFlags := 25, slot := 11, constantValue := 0 }, { name := "T_CHAR", type := .int, accessFlags := 25, slot := 12, constantValue := 0 }, { name := "T_FLOAT", type := .int, accessFlags := 25, slot := 13, constantValue := 0 }, { name := "T_DOUBLE", type := .int, accessFlags := 25, slot := 14, constantValue := 0 }, { name := "T_BYTE", type := .int, accessFlags := 25, slot := 15, constantValue := 0 }, { name := "T_SHORT", type := .int, accessFlags := 25, slot := 16, constantValue := 0 }, { name := "T_INT", type := .int, accessFlags := 25, slot := 17, constantValue := 0 }, { name := "T_LONG", type := .int, accessFlags := 25, slot := 18, constantValue := 0 }, { name := "JLA", type := (.object "jdk/internal/access/JavaLangAccess"), accessFlags := 26, slot := 19, constantValue := 0 }, { name := "SOFT_MAX_ARRAY_LENGTH", type := .int, accessFlags := 25, slot := 20, constantValue := 0 }]
  methods := #[k36m0]
  instanceTypes := #[]
  staticTypes := #[(.object "jdk/internal/misc/Unsafe"), .boolean, .int, .int, .int, .int, .int, .int, .int, .int, .int, .int, .int, .int, .int, .int, .int, .int, .int, (.object "jdk/internal/access/JavaLangAccess"), .int]
  resolved := Array.replicate 378 none
  statics := none }

/-- the primitive byte -/
def k37 : Class := { plain "byte" none with kind := .primitive 'B', accessFlags := 0x411 }
/-- [B -/
def k38 : Class := { plain "[B" (some 0) with kind := .array 37 .byte, interfaces := #[9, 10], accessFlags := 1041 }

/-- the primitive int -/
def k39 : Class := { plain "int" none with kind := .primitive 'I', accessFlags := 0x411 }
/-- [I -/
def k40 : Class := { plain "[I" (some 0) with kind := .array 39 .int, interfaces := #[9, 10], accessFlags := 1041 }

/-- [Ljava/lang/Integer; -/
def k41 : Class := { plain "[Ljava/lang/Integer;" (some 0) with kind := .array 22 (.object "java/lang/Integer"), interfaces := #[9, 10], accessFlags := 1041 }

/-- [Ljava/lang/Object; -/
def k42 : Class := { plain "[Ljava/lang/Object;" (some 0) with kind := .array 0 (.object "java/lang/Object"), interfaces := #[9, 10], accessFlags := 1041 }

/-- [Ljava/util/HashMap$Node; -/
def k43 : Class := { plain "[Ljava/util/HashMap$Node;" (some 0) with kind := .array 25 (.object "java/util/HashMap$Node"), interfaces := #[9, 10], accessFlags := 1041 }

def heap : Heap := #[{ cls := 11, slots := #[.long 0, .int 0, .ref 261, .ref 262], vm := .statics 11 },
  { cls := 19, slots := #[.long 0, .int 1, .null, .int 0, .null, .int 0, .int 0], vm := .statics 19 },
  { cls := 23, slots := #[.int 0, .int 127, .ref 4, .null, .int 0], vm := .statics 23 },
  { cls := 35, slots := #[.null, .null, .null], vm := .statics 35 },
  { cls := 41, slots := #[.ref 5, .ref 6, .ref 7, .ref 8, .ref 9, .ref 10, .ref 11, .ref 12, .ref 13, .ref 14, .ref 15, .ref 16, .ref 17, .ref 18, .ref 19, .ref 20, .ref 21, .ref 22, .ref 23, .ref 24, .ref 25, .ref 26, .ref 27, .ref 28, .ref 29, .ref 30, .ref 31, .ref 32, .ref 33, .ref 34, .ref 35, .ref 36, .ref 37, .ref 38, .ref 39, .ref 40, .ref 41, .ref 42, .ref 43, .ref 44, .ref 45, .ref 46, .ref 47, .ref 48, .ref 49, .ref 50, .ref 51, .ref 52, .ref 53, .ref 54, .ref 55, .ref 56, .ref 57, .ref 58, .ref 59, .ref 60, .ref 61, .ref 62, .ref 63, .ref 64, .ref 65, .ref 66, .ref 67, .ref 68, .ref 69, .ref 70, .ref 71, .ref 72, .ref 73, .ref 74, .ref 75, .ref 76, .ref 77, .ref 78, .ref 79, .ref 80, .ref 81, .ref 82, .ref 83, .ref 84, .ref 85, .ref 86, .ref 87, .ref 88, .ref 89, .ref 90, .ref 91, .ref 92, .ref 93, .ref 94, .ref 95, .ref 96, .ref 97, .ref 98, .ref 99, .ref 100, .ref 101, .ref 102, .ref 103, .ref 104, .ref 105, .ref 106, .ref 107, .ref 108, .ref 109, .ref 110, .ref 111, .ref 112, .ref 113, .ref 114, .ref 115, .ref 116, .ref 117, .ref 118, .ref 119, .ref 120, .ref 121, .ref 122, .ref 123, .ref 124, .ref 125, .ref 126, .ref 127, .ref 128, .ref 129, .ref 130, .ref 131, .ref 132, .ref 133, .ref 134, .ref 135, .ref 136, .ref 137, .ref 138, .ref 139, .ref 140, .ref 141, .ref 142, .ref 143, .ref 144, .ref 145, .ref 146, .ref 147, .ref 148, .ref 149, .ref 150, .ref 151, .ref 152, .ref 153, .ref 154, .ref 155, .ref 156, .ref 157, .ref 158, .ref 159, .ref 160, .ref 161, .ref 162, .ref 163, .ref 164, .ref 165, .ref 166, .ref 167, .ref 168, .ref 169, .ref 170, .ref 171, .ref 172, .ref 173, .ref 174, .ref 175, .ref 176, .ref 177, .ref 178, .ref 179, .ref 180, .ref 181, .ref 182, .ref 183, .ref 184, .ref 185, .ref 186, .ref 187, .ref 188, .ref 189, .ref 190, .ref 191, .ref 192, .ref 193, .ref 194, .ref 195, .ref 196, .ref 197, .ref 198, .ref 199, .ref 200, .ref 201, .ref 202, .ref 203, .ref 204, .ref 205, .ref 206, .ref 207, .ref 208, .ref 209, .ref 210, .ref 211, .ref 212, .ref 213, .ref 214, .ref 215, .ref 216, .ref 217, .ref 218, .ref 219, .ref 220, .ref 221, .ref 222, .ref 223, .ref 224, .ref 225, .ref 226, .ref 227, .ref 228, .ref 229, .ref 230, .ref 231, .ref 232, .ref 233, .ref 234, .ref 235, .ref 236, .ref 237, .ref 238, .ref 239, .ref 240, .ref 241, .ref 242, .ref 243, .ref 244, .ref 245, .ref 246, .ref 247, .ref 248, .ref 249, .ref 250, .ref 251, .ref 252, .ref 253, .ref 254, .ref 255, .ref 256, .ref 257, .ref 258, .ref 259, .ref 260], vm := .none },
  { cls := 22, slots := #[.int (-128)], vm := .none },
  { cls := 22, slots := #[.int (-127)], vm := .none },
  { cls := 22, slots := #[.int (-126)], vm := .none },
  { cls := 22, slots := #[.int (-125)], vm := .none },
  { cls := 22, slots := #[.int (-124)], vm := .none },
  { cls := 22, slots := #[.int (-123)], vm := .none },
  { cls := 22, slots := #[.int (-122)], vm := .none },
  { cls := 22, slots := #[.int (-121)], vm := .none },
  { cls := 22, slots := #[.int (-120)], vm := .none },
  { cls := 22, slots := #[.int (-119)], vm := .none },
  { cls := 22, slots := #[.int (-118)], vm := .none },
  { cls := 22, slots := #[.int (-117)], vm := .none },
  { cls := 22, slots := #[.int (-116)], vm := .none },
  { cls := 22, slots := #[.int (-115)], vm := .none },
  { cls := 22, slots := #[.int (-114)], vm := .none },
  { cls := 22, slots := #[.int (-113)], vm := .none },
  { cls := 22, slots := #[.int (-112)], vm := .none },
  { cls := 22, slots := #[.int (-111)], vm := .none },
  { cls := 22, slots := #[.int (-110)], vm := .none },
  { cls := 22, slots := #[.int (-109)], vm := .none },
  { cls := 22, slots := #[.int (-108)], vm := .none },
  { cls := 22, slots := #[.int (-107)], vm := .none },
  { cls := 22, slots := #[.int (-106)], vm := .none },
  { cls := 22, slots := #[.int (-105)], vm := .none },
  { cls := 22, slots := #[.int (-104)], vm := .none },
  { cls := 22, slots := #[.int (-103)], vm := .none },
  { cls := 22, slots := #[.int (-102)], vm := .none },
  { cls := 22, slots := #[.int (-101)], vm := .none },
  { cls := 22, slots := #[.int (-100)], vm := .none },
  { cls := 22, slots := #[.int (-99)], vm := .none },
  { cls := 22, slots := #[.int (-98)], vm := .none },
  { cls := 22, slots := #[.int (-97)], vm := .none },
  { cls := 22, slots := #[.int (-96)], vm := .none },
  { cls := 22, slots := #[.int (-95)], vm := .none },
  { cls := 22, slots := #[.int (-94)], vm := .none },
  { cls := 22, slots := #[.int (-93)], vm := .none },
  { cls := 22, slots := #[.int (-92)], vm := .none },
  { cls := 22, slots := #[.int (-91)], vm := .none },
  { cls := 22, slots := #[.int (-90)], vm := .none },
  { cls := 22, slots := #[.int (-89)], vm := .none },
  { cls := 22, slots := #[.int (-88)], vm := .none },
  { cls := 22, slots := #[.int (-87)], vm := .none },
  { cls := 22, slots := #[.int (-86)], vm := .none },
  { cls := 22, slots := #[.int (-85)], vm := .none },
  { cls := 22, slots := #[.int (-84)], vm := .none },
  { cls := 22, slots := #[.int (-83)], vm := .none },
  { cls := 22, slots := #[.int (-82)], vm := .none },
  { cls := 22, slots := #[.int (-81)], vm := .none },
  { cls := 22, slots := #[.int (-80)], vm := .none },
  { cls := 22, slots := #[.int (-79)], vm := .none },
  { cls := 22, slots := #[.int (-78)], vm := .none },
  { cls := 22, slots := #[.int (-77)], vm := .none },
  { cls := 22, slots := #[.int (-76)], vm := .none },
  { cls := 22, slots := #[.int (-75)], vm := .none },
  { cls := 22, slots := #[.int (-74)], vm := .none },
  { cls := 22, slots := #[.int (-73)], vm := .none },
  { cls := 22, slots := #[.int (-72)], vm := .none },
  { cls := 22, slots := #[.int (-71)], vm := .none },
  { cls := 22, slots := #[.int (-70)], vm := .none },
  { cls := 22, slots := #[.int (-69)], vm := .none },
  { cls := 22, slots := #[.int (-68)], vm := .none },
  { cls := 22, slots := #[.int (-67)], vm := .none },
  { cls := 22, slots := #[.int (-66)], vm := .none },
  { cls := 22, slots := #[.int (-65)], vm := .none },
  { cls := 22, slots := #[.int (-64)], vm := .none },
  { cls := 22, slots := #[.int (-63)], vm := .none },
  { cls := 22, slots := #[.int (-62)], vm := .none },
  { cls := 22, slots := #[.int (-61)], vm := .none },
  { cls := 22, slots := #[.int (-60)], vm := .none },
  { cls := 22, slots := #[.int (-59)], vm := .none },
  { cls := 22, slots := #[.int (-58)], vm := .none },
  { cls := 22, slots := #[.int (-57)], vm := .none },
  { cls := 22, slots := #[.int (-56)], vm := .none },
  { cls := 22, slots := #[.int (-55)], vm := .none },
  { cls := 22, slots := #[.int (-54)], vm := .none },
  { cls := 22, slots := #[.int (-53)], vm := .none },
  { cls := 22, slots := #[.int (-52)], vm := .none },
  { cls := 22, slots := #[.int (-51)], vm := .none },
  { cls := 22, slots := #[.int (-50)], vm := .none },
  { cls := 22, slots := #[.int (-49)], vm := .none },
  { cls := 22, slots := #[.int (-48)], vm := .none },
  { cls := 22, slots := #[.int (-47)], vm := .none },
  { cls := 22, slots := #[.int (-46)], vm := .none },
  { cls := 22, slots := #[.int (-45)], vm := .none },
  { cls := 22, slots := #[.int (-44)], vm := .none },
  { cls := 22, slots := #[.int (-43)], vm := .none },
  { cls := 22, slots := #[.int (-42)], vm := .none },
  { cls := 22, slots := #[.int (-41)], vm := .none },
  { cls := 22, slots := #[.int (-40)], vm := .none },
  { cls := 22, slots := #[.int (-39)], vm := .none },
  { cls := 22, slots := #[.int (-38)], vm := .none },
  { cls := 22, slots := #[.int (-37)], vm := .none },
  { cls := 22, slots := #[.int (-36)], vm := .none },
  { cls := 22, slots := #[.int (-35)], vm := .none },
  { cls := 22, slots := #[.int (-34)], vm := .none },
  { cls := 22, slots := #[.int (-33)], vm := .none },
  { cls := 22, slots := #[.int (-32)], vm := .none },
  { cls := 22, slots := #[.int (-31)], vm := .none },
  { cls := 22, slots := #[.int (-30)], vm := .none },
  { cls := 22, slots := #[.int (-29)], vm := .none },
  { cls := 22, slots := #[.int (-28)], vm := .none },
  { cls := 22, slots := #[.int (-27)], vm := .none },
  { cls := 22, slots := #[.int (-26)], vm := .none },
  { cls := 22, slots := #[.int (-25)], vm := .none },
  { cls := 22, slots := #[.int (-24)], vm := .none },
  { cls := 22, slots := #[.int (-23)], vm := .none },
  { cls := 22, slots := #[.int (-22)], vm := .none },
  { cls := 22, slots := #[.int (-21)], vm := .none },
  { cls := 22, slots := #[.int (-20)], vm := .none },
  { cls := 22, slots := #[.int (-19)], vm := .none },
  { cls := 22, slots := #[.int (-18)], vm := .none },
  { cls := 22, slots := #[.int (-17)], vm := .none },
  { cls := 22, slots := #[.int (-16)], vm := .none },
  { cls := 22, slots := #[.int (-15)], vm := .none },
  { cls := 22, slots := #[.int (-14)], vm := .none },
  { cls := 22, slots := #[.int (-13)], vm := .none },
  { cls := 22, slots := #[.int (-12)], vm := .none },
  { cls := 22, slots := #[.int (-11)], vm := .none },
  { cls := 22, slots := #[.int (-10)], vm := .none },
  { cls := 22, slots := #[.int (-9)], vm := .none },
  { cls := 22, slots := #[.int (-8)], vm := .none },
  { cls := 22, slots := #[.int (-7)], vm := .none },
  { cls := 22, slots := #[.int (-6)], vm := .none },
  { cls := 22, slots := #[.int (-5)], vm := .none },
  { cls := 22, slots := #[.int (-4)], vm := .none },
  { cls := 22, slots := #[.int (-3)], vm := .none },
  { cls := 22, slots := #[.int (-2)], vm := .none },
  { cls := 22, slots := #[.int (-1)], vm := .none },
  { cls := 22, slots := #[.int 0], vm := .none },
  { cls := 22, slots := #[.int 1], vm := .none },
  { cls := 22, slots := #[.int 2], vm := .none },
  { cls := 22, slots := #[.int 3], vm := .none },
  { cls := 22, slots := #[.int 4], vm := .none },
  { cls := 22, slots := #[.int 5], vm := .none },
  { cls := 22, slots := #[.int 6], vm := .none },
  { cls := 22, slots := #[.int 7], vm := .none },
  { cls := 22, slots := #[.int 8], vm := .none },
  { cls := 22, slots := #[.int 9], vm := .none },
  { cls := 22, slots := #[.int 10], vm := .none },
  { cls := 22, slots := #[.int 11], vm := .none },
  { cls := 22, slots := #[.int 12], vm := .none },
  { cls := 22, slots := #[.int 13], vm := .none },
  { cls := 22, slots := #[.int 14], vm := .none },
  { cls := 22, slots := #[.int 15], vm := .none },
  { cls := 22, slots := #[.int 16], vm := .none },
  { cls := 22, slots := #[.int 17], vm := .none },
  { cls := 22, slots := #[.int 18], vm := .none },
  { cls := 22, slots := #[.int 19], vm := .none },
  { cls := 22, slots := #[.int 20], vm := .none },
  { cls := 22, slots := #[.int 21], vm := .none },
  { cls := 22, slots := #[.int 22], vm := .none },
  { cls := 22, slots := #[.int 23], vm := .none },
  { cls := 22, slots := #[.int 24], vm := .none },
  { cls := 22, slots := #[.int 25], vm := .none },
  { cls := 22, slots := #[.int 26], vm := .none },
  { cls := 22, slots := #[.int 27], vm := .none },
  { cls := 22, slots := #[.int 28], vm := .none },
  { cls := 22, slots := #[.int 29], vm := .none },
  { cls := 22, slots := #[.int 30], vm := .none },
  { cls := 22, slots := #[.int 31], vm := .none },
  { cls := 22, slots := #[.int 32], vm := .none },
  { cls := 22, slots := #[.int 33], vm := .none },
  { cls := 22, slots := #[.int 34], vm := .none },
  { cls := 22, slots := #[.int 35], vm := .none },
  { cls := 22, slots := #[.int 36], vm := .none },
  { cls := 22, slots := #[.int 37], vm := .none },
  { cls := 22, slots := #[.int 38], vm := .none },
  { cls := 22, slots := #[.int 39], vm := .none },
  { cls := 22, slots := #[.int 40], vm := .none },
  { cls := 22, slots := #[.int 41], vm := .none },
  { cls := 22, slots := #[.int 42], vm := .none },
  { cls := 22, slots := #[.int 43], vm := .none },
  { cls := 22, slots := #[.int 44], vm := .none },
  { cls := 22, slots := #[.int 45], vm := .none },
  { cls := 22, slots := #[.int 46], vm := .none },
  { cls := 22, slots := #[.int 47], vm := .none },
  { cls := 22, slots := #[.int 48], vm := .none },
  { cls := 22, slots := #[.int 49], vm := .none },
  { cls := 22, slots := #[.int 50], vm := .none },
  { cls := 22, slots := #[.int 51], vm := .none },
  { cls := 22, slots := #[.int 52], vm := .none },
  { cls := 22, slots := #[.int 53], vm := .none },
  { cls := 22, slots := #[.int 54], vm := .none },
  { cls := 22, slots := #[.int 55], vm := .none },
  { cls := 22, slots := #[.int 56], vm := .none },
  { cls := 22, slots := #[.int 57], vm := .none },
  { cls := 22, slots := #[.int 58], vm := .none },
  { cls := 22, slots := #[.int 59], vm := .none },
  { cls := 22, slots := #[.int 60], vm := .none },
  { cls := 22, slots := #[.int 61], vm := .none },
  { cls := 22, slots := #[.int 62], vm := .none },
  { cls := 22, slots := #[.int 63], vm := .none },
  { cls := 22, slots := #[.int 64], vm := .none },
  { cls := 22, slots := #[.int 65], vm := .none },
  { cls := 22, slots := #[.int 66], vm := .none },
  { cls := 22, slots := #[.int 67], vm := .none },
  { cls := 22, slots := #[.int 68], vm := .none },
  { cls := 22, slots := #[.int 69], vm := .none },
  { cls := 22, slots := #[.int 70], vm := .none },
  { cls := 22, slots := #[.int 71], vm := .none },
  { cls := 22, slots := #[.int 72], vm := .none },
  { cls := 22, slots := #[.int 73], vm := .none },
  { cls := 22, slots := #[.int 74], vm := .none },
  { cls := 22, slots := #[.int 75], vm := .none },
  { cls := 22, slots := #[.int 76], vm := .none },
  { cls := 22, slots := #[.int 77], vm := .none },
  { cls := 22, slots := #[.int 78], vm := .none },
  { cls := 22, slots := #[.int 79], vm := .none },
  { cls := 22, slots := #[.int 80], vm := .none },
  { cls := 22, slots := #[.int 81], vm := .none },
  { cls := 22, slots := #[.int 82], vm := .none },
  { cls := 22, slots := #[.int 83], vm := .none },
  { cls := 22, slots := #[.int 84], vm := .none },
  { cls := 22, slots := #[.int 85], vm := .none },
  { cls := 22, slots := #[.int 86], vm := .none },
  { cls := 22, slots := #[.int 87], vm := .none },
  { cls := 22, slots := #[.int 88], vm := .none },
  { cls := 22, slots := #[.int 89], vm := .none },
  { cls := 22, slots := #[.int 90], vm := .none },
  { cls := 22, slots := #[.int 91], vm := .none },
  { cls := 22, slots := #[.int 92], vm := .none },
  { cls := 22, slots := #[.int 93], vm := .none },
  { cls := 22, slots := #[.int 94], vm := .none },
  { cls := 22, slots := #[.int 95], vm := .none },
  { cls := 22, slots := #[.int 96], vm := .none },
  { cls := 22, slots := #[.int 97], vm := .none },
  { cls := 22, slots := #[.int 98], vm := .none },
  { cls := 22, slots := #[.int 99], vm := .none },
  { cls := 22, slots := #[.int 100], vm := .none },
  { cls := 22, slots := #[.int 101], vm := .none },
  { cls := 22, slots := #[.int 102], vm := .none },
  { cls := 22, slots := #[.int 103], vm := .none },
  { cls := 22, slots := #[.int 104], vm := .none },
  { cls := 22, slots := #[.int 105], vm := .none },
  { cls := 22, slots := #[.int 106], vm := .none },
  { cls := 22, slots := #[.int 107], vm := .none },
  { cls := 22, slots := #[.int 108], vm := .none },
  { cls := 22, slots := #[.int 109], vm := .none },
  { cls := 22, slots := #[.int 110], vm := .none },
  { cls := 22, slots := #[.int 111], vm := .none },
  { cls := 22, slots := #[.int 112], vm := .none },
  { cls := 22, slots := #[.int 113], vm := .none },
  { cls := 22, slots := #[.int 114], vm := .none },
  { cls := 22, slots := #[.int 115], vm := .none },
  { cls := 22, slots := #[.int 116], vm := .none },
  { cls := 22, slots := #[.int 117], vm := .none },
  { cls := 22, slots := #[.int 118], vm := .none },
  { cls := 22, slots := #[.int 119], vm := .none },
  { cls := 22, slots := #[.int 120], vm := .none },
  { cls := 22, slots := #[.int 121], vm := .none },
  { cls := 22, slots := #[.int 122], vm := .none },
  { cls := 22, slots := #[.int 123], vm := .none },
  { cls := 22, slots := #[.int 124], vm := .none },
  { cls := 22, slots := #[.int 125], vm := .none },
  { cls := 22, slots := #[.int 126], vm := .none },
  { cls := 22, slots := #[.int 127], vm := .none },
  { cls := 42, slots := #[], vm := .none },
  { cls := 42, slots := #[], vm := .none }]
def classes : Array Class := #[k0, k1, k2, k3, k4, k5, k6, k7, k8, k9, k10, k11, k12, k13, k14, k15, k16, k17, k18, k19, k20, k21, k22, k23, k24, k25, k26, k27, k28, k29, k30, k31, k32, k33, k34, k35, k36, k37, k38, k39, k40, k41, k42, k43]
def interned : List (Array UInt16 × Addr) := []
def slotsUsed : Nat := 531
def theMethod : MethodId := ⟨1, 1⟩
def args0 : Array Value := #[.int 5, .int 300, .int (-7), .int 2]
def aboutOver (below : List Frame) : State where
  vm := { classes := classes, interned := interned.toArray }
  heap := heap
  slotsUsed := slotsUsed
  threads := #[{ frames := .invoking theMethod args0 :: below }]
def below0 : List Frame := [.native { method := ⟨0, 0⟩, args := #[] }]
def about1 : State := aboutOver below0
def p0 : Program := .bare "" "" ""
def e0 : Env := launch0.env 0 0 0
theorem w_frames : about1.frames = Frame.invoking theMethod args0 :: below0 := rfl
set_option maxRecDepth 65536 in
theorem w_args : argsFit about1.vm theMethod args0 = true := by decide +kernel
set_option maxRecDepth 65536 in
theorem w_heap : heapFits about1 = true := by decide +kernel
set_option maxRecDepth 65536 in
theorem w_runnable : about1.curStatus? = some .runnable := by decide +kernel
set_option maxRecDepth 65536 in
theorem w_alone : about1.alone = true := by decide +kernel
set_option maxRecDepth 65536 in
theorem w_named : about1.methodNamed? x = some theMethod := by decide +kernel
set_option maxRecDepth 65536 in
theorem w_hears : about1.hears theMethod below0 = true := by decide +kernel
set_option maxRecDepth 65536 in
theorem w_ripe : about1.ripe theMethod args0 below0 = true := by decide +kernel
theorem w_running : about1.status = .running := rfl
set_option maxRecDepth 65536 in
theorem w_room : about1.hasRoom e0.platform room_1 = true :=
  launch0.hasRoom_least _ room_1 (by decide +kernel) (by decide +kernel) (by decide +kernel) (by decide +kernel) (by decide +kernel) (by decide +kernel)
theorem allAtoms_all (ts : List Jvm.Cond) (a : Array Jvm.Value) (st : Jvm.State) : (allAtoms ts).before a st = ts.all (fun c => c.before a st) := by
  induction ts with
  | nil => rfl
  | cons c t ih =>
    show (Jvm.Cond.and c (allAtoms t)).before a st = _
    rw [Jvm.Cond.before_and, ih, List.all_cons]
def words1 : List Jvm.Cond := Jvm.Cond.code x code maxLocals ret :: tables_1
/-- a 'code' word, met by the world's own term for the bytes: nothing is compared byte by byte -/
theorem code_word {y : MethodName} {bytes : ByteArray} {mx : Nat} {rt : Option FieldType} {a : Array Value} {s : State} {m : MethodId} {meth : Method} {c : Code} (h1 : s.methodNamed? y = some m) (h2 : s.vm.method? m = some meth) (h3 : meth.code = some c) (h4 : c.code = bytes)
    (h5 : (c.maxLocals == mx && c.exceptionTable.isEmpty && decide (c.maxStack ≤ mostOperands) && decide (meth.sig.returnType = rt) && !meth.locks && decide (parseMethodDescriptor y.desc = some meth.sig)) = true) : (Jvm.Cond.code y bytes mx rt).before a s = true := by
  simp only [Bool.and_eq_true, beq_iff_eq, Bool.not_eq_true', decide_eq_true_eq] at h5
  obtain ⟨⟨⟨⟨⟨g1, g2⟩, g3⟩, g4⟩, g5⟩, g6⟩ := h5
  simp [Cond.before, Cond.holds, Cond.value, h1, h2, h3, h4, g1, g2, g3, g4, g5, g6]
def isCode : Jvm.Cond → Bool
  | .code _ _ _ _ => true
  | _ => false
theorem all_split {L : List Jvm.Cond} {P : Jvm.Cond → Bool} (h1 : L.all (fun c => isCode c || P c) = true) (h2 : ∀ c ∈ L.filter isCode, P c = true) : L.all P = true := by
  refine List.all_eq_true.mpr fun c hc => ?_
  have h := List.all_eq_true.mp h1 c hc
  rcases Bool.eq_false_or_eq_true (isCode c) with hi | hi
  · exact h2 c (List.mem_filter.mpr ⟨hc, hi⟩)
  · simpa [hi] using h
set_option maxRecDepth 65536 in
theorem w_c0 : (Jvm.Cond.code x code maxLocals ret).before args0 about1 = true := code_word (m := ⟨1, 1⟩) (meth := k1m1) (c := k1c1) (by decide +kernel) rfl rfl rfl (by decide +kernel)
set_option maxRecDepth 65536 in
theorem w_c1 : (Jvm.Cond.code ({ cls := "java/util/ArrayList", name := "<init>", desc := "()V" } : Jvm.MethodName) jdk_38_method_2_code (1 : Nat) (Option.none : Option Jvm.ClassFile.FieldType)).before args0 about1 = true := code_word (m := ⟨11, 0⟩) (meth := k11m0) (c := k11c0) (by decide +kernel) rfl rfl rfl (by decide +kernel)
set_option maxRecDepth 65536 in
theorem w_c2 : (Jvm.Cond.code ({ cls := "java/util/AbstractList", name := "<init>", desc := "()V" } : Jvm.MethodName) jdk_39_method_1_code (1 : Nat) (Option.none : Option Jvm.ClassFile.FieldType)).before args0 about1 = true := code_word (m := ⟨7, 0⟩) (meth := k7m0) (c := k7c0) (by decide +kernel) rfl rfl rfl (by decide +kernel)
set_option maxRecDepth 65536 in
theorem w_c3 : (Jvm.Cond.code ({ cls := "java/util/AbstractCollection", name := "<init>", desc := "()V" } : Jvm.MethodName) jdk_22_method_1_code (1 : Nat) (Option.none : Option Jvm.ClassFile.FieldType)).before args0 about1 = true := code_word (m := ⟨4, 0⟩) (meth := k4m0) (c := k4c0) (by decide +kernel) rfl rfl rfl (by decide +kernel)
set_option maxRecDepth 65536 in
theorem w_c4 : (Jvm.Cond.code ({ cls := "java/lang/Object", name := "<init>", desc := "()V" } : Jvm.MethodName) object_method_1_code (1 : Nat) (Option.none : Option Jvm.ClassFile.FieldType)).before args0 about1 = true := code_word (m := ⟨0, 0⟩) (meth := k0m0) (c := k0c0) (by decide +kernel) rfl rfl rfl (by decide +kernel)
set_option maxRecDepth 65536 in
theorem w_c5 : (Jvm.Cond.code ({ cls := "java/util/HashMap", name := "<init>", desc := "()V" } : Jvm.MethodName) jdk_69_method_7_code (1 : Nat) (Option.none : Option Jvm.ClassFile.FieldType)).before args0 about1 = true := code_word (m := ⟨14, 1⟩) (meth := k14m1) (c := k14c1) (by decide +kernel) rfl rfl rfl (by decide +kernel)
set_option maxRecDepth 65536 in
theorem w_c6 : (Jvm.Cond.code ({ cls := "java/util/AbstractMap", name := "<init>", desc := "()V" } : Jvm.MethodName) jdk_71_method_1_code (1 : Nat) (Option.none : Option Jvm.ClassFile.FieldType)).before args0 about1 = true := code_word (m := ⟨13, 0⟩) (meth := k13m0) (c := k13c0) (by decide +kernel) rfl rfl rfl (by decide +kernel)
set_option maxRecDepth 65536 in
theorem w_c7 : (Jvm.Cond.code ({ cls := "java/lang/String", name := "valueOf", desc := "(C)Ljava/lang/String;" } : Jvm.MethodName) jdk_42_method_139_code (1 : Nat) (Option.some (Jvm.ClassFile.FieldType.object "java/lang/String"))).before args0 about1 = true := code_word (m := ⟨19, 2⟩) (meth := k19m2) (c := k19c2) (by decide +kernel) rfl rfl rfl (by decide +kernel)
set_option maxRecDepth 65536 in
theorem w_c8 : (Jvm.Cond.code ({ cls := "java/lang/StringLatin1", name := "canEncode", desc := "(C)Z" } : Jvm.MethodName) jdk_43_method_3_code (1 : Nat) (Option.some Jvm.ClassFile.FieldType.boolean)).before args0 about1 = true := code_word (m := ⟨20, 1⟩) (meth := k20m1) (c := k20c1) (by decide +kernel) rfl rfl rfl (by decide +kernel)
set_option maxRecDepth 65536 in
theorem w_c9 : (Jvm.Cond.code ({ cls := "java/lang/StringLatin1", name := "toBytes", desc := "(C)[B" } : Jvm.MethodName) jdk_43_method_46_code (1 : Nat) (Option.some (Jvm.ClassFile.FieldType.array Jvm.ClassFile.FieldType.byte))).before args0 about1 = true := code_word (m := ⟨20, 3⟩) (meth := k20m3) (c := k20c3) (by decide +kernel) rfl rfl rfl (by decide +kernel)
set_option maxRecDepth 65536 in
theorem w_c10 : (Jvm.Cond.code ({ cls := "java/lang/String", name := "<init>", desc := "([BB)V" } : Jvm.MethodName) jdk_42_method_151_code (3 : Nat) (Option.none : Option Jvm.ClassFile.FieldType)).before args0 about1 = true := code_word (m := ⟨19, 3⟩) (meth := k19m3) (c := k19c3) (by decide +kernel) rfl rfl rfl (by decide +kernel)
set_option maxRecDepth 65536 in
theorem w_c11 : (Jvm.Cond.code ({ cls := "java/lang/Integer", name := "valueOf", desc := "(I)Ljava/lang/Integer;" } : Jvm.MethodName) jdk_33_method_22_code (1 : Nat) (Option.some (Jvm.ClassFile.FieldType.object "java/lang/Integer"))).before args0 about1 = true := code_word (m := ⟨22, 0⟩) (meth := k22m0) (c := k22c0) (by decide +kernel) rfl rfl rfl (by decide +kernel)
set_option maxRecDepth 65536 in
theorem w_c12 : (Jvm.Cond.code ({ cls := "java/util/HashMap", name := "put", desc := "(Ljava/lang/Object;Ljava/lang/Object;)Ljava/lang/Object;" } : Jvm.MethodName) jdk_69_method_15_code (3 : Nat) (Option.some (Jvm.ClassFile.FieldType.object "java/lang/Object"))).before args0 about1 = true := code_word (m := ⟨14, 3⟩) (meth := k14m3) (c := k14c3) (by decide +kernel) rfl rfl rfl (by decide +kernel)
set_option maxRecDepth 65536 in
theorem w_c13 : (Jvm.Cond.code ({ cls := "java/util/HashMap", name := "hash", desc := "(Ljava/lang/Object;)I" } : Jvm.MethodName) jdk_69_method_1_code (2 : Nat) (Option.some Jvm.ClassFile.FieldType.int)).before args0 about1 = true := code_word (m := ⟨14, 0⟩) (meth := k14m0) (c := k14c0) (by decide +kernel) rfl rfl rfl (by decide +kernel)
set_option maxRecDepth 65536 in
theorem w_c14 : (Jvm.Cond.code ({ cls := "java/lang/String", name := "hashCode", desc := "()I" } : Jvm.MethodName) jdk_42_method_78_code (2 : Nat) (Option.some Jvm.ClassFile.FieldType.int)).before args0 about1 = true := code_word (m := ⟨19, 1⟩) (meth := k19m1) (c := k19c1) (by decide +kernel) rfl rfl rfl (by decide +kernel)
set_option maxRecDepth 65536 in
theorem w_c15 : (Jvm.Cond.code ({ cls := "java/lang/String", name := "isLatin1", desc := "()Z" } : Jvm.MethodName) jdk_42_method_154_code (1 : Nat) (Option.some Jvm.ClassFile.FieldType.boolean)).before args0 about1 = true := code_word (m := ⟨19, 4⟩) (meth := k19m4) (c := k19c4) (by decide +kernel) rfl rfl rfl (by decide +kernel)
set_option maxRecDepth 65536 in
theorem w_c16 : (Jvm.Cond.code ({ cls := "java/lang/StringLatin1", name := "hashCode", desc := "([B)I" } : Jvm.MethodName) jdk_43_method_21_code (1 : Nat) (Option.some Jvm.ClassFile.FieldType.int)).before args0 about1 = true := code_word (m := ⟨20, 2⟩) (meth := k20m2) (c := k20c2) (by decide +kernel) rfl rfl rfl (by decide +kernel)
set_option maxRecDepth 65536 in
theorem w_c17 : (Jvm.Cond.code ({ cls := "java/util/HashMap", name := "putVal", desc := "(ILjava/lang/Object;Ljava/lang/Object;ZZ)Ljava/lang/Object;" } : Jvm.MethodName) jdk_69_method_16_code (13 : Nat) (Option.some (Jvm.ClassFile.FieldType.object "java/lang/Object"))).before args0 about1 = true := code_word (m := ⟨14, 4⟩) (meth := k14m4) (c := k14c4) (by decide +kernel) rfl rfl rfl (by decide +kernel)
set_option maxRecDepth 65536 in
theorem w_c18 : (Jvm.Cond.code ({ cls := "java/util/HashMap", name := "resize", desc := "()[Ljava/util/HashMap$Node;" } : Jvm.MethodName) jdk_69_method_17_code (14 : Nat) (Option.some (Jvm.ClassFile.FieldType.array (Jvm.ClassFile.FieldType.object "java/util/HashMap$Node")))).before args0 about1 = true := code_word (m := ⟨14, 5⟩) (meth := k14m5) (c := k14c5) (by decide +kernel) rfl rfl rfl (by decide +kernel)
set_option maxRecDepth 65536 in
theorem w_c19 : (Jvm.Cond.code ({ cls := "java/util/HashMap", name := "newNode", desc := "(ILjava/lang/Object;Ljava/lang/Object;Ljava/util/HashMap$Node;)Ljava/util/HashMap$Node;" } : Jvm.MethodName) jdk_69_method_46_code (5 : Nat) (Option.some (Jvm.ClassFile.FieldType.object "java/util/HashMap$Node"))).before args0 about1 = true := code_word (m := ⟨14, 7⟩) (meth := k14m7) (c := k14c7) (by decide +kernel) rfl rfl rfl (by decide +kernel)
set_option maxRecDepth 65536 in
theorem w_c20 : (Jvm.Cond.code ({ cls := "java/util/HashMap$Node", name := "<init>", desc := "(ILjava/lang/Object;Ljava/lang/Object;Ljava/util/HashMap$Node;)V" } : Jvm.MethodName) jdk_70_method_1_code (5 : Nat) (Option.none : Option Jvm.ClassFile.FieldType)).before args0 about1 = true := code_word (m := ⟨25, 0⟩) (meth := k25m0) (c := k25c0) (by decide +kernel) rfl rfl rfl (by decide +kernel)
set_option maxRecDepth 65536 in
theorem w_c21 : (Jvm.Cond.code ({ cls := "java/util/HashMap", name := "afterNodeInsertion", desc := "(Z)V" } : Jvm.MethodName) jdk_69_method_52_code (2 : Nat) (Option.none : Option Jvm.ClassFile.FieldType)).before args0 about1 = true := code_word (m := ⟨14, 8⟩) (meth := k14m8) (c := k14c8) (by decide +kernel) rfl rfl rfl (by decide +kernel)
set_option maxRecDepth 65536 in
theorem w_c22 : (Jvm.Cond.code ({ cls := "com/example/nimble_fusion/nimblefusion/scoring/JudgedRanking", name := "<init>", desc := "(Ljava/util/List;Ljava/util/Map;I)V" } : Jvm.MethodName) prog_48_method_1_code (11 : Nat) (Option.none : Option Jvm.ClassFile.FieldType)).before args0 about1 = true := code_word (m := ⟨26, 0⟩) (meth := k26m0) (c := k26c0) (by decide +kernel) rfl rfl rfl (by decide +kernel)
set_option maxRecDepth 65536 in
theorem w_c23 : (Jvm.Cond.code ({ cls := "java/util/ArrayList", name := "size", desc := "()I" } : Jvm.MethodName) jdk_38_method_8_code (1 : Nat) (Option.some Jvm.ClassFile.FieldType.int)).before args0 about1 = true := code_word (m := ⟨11, 1⟩) (meth := k11m1) (c := k11c1) (by decide +kernel) rfl rfl rfl (by decide +kernel)
set_option maxRecDepth 65536 in
theorem w_c24 : (Jvm.Cond.code ({ cls := "java/util/HashMap", name := "values", desc := "()Ljava/util/Collection;" } : Jvm.MethodName) jdk_69_method_28_code (2 : Nat) (Option.some (Jvm.ClassFile.FieldType.object "java/util/Collection"))).before args0 about1 = true := code_word (m := ⟨14, 6⟩) (meth := k14m6) (c := k14c6) (by decide +kernel) rfl rfl rfl (by decide +kernel)
set_option maxRecDepth 65536 in
theorem w_c25 : (Jvm.Cond.code ({ cls := "java/util/HashMap$Values", name := "<init>", desc := "(Ljava/util/HashMap;)V" } : Jvm.MethodName) jdk_2571_method_1_code (2 : Nat) (Option.none : Option Jvm.ClassFile.FieldType)).before args0 about1 = true := code_word (m := ⟨27, 0⟩) (meth := k27m0) (c := k27c0) (by decide +kernel) rfl rfl rfl (by decide +kernel)
set_option maxRecDepth 65536 in
theorem w_c26 : (Jvm.Cond.code ({ cls := "java/util/HashMap$Values", name := "iterator", desc := "()Ljava/util/Iterator;" } : Jvm.MethodName) jdk_2571_method_4_code (1 : Nat) (Option.some (Jvm.ClassFile.FieldType.object "java/util/Iterator"))).before args0 about1 = true := code_word (m := ⟨27, 1⟩) (meth := k27m1) (c := k27c1) (by decide +kernel) rfl rfl rfl (by decide +kernel)
set_option maxRecDepth 65536 in
theorem w_c27 : (Jvm.Cond.code ({ cls := "java/util/HashMap$ValueIterator", name := "<init>", desc := "(Ljava/util/HashMap;)V" } : Jvm.MethodName) jdk_2569_method_1_code (2 : Nat) (Option.none : Option Jvm.ClassFile.FieldType)).before args0 about1 = true := code_word (m := ⟨30, 0⟩) (meth := k30m0) (c := k30c0) (by decide +kernel) rfl rfl rfl (by decide +kernel)
set_option maxRecDepth 65536 in
theorem w_c28 : (Jvm.Cond.code ({ cls := "java/util/HashMap$HashIterator", name := "<init>", desc := "(Ljava/util/HashMap;)V" } : Jvm.MethodName) jdk_99_method_1_code (3 : Nat) (Option.none : Option Jvm.ClassFile.FieldType)).before args0 about1 = true := code_word (m := ⟨28, 0⟩) (meth := k28m0) (c := k28c0) (by decide +kernel) rfl rfl rfl (by decide +kernel)
set_option maxRecDepth 65536 in
theorem w_c29 : (Jvm.Cond.code ({ cls := "java/util/HashMap$HashIterator", name := "hasNext", desc := "()Z" } : Jvm.MethodName) jdk_99_method_2_code (1 : Nat) (Option.some Jvm.ClassFile.FieldType.boolean)).before args0 about1 = true := code_word (m := ⟨28, 1⟩) (meth := k28m1) (c := k28c1) (by decide +kernel) rfl rfl rfl (by decide +kernel)
set_option maxRecDepth 65536 in
theorem w_c30 : (Jvm.Cond.code ({ cls := "java/util/HashMap$ValueIterator", name := "next", desc := "()Ljava/lang/Object;" } : Jvm.MethodName) jdk_2569_method_2_code (1 : Nat) (Option.some (Jvm.ClassFile.FieldType.object "java/lang/Object"))).before args0 about1 = true := code_word (m := ⟨30, 1⟩) (meth := k30m1) (c := k30c1) (by decide +kernel) rfl rfl rfl (by decide +kernel)
set_option maxRecDepth 65536 in
theorem w_c31 : (Jvm.Cond.code ({ cls := "java/util/HashMap$HashIterator", name := "nextNode", desc := "()Ljava/util/HashMap$Node;" } : Jvm.MethodName) jdk_99_method_3_code (3 : Nat) (Option.some (Jvm.ClassFile.FieldType.object "java/util/HashMap$Node"))).before args0 about1 = true := code_word (m := ⟨28, 2⟩) (meth := k28m2) (c := k28c2) (by decide +kernel) rfl rfl rfl (by decide +kernel)
set_option maxRecDepth 65536 in
theorem w_c32 : (Jvm.Cond.code ({ cls := "java/lang/Integer", name := "intValue", desc := "()I" } : Jvm.MethodName) jdk_33_method_27_code (1 : Nat) (Option.some Jvm.ClassFile.FieldType.int)).before args0 about1 = true := code_word (m := ⟨22, 2⟩) (meth := k22m2) (c := k22c2) (by decide +kernel) rfl rfl rfl (by decide +kernel)
set_option maxRecDepth 65536 in
theorem w_c33 : (Jvm.Cond.code ({ cls := "com/example/nimble_fusion/nimblefusion/scoring/JudgedRanking", name := "isRelevantGrade", desc := "(I)Z" } : Jvm.MethodName) prog_48_method_13_code (2 : Nat) (Option.some Jvm.ClassFile.FieldType.boolean)).before args0 about1 = true := code_word (m := ⟨26, 3⟩) (meth := k26m3) (c := k26c3) (by decide +kernel) rfl rfl rfl (by decide +kernel)
set_option maxRecDepth 65536 in
theorem w_c34 : (Jvm.Cond.code ({ cls := "com/example/nimble_fusion/nimblefusion/scoring/JudgedRanking", name := "isNonRelevantGrade", desc := "(I)Z" } : Jvm.MethodName) prog_48_method_14_code (2 : Nat) (Option.some Jvm.ClassFile.FieldType.boolean)).before args0 about1 = true := code_word (m := ⟨26, 4⟩) (meth := k26m4) (c := k26c4) (by decide +kernel) rfl rfl rfl (by decide +kernel)
set_option maxRecDepth 65536 in
theorem w_c35 : (Jvm.Cond.code ({ cls := "java/util/HashMap", name := "size", desc := "()I" } : Jvm.MethodName) jdk_69_method_10_code (1 : Nat) (Option.some Jvm.ClassFile.FieldType.int)).before args0 about1 = true := code_word (m := ⟨14, 2⟩) (meth := k14m2) (c := k14c2) (by decide +kernel) rfl rfl rfl (by decide +kernel)
set_option maxRecDepth 65536 in
theorem w_c36 : (Jvm.Cond.code ({ cls := "java/util/Arrays", name := "copyOf", desc := "([II)[I" } : Jvm.MethodName) jdk_65_method_123_code (3 : Nat) (Option.some (Jvm.ClassFile.FieldType.array Jvm.ClassFile.FieldType.int))).before args0 about1 = true := code_word (m := ⟨31, 2⟩) (meth := k31m2) (c := k31c2) (by decide +kernel) rfl rfl rfl (by decide +kernel)
set_option maxRecDepth 65536 in
theorem w_c37 : (Jvm.Cond.code ({ cls := "java/lang/Math", name := "min", desc := "(II)I" } : Jvm.MethodName) jdk_29_method_69_code (2 : Nat) (Option.some Jvm.ClassFile.FieldType.int)).before args0 about1 = true := code_word (m := ⟨32, 2⟩) (meth := k32m2) (c := k32c2) (by decide +kernel) rfl rfl rfl (by decide +kernel)
set_option maxRecDepth 65536 in
theorem w_c38 : (Jvm.Cond.code ({ cls := "java/util/Arrays", name := "sort", desc := "([I)V" } : Jvm.MethodName) jdk_65_method_2_code (1 : Nat) (Option.none : Option Jvm.ClassFile.FieldType)).before args0 about1 = true := code_word (m := ⟨31, 1⟩) (meth := k31m1) (c := k31c1) (by decide +kernel) rfl rfl rfl (by decide +kernel)
set_option maxRecDepth 65536 in
theorem w_c39 : (Jvm.Cond.code ({ cls := "java/util/DualPivotQuicksort", name := "sort", desc := "([IIII)V" } : Jvm.MethodName) jdk_2529_method_3_code (7 : Nat) (Option.none : Option Jvm.ClassFile.FieldType)).before args0 about1 = true := code_word (m := ⟨34, 1⟩) (meth := k34m1) (c := k34c1) (by decide +kernel) rfl rfl rfl (by decide +kernel)
set_option maxRecDepth 65536 in
theorem w_c40 : (Jvm.Cond.code ({ cls := "java/util/DualPivotQuicksort", name := "sort", desc := "(Ljava/util/DualPivotQuicksort$Sorter;[IIII)V" } : Jvm.MethodName) jdk_2529_method_4_code (21 : Nat) (Option.none : Option Jvm.ClassFile.FieldType)).before args0 about1 = true := code_word (m := ⟨34, 2⟩) (meth := k34m2) (c := k34c2) (by decide +kernel) rfl rfl rfl (by decide +kernel)
set_option maxRecDepth 65536 in
theorem w_c41 : (Jvm.Cond.code ({ cls := "java/util/DualPivotQuicksort", name := "insertionSort", desc := "([III)V" } : Jvm.MethodName) jdk_2529_method_6_code (6 : Nat) (Option.none : Option Jvm.ClassFile.FieldType)).before args0 about1 = true := code_word (m := ⟨34, 3⟩) (meth := k34m3) (c := k34c3) (by decide +kernel) rfl rfl rfl (by decide +kernel)
set_option maxRecDepth 65536 in
theorem w_c42 : (Jvm.Cond.code ({ cls := "java/lang/Math", name := "max", desc := "(II)I" } : Jvm.MethodName) jdk_29_method_65_code (2 : Nat) (Option.some Jvm.ClassFile.FieldType.int)).before args0 about1 = true := code_word (m := ⟨32, 1⟩) (meth := k32m1) (c := k32c1) (by decide +kernel) rfl rfl rfl (by decide +kernel)
set_option maxRecDepth 65536 in
theorem w_c43 : (Jvm.Cond.code ({ cls := "com/example/nimble_fusion/nimblefusion/scoring/JudgedRanking", name := "positivelyGraded", desc := "()I" } : Jvm.MethodName) prog_48_method_11_code (1 : Nat) (Option.some Jvm.ClassFile.FieldType.int)).before args0 about1 = true := code_word (m := ⟨26, 1⟩) (meth := k26m1) (c := k26c1) (by decide +kernel) rfl rfl rfl (by decide +kernel)
set_option maxRecDepth 65536 in
theorem w_c44 : (Jvm.Cond.code ({ cls := "com/example/nimble_fusion/nimblefusion/scoring/JudgedRanking", name := "idealGrade", desc := "(I)I" } : Jvm.MethodName) prog_48_method_12_code (2 : Nat) (Option.some Jvm.ClassFile.FieldType.int)).before args0 about1 = true := code_word (m := ⟨26, 2⟩) (meth := k26m2) (c := k26c2) (by decide +kernel) rfl rfl rfl (by decide +kernel)
set_option maxRecDepth 65536 in
theorem w_c45 : (Jvm.Cond.code ({ cls := "java/lang/Integer", name := "<init>", desc := "(I)V" } : Jvm.MethodName) jdk_33_method_23_code (2 : Nat) (Option.none : Option Jvm.ClassFile.FieldType)).before args0 about1 = true := code_word (m := ⟨22, 1⟩) (meth := k22m1) (c := k22c1) (by decide +kernel) rfl rfl rfl (by decide +kernel)
set_option maxRecDepth 65536 in
theorem w_c46 : (Jvm.Cond.code ({ cls := "java/lang/Number", name := "<init>", desc := "()V" } : Jvm.MethodName) jdk_18_method_1_code (1 : Nat) (Option.none : Option Jvm.ClassFile.FieldType)).before args0 about1 = true := code_word (m := ⟨21, 0⟩) (meth := k21m0) (c := k21c0) (by decide +kernel) rfl rfl rfl (by decide +kernel)
def codes1 : List Jvm.Cond := [Jvm.Cond.code x code maxLocals ret, Jvm.Cond.code ({ cls := "java/util/ArrayList", name := "<init>", desc := "()V" } : Jvm.MethodName) jdk_38_method_2_code (1 : Nat) (Option.none : Option Jvm.ClassFile.FieldType), Jvm.Cond.code ({ cls := "java/util/AbstractList", name := "<init>", desc := "()V" } : Jvm.MethodName) jdk_39_method_1_code (1 : Nat) (Option.none : Option Jvm.ClassFile.FieldType), Jvm.Cond.code ({ cls := "java/util/AbstractCollection", name := "<init>", desc := "()V" } : Jvm.MethodName) jdk_22_method_1_code (1 : Nat) (Option.none : Option Jvm.ClassFile.FieldType), Jvm.Cond.code ({ cls := "java/lang/Object", name := "<init>", desc := "()V" } : Jvm.MethodName) object_method_1_code (1 : Nat) (Option.none : Option Jvm.ClassFile.FieldType), Jvm.Cond.code ({ cls := "java/util/HashMap", name := "<init>", desc := "()V" } : Jvm.MethodName) jdk_69_method_7_code (1 : Nat) (Option.none : Option Jvm.ClassFile.FieldType), Jvm.Cond.code ({ cls := "java/util/AbstractMap", name := "<init>", desc := "()V" } : Jvm.MethodName) jdk_71_method_1_code (1 : Nat) (Option.none : Option Jvm.ClassFile.FieldType), Jvm.Cond.code ({ cls := "java/lang/String", name := "valueOf", desc := "(C)Ljava/lang/String;" } : Jvm.MethodName) jdk_42_method_139_code (1 : Nat) (Option.some (Jvm.ClassFile.FieldType.object "java/lang/String")), Jvm.Cond.code ({ cls := "java/lang/StringLatin1", name := "canEncode", desc := "(C)Z" } : Jvm.MethodName) jdk_43_method_3_code (1 : Nat) (Option.some Jvm.ClassFile.FieldType.boolean), Jvm.Cond.code ({ cls := "java/lang/StringLatin1", name := "toBytes", desc := "(C)[B" } : Jvm.MethodName) jdk_43_method_46_code (1 : Nat) (Option.some (Jvm.ClassFile.FieldType.array Jvm.ClassFile.FieldType.byte)), Jvm.Cond.code ({ cls := "java/lang/String", name := "<init>", desc := "([BB)V" } : Jvm.MethodName) jdk_42_method_151_code (3 : Nat) (Option.none : Option Jvm.ClassFile.FieldType), Jvm.Cond.code ({ cls := "java/lang/Integer", name := "valueOf", desc := "(I)Ljava/lang/Integer;" } : Jvm.MethodName) jdk_33_method_22_code (1 : Nat) (Option.some (Jvm.ClassFile.FieldType.object "java/lang/Integer")), Jvm.Cond.code ({ cls := "java/util/HashMap", name := "put", desc := "(Ljava/lang/Object;Ljava/lang/Object;)Ljava/lang/Object;" } : Jvm.MethodName) jdk_69_method_15_code (3 : Nat) (Option.some (Jvm.ClassFile.FieldType.object "java/lang/Object")), Jvm.Cond.code ({ cls := "java/util/HashMap", name := "hash", desc := "(Ljava/lang/Object;)I" } : Jvm.MethodName) jdk_69_method_1_code (2 : Nat) (Option.some Jvm.ClassFile.FieldType.int), Jvm.Cond.code ({ cls := "java/lang/String", name := "hashCode", desc := "()I" } : Jvm.MethodName) jdk_42_method_78_code (2 : Nat) (Option.some Jvm.ClassFile.FieldType.int), Jvm.Cond.code ({ cls := "java/lang/String", name := "isLatin1", desc := "()Z" } : Jvm.MethodName) jdk_42_method_154_code (1 : Nat) (Option.some Jvm.ClassFile.FieldType.boolean), Jvm.Cond.code ({ cls := "java/lang/StringLatin1", name := "hashCode", desc := "([B)I" } : Jvm.MethodName) jdk_43_method_21_code (1 : Nat) (Option.some Jvm.ClassFile.FieldType.int), Jvm.Cond.code ({ cls := "java/util/HashMap", name := "putVal", desc := "(ILjava/lang/Object;Ljava/lang/Object;ZZ)Ljava/lang/Object;" } : Jvm.MethodName) jdk_69_method_16_code (13 : Nat) (Option.some (Jvm.ClassFile.FieldType.object "java/lang/Object")), Jvm.Cond.code ({ cls := "java/util/HashMap", name := "resize", desc := "()[Ljava/util/HashMap$Node;" } : Jvm.MethodName) jdk_69_method_17_code (14 : Nat) (Option.some (Jvm.ClassFile.FieldType.array (Jvm.ClassFile.FieldType.object "java/util/HashMap$Node"))), Jvm.Cond.code ({ cls := "java/util/HashMap", name := "newNode", desc := "(ILjava/lang/Object;Ljava/lang/Object;Ljava/util/HashMap$Node;)Ljava/util/HashMap$Node;" } : Jvm.MethodName) jdk_69_method_46_code (5 : Nat) (Option.some (Jvm.ClassFile.FieldType.object "java/util/HashMap$Node")), Jvm.Cond.code ({ cls := "java/util/HashMap$Node", name := "<init>", desc := "(ILjava/lang/Object;Ljava/lang/Object;Ljava/util/HashMap$Node;)V" } : Jvm.MethodName) jdk_70_method_1_code (5 : Nat) (Option.none : Option Jvm.ClassFile.FieldType), Jvm.Cond.code ({ cls := "java/util/HashMap", name := "afterNodeInsertion", desc := "(Z)V" } : Jvm.MethodName) jdk_69_method_52_code (2 : Nat) (Option.none : Option Jvm.ClassFile.FieldType), Jvm.Cond.code ({ cls := "com/example/nimble_fusion/nimblefusion/scoring/JudgedRanking", name := "<init>", desc := "(Ljava/util/List;Ljava/util/Map;I)V" } : Jvm.MethodName) prog_48_method_1_code (11 : Nat) (Option.none : Option Jvm.ClassFile.FieldType), Jvm.Cond.code ({ cls := "java/util/ArrayList", name := "size", desc := "()I" } : Jvm.MethodName) jdk_38_method_8_code (1 : Nat) (Option.some Jvm.ClassFile.FieldType.int), Jvm.Cond.code ({ cls := "java/util/HashMap", name := "values", desc := "()Ljava/util/Collection;" } : Jvm.MethodName) jdk_69_method_28_code (2 : Nat) (Option.some (Jvm.ClassFile.FieldType.object "java/util/Collection")), Jvm.Cond.code ({ cls := "java/util/HashMap$Values", name := "<init>", desc := "(Ljava/util/HashMap;)V" } : Jvm.MethodName) jdk_2571_method_1_code (2 : Nat) (Option.none : Option Jvm.ClassFile.FieldType), Jvm.Cond.code ({ cls := "java/util/HashMap$Values", name := "iterator", desc := "()Ljava/util/Iterator;" } : Jvm.MethodName) jdk_2571_method_4_code (1 : Nat) (Option.some (Jvm.ClassFile.FieldType.object "java/util/Iterator")), Jvm.Cond.code ({ cls := "java/util/HashMap$ValueIterator", name := "<init>", desc := "(Ljava/util/HashMap;)V" } : Jvm.MethodName) jdk_2569_method_1_code (2 : Nat) (Option.none : Option Jvm.ClassFile.FieldType), Jvm.Cond.code ({ cls := "java/util/HashMap$HashIterator", name := "<init>", desc := "(Ljava/util/HashMap;)V" } : Jvm.MethodName) jdk_99_method_1_code (3 : Nat) (Option.none : Option Jvm.ClassFile.FieldType), Jvm.Cond.code ({ cls := "java/util/HashMap$HashIterator", name := "hasNext", desc := "()Z" } : Jvm.MethodName) jdk_99_method_2_code (1 : Nat) (Option.some Jvm.ClassFile.FieldType.boolean), Jvm.Cond.code ({ cls := "java/util/HashMap$ValueIterator", name := "next", desc := "()Ljava/lang/Object;" } : Jvm.MethodName) jdk_2569_method_2_code (1 : Nat) (Option.some (Jvm.ClassFile.FieldType.object "java/lang/Object")), Jvm.Cond.code ({ cls := "java/util/HashMap$HashIterator", name := "nextNode", desc := "()Ljava/util/HashMap$Node;" } : Jvm.MethodName) jdk_99_method_3_code (3 : Nat) (Option.some (Jvm.ClassFile.FieldType.object "java/util/HashMap$Node")), Jvm.Cond.code ({ cls := "java/lang/Integer", name := "intValue", desc := "()I" } : Jvm.MethodName) jdk_33_method_27_code (1 : Nat) (Option.some Jvm.ClassFile.FieldType.int), Jvm.Cond.code ({ cls := "com/example/nimble_fusion/nimblefusion/scoring/JudgedRanking", name := "isRelevantGrade", desc := "(I)Z" } : Jvm.MethodName) prog_48_method_13_code (2 : Nat) (Option.some Jvm.ClassFile.FieldType.boolean), Jvm.Cond.code ({ cls := "com/example/nimble_fusion/nimblefusion/scoring/JudgedRanking", name := "isNonRelevantGrade", desc := "(I)Z" } : Jvm.MethodName) prog_48_method_14_code (2 : Nat) (Option.some Jvm.ClassFile.FieldType.boolean), Jvm.Cond.code ({ cls := "java/util/HashMap", name := "size", desc := "()I" } : Jvm.MethodName) jdk_69_method_10_code (1 : Nat) (Option.some Jvm.ClassFile.FieldType.int), Jvm.Cond.code ({ cls := "java/util/Arrays", name := "copyOf", desc := "([II)[I" } : Jvm.MethodName) jdk_65_method_123_code (3 : Nat) (Option.some (Jvm.ClassFile.FieldType.array Jvm.ClassFile.FieldType.int)), Jvm.Cond.code ({ cls := "java/lang/Math", name := "min", desc := "(II)I" } : Jvm.MethodName) jdk_29_method_69_code (2 : Nat) (Option.some Jvm.ClassFile.FieldType.int), Jvm.Cond.code ({ cls := "java/util/Arrays", name := "sort", desc := "([I)V" } : Jvm.MethodName) jdk_65_method_2_code (1 : Nat) (Option.none : Option Jvm.ClassFile.FieldType), Jvm.Cond.code ({ cls := "java/util/DualPivotQuicksort", name := "sort", desc := "([IIII)V" } : Jvm.MethodName) jdk_2529_method_3_code (7 : Nat) (Option.none : Option Jvm.ClassFile.FieldType), Jvm.Cond.code ({ cls := "java/util/DualPivotQuicksort", name := "sort", desc := "(Ljava/util/DualPivotQuicksort$Sorter;[IIII)V" } : Jvm.MethodName) jdk_2529_method_4_code (21 : Nat) (Option.none : Option Jvm.ClassFile.FieldType), Jvm.Cond.code ({ cls := "java/util/DualPivotQuicksort", name := "insertionSort", desc := "([III)V" } : Jvm.MethodName) jdk_2529_method_6_code (6 : Nat) (Option.none : Option Jvm.ClassFile.FieldType), Jvm.Cond.code ({ cls := "java/lang/Math", name := "max", desc := "(II)I" } : Jvm.MethodName) jdk_29_method_65_code (2 : Nat) (Option.some Jvm.ClassFile.FieldType.int), Jvm.Cond.code ({ cls := "com/example/nimble_fusion/nimblefusion/scoring/JudgedRanking", name := "positivelyGraded", desc := "()I" } : Jvm.MethodName) prog_48_method_11_code (1 : Nat) (Option.some Jvm.ClassFile.FieldType.int), Jvm.Cond.code ({ cls := "com/example/nimble_fusion/nimblefusion/scoring/JudgedRanking", name := "idealGrade", desc := "(I)I" } : Jvm.MethodName) prog_48_method_12_code (2 : Nat) (Option.some Jvm.ClassFile.FieldType.int), Jvm.Cond.code ({ cls := "java/lang/Integer", name := "<init>", desc := "(I)V" } : Jvm.MethodName) jdk_33_method_23_code (2 : Nat) (Option.none : Option Jvm.ClassFile.FieldType), Jvm.Cond.code ({ cls := "java/lang/Number", name := "<init>", desc := "()V" } : Jvm.MethodName) jdk_18_method_1_code (1 : Nat) (Option.none : Option Jvm.ClassFile.FieldType)]
set_option maxRecDepth 65536 in
theorem codes_eq : words1.filter isCode = codes1 := rfl
theorem w_codes : ∀ c ∈ words1.filter isCode, c.before args0 about1 = true := by
  rw [codes_eq]
  intro c hc
  simp only [codes1, List.mem_cons, List.not_mem_nil, or_false] at hc
  rcases hc with rfl | rfl | rfl | rfl | rfl | rfl | rfl | rfl | rfl | rfl | rfl | rfl | rfl | rfl | rfl | rfl | rfl | rfl | rfl | rfl | rfl | rfl | rfl | rfl | rfl | rfl | rfl | rfl | rfl | rfl | rfl | rfl | rfl | rfl | rfl | rfl | rfl | rfl | rfl | rfl | rfl | rfl | rfl | rfl | rfl | rfl | rfl
  · exact w_c0
  · exact w_c1
  · exact w_c2
  · exact w_c3
  · exact w_c4
  · exact w_c5
  · exact w_c6
  · exact w_c7
  · exact w_c8
  · exact w_c9
  · exact w_c10
  · exact w_c11
  · exact w_c12
  · exact w_c13
  · exact w_c14
  · exact w_c15
  · exact w_c16
  · exact w_c17
  · exact w_c18
  · exact w_c19
  · exact w_c20
  · exact w_c21
  · exact w_c22
  · exact w_c23
  · exact w_c24
  · exact w_c25
  · exact w_c26
  · exact w_c27
  · exact w_c28
  · exact w_c29
  · exact w_c30
  · exact w_c31
  · exact w_c32
  · exact w_c33
  · exact w_c34
  · exact w_c35
  · exact w_c36
  · exact w_c37
  · exact w_c38
  · exact w_c39
  · exact w_c40
  · exact w_c41
  · exact w_c42
  · exact w_c43
  · exact w_c44
  · exact w_c45
  · exact w_c46
set_option maxRecDepth 65536 in
theorem w_t1 : (words1.take 24).all (fun c => isCode c || c.before args0 about1) = true := by decide +kernel
set_option maxRecDepth 65536 in
theorem w_t2 : ((words1.drop 24).take 24).all (fun c => isCode c || c.before args0 about1) = true := by decide +kernel
set_option maxRecDepth 65536 in
theorem w_t3 : (((words1.drop 24).drop 24).take 24).all (fun c => isCode c || c.before args0 about1) = true := by decide +kernel
set_option maxRecDepth 65536 in
theorem w_t4 : ((((words1.drop 24).drop 24).drop 24).take 24).all (fun c => isCode c || c.before args0 about1) = true := by decide +kernel
set_option maxRecDepth 65536 in
theorem w_t5 : (((((words1.drop 24).drop 24).drop 24).drop 24).take 24).all (fun c => isCode c || c.before args0 about1) = true := by decide +kernel
set_option maxRecDepth 65536 in
theorem w_t6 : ((((((words1.drop 24).drop 24).drop 24).drop 24).drop 24).take 24).all (fun c => isCode c || c.before args0 about1) = true := by decide +kernel
set_option maxRecDepth 65536 in
theorem w_t7 : (((((((words1.drop 24).drop 24).drop 24).drop 24).drop 24).drop 24).take 24).all (fun c => isCode c || c.before args0 about1) = true := by decide +kernel
set_option maxRecDepth 65536 in
theorem w_t8 : ((((((((words1.drop 24).drop 24).drop 24).drop 24).drop 24).drop 24).drop 24).take 24).all (fun c => isCode c || c.before args0 about1) = true := by decide +kernel
set_option maxRecDepth 65536 in
theorem w_t9 : (((((((((words1.drop 24).drop 24).drop 24).drop 24).drop 24).drop 24).drop 24).drop 24).take 24).all (fun c => isCode c || c.before args0 about1) = true := by decide +kernel
set_option maxRecDepth 65536 in
theorem w_t10 : ((((((((((words1.drop 24).drop 24).drop 24).drop 24).drop 24).drop 24).drop 24).drop 24).drop 24).take 24).all (fun c => isCode c || c.before args0 about1) = true := by decide +kernel
set_option maxRecDepth 65536 in
theorem w_t11 : (((((((((((words1.drop 24).drop 24).drop 24).drop 24).drop 24).drop 24).drop 24).drop 24).drop 24).drop 24).take 24).all (fun c => isCode c || c.before args0 about1) = true := by decide +kernel
set_option maxRecDepth 65536 in
theorem w_t12 : ((((((((((((words1.drop 24).drop 24).drop 24).drop 24).drop 24).drop 24).drop 24).drop 24).drop 24).drop 24).drop 24).take 24).all (fun c => isCode c || c.before args0 about1) = true := by decide +kernel
set_option maxRecDepth 65536 in
theorem w_t13 : (((((((((((((words1.drop 24).drop 24).drop 24).drop 24).drop 24).drop 24).drop 24).drop 24).drop 24).drop 24).drop 24).drop 24).take 24).all (fun c => isCode c || c.before args0 about1) = true := by decide +kernel
set_option maxRecDepth 65536 in
theorem w_t14 : ((((((((((((((words1.drop 24).drop 24).drop 24).drop 24).drop 24).drop 24).drop 24).drop 24).drop 24).drop 24).drop 24).drop 24).drop 24).take 24).all (fun c => isCode c || c.before args0 about1) = true := by decide +kernel
set_option maxRecDepth 65536 in
theorem w_t15 : ((((((((((((((words1.drop 24).drop 24).drop 24).drop 24).drop 24).drop 24).drop 24).drop 24).drop 24).drop 24).drop 24).drop 24).drop 24).drop 24).all (fun c => isCode c || c.before args0 about1) = true := by decide +kernel
theorem w_tables : (allAtoms (Jvm.Cond.code x code maxLocals ret :: tables_1)).before args0 about1 = true := by
  rw [allAtoms_all]
  show words1.all (fun c => c.before args0 about1) = true
  refine all_split ?_ w_codes
  rw [← List.take_append_drop 24 words1, List.all_append, w_t1, ← List.take_append_drop 24 (words1.drop 24), List.all_append, w_t2, ← List.take_append_drop 24 ((words1.drop 24).drop 24), List.all_append, w_t3, ← List.take_append_drop 24 (((words1.drop 24).drop 24).drop 24), List.all_append, w_t4, ← List.take_append_drop 24 ((((words1.drop 24).drop 24).drop 24).drop 24), List.all_append, w_t5, ← List.take_append_drop 24 (((((words1.drop 24).drop 24).drop 24).drop 24).drop 24), List.all_append, w_t6, ← List.take_append_drop 24 ((((((words1.drop 24).drop 24).drop 24).drop 24).drop 24).drop 24), List.all_append, w_t7, ← List.take_append_drop 24 (((((((words1.drop 24).drop 24).drop 24).drop 24).drop 24).drop 24).drop 24), List.all_append, w_t8, ← List.take_append_drop 24 ((((((((words1.drop 24).drop 24).drop 24).drop 24).drop 24).drop 24).drop 24).drop 24), List.all_append, w_t9, ← List.take_append_drop 24 (((((((((words1.drop 24).drop 24).drop 24).drop 24).drop 24).drop 24).drop 24).drop 24).drop 24), List.all_append, w_t10, ← List.take_append_drop 24 ((((((((((words1.drop 24).drop 24).drop 24).drop 24).drop 24).drop 24).drop 24).drop 24).drop 24).drop 24), List.all_append, w_t11, ← List.take_append_drop 24 (((((((((((words1.drop 24).drop 24).drop 24).drop 24).drop 24).drop 24).drop 24).drop 24).drop 24).drop 24).drop 24), List.all_append, w_t12, ← List.take_append_drop 24 ((((((((((((words1.drop 24).drop 24).drop 24).drop 24).drop 24).drop 24).drop 24).drop 24).drop 24).drop 24).drop 24).drop 24), List.all_append, w_t13, ← List.take_append_drop 24 (((((((((((((words1.drop 24).drop 24).drop 24).drop 24).drop 24).drop 24).drop 24).drop 24).drop 24).drop 24).drop 24).drop 24).drop 24), List.all_append, w_t14, w_t15]
  rfl
set_option maxRecDepth 65536 in
theorem w_rest : rest_1_c.before args0 about1 = true := by decide +kernel
set_option maxRecDepth 65536 in
theorem w_case : (Jvm.Cond.and given_1 narrow_1).before args0 about1 = true := by decide +kernel
theorem w_applies : (headSpec (Jvm.Cond.code x code maxLocals ret :: tables_1) room_1).applies x e0.platform about1 = true :=
  (Spec.applies_iff w_frames).mpr ⟨w_running, w_runnable, w_alone, w_named, w_hears, w_ripe, w_room, w_tables⟩
theorem atStart : AtStart classFile x code maxLocals ret World_1 tables_1 room_1 Calls_1 rest_1 Pre_1 launch0 p0 e0 about1 theMethod args0 below0 :=
  ⟨lists_1, trivial, launch0.admits_env _ _ _, launch0.least_env, fairChoices_fair.cas, fairChoices_fair.clock, w_frames, w_args, w_heap, w_applies, trivial, w_rest, w_case⟩
end start1
theorem witness_1 : WitnessClaimed_1 := ⟨start1.p0, start1.e0, start1.about1, start1.theMethod, start1.args0, start1.below0, start1.atStart⟩
end Jvm.Pilot.@@N@@
