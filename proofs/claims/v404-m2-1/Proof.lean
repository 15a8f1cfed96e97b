import JvmDerived
import JvmDerived.Pilot.@@N@@Statement
import JvmDerived.Pilot.@@N@@Code
set_option linter.unusedVariables false
set_option linter.unusedSimpArgs false
@@BLOCK:NumsL.lean.txt@@
namespace Jvm.Pilot.@@N@@
open Jvm Jvm.ClassFile Sem Op Lib Jvm.Free Jvm.Stand Jvm.LawKit Jvm.RoadKit Bundle Jvm.Pilot.@@N@@.Jvm.D
section Own
variable {p : Program} {l : Launch} {e : Env} {R : Room} {s : State} {m : MethodId} {args : Array Value} {below : List Frame} {meth : Method} {c : Code} {Z : State} {a0 : Array Value} {Q : Option Value → Heap → List Loc → Prop} {Fn : Outcome → State → Prop} {kk nn : Nat} {h h0 : Heap} {locs : List Loc} {cells slots cells' slots' n0 pc pc' : Nat} {Ls Ls' : Array Slot} {st st' rest : List Value} {own nm : String} {bytes : ByteArray} {mx : Nat} {rt : Option FieldType}
/-- the walk stands at pc with these locals and this stack over the heap h: from there the body comes to its end as Q says -/
def own_St (p : Program) (l : Launch) (e : Env) (R : Room) (s : State) (m : MethodId) (args : Array Value) (below : List Frame) (meth : Method) (c : Code) (Fn : Outcome → State → Prop) (h : Heap) (locs : List Loc) (cells slots : Nat) (pc : Nat) (Ls : Array Slot) (st : List Value) : Prop :=
  ∀ T, Stand p l e R s m args below meth c T locs cells slots → T.heap = h →
    ∃ s₂ o, Steps p.tables e below (T.setTop (mkF m pc Ls st)) s₂ ∧ s₂.status = .running ∧ Ended s₂ below o ∧ Fn o s₂
/-- the end of a body that interned nothing -/
def own_F (s : State) (Q : Option Value → Heap → List Loc → Prop) (kk nn : Nat) (o : Outcome) (s₂ : State) : Prop := ∃ v L, o = .returned v ∧ Q v s₂.heap L ∧ FrameEnd s o s₂ L kk nn
/-- what is fixed while a body is walked -/
def own_Cx (p : Program) (s : State) (m : MethodId) (meth : Method) (c : Code) (Z : State) (own : String) (bytes : ByteArray) (mx : Nat) (rt : Option FieldType) (nm : String) : Prop :=
  p.tables.exec = Jvm.exec ∧ c.code = bytes ∧ c.maxLocals = mx ∧ s.vm.findClass own = some m.cls ∧ meth.sig.returnType = rt ∧ meth.locks = false ∧ Z.Warmed39 s.vm ∧ meth.name = nm
/-- the contract of a body -/
def own_Met (l : Launch) (Z : State) (y : MethodName) (bytes : ByteArray) (mx : Nat) (rt : Option FieldType) (ws : List Jvm.Cond) (rm : Room) (kk nn : Nat) (as' : Array Value) (h : Heap) (Q : Option Value → Heap → List Loc → Prop) : Prop :=
  MetFree l y (head1 (Jvm.Cond.code y bytes mx rt :: ws) rm) (fun a U => a = as' ∧ Z.Warmed39 U.vm ∧ U.heap = h) (fun _ _ _ _ _ => True) (fun _ U o U' => ∃ v L, o = .returned v ∧ Q v U'.heap L ∧ FrameEnd U o U' L kk nn)
/-- what a body returns (w), that it wrote nothing old, what its heap says (D) -/
def own_Q (w : Option Value) (n0 : Nat) (D : Heap → Prop) : Option Value → Heap → List Loc → Prop := fun v h L => v = w ∧ Fr n0 L ∧ D h
theorem own_mv {h' : Heap} {locs' : List Loc} (G : own_St p l e R s m args below meth c Fn h' locs' cells' slots' pc' Ls' st')
    (step : ∀ T, Stand p l e R s m args below meth c T locs cells slots → T.heap = h → ∃ T', Stand p l e R s m args below meth c T' locs' cells' slots' ∧ T'.heap = h' ∧ ∀ t, Steps p.tables e below (T'.setTop (mkF m pc' Ls' st')) t → Steps p.tables e below (T.setTop (mkF m pc Ls st)) t) :
    own_St p l e R s m args below meth c Fn h locs cells slots pc Ls st := by
  intro T X eT
  obtain ⟨T', X', e', k⟩ := step T X eT
  obtain ⟨s₂, o, h1, r⟩ := G T' X' e'
  exact ⟨s₂, o, k _ h1, r⟩
theorem own_pl (G : own_St p l e R s m args below meth c Fn h locs cells slots pc' Ls' st')
    (step : ∀ T, At T m c below → ∀ t, Steps p.tables e below (T.setTop (mkF m pc' Ls' st')) t → Steps p.tables e below (T.setTop (mkF m pc Ls st)) t) :
    own_St p l e R s m args below meth c Fn h locs cells slots pc Ls st := own_mv G fun T X eT => ⟨T, X, eT, step T X.here⟩
theorem own_enter {y : MethodName} {ws : List Jvm.Cond} {rm : Room} {as' : Array Value} (hy : plainName y.cls = true) (hef : ∀ m, entryFrame m as' mx = mkF m 0 Ls [])
    (body : ∀ p e s m below meth c, own_Cx p s m meth c Z y.cls bytes mx rt y.name → own_St p l e rm s m as' below meth c (own_F s Q kk nn) h [] 0 0 0 Ls []) : own_Met l Z y bytes mx rt ws rm kk nn as' h Q := by
  refine MetFree.of_bodySF (plainFor_of_name hy) hisR ?_
  intro p e s m args below meth c s₁ Bd hml0 hP hK
  obtain ⟨rfl, hZ, hh⟩ := hP
  have X0 : Stand p l e rm s m args below meth c s₁ [] 0 0 := Stand.of_body Bd
  have e0 : s₁.heap = h := by rw [← hh, Bd.state]; rfl
  obtain ⟨s₂, o, h1, h2⟩ := body p e s m below meth c ⟨Bd.exec, Bd.bytes, hml0, findClass_of_methodNamed Bd.named, Bd.returns, BodyLoose.notSynchronized Bd, hZ, (name_of_methodNamed Bd.named Bd.method).1⟩ s₁ X0 e0
  exact ⟨s₂, o, castTop (hef m) h1, h2⟩
/-! single steps -/
theorem own_iloadN (C : own_Cx p s m meth c Z own bytes mx rt nm) {k : Fin 4} {v : Int32} (hd : decode bytes pc = .ok (.iload_n k, 1)) (hl : Ls[k.val]? = some (.val (.int v))) (hp : pc + 1 = pc') (G : own_St p l e R s m args below meth c Fn h locs cells slots pc' Ls (.int v :: st)) : own_St p l e R s m args below meth c Fn h locs cells slots pc Ls st := by
  subst hp; exact own_pl G fun T H t k => XS.iloadN H C.1 rfl (hb C.2.1 hd) hl k
theorem own_aloadN (C : own_Cx p s m meth c Z own bytes mx rt nm) {k : Fin 4} {v : Value} (hd : decode bytes pc = .ok (.aload_n k, 1)) (hl : Ls[k.val]? = some (.val v)) (hv : v.isRef = true) (hp : pc + 1 = pc') (G : own_St p l e R s m args below meth c Fn h locs cells slots pc' Ls (v :: st)) : own_St p l e R s m args below meth c Fn h locs cells slots pc Ls st := by
  subst hp; exact own_pl G fun T H t k => XS.aloadN H C.1 rfl (hb C.2.1 hd) hl hv k
theorem own_aload (C : own_Cx p s m meth c Z own bytes mx rt nm) {k : Nat} {v : Value} (hd : decode bytes pc = .ok (.aload k, 2)) (hl : Ls[k]? = some (.val v)) (hv : v.isRef = true) (hp : pc + 2 = pc') (G : own_St p l e R s m args below meth c Fn h locs cells slots pc' Ls (v :: st)) : own_St p l e R s m args below meth c Fn h locs cells slots pc Ls st := by
  subst hp; exact own_pl G fun T H t k => XS.aload H C.1 rfl (hb C.2.1 hd) hl hv k
theorem own_lload (C : own_Cx p s m meth c Z own bytes mx rt nm) {k : Nat} {v : Int64} (hd : decode bytes pc = .ok (.lload k, 2)) (hl : Ls[k]? = some (.val (.long v))) (hp : pc + 2 = pc') (G : own_St p l e R s m args below meth c Fn h locs cells slots pc' Ls (.long v :: st)) : own_St p l e R s m args below meth c Fn h locs cells slots pc Ls st := by
  subst hp; exact own_pl G fun T H t k => XT.lload H C.1 rfl (hb C.2.1 hd) hl k
theorem own_istoreN (C : own_Cx p s m meth c Z own bytes mx rt nm) {k : Fin 4} {x : Int32} (hd : decode bytes pc = .ok (.istore_n k, 1)) (hl : storeLocals Ls k.val (.int x) = some Ls') (hp : pc + 1 = pc') (G : own_St p l e R s m args below meth c Fn h locs cells slots pc' Ls' st) : own_St p l e R s m args below meth c Fn h locs cells slots pc Ls (.int x :: st) := by
  subst hp; exact own_pl G fun T H t k => XS.istoreN H C.1 rfl (hb C.2.1 hd) rfl hl k
theorem own_astore (C : own_Cx p s m meth c Z own bytes mx rt nm) {k : Nat} {x : Value} (hd : decode bytes pc = .ok (.astore k, 2)) (hv : x.isRef = true) (hl : storeLocals Ls k x = some Ls') (hp : pc + 2 = pc') (G : own_St p l e R s m args below meth c Fn h locs cells slots pc' Ls' st) : own_St p l e R s m args below meth c Fn h locs cells slots pc Ls (x :: st) := by
  subst hp; exact own_pl G fun T H t k => XS.astore H C.1 rfl (hb C.2.1 hd) rfl hv hl k
theorem own_lstore (C : own_Cx p s m meth c Z own bytes mx rt nm) {k : Nat} {x : Int64} (hd : decode bytes pc = .ok (.lstore k, 2)) (hl : storeLocals Ls k (.long x) = some Ls') (hp : pc + 2 = pc') (G : own_St p l e R s m args below meth c Fn h locs cells slots pc' Ls' st) : own_St p l e R s m args below meth c Fn h locs cells slots pc Ls (.long x :: st) := by
  subst hp; exact own_pl G fun T H t k => XT.lstore H C.1 rfl (hb C.2.1 hd) rfl hl k
theorem own_iconst (C : own_Cx p s m meth c Z own bytes mx rt nm) {i : Int} {v : Int32} (hd : decode bytes pc = .ok (.iconst i, 1)) (hv : Int32.ofInt i = v) (hp : pc + 1 = pc') (G : own_St p l e R s m args below meth c Fn h locs cells slots pc' Ls (.int v :: st)) : own_St p l e R s m args below meth c Fn h locs cells slots pc Ls st := by
  subst hp hv; exact own_pl G fun T H t k => XS.iconst H C.1 rfl (hb C.2.1 hd) k
theorem own_lconst (C : own_Cx p s m meth c Z own bytes mx rt nm) {i : Fin 2} {v : Int64} (hd : decode bytes pc = .ok (.lconst i, 1)) (hv : Int64.ofNat i = v) (hp : pc + 1 = pc') (G : own_St p l e R s m args below meth c Fn h locs cells slots pc' Ls (.long v :: st)) : own_St p l e R s m args below meth c Fn h locs cells slots pc Ls st := by
  subst hp hv; exact own_pl G fun T H t k => XT.lconst H C.1 rfl (hb C.2.1 hd) k
theorem own_isub (C : own_Cx p s m meth c Z own bytes mx rt nm) {x y z : Int32} (hd : decode bytes pc = .ok (.isub, 1)) (hz : x - y = z) (hp : pc + 1 = pc') (G : own_St p l e R s m args below meth c Fn h locs cells slots pc' Ls (.int z :: st)) : own_St p l e R s m args below meth c Fn h locs cells slots pc Ls (.int y :: .int x :: st) := by
  subst hp hz; exact own_pl G fun T H t k => XS.isub H C.1 rfl (hb C.2.1 hd) rfl k
theorem own_iand (C : own_Cx p s m meth c Z own bytes mx rt nm) {x y z : Int32} (hd : decode bytes pc = .ok (.iand, 1)) (hz : x &&& y = z) (hp : pc + 1 = pc') (G : own_St p l e R s m args below meth c Fn h locs cells slots pc' Ls (.int z :: st)) : own_St p l e R s m args below meth c Fn h locs cells slots pc Ls (.int y :: .int x :: st) := by
  subst hp hz; exact own_pl G fun T H t k => XS.iand H C.1 rfl (hb C.2.1 hd) rfl k
theorem own_irem (C : own_Cx p s m meth c Z own bytes mx rt nm) {x y z : Int32} (hd : decode bytes pc = .ok (.irem, 1)) (hy : y ≠ 0) (hz : x % y = z) (hp : pc + 1 = pc') (G : own_St p l e R s m args below meth c Fn h locs cells slots pc' Ls (.int z :: st)) : own_St p l e R s m args below meth c Fn h locs cells slots pc Ls (.int y :: .int x :: st) := by
  subst hp hz; exact own_mv G fun T X eT => ⟨T, X, eT, fun t k => iremM X C.1 rfl (hb C.2.1 hd) rfl hy k⟩
theorem own_lshl (C : own_Cx p s m meth c Z own bytes mx rt nm) {x z : Int64} {y : Int32} (hd : decode bytes pc = .ok (.lshl, 1)) (hz : x <<< (y.toInt64 &&& 63) = z) (hp : pc + 1 = pc') (G : own_St p l e R s m args below meth c Fn h locs cells slots pc' Ls (.long z :: st)) : own_St p l e R s m args below meth c Fn h locs cells slots pc Ls (.int y :: .long x :: st) := by
  subst hp hz; exact own_pl G fun T H t k => XT.lshl H C.1 rfl (hb C.2.1 hd) rfl k
theorem own_lneg (C : own_Cx p s m meth c Z own bytes mx rt nm) {x z : Int64} (hd : decode bytes pc = .ok (.lneg, 1)) (hz : -x = z) (hp : pc + 1 = pc') (G : own_St p l e R s m args below meth c Fn h locs cells slots pc' Ls (.long z :: st)) : own_St p l e R s m args below meth c Fn h locs cells slots pc Ls (.long x :: st) := by
  subst hp hz; exact own_pl G fun T H t k => XT.lneg H C.1 rfl (hb C.2.1 hd) rfl k
theorem own_lcmp (C : own_Cx p s m meth c Z own bytes mx rt nm) {x y : Int64} {z : Int32} (hd : decode bytes pc = .ok (.lcmp, 1)) (hz : XT.cmpL x y = z) (hp : pc + 1 = pc') (G : own_St p l e R s m args below meth c Fn h locs cells slots pc' Ls (.int z :: st)) : own_St p l e R s m args below meth c Fn h locs cells slots pc Ls (.long y :: .long x :: st) := by
  subst hp hz; exact own_pl G fun T H t k => XT.lcmp H C.1 rfl (hb C.2.1 hd) rfl k
theorem own_dup (C : own_Cx p s m meth c Z own bytes mx rt nm) {x : Value} (hd : decode bytes pc = .ok (.dup, 1)) (hc : x.category = 1) (hp : pc + 1 = pc') (G : own_St p l e R s m args below meth c Fn h locs cells slots pc' Ls (x :: x :: st)) : own_St p l e R s m args below meth c Fn h locs cells slots pc Ls (x :: st) := by
  subst hp; exact own_pl G fun T H t k => XS.dup H C.1 rfl (hb C.2.1 hd) rfl hc k
theorem own_pop (C : own_Cx p s m meth c Z own bytes mx rt nm) {x : Value} (hd : decode bytes pc = .ok (.pop, 1)) (hc : x.category = 1) (hp : pc + 1 = pc') (G : own_St p l e R s m args below meth c Fn h locs cells slots pc' Ls st) : own_St p l e R s m args below meth c Fn h locs cells slots pc Ls (x :: st) := by
  subst hp; exact own_pl G fun T H t k => XT.pop H C.1 rfl (hb C.2.1 hd) rfl hc k
theorem own_goto (C : own_Cx p s m meth c Z own bytes mx rt nm) {o : Int} (hd : decode bytes pc = .ok (.goto o, 3)) (ho : 0 ≤ (pc : Int) + o) (hp : ((pc : Int) + o).toNat = pc') (G : own_St p l e R s m args below meth c Fn h locs cells slots pc' Ls st) : own_St p l e R s m args below meth c Fn h locs cells slots pc Ls st :=
  own_pl G fun T H t k => XS.goto H C.1 rfl rfl (hb C.2.1 hd) ho hp k
theorem own_ifY (C : own_Cx p s m meth c Z own bytes mx rt nm) {cd : ClassFile.Cond} {x : Int32} {o : Int} (hd : decode bytes pc = .ok (.ifCond cd o, 3)) (hc : ifCond.holds cd x = true) (ho : 0 ≤ (pc : Int) + o) (hp : ((pc : Int) + o).toNat = pc') (G : own_St p l e R s m args below meth c Fn h locs cells slots pc' Ls st) : own_St p l e R s m args below meth c Fn h locs cells slots pc Ls (.int x :: st) :=
  own_pl G fun T H t k => XS.ifYes H C.1 rfl rfl (hb C.2.1 hd) rfl hc ho hp k
theorem own_ifN (C : own_Cx p s m meth c Z own bytes mx rt nm) {cd : ClassFile.Cond} {x : Int32} {o : Int} (hd : decode bytes pc = .ok (.ifCond cd o, 3)) (hc : ifCond.holds cd x = false) (hp : pc + 3 = pc') (G : own_St p l e R s m args below meth c Fn h locs cells slots pc' Ls st) : own_St p l e R s m args below meth c Fn h locs cells slots pc Ls (.int x :: st) := by
  subst hp; exact own_pl G fun T H t k => XS.ifNo H C.1 rfl (hb C.2.1 hd) rfl hc k
theorem own_icmpY (C : own_Cx p s m meth c Z own bytes mx rt nm) {cd : ClassFile.Cond} {x y : Int32} {o : Int} (hd : decode bytes pc = .ok (.if_icmp cd o, 3)) (hc : if_icmp.holds cd x y = true) (ho : 0 ≤ (pc : Int) + o) (hp : ((pc : Int) + o).toNat = pc') (G : own_St p l e R s m args below meth c Fn h locs cells slots pc' Ls st) : own_St p l e R s m args below meth c Fn h locs cells slots pc Ls (.int y :: .int x :: st) :=
  own_pl G fun T H t k => XS.icmpYes H C.1 rfl rfl (hb C.2.1 hd) rfl hc ho hp k
theorem own_icmpN (C : own_Cx p s m meth c Z own bytes mx rt nm) {cd : ClassFile.Cond} {x y : Int32} {o : Int} (hd : decode bytes pc = .ok (.if_icmp cd o, 3)) (hc : if_icmp.holds cd x y = false) (hp : pc + 3 = pc') (G : own_St p l e R s m args below meth c Fn h locs cells slots pc' Ls st) : own_St p l e R s m args below meth c Fn h locs cells slots pc Ls (.int y :: .int x :: st) := by
  subst hp; exact own_pl G fun T H t k => XS.icmpNo H C.1 rfl (hb C.2.1 hd) rfl hc k
theorem own_acmp (C : own_Cx p s m meth c Z own bytes mx rt nm) {cd : ACond} {x y : Value} {o : Int} {same : Bool} (hd : decode bytes pc = .ok (.if_acmp cd o, 3)) (h1 : x.isRef = true) (h2 : y.isRef = true) (hq : decide (x = y) = same) (ho : 0 ≤ (pc : Int) + o) (hp : pc' = if acV cd same = true then ((pc : Int) + o).toNat else pc + 3) (G : own_St p l e R s m args below meth c Fn h locs cells slots pc' Ls st) : own_St p l e R s m args below meth c Fn h locs cells slots pc Ls (y :: x :: st) :=
  own_mv G fun T X eT => ⟨T, X, eT, fun t k => Jvm.RoadKit.acmp X C.1 rfl h1 h2 rfl (hb C.2.1 hd) rfl hq ho hp k⟩
theorem own_ifnonnullY (C : own_Cx p s m meth c Z own bytes mx rt nm) {o : Int} {b : Addr} (hd : decode bytes pc = .ok (.ifnonnull o, 3)) (ho : 0 ≤ (pc : Int) + o) (hp : ((pc : Int) + o).toNat = pc') (G : own_St p l e R s m args below meth c Fn h locs cells slots pc' Ls st) : own_St p l e R s m args below meth c Fn h locs cells slots pc Ls (.ref b :: st) :=
  own_pl G fun T H t k => XT.ifnonnullYes H C.1 rfl rfl (hb C.2.1 hd) rfl ho hp k
/-! steps that read the tables or the heap -/
theorem own_ldc (C : own_Cx p s m meth c Z own bytes mx rt nm) {index : Nat} {v : Int32} (w : (Jvm.Cond.constant own index v).before a0 Z = true) (hd : decode bytes pc = .ok (.ldc index, 2)) (hp : pc + 2 = pc') (G : own_St p l e R s m args below meth c Fn h locs cells slots pc' Ls (.int v :: st)) : own_St p l e R s m args below meth c Fn h locs cells slots pc Ls st := by
  subst hp; exact own_mv G fun T X eT => ⟨T, X, eT, fun t k => X.ldcInt C.1 C.2.2.2.1 (mvT C.2.2.2.2.2.2.1 w) (g := mkF m pc Ls st) rfl (hb C.2.1 hd) t k⟩
theorem own_ldc2 (C : own_Cx p s m meth c Z own bytes mx rt nm) {index : Nat} {v : Int64} (w : (Jvm.Cond.constantLong own index v).before a0 Z = true) (hd : decode bytes pc = .ok (.ldc2_w index, 3)) (hp : pc + 3 = pc') (G : own_St p l e R s m args below meth c Fn h locs cells slots pc' Ls (.long v :: st)) : own_St p l e R s m args below meth c Fn h locs cells slots pc Ls st := by
  subst hp; exact own_mv G fun T X eT => ⟨T, X, eT, fun t k => X.ldc2Long C.1 C.2.2.2.1 (mvT C.2.2.2.2.2.2.1 w) (g := mkF m pc Ls st) rfl (hb C.2.1 hd) t k⟩
theorem own_getS (C : own_Cx p s m meth c Z own bytes mx rt nm) {O n d : String} {index : Nat} {v : Value} (w : (Jvm.Cond.fieldLink own index O n d).before a0 Z = true) (F : Sta Z h O n d v) (hd : decode bytes pc = .ok (.getstatic index, 3)) (hp : pc + 3 = pc') (G : own_St p l e R s m args below meth c Fn h locs cells slots pc' Ls (v :: st)) : own_St p l e R s m args below meth c Fn h locs cells slots pc Ls st := by
  subst hp; exact own_mv G fun T X eT => getS (host := "") X C.1 C.2.2.2.2.2.2.1 C.2.2.2.1 w Via.refl eT F (g := mkF m pc Ls st) rfl (hb C.2.1 hd)
theorem own_getF (C : own_Cx p s m meth c Z own bytes mx rt nm) {O n d host : String} {index : Nat} {a : Addr} {v : Value} (w : (Jvm.Cond.fieldLink own index O n d).before a0 Z = true ∨ (Jvm.Cond.fieldLinkNest own index O n d host).before a0 Z = true) (F : Fld Z h a O n d v) (hd : decode bytes pc = .ok (.getfield index, 3)) (hp : pc + 3 = pc') (G : own_St p l e R s m args below meth c Fn h locs cells slots pc' Ls (v :: st)) : own_St p l e R s m args below meth c Fn h locs cells slots pc Ls (.ref a :: st) := by
  subst hp; exact own_mv G fun T X eT => getF X C.1 C.2.2.2.2.2.2.1 C.2.2.2.1 w Via.refl eT F (g := mkF m pc Ls (.ref a :: st)) rfl rfl (hb C.2.1 hd)
theorem own_putF (C : own_Cx p s m meth c Z own bytes mx rt nm) {O n d K : String} {index k : Nat} {a : Addr} {v v' old : Value} {ty : FieldType} (w : (Jvm.Cond.fieldLink own index O n d).before a0 Z = true) (F : Fld Z h a O n d old) (E : Exa Z h a K) (L : (Jvm.Cond.lays K O n d).before a0 Z = true ∨ ((Jvm.Cond.laysFinal K O n d).before a0 Z = true ∧ own = O ∧ nm = "<init>")) (wi : (Jvm.Cond.instantiable K k).before a0 Z = true) (hty : parseFieldDescriptor d = some ty) (hn : narrow ty v = v') (hf : fits ty v' = true) (hd : decode bytes pc = .ok (.putfield index, 3)) (hp : pc + 3 = pc') (N : Fr n0 locs) (ge : n0 ≤ a)
    (G : ∀ h' locs', Wr h h' a (Jvm.RoadKit.slotOf Z O n d) v' → Fr n0 locs' → own_St p l e R s m args below meth c Fn h' locs' cells slots pc' Ls st) : own_St p l e R s m args below meth c Fn h locs cells slots pc Ls (v :: .ref a :: st) := by
  subst hp
  intro T X eT
  obtain ⟨T', h', X', e', W, k⟩ := putFN X C.1 C.2.2.2.2.2.2.1 C.2.2.2.1 w Via.refl eT F E (L.imp id fun q => ⟨q.1, q.2.1, C.2.2.2.2.2.2.2.trans q.2.2⟩) wi hty hn hf (g := mkF m pc Ls (v :: .ref a :: st)) rfl rfl (hb C.2.1 hd)
  obtain ⟨s₂, o, h1, r⟩ := G h' _ W (Fr.snoc X' N ge) T' X' e'
  exact ⟨s₂, o, k _ h1, r⟩
theorem own_new (C : own_Cx p s m meth c Z own bytes mx rt nm) {K : String} {index k : Nat} (w : (Jvm.Cond.classLink own index K).before a0 Z = true) (wi : (Jvm.Cond.instantiable K k).before a0 Z = true) (wz : (Jvm.Cond.initialized K).before a0 Z = true) (hd : decode bytes pc = .ok (.new index, 3)) (hp : pc + 3 = pc') (hc : cells + 1 ≤ R.cells) (hl : slots + k ≤ R.slots) (hc' : cells + 1 = cells') (hl' : slots + k = slots')
    (G : ∀ h' b, b = h.size → Ext h h' → Exa Z h' b K → (∀ {O nm d : String} {ty : FieldType}, Laid Z a0 K O nm d → parseFieldDescriptor d = some ty → Fld Z h' b O nm d (defaultValue ty)) → own_St p l e R s m args below meth c Fn h' locs cells' slots' pc' Ls (.ref b :: st)) : own_St p l e R s m args below meth c Fn h locs cells slots pc Ls st := by
  subst hp hc' hl'
  intro T X eT
  obtain ⟨T', h', X', e', E, A, D, -, k⟩ := newO X C.1 C.2.2.2.2.2.2.1 C.2.2.2.1 w wi wz eT (g := mkF m pc Ls st) rfl (hb C.2.1 hd) hc hl
  obtain ⟨s₂, o, h1, r⟩ := G h' _ rfl E A D T' X' e'
  exact ⟨s₂, o, k _ h1, r⟩
/-! calls -/
section Calls
variable {y z : MethodName} {index W maxL : Nat} {bytes' : ByteArray} {ret' : Option FieldType} {rm : Room} {argsL : List Value} {w : Option Value} {D : Heap → Prop}
theorem own_callS (C : own_Cx p s m meth c Z own bytes mx rt nm) (w1 : (Jvm.Cond.methodLink own index y).before a0 Z = true) (w2 : (Jvm.Cond.static y).before a0 Z = true) (wz : (Jvm.Cond.initialized y.cls).before a0 Z = true) (wc : (Jvm.Cond.code y bytes' maxL ret').before a0 Z = true) (hy : y.cls ≠ "java/lang/invoke/MethodHandle" ∧ y.cls ≠ "java/lang/invoke/VarHandle")
    (M : own_Met l Z y bytes' maxL ret' [] rm rm.cells rm.slots argsL.toArray h (own_Q w n0 D)) (hf : rm.frames + 1 ≤ R.frames) (hl : W + (maxL + 11) + rm.locals ≤ R.locals) (hlen : ∀ sig, parseMethodDescriptor y.desc = some sig → argsL.length = sig.parameters.length) (hst : st = argsL.reverse ++ rest) (hW : 2 * 0 + (rest.map fun v => v.category).sum ≤ W) (hsz : Ls.size = mx) (hd : decode bytes pc = .ok (.invokestatic index, 3)) (hp : pc + 3 = pc')
    (hc : cells + rm.cells ≤ R.cells) (hs : slots + rm.slots ≤ R.slots) (hc' : cells + rm.cells = cells') (hs' : slots + rm.slots = slots') (hst' : w.toList ++ rest = st') (N : Fr n0 locs)
    (G : ∀ h' locs', D h' → Fr n0 locs' → own_St p l e R s m args below meth c Fn h' locs' cells' slots' pc' Ls st') : own_St p l e R s m args below meth c Fn h locs cells slots pc Ls st := by
  subst hp hc' hs' hst'
  intro T X eT
  obtain ⟨_, _, ⟨T', L', k', n'⟩, -, X', ⟨Lc, hQ, l', y', z'⟩, k⟩ := Jvm.LawKit.callS X C.1 C.2.2.2.1 (mvT C.2.2.2.2.2.2.1 w1) (mvT C.2.2.2.2.2.2.1 w2) (mvT C.2.2.2.2.2.2.1 wz) (mvT C.2.2.2.2.2.2.1 wc) hy (backOf (W := W) M C.2.2.2.2.2.2.1 wc wz hf hl) (g := mkF m pc Ls st) rfl (hsz.trans C.2.2.1.symm) hlen hst hW (hb C.2.1 hd) (fun _ _ => ⟨rfl, eT, hc, hs⟩)
  dsimp only [Pt.U, Pt.locs, Pt.cells, Pt.slots] at X' l' y' z' k hQ
  subst l' y' z'
  obtain ⟨rfl, N', hD⟩ := hQ
  obtain ⟨s₂, o, h1, r⟩ := G _ _ hD (N.app N') T' X' rfl
  exact ⟨s₂, o, k _ h1, r⟩
theorem own_callV (C : own_Cx p s m meth c Z own bytes mx rt nm) {K : String} {b : Addr} (w1 : (Jvm.Cond.methodLink own index y).before a0 Z = true) (w2 : (Jvm.Cond.declares y).before a0 Z = true) (w3 : (Jvm.Cond.selects K y y).before a0 Z = true) (w4 : (Jvm.Cond.instanceMethod y).before a0 Z = true) (wz : (Jvm.Cond.initialized y.cls).before a0 Z = true) (wc : (Jvm.Cond.code y bytes' maxL ret').before a0 Z = true) (hy : y.cls ≠ "java/lang/invoke/MethodHandle" ∧ y.cls ≠ "java/lang/invoke/VarHandle") (E : Exa Z h b K)
    (M : own_Met l Z y bytes' maxL ret' [] rm rm.cells rm.slots (.ref b :: argsL).toArray h (own_Q w n0 D)) (hf : rm.frames + 1 ≤ R.frames) (hl : W + (maxL + 11) + rm.locals ≤ R.locals) (hlen : ∀ sig, parseMethodDescriptor y.desc = some sig → argsL.length = sig.parameters.length) (hst : st = argsL.reverse ++ .ref b :: rest) (hW : 2 * 0 + (rest.map fun v => v.category).sum ≤ W) (hsz : Ls.size = mx) (hd : decode bytes pc = .ok (.invokevirtual index, 3)) (hp : pc + 3 = pc')
    (hc : cells + rm.cells ≤ R.cells) (hs : slots + rm.slots ≤ R.slots) (hc' : cells + rm.cells = cells') (hs' : slots + rm.slots = slots') (hst' : w.toList ++ rest = st') (N : Fr n0 locs)
    (G : ∀ h' locs', D h' → Fr n0 locs' → own_St p l e R s m args below meth c Fn h' locs' cells' slots' pc' Ls st') : own_St p l e R s m args below meth c Fn h locs cells slots pc Ls st := by
  subst hp hc' hs' hst'
  intro T X eT
  obtain ⟨cq, kq, q1, q2, q3⟩ := isOf C.2.2.2.2.2.2.1 eT E
  obtain ⟨_, _, ⟨T', L', k', n'⟩, -, X', ⟨Lc, hQ, l', y', z'⟩, k⟩ := X.virtualBack C.1 C.2.2.2.1 (mvT C.2.2.2.2.2.2.1 w1) (mvT C.2.2.2.2.2.2.1 w2) (notFace_of_selects (args := #[]) (mvT C.2.2.2.2.2.2.1 w3)) (mvT C.2.2.2.2.2.2.1 w3) (mvT C.2.2.2.2.2.2.1 w4) hy (backOf (W := W) M C.2.2.2.2.2.2.1 wc wz hf hl) q1 q3 (g := mkF m pc Ls st) rfl (hsz.trans C.2.2.1.symm) (Steps.refl _) hlen hst hW (hb C.2.1 hd) (fun _ _ => ⟨rfl, eT, hc, hs⟩)
  dsimp only [Pt.U, Pt.locs, Pt.cells, Pt.slots] at X' l' y' z' k hQ
  subst l' y' z'
  obtain ⟨rfl, N', hD⟩ := hQ
  obtain ⟨s₂, o, h1, r⟩ := G _ _ hD (N.app N') T' X' rfl
  exact ⟨s₂, o, k.trans h1, r⟩
theorem own_callI (C : own_Cx p s m meth c Z own bytes mx rt nm) {b : Addr} (hi : y.name = "<init>") (w1 : (Jvm.Cond.methodLink own index y).before a0 Z = true) (w2 : (Jvm.Cond.instanceMethod y).before a0 Z = true) (wz : (Jvm.Cond.initialized y.cls).before a0 Z = true) (wc : (Jvm.Cond.code y bytes' maxL none).before a0 Z = true) (hy : y.cls ≠ "java/lang/invoke/MethodHandle" ∧ y.cls ≠ "java/lang/invoke/VarHandle")
    (M : own_Met l Z y bytes' maxL none [] rm rm.cells rm.slots (.ref b :: argsL).toArray h (own_Q w n0 D)) (hf : rm.frames + 1 ≤ R.frames) (hl : W + (maxL + 11) + rm.locals ≤ R.locals) (hlen : ∀ sig, parseMethodDescriptor y.desc = some sig → argsL.length = sig.parameters.length) (hst : st = argsL.reverse ++ .ref b :: rest) (hW : 2 * 0 + (rest.map fun v => v.category).sum ≤ W) (hsz : Ls.size = mx) (hd : decode bytes pc = .ok (.invokespecial index, 3)) (hp : pc + 3 = pc')
    (hc : cells + rm.cells ≤ R.cells) (hs : slots + rm.slots ≤ R.slots) (hc' : cells + rm.cells = cells') (hs' : slots + rm.slots = slots') (hst' : w.toList ++ rest = st') (N : Fr n0 locs)
    (G : ∀ h' locs', D h' → Fr n0 locs' → own_St p l e R s m args below meth c Fn h' locs' cells' slots' pc' Ls st') : own_St p l e R s m args below meth c Fn h locs cells slots pc Ls st := by
  subst hp hc' hs' hst'
  intro T X eT
  obtain ⟨_, _, ⟨T', L', k', n'⟩, -, X', ⟨Lc, hQ, l', y', z'⟩, k⟩ := X.specialBack C.1 hi C.2.2.2.1 (mvT C.2.2.2.2.2.2.1 w1) (mvT C.2.2.2.2.2.2.1 w2) (mvT C.2.2.2.2.2.2.1 wc) hy (backOf (W := W) M C.2.2.2.2.2.2.1 wc wz hf hl) (g := mkF m pc Ls st) rfl (hsz.trans C.2.2.1.symm) (Steps.refl _) hlen hst hW (hb C.2.1 hd) (fun _ _ => ⟨rfl, eT, hc, hs⟩)
  dsimp only [Pt.U, Pt.locs, Pt.cells, Pt.slots] at X' l' y' z' k hQ
  subst l' y' z'
  obtain ⟨rfl, N', hD⟩ := hQ
  obtain ⟨s₂, o, h1, r⟩ := G _ _ hD (N.app N') T' X' rfl
  exact ⟨s₂, o, k.trans h1, r⟩
end Calls
/-! the ends -/
theorem own_ret {i : Instr} {v : Value} {t : FieldType} {w : Option Value} {D : Heap → Prop} (C : own_Cx p s m meth c Z own bytes mx (some t) nm) (hd : decode bytes pc = .ok (i, 1)) (hn : narrow t v = v)
    (hi : (i = .ireturn ∧ (t = .int ∨ t = .boolean ∨ t = .byte ∨ t = .char ∨ t = .short) ∧ ∃ z, v = .int z) ∨ (i = .lreturn ∧ t = .long ∧ ∃ z, v = .long z) ∨ (i = .dreturn ∧ t = .double ∧ ∃ z, v = .double z) ∨ (i = .freturn ∧ t = .float ∧ ∃ z, v = .float z) ∨ (i = .areturn ∧ t.isReference = true ∧ v.isRef = true))
    (hw : some v = w) (N : Fr n0 locs) (hD : D h) (hk : cells ≤ kk) (hs : slots ≤ nn) : own_St p l e R s m args below meth c (own_F s (own_Q w n0 D) kk nn) h locs cells slots pc Ls (v :: st) := by
  subst hw
  intro T X eT
  obtain ⟨fs, hr, hrun, hended, hW, hsame⟩ := X.leave (v := some v) (fun q => by rw [C.2.2.2.2.1] at q; cases q) C.2.2.2.2.2.1
  exact ⟨_, _, retOut X C.1 C.2.2.2.2.1 hn hi (hb C.2.1 hd) hr, hrun, hended, _, locs, rfl, ⟨rfl, N, by show D T.heap; rw [eT]; exact hD⟩, ⟨_, rfl⟩, hW, hsame.mono hk hs⟩
theorem own_retV {w : Option Value} {D : Heap → Prop} (C : own_Cx p s m meth c Z own bytes mx none nm) (hd : decode bytes pc = .ok (.return_, 1)) (hw : none = w) (N : Fr n0 locs) (hD : D h) (hk : cells ≤ kk) (hs : slots ≤ nn) : own_St p l e R s m args below meth c (own_F s (own_Q w n0 D) kk nn) h locs cells slots pc Ls [] := by
  subst hw
  intro T X eT
  obtain ⟨fs, hr, hrun, hended, hW, hsame⟩ := X.leave (v := none) (fun _ => rfl) C.2.2.2.2.2.1
  exact ⟨_, _, X.returnOut C.1 C.2.2.2.2.1 (hb C.2.1 hd) hr, hrun, hended, _, locs, rfl, ⟨rfl, N, by show D T.heap; rw [eT]; exact hD⟩, ⟨_, rfl⟩, hW, hsame.mono hk hs⟩
/-! small facts -/
theorem own_ge (O : Old Z n0 h) : n0 ≤ h.size := O.1 ▸ O.2.1
theorem own_extTrans {h1 h2 : Heap} (E : Ext h h1) (E' : Ext h1 h2) : Ext h h2 := ⟨Nat.le_trans E.1 E'.1, fun a c q => E'.2 a c (E.2 a c q)⟩
theorem own_pure (G : ∀ locs', Fr n0 locs' → own_St p l e R s m args below meth c Fn h locs' cells slots pc Ls st) : ∀ h' locs', h' = h → Fr n0 locs' → own_St p l e R s m args below meth c Fn h' locs' cells slots pc Ls st := fun h' locs' q N => q ▸ G locs' N
theorem own_eqI {t : Term} {k : Int32} (q : (Jvm.Cond.eq t (.int k)).value a0 s none s [] = some true) : t.eval a0 s none [] s = some (.int k) := by
  simp only [Cond.value, Term.eval] at q
  cases ht : t.eval a0 s none [] s with
  | none => simp [ht] at q
  | some x => cases x <;> simp [ht] at q ⊢; exact q
theorem own_eqR {t u : Term} {b : Addr} (q : (Jvm.Cond.eq t u).value a0 s none s [] = some true) (hu : u.eval a0 s none [] s = some (.ref b)) : t.eval a0 s none [] s = some (.ref b) := by
  simp only [Cond.value, hu] at q
  cases ht : t.eval a0 s none [] s with
  | none => simp [ht] at q
  | some x => cases x <;> simp [ht] at q ⊢; exact q
end Own
section OwnW
variable {p : Program} {l : Launch} {e : Env} {R : Room} {s s0 : State} {m : MethodId} {args : Array Value} {below : List Frame} {meth : Method} {c : Code} {Z : State} {a0 : Array Value} {Q : Option Value → Heap → List Loc → Prop} {Fn : Outcome → State → Prop} {kk nn : Nat} {h h0 : Heap} {locs : List Loc} {cells slots cells' slots' n0 pc pc' : Nat} {Ls Ls' : Array Slot} {st st' rest : List Value} {own nm : String} {bytes : ByteArray} {mx : Nat} {rt : Option FieldType}
/-- the walk's base is the true start s0 under tables that may have interned since -/
def own_W (s0 s : State) (n : Nat) : Prop := ∃ vm0 k0, s = s0.setVm vm0 ∧ s0.Since vm0 k0 ∧ k0 ≤ n
theorem own_W.mono {n n' : Nat} (H : own_W s0 s n) (q : n ≤ n') : own_W s0 s n' := by obtain ⟨vm0, k0, a, b, r⟩ := H; exact ⟨vm0, k0, a, b, Nat.le_trans r q⟩
theorem own_W.start (s : State) (n : Nat) : own_W s s n := ⟨s.vm, n, rfl, (State.WarmedH.refl s).since n, Nat.le_refl _⟩
def own_FW (s : State) (Q : Option Value → Heap → List Loc → Prop) (kk nn : Nat) (o : Outcome) (s₂ : State) : Prop := ∃ v L, o = .returned v ∧ Q v s₂.heap L ∧ ReturnedEndW s o s₂ L kk nn
def own_MetW (l : Launch) (Z : State) (y : MethodName) (bytes : ByteArray) (mx : Nat) (rt : Option FieldType) (ws : List Jvm.Cond) (rm : Room) (kk nn : Nat) (as' : Array Value) (h : Heap) (Q : Option Value → Heap → List Loc → Prop) : Prop :=
  MetFree l y (head1 (Jvm.Cond.code y bytes mx rt :: ws) rm) (fun a U => a = as' ∧ Z.Warmed39 U.vm ∧ U.heap = h) (fun _ _ _ _ _ => True) (fun _ U o U' => ∃ v L, o = .returned v ∧ Q v U'.heap L ∧ ReturnedEndW U o U' L kk nn)
theorem own_enterW {y : MethodName} {ws : List Jvm.Cond} {rm : Room} {as' : Array Value} (hy : plainName y.cls = true) (hef : ∀ m, entryFrame m as' mx = mkF m 0 Ls [])
    (body : ∀ p e s m below meth c, own_Cx p s m meth c Z y.cls bytes mx rt y.name → own_St p l e rm s m as' below meth c (own_FW s Q kk nn) h [] 0 0 0 Ls []) : own_MetW l Z y bytes mx rt ws rm kk nn as' h Q := by
  refine MetFree.of_bodySF (plainFor_of_name hy) hisR ?_
  intro p e s m args below meth c s₁ Bd hml0 hP hK
  obtain ⟨rfl, hZ, hh⟩ := hP
  have X0 : Stand p l e rm s m args below meth c s₁ [] 0 0 := Stand.of_body Bd
  have e0 : s₁.heap = h := by rw [← hh, Bd.state]; rfl
  obtain ⟨s₂, o, h1, h2⟩ := body p e s m below meth c ⟨Bd.exec, Bd.bytes, hml0, findClass_of_methodNamed Bd.named, Bd.returns, BodyLoose.notSynchronized Bd, hZ, (name_of_methodNamed Bd.named Bd.method).1⟩ s₁ X0 e0
  exact ⟨s₂, o, castTop (hef m) h1, h2⟩
theorem own_Cx.reb {s' : State} (C : own_Cx p s m meth c Z own bytes mx rt nm) (h1 : s'.vm.findClass own = some m.cls) (h2 : Z.Warmed39 s'.vm) : own_Cx p s' m meth c Z own bytes mx rt nm := ⟨C.1, C.2.1, C.2.2.1, h1, C.2.2.2.2.1, C.2.2.2.2.2.1, h2, C.2.2.2.2.2.2.2⟩
theorem own_ldcS (C : own_Cx p s m meth c Z own bytes mx rt nm) (H : own_W s0 s h.size) {index n : Nat} {text : String} (w : (Jvm.Cond.stringLink own index text).before a0 Z = true) (wS : ∀ a ∈ Bundle.stringAtoms, a.before a0 Z = true) (hd : decode bytes pc = .ok (.ldc index, 2)) (hp : pc + 2 = pc') (hn : 4 * text.toList.length ≤ n) (hbig : n ≤ 536870912) (hc : cells + 2 ≤ R.cells) (hl : slots + (n + 4) ≤ R.slots) (hc' : cells + 2 = cells') (hl' : slots + (n + 4) = slots')
    (G : ∀ s' h' a, own_Cx p s' m meth c Z own bytes mx rt nm → own_W s0 s' h'.size → Ext h h' → own_St p l e R s' m args below meth c Fn h' locs cells' slots' pc' Ls (.ref a :: st)) : own_St p l e R s m args below meth c Fn h locs cells slots pc Ls st := by
  subst hp hc' hl'
  intro T X eT
  obtain ⟨vm0, k0, rfl, hS, hk⟩ := H
  obtain ⟨a, T', h', k1, X', e', E, hS', hk', hZ', hown', k⟩ := ldcS X C.1 C.2.2.2.2.2.2.1 C.2.2.2.1 w wS eT hS hk (g := mkF m pc Ls st) rfl (hb C.2.1 hd) hn hbig hc hl
  obtain ⟨s₂, o, h1, r⟩ := G (s0.setVm T'.vm) h' a (C.reb hown' hZ') ⟨_, _, rfl, hS', hk'⟩ E T' X' e'
  exact ⟨s₂, o, k _ h1, r⟩
theorem own_getR (C : own_Cx p s m meth c Z own bytes mx rt nm) {O n d : String} {index : Nat} {a : Addr} {v : Value} (w : (Jvm.Cond.fieldRef own index O n d).before a0 Z = true) (Fl : Fld Z h a O n d v) (hd : decode bytes pc = .ok (.getfield index, 3)) (hp : pc + 3 = pc') (G : own_St p l e R s m args below meth c Fn h locs cells slots pc' Ls (v :: st)) : own_St p l e R s m args below meth c Fn h locs cells slots pc Ls (.ref a :: st) := by
  subst hp
  intro T X eT
  obtain ⟨cell, cf, k, i, f, h1, h2, h3, h4, -, -, h7⟩ := Fl
  have hal : Z.Warmed39 T.vm := wtrans C.2.2.2.2.2.2.1 X.warmed
  have w' : (Jvm.Cond.fieldRef own index O n d).before a0 (Z.setVm T.vm) = true := Cond.fieldRef_warmed39 hal w
  have hcur : (Z.setVm T.vm).vm.findClass own = some m.cls := by
    show T.vm.findClass own = _
    rw [X.warmed.alike.findClass]; exact C.2.2.2.1
  obtain ⟨c2, k2, i2, f2, g1, g2⟩ := Cond.fieldRef_spec hcur w'
  obtain ⟨k', q1, -⟩ := State.fieldFound?_setVm (s := Z) hal.alike h2
  cases g1.symm.trans q1
  obtain ⟨s₂, o, r1, r⟩ := G T X eT
  exact ⟨s₂, o, (X.getfieldR C.1 (g := mkF m pc Ls (.ref a :: st)) rfl g2 h3 rfl (by rw [eT]; exact h1) h4 h7 (hb C.2.1 hd) (Steps.refl _)).trans r1, r⟩
section Calls
variable {y z : MethodName} {index W maxL : Nat} {bytes' : ByteArray} {ret' : Option FieldType} {rm : Room} {argsL : List Value} {w : Option Value} {D : Heap → Prop}
theorem own_callSNW (C : own_Cx p s m meth c Z own bytes mx rt nm) (H : own_W s0 s h.size) {host : String} (w1 : (Jvm.Cond.methodLinkNest own index y host).before a0 Z = true) (w2 : (Jvm.Cond.static y).before a0 Z = true) (wz : (Jvm.Cond.initialized y.cls).before a0 Z = true) (wc : (Jvm.Cond.code y bytes' maxL ret').before a0 Z = true) (hy : y.cls ≠ "java/lang/invoke/MethodHandle" ∧ y.cls ≠ "java/lang/invoke/VarHandle")
    (M : own_MetW l Z y bytes' maxL ret' [] rm rm.cells rm.slots argsL.toArray h (own_Q w n0 D)) (hf : rm.frames + 1 ≤ R.frames) (hl : W + (maxL + 11) + rm.locals ≤ R.locals) (hlen : ∀ sig, parseMethodDescriptor y.desc = some sig → argsL.length = sig.parameters.length) (hst : st = argsL.reverse ++ rest) (hW : 2 * 0 + (rest.map fun v => v.category).sum ≤ W) (hsz : Ls.size = mx) (hd : decode bytes pc = .ok (.invokestatic index, 3)) (hp : pc + 3 = pc')
    (hc : cells + rm.cells ≤ R.cells) (hs : slots + rm.slots ≤ R.slots) (hc' : cells + rm.cells = cells') (hs' : slots + rm.slots = slots') (hst' : w.toList ++ rest = st') (N : Fr n0 locs)
    (G : ∀ s' h' locs', own_Cx p s' m meth c Z own bytes mx rt nm → own_W s0 s' h'.size → D h' → Fr n0 locs' → own_St p l e R s' m args below meth c Fn h' locs' cells' slots' pc' Ls st') : own_St p l e R s m args below meth c Fn h locs cells slots pc Ls st := by
  subst hp hc' hs' hst'
  intro T X eT
  obtain ⟨vm0, k0, rfl, hS, hk⟩ := H
  obtain ⟨_, _, ⟨T', L', k', n'⟩, -, X', hS2, hgr, ⟨Lc, hQ, l', y', z'⟩, k⟩ := callSNS X C.1 C.2.2.2.1 (Cond.methodLinkNest_wide C.2.2.2.2.2.2.1 w1 :) (mvT C.2.2.2.2.2.2.1 w2) (mvT C.2.2.2.2.2.2.1 wz) (mvT C.2.2.2.2.2.2.1 wc) hy (backOfS (W := W) M C.2.2.2.2.2.2.1 wc wz hf hl) (g := mkF m pc Ls st) rfl (hsz.trans C.2.2.1.symm) hlen hst hW (hb C.2.1 hd) (fun _ _ => ⟨rfl, eT, hc, hs⟩)
  dsimp only [Pt.U, Pt.locs, Pt.cells, Pt.slots] at X' l' y' z' k hQ hS2 hgr
  subst l' y' z'
  obtain ⟨rfl, N', hD⟩ := hQ
  obtain ⟨X2, hS3, hZ3, hown3⟩ := rebS hS (eT ▸ hk) X' hS2 hgr C.2.2.2.2.2.2.1 C.2.2.2.1
  obtain ⟨s₂, o, h1, r⟩ := G _ _ _ (C.reb hown3 hZ3) ⟨_, _, rfl, hS3, Nat.le_refl _⟩ hD (N.app N') T' X2 rfl
  exact ⟨s₂, o, k.trans h1, r⟩
theorem own_callIW (C : own_Cx p s m meth c Z own bytes mx rt nm) (H : own_W s0 s h.size) {b : Addr} (hi : y.name = "<init>") (w1 : (Jvm.Cond.methodLink own index y).before a0 Z = true) (w2 : (Jvm.Cond.instanceMethod y).before a0 Z = true) (wz : (Jvm.Cond.initialized y.cls).before a0 Z = true) (wc : (Jvm.Cond.code y bytes' maxL none).before a0 Z = true) (hy : y.cls ≠ "java/lang/invoke/MethodHandle" ∧ y.cls ≠ "java/lang/invoke/VarHandle")
    (M : own_MetW l Z y bytes' maxL none [] rm rm.cells rm.slots (.ref b :: argsL).toArray h (own_Q w n0 D)) (hf : rm.frames + 1 ≤ R.frames) (hl : W + (maxL + 11) + rm.locals ≤ R.locals) (hlen : ∀ sig, parseMethodDescriptor y.desc = some sig → argsL.length = sig.parameters.length) (hst : st = argsL.reverse ++ .ref b :: rest) (hW : 2 * 0 + (rest.map fun v => v.category).sum ≤ W) (hsz : Ls.size = mx) (hd : decode bytes pc = .ok (.invokespecial index, 3)) (hp : pc + 3 = pc')
    (hc : cells + rm.cells ≤ R.cells) (hs : slots + rm.slots ≤ R.slots) (hc' : cells + rm.cells = cells') (hs' : slots + rm.slots = slots') (hst' : w.toList ++ rest = st') (N : Fr n0 locs)
    (G : ∀ s' h' locs', own_Cx p s' m meth c Z own bytes mx rt nm → own_W s0 s' h'.size → D h' → Fr n0 locs' → own_St p l e R s' m args below meth c Fn h' locs' cells' slots' pc' Ls st') : own_St p l e R s m args below meth c Fn h locs cells slots pc Ls st := by
  subst hp hc' hs' hst'
  intro T X eT
  obtain ⟨vm0, k0, rfl, hS, hk⟩ := H
  obtain ⟨_, _, ⟨T', L', k', n'⟩, -, X', hS2, hgr, ⟨Lc, hQ, l', y', z'⟩, k⟩ := X.specialBackS C.1 hi C.2.2.2.1 (mvT C.2.2.2.2.2.2.1 w1) (mvT C.2.2.2.2.2.2.1 w2) (mvT C.2.2.2.2.2.2.1 wc) hy (backOfS (W := W) M C.2.2.2.2.2.2.1 wc wz hf hl) (g := mkF m pc Ls st) rfl (hsz.trans C.2.2.1.symm) (Steps.refl _) hlen hst hW (hb C.2.1 hd) (fun _ _ => ⟨rfl, eT, hc, hs⟩)
  dsimp only [Pt.U, Pt.locs, Pt.cells, Pt.slots] at X' l' y' z' k hQ hS2 hgr
  subst l' y' z'
  obtain ⟨rfl, N', hD⟩ := hQ
  obtain ⟨X2, hS3, hZ3, hown3⟩ := rebS hS (eT ▸ hk) X' hS2 hgr C.2.2.2.2.2.2.1 C.2.2.2.1
  obtain ⟨s₂, o, h1, r⟩ := G _ _ _ (C.reb hown3 hZ3) ⟨_, _, rfl, hS3, Nat.le_refl _⟩ hD (N.app N') T' X2 rfl
  exact ⟨s₂, o, k.trans h1, r⟩
end Calls
theorem own_retW {i : Instr} {v : Value} {t : FieldType} {w : Option Value} {D : Heap → Prop} (C : own_Cx p s m meth c Z own bytes mx (some t) nm) (H : own_W s0 s h.size) (hd : decode bytes pc = .ok (i, 1)) (hn : narrow t v = v)
    (hi : (i = .ireturn ∧ (t = .int ∨ t = .boolean ∨ t = .byte ∨ t = .char ∨ t = .short) ∧ ∃ z, v = .int z) ∨ (i = .lreturn ∧ t = .long ∧ ∃ z, v = .long z) ∨ (i = .dreturn ∧ t = .double ∧ ∃ z, v = .double z) ∨ (i = .freturn ∧ t = .float ∧ ∃ z, v = .float z) ∨ (i = .areturn ∧ t.isReference = true ∧ v.isRef = true))
    (hw : some v = w) (N : Fr n0 locs) (hD : D h) (hk : cells ≤ kk) (hs : slots ≤ nn) : own_St p l e R s m args below meth c (own_FW s0 (own_Q w n0 D) kk nn) h locs cells slots pc Ls (v :: st) := by
  subst hw
  intro T X eT
  obtain ⟨vm0, k0, rfl, hS, hk0⟩ := H
  obtain ⟨fs, hr, hrun, hended, hE⟩ := X.leaveW hS (by rw [eT]; exact hk0) (v := some v) (fun q => by rw [C.2.2.2.2.1] at q; cases q) C.2.2.2.2.2.1
  exact ⟨_, _, retOut X C.1 C.2.2.2.2.1 hn hi (hb C.2.1 hd) hr, hrun, hended, _, locs, rfl, ⟨rfl, N, by show D T.heap; rw [eT]; exact hD⟩, hE.1, hE.2.1, hE.2.2.1, hE.2.2.2.mono hk hs⟩
theorem own_retVW {w : Option Value} {D : Heap → Prop} (C : own_Cx p s m meth c Z own bytes mx none nm) (H : own_W s0 s h.size) (hd : decode bytes pc = .ok (.return_, 1)) (hw : none = w) (N : Fr n0 locs) (hD : D h) (hk : cells ≤ kk) (hs : slots ≤ nn) : own_St p l e R s m args below meth c (own_FW s0 (own_Q w n0 D) kk nn) h locs cells slots pc Ls [] := by
  subst hw
  intro T X eT
  obtain ⟨vm0, k0, rfl, hS, hk0⟩ := H
  obtain ⟨fs, hr, hrun, hended, hE⟩ := X.leaveW hS (by rw [eT]; exact hk0) (v := none) (fun _ => rfl) C.2.2.2.2.2.1
  exact ⟨_, _, X.returnOut C.1 C.2.2.2.2.1 (hb C.2.1 hd) hr, hrun, hended, _, locs, rfl, ⟨rfl, N, by show D T.heap; rw [eT]; exact hD⟩, hE.1, hE.2.1, hE.2.2.1, hE.2.2.2.mono hk hs⟩
end OwnW
theorem d1_0 : decode prog_67_method_1_code 0 = .ok (.aload_n 0, 1) := by decide +kernel
theorem d1_1 : decode prog_67_method_1_code 1 = .ok (.invokespecial 1, 3) := by decide +kernel
theorem d1_4 : decode prog_67_method_1_code 4 = .ok (.aload_n 1, 1) := by decide +kernel
theorem d1_5 : decode prog_67_method_1_code 5 = .ok (.getstatic 7, 3) := by decide +kernel
theorem d1_8 : decode prog_67_method_1_code 8 = .ok (.invokestatic 13, 3) := by decide +kernel
theorem d1_11 : decode prog_67_method_1_code 11 = .ok (.aload_n 0, 1) := by decide +kernel
theorem d1_12 : decode prog_67_method_1_code 12 = .ok (.aload_n 1, 1) := by decide +kernel
theorem d1_13 : decode prog_67_method_1_code 13 = .ok (.putfield 19, 3) := by decide +kernel
theorem d1_16 : decode prog_67_method_1_code 16 = .ok (.aload_n 0, 1) := by decide +kernel
theorem d1_17 : decode prog_67_method_1_code 17 = .ok (.iload_n 2, 1) := by decide +kernel
theorem d1_18 : decode prog_67_method_1_code 18 = .ok (.putfield 25, 3) := by decide +kernel
theorem d1_21 : decode prog_67_method_1_code 21 = .ok (.return_, 1) := by decide +kernel
theorem d2_0 : decode jdk_30_method_1_code 0 = .ok (.aload_n 0, 1) := by decide +kernel
theorem d2_1 : decode jdk_30_method_1_code 1 = .ok (.invokespecial 1, 3) := by decide +kernel
theorem d2_4 : decode jdk_30_method_1_code 4 = .ok (.return_, 1) := by decide +kernel
theorem d4_0 : decode prog_62_method_9_code 0 = .ok (.aload_n 0, 1) := by decide +kernel
theorem d4_1 : decode prog_62_method_9_code 1 = .ok (.ldc 1, 2) := by decide +kernel
theorem d4_3 : decode prog_62_method_9_code 3 = .ok (.invokestatic 3, 3) := by decide +kernel
theorem d4_6 : decode prog_62_method_9_code 6 = .ok (.pop, 1) := by decide +kernel
theorem d4_7 : decode prog_62_method_9_code 7 = .ok (.aload_n 0, 1) := by decide +kernel
theorem d4_8 : decode prog_62_method_9_code 8 = .ok (.getfield 9, 3) := by decide +kernel
theorem d4_11 : decode prog_62_method_9_code 11 = .ok (.aload_n 1, 1) := by decide +kernel
theorem d4_12 : decode prog_62_method_9_code 12 = .ok (.if_acmp .eq 24, 3) := by decide +kernel
theorem d4_36 : decode prog_62_method_9_code 36 = .ok (.return_, 1) := by decide +kernel
theorem d5_0 : decode jdk_31_method_11_code 0 = .ok (.aload_n 0, 1) := by decide +kernel
theorem d5_1 : decode jdk_31_method_11_code 1 = .ok (.ifnonnull 12, 3) := by decide +kernel
theorem d5_13 : decode jdk_31_method_11_code 13 = .ok (.aload_n 0, 1) := by decide +kernel
theorem d5_14 : decode jdk_31_method_11_code 14 = .ok (.areturn, 1) := by decide +kernel
theorem d6_0 : decode prog_67_method_6_code 0 = .ok (.aload_n 0, 1) := by decide +kernel
theorem d6_1 : decode prog_67_method_6_code 1 = .ok (.getfield 25, 3) := by decide +kernel
theorem d6_4 : decode prog_67_method_6_code 4 = .ok (.ifCond .eq 7, 3) := by decide +kernel
theorem d6_7 : decode prog_67_method_6_code 7 = .ok (.lconst 0, 1) := by decide +kernel
theorem d6_8 : decode prog_67_method_6_code 8 = .ok (.goto 15, 3) := by decide +kernel
theorem d6_11 : decode prog_67_method_6_code 11 = .ok (.lconst 1, 1) := by decide +kernel
theorem d6_12 : decode prog_67_method_6_code 12 = .ok (.aload_n 0, 1) := by decide +kernel
theorem d6_13 : decode prog_67_method_6_code 13 = .ok (.getfield 19, 3) := by decide +kernel
theorem d6_16 : decode prog_67_method_6_code 16 = .ok (.getfield 106, 3) := by decide +kernel
theorem d6_19 : decode prog_67_method_6_code 19 = .ok (.iconst 1, 1) := by decide +kernel
theorem d6_20 : decode prog_67_method_6_code 20 = .ok (.isub, 1) := by decide +kernel
theorem d6_21 : decode prog_67_method_6_code 21 = .ok (.lshl, 1) := by decide +kernel
theorem d6_22 : decode prog_67_method_6_code 22 = .ok (.lneg, 1) := by decide +kernel
theorem d6_23 : decode prog_67_method_6_code 23 = .ok (.lreturn, 1) := by decide +kernel
theorem own_pd0 : parseMethodDescriptor "()V" = some ⟨[], none⟩ := by decide +kernel
theorem own_pd1 : parseMethodDescriptor "(Ljava/lang/Object;Ljava/lang/String;)Ljava/lang/Object;" = some ⟨[(.object "java/lang/Object"), (.object "java/lang/String")], some (.object "java/lang/Object")⟩ := by decide +kernel
theorem own_pd2 : parseMethodDescriptor "(Lcom/example/dml_to_locks/dmltolocks/model/ColumnType$Kind;Lcom/example/dml_to_locks/dmltolocks/model/ColumnType$Family;)V" = some ⟨[(.object "com/example/dml_to_locks/dmltolocks/model/ColumnType$Kind"), (.object "com/example/dml_to_locks/dmltolocks/model/ColumnType$Family")], none⟩ := by decide +kernel
theorem own_pd3 : parseMethodDescriptor "(Lcom/example/dml_to_locks/dmltolocks/model/ColumnType$Kind;Z)V" = some ⟨[(.object "com/example/dml_to_locks/dmltolocks/model/ColumnType$Kind"), .boolean], none⟩ := by decide +kernel
theorem own_pd4 : parseMethodDescriptor "()J" = some ⟨[], some .long⟩ := by decide +kernel
theorem own_pn0 : plainName "java/lang/Record" = true := by first | (simp [plainName, overriddenIn]; done) | decide +kernel
theorem own_pn1 : plainName "java/util/Objects" = true := by first | (simp [plainName, overriddenIn]; done) | decide +kernel
theorem own_pn2 : plainName "com/example/dml_to_locks/dmltolocks/model/ColumnType" = true := by first | (simp [plainName, overriddenIn]; done) | decide +kernel
theorem own_pn3 : plainName "com/example/dml_to_locks/dmltolocks/model/ColumnType$IntegerType" = true := by first | (simp [plainName, overriddenIn]; done) | decide +kernel
theorem own_pn4 : plainName "com/example/dml_to_locks/dmltolocks/model/IntegerTypeMinimumPinLaw" = true := by first | (simp [plainName, overriddenIn]; done) | decide +kernel
theorem own_ef0 (m : MethodId) (x0 : Addr) : entryFrame m #[(.ref x0)] 1 = mkF m 0 #[.val (.ref x0)] [] := by first | (simp [entryFrame, mkF, argsToLocals, Value.category]; done) | rfl
theorem own_ef1 (m : MethodId) (x0 : Addr) (x1 : Addr) : entryFrame m #[(.ref x0), (.ref x1)] 2 = mkF m 0 #[.val (.ref x0), .val (.ref x1)] [] := by first | (simp [entryFrame, mkF, argsToLocals, Value.category]; done) | rfl
theorem own_ef2 (m : MethodId) (x0 : Addr) (x1 : Addr) (x2 : Int32) : entryFrame m #[(.ref x0), (.ref x1), (.int x2)] 3 = mkF m 0 #[.val (.ref x0), .val (.ref x1), .val (.int x2)] [] := by first | (simp [entryFrame, mkF, argsToLocals, Value.category]; done) | rfl
theorem own_ef3 (m : MethodId) (x0 : Int32) (x1 : Int32) : entryFrame m #[(.int x0), (.int x1)] 10 = mkF m 0 #[.val (.int x0), .val (.int x1), .unset, .unset, .unset, .unset, .unset, .unset, .unset, .unset] [] := by first | (simp [entryFrame, mkF, argsToLocals, Value.category]; done) | rfl
theorem own_w0 {Z : State} {a0 : Array Value} (hw : ∀ d ∈ tables_1, d.before a0 Z = true) : (Jvm.Cond.constant "com/example/dml_to_locks/dmltolocks/model/IntegerTypeMinimumPinLaw" (7 : Nat) (2147483647 : Int32)).before a0 Z = true := hw _ (List.mem_of_getElem? (i := 0) rfl)
theorem own_w1 {Z : State} {a0 : Array Value} (hw : ∀ d ∈ tables_1, d.before a0 Z = true) : (Jvm.Cond.fieldLink "com/example/dml_to_locks/dmltolocks/model/IntegerTypeMinimumPinLaw" (8 : Nat) "com/example/dml_to_locks/dmltolocks/model/ColumnType$Kind" "TINYINT" "Lcom/example/dml_to_locks/dmltolocks/model/ColumnType$Kind;").before a0 Z = true := hw _ (List.mem_of_getElem? (i := 1) rfl)
theorem own_w2 {Z : State} {a0 : Array Value} (hw : ∀ d ∈ tables_1, d.before a0 Z = true) : (Jvm.Cond.initialized "com/example/dml_to_locks/dmltolocks/model/ColumnType$Kind").before a0 Z = true := hw _ (List.mem_of_getElem? (i := 2) rfl)
theorem own_w3 {Z : State} {a0 : Array Value} (hw : ∀ d ∈ tables_1, d.before a0 Z = true) : (Jvm.Cond.laysStatic "com/example/dml_to_locks/dmltolocks/model/ColumnType$Kind" "TINYINT" "Lcom/example/dml_to_locks/dmltolocks/model/ColumnType$Kind;").before a0 Z = true := hw _ (List.mem_of_getElem? (i := 3) rfl)
theorem own_w4 {Z : State} {a0 : Array Value} (hw : ∀ d ∈ tables_1, d.before a0 Z = true) : (Jvm.Cond.constantLong "com/example/dml_to_locks/dmltolocks/model/IntegerTypeMinimumPinLaw" (14 : Nat) (-128 : Int64)).before a0 Z = true := hw _ (List.mem_of_getElem? (i := 4) rfl)
theorem own_w5 {Z : State} {a0 : Array Value} (hw : ∀ d ∈ tables_1, d.before a0 Z = true) : (Jvm.Cond.classLink "com/example/dml_to_locks/dmltolocks/model/IntegerTypeMinimumPinLaw" (36 : Nat) "com/example/dml_to_locks/dmltolocks/model/ColumnType$IntegerType").before a0 Z = true := hw _ (List.mem_of_getElem? (i := 5) rfl)
theorem own_w6 {Z : State} {a0 : Array Value} (hw : ∀ d ∈ tables_1, d.before a0 Z = true) : (Jvm.Cond.instantiable "com/example/dml_to_locks/dmltolocks/model/ColumnType$IntegerType" (2 : Nat)).before a0 Z = true := hw _ (List.mem_of_getElem? (i := 6) rfl)
theorem own_w7 {Z : State} {a0 : Array Value} (hw : ∀ d ∈ tables_1, d.before a0 Z = true) : (Jvm.Cond.initialized "com/example/dml_to_locks/dmltolocks/model/ColumnType$IntegerType").before a0 Z = true := hw _ (List.mem_of_getElem? (i := 7) rfl)
theorem own_w8 {Z : State} {a0 : Array Value} (hw : ∀ d ∈ tables_1, d.before a0 Z = true) : (Jvm.Cond.methodLink "com/example/dml_to_locks/dmltolocks/model/IntegerTypeMinimumPinLaw" (38 : Nat) ({ cls := "com/example/dml_to_locks/dmltolocks/model/ColumnType$IntegerType", name := "<init>", desc := "(Lcom/example/dml_to_locks/dmltolocks/model/ColumnType$Kind;Z)V" } : Jvm.MethodName)).before a0 Z = true := hw _ (List.mem_of_getElem? (i := 8) rfl)
theorem own_w9 {Z : State} {a0 : Array Value} (hw : ∀ d ∈ tables_1, d.before a0 Z = true) : (Jvm.Cond.instanceMethod ({ cls := "com/example/dml_to_locks/dmltolocks/model/ColumnType$IntegerType", name := "<init>", desc := "(Lcom/example/dml_to_locks/dmltolocks/model/ColumnType$Kind;Z)V" } : Jvm.MethodName)).before a0 Z = true := hw _ (List.mem_of_getElem? (i := 9) rfl)
theorem own_w10 {Z : State} {a0 : Array Value} (hw : ∀ d ∈ tables_1, d.before a0 Z = true) : (Jvm.Cond.code ({ cls := "com/example/dml_to_locks/dmltolocks/model/ColumnType$IntegerType", name := "<init>", desc := "(Lcom/example/dml_to_locks/dmltolocks/model/ColumnType$Kind;Z)V" } : Jvm.MethodName) prog_67_method_1_code (3 : Nat) (Option.none : Option Jvm.ClassFile.FieldType)).before a0 Z = true := hw _ (List.mem_of_getElem? (i := 10) rfl)
theorem own_w11 {Z : State} {a0 : Array Value} (hw : ∀ d ∈ tables_1, d.before a0 Z = true) : (Jvm.Cond.methodLink "com/example/dml_to_locks/dmltolocks/model/ColumnType$IntegerType" (1 : Nat) ({ cls := "java/lang/Record", name := "<init>", desc := "()V" } : Jvm.MethodName)).before a0 Z = true := hw _ (List.mem_of_getElem? (i := 11) rfl)
theorem own_w12 {Z : State} {a0 : Array Value} (hw : ∀ d ∈ tables_1, d.before a0 Z = true) : (Jvm.Cond.instanceMethod ({ cls := "java/lang/Record", name := "<init>", desc := "()V" } : Jvm.MethodName)).before a0 Z = true := hw _ (List.mem_of_getElem? (i := 12) rfl)
theorem own_w14 {Z : State} {a0 : Array Value} (hw : ∀ d ∈ tables_1, d.before a0 Z = true) : (Jvm.Cond.initialized "java/lang/Record").before a0 Z = true := hw _ (List.mem_of_getElem? (i := 14) rfl)
theorem own_w15 {Z : State} {a0 : Array Value} (hw : ∀ d ∈ tables_1, d.before a0 Z = true) : (Jvm.Cond.code ({ cls := "java/lang/Record", name := "<init>", desc := "()V" } : Jvm.MethodName) jdk_30_method_1_code (1 : Nat) (Option.none : Option Jvm.ClassFile.FieldType)).before a0 Z = true := hw _ (List.mem_of_getElem? (i := 15) rfl)
theorem own_w16 {Z : State} {a0 : Array Value} (hw : ∀ d ∈ tables_1, d.before a0 Z = true) : (Jvm.Cond.methodLink "java/lang/Record" (1 : Nat) ({ cls := "java/lang/Object", name := "<init>", desc := "()V" } : Jvm.MethodName)).before a0 Z = true := hw _ (List.mem_of_getElem? (i := 16) rfl)
theorem own_w17 {Z : State} {a0 : Array Value} (hw : ∀ d ∈ tables_1, d.before a0 Z = true) : (Jvm.Cond.instanceMethod ({ cls := "java/lang/Object", name := "<init>", desc := "()V" } : Jvm.MethodName)).before a0 Z = true := hw _ (List.mem_of_getElem? (i := 17) rfl)
theorem own_w18 {Z : State} {a0 : Array Value} (hw : ∀ d ∈ tables_1, d.before a0 Z = true) : (Jvm.Cond.code ({ cls := "java/lang/Object", name := "<init>", desc := "()V" } : Jvm.MethodName) object_method_1_code (1 : Nat) (Option.none : Option Jvm.ClassFile.FieldType)).before a0 Z = true := hw _ (List.mem_of_getElem? (i := 18) rfl)
theorem own_w19 {Z : State} {a0 : Array Value} (hw : ∀ d ∈ tables_1, d.before a0 Z = true) : (Jvm.Cond.fieldLink "com/example/dml_to_locks/dmltolocks/model/ColumnType$IntegerType" (7 : Nat) "com/example/dml_to_locks/dmltolocks/model/ColumnType$Family" "INTEGER" "Lcom/example/dml_to_locks/dmltolocks/model/ColumnType$Family;").before a0 Z = true := hw _ (List.mem_of_getElem? (i := 19) rfl)
theorem own_w20 {Z : State} {a0 : Array Value} (hw : ∀ d ∈ tables_1, d.before a0 Z = true) : (Jvm.Cond.initialized "com/example/dml_to_locks/dmltolocks/model/ColumnType$Family").before a0 Z = true := hw _ (List.mem_of_getElem? (i := 20) rfl)
theorem own_w21 {Z : State} {a0 : Array Value} (hw : ∀ d ∈ tables_1, d.before a0 Z = true) : (Jvm.Cond.laysStatic "com/example/dml_to_locks/dmltolocks/model/ColumnType$Family" "INTEGER" "Lcom/example/dml_to_locks/dmltolocks/model/ColumnType$Family;").before a0 Z = true := hw _ (List.mem_of_getElem? (i := 21) rfl)
theorem own_w22 {Z : State} {a0 : Array Value} (hw : ∀ d ∈ tables_1, d.before a0 Z = true) : (Jvm.Cond.methodLinkNest "com/example/dml_to_locks/dmltolocks/model/ColumnType$IntegerType" (13 : Nat) ({ cls := "com/example/dml_to_locks/dmltolocks/model/ColumnType", name := "requireFamily", desc := "(Lcom/example/dml_to_locks/dmltolocks/model/ColumnType$Kind;Lcom/example/dml_to_locks/dmltolocks/model/ColumnType$Family;)V" } : Jvm.MethodName) "com/example/dml_to_locks/dmltolocks/model/ColumnType").before a0 Z = true := hw _ (List.mem_of_getElem? (i := 22) rfl)
theorem own_w23 {Z : State} {a0 : Array Value} (hw : ∀ d ∈ tables_1, d.before a0 Z = true) : (Jvm.Cond.static ({ cls := "com/example/dml_to_locks/dmltolocks/model/ColumnType", name := "requireFamily", desc := "(Lcom/example/dml_to_locks/dmltolocks/model/ColumnType$Kind;Lcom/example/dml_to_locks/dmltolocks/model/ColumnType$Family;)V" } : Jvm.MethodName)).before a0 Z = true := hw _ (List.mem_of_getElem? (i := 23) rfl)
theorem own_w24 {Z : State} {a0 : Array Value} (hw : ∀ d ∈ tables_1, d.before a0 Z = true) : (Jvm.Cond.initialized "com/example/dml_to_locks/dmltolocks/model/ColumnType").before a0 Z = true := hw _ (List.mem_of_getElem? (i := 24) rfl)
theorem own_w25 {Z : State} {a0 : Array Value} (hw : ∀ d ∈ tables_1, d.before a0 Z = true) : (Jvm.Cond.code ({ cls := "com/example/dml_to_locks/dmltolocks/model/ColumnType", name := "requireFamily", desc := "(Lcom/example/dml_to_locks/dmltolocks/model/ColumnType$Kind;Lcom/example/dml_to_locks/dmltolocks/model/ColumnType$Family;)V" } : Jvm.MethodName) prog_62_method_9_code (2 : Nat) (Option.none : Option Jvm.ClassFile.FieldType)).before a0 Z = true := hw _ (List.mem_of_getElem? (i := 25) rfl)
theorem own_w26 {Z : State} {a0 : Array Value} (hw : ∀ d ∈ tables_1, d.before a0 Z = true) : (Jvm.Cond.stringLink "com/example/dml_to_locks/dmltolocks/model/ColumnType" (1 : Nat) "kind").before a0 Z = true := hw _ (List.mem_of_getElem? (i := 26) rfl)
theorem own_w27 {Z : State} {a0 : Array Value} (hw : ∀ d ∈ tables_1, d.before a0 Z = true) : (Jvm.Cond.initialized "java/lang/String").before a0 Z = true := hw _ (List.mem_of_getElem? (i := 27) rfl)
theorem own_w28 {Z : State} {a0 : Array Value} (hw : ∀ d ∈ tables_1, d.before a0 Z = true) : (Jvm.Cond.instantiable "java/lang/String" (4 : Nat)).before a0 Z = true := hw _ (List.mem_of_getElem? (i := 28) rfl)
theorem own_w29 {Z : State} {a0 : Array Value} (hw : ∀ d ∈ tables_1, d.before a0 Z = true) : (Jvm.Cond.arrayClass Jvm.ClassFile.FieldType.byte).before a0 Z = true := hw _ (List.mem_of_getElem? (i := 29) rfl)
theorem own_w30 {Z : State} {a0 : Array Value} (hw : ∀ d ∈ tables_1, d.before a0 Z = true) : (Jvm.Cond.laysFinal "java/lang/String" "java/lang/String" "value" "[B").before a0 Z = true := hw _ (List.mem_of_getElem? (i := 30) rfl)
theorem own_w31 {Z : State} {a0 : Array Value} (hw : ∀ d ∈ tables_1, d.before a0 Z = true) : (Jvm.Cond.laysFinal "java/lang/String" "java/lang/String" "coder" "B").before a0 Z = true := hw _ (List.mem_of_getElem? (i := 31) rfl)
theorem own_w32 {Z : State} {a0 : Array Value} (hw : ∀ d ∈ tables_1, d.before a0 Z = true) : (Jvm.Cond.soleField "java/lang/String" "value").before a0 Z = true := hw _ (List.mem_of_getElem? (i := 32) rfl)
theorem own_w33 {Z : State} {a0 : Array Value} (hw : ∀ d ∈ tables_1, d.before a0 Z = true) : (Jvm.Cond.soleField "java/lang/String" "coder").before a0 Z = true := hw _ (List.mem_of_getElem? (i := 33) rfl)
theorem own_w34 {Z : State} {a0 : Array Value} (hw : ∀ d ∈ tables_1, d.before a0 Z = true) : (Jvm.Cond.methodLink "com/example/dml_to_locks/dmltolocks/model/ColumnType" (3 : Nat) ({ cls := "java/util/Objects", name := "requireNonNull", desc := "(Ljava/lang/Object;Ljava/lang/String;)Ljava/lang/Object;" } : Jvm.MethodName)).before a0 Z = true := hw _ (List.mem_of_getElem? (i := 34) rfl)
theorem own_w35 {Z : State} {a0 : Array Value} (hw : ∀ d ∈ tables_1, d.before a0 Z = true) : (Jvm.Cond.static ({ cls := "java/util/Objects", name := "requireNonNull", desc := "(Ljava/lang/Object;Ljava/lang/String;)Ljava/lang/Object;" } : Jvm.MethodName)).before a0 Z = true := hw _ (List.mem_of_getElem? (i := 35) rfl)
theorem own_w36 {Z : State} {a0 : Array Value} (hw : ∀ d ∈ tables_1, d.before a0 Z = true) : (Jvm.Cond.initialized "java/util/Objects").before a0 Z = true := hw _ (List.mem_of_getElem? (i := 36) rfl)
theorem own_w37 {Z : State} {a0 : Array Value} (hw : ∀ d ∈ tables_1, d.before a0 Z = true) : (Jvm.Cond.code ({ cls := "java/util/Objects", name := "requireNonNull", desc := "(Ljava/lang/Object;Ljava/lang/String;)Ljava/lang/Object;" } : Jvm.MethodName) jdk_31_method_11_code (2 : Nat) (Option.some (Jvm.ClassFile.FieldType.object "java/lang/Object"))).before a0 Z = true := hw _ (List.mem_of_getElem? (i := 37) rfl)
theorem own_w38 {Z : State} {a0 : Array Value} (hw : ∀ d ∈ tables_1, d.before a0 Z = true) : (Jvm.Cond.fieldRef "com/example/dml_to_locks/dmltolocks/model/ColumnType" (9 : Nat) "com/example/dml_to_locks/dmltolocks/model/ColumnType$Kind" "family" "Lcom/example/dml_to_locks/dmltolocks/model/ColumnType$Family;").before a0 Z = true := hw _ (List.mem_of_getElem? (i := 38) rfl)
theorem own_w40 {Z : State} {a0 : Array Value} (hw : ∀ d ∈ tables_1, d.before a0 Z = true) : (Jvm.Cond.fieldLink "com/example/dml_to_locks/dmltolocks/model/ColumnType$IntegerType" (19 : Nat) "com/example/dml_to_locks/dmltolocks/model/ColumnType$IntegerType" "kind" "Lcom/example/dml_to_locks/dmltolocks/model/ColumnType$Kind;").before a0 Z = true := hw _ (List.mem_of_getElem? (i := 40) rfl)
theorem own_w41 {Z : State} {a0 : Array Value} (hw : ∀ d ∈ tables_1, d.before a0 Z = true) : (Jvm.Cond.laysFinal "com/example/dml_to_locks/dmltolocks/model/ColumnType$IntegerType" "com/example/dml_to_locks/dmltolocks/model/ColumnType$IntegerType" "kind" "Lcom/example/dml_to_locks/dmltolocks/model/ColumnType$Kind;").before a0 Z = true := hw _ (List.mem_of_getElem? (i := 41) rfl)
theorem own_w42 {Z : State} {a0 : Array Value} (hw : ∀ d ∈ tables_1, d.before a0 Z = true) : (Jvm.Cond.fieldLink "com/example/dml_to_locks/dmltolocks/model/ColumnType$IntegerType" (25 : Nat) "com/example/dml_to_locks/dmltolocks/model/ColumnType$IntegerType" "unsigned" "Z").before a0 Z = true := hw _ (List.mem_of_getElem? (i := 42) rfl)
theorem own_w43 {Z : State} {a0 : Array Value} (hw : ∀ d ∈ tables_1, d.before a0 Z = true) : (Jvm.Cond.laysFinal "com/example/dml_to_locks/dmltolocks/model/ColumnType$IntegerType" "com/example/dml_to_locks/dmltolocks/model/ColumnType$IntegerType" "unsigned" "Z").before a0 Z = true := hw _ (List.mem_of_getElem? (i := 43) rfl)
theorem own_w44 {Z : State} {a0 : Array Value} (hw : ∀ d ∈ tables_1, d.before a0 Z = true) : (Jvm.Cond.methodLink "com/example/dml_to_locks/dmltolocks/model/IntegerTypeMinimumPinLaw" (41 : Nat) ({ cls := "com/example/dml_to_locks/dmltolocks/model/ColumnType$IntegerType", name := "minimum", desc := "()J" } : Jvm.MethodName)).before a0 Z = true := hw _ (List.mem_of_getElem? (i := 44) rfl)
theorem own_w45 {Z : State} {a0 : Array Value} (hw : ∀ d ∈ tables_1, d.before a0 Z = true) : (Jvm.Cond.declares ({ cls := "com/example/dml_to_locks/dmltolocks/model/ColumnType$IntegerType", name := "minimum", desc := "()J" } : Jvm.MethodName)).before a0 Z = true := hw _ (List.mem_of_getElem? (i := 45) rfl)
theorem own_w46 {Z : State} {a0 : Array Value} (hw : ∀ d ∈ tables_1, d.before a0 Z = true) : (Jvm.Cond.instanceMethod ({ cls := "com/example/dml_to_locks/dmltolocks/model/ColumnType$IntegerType", name := "minimum", desc := "()J" } : Jvm.MethodName)).before a0 Z = true := hw _ (List.mem_of_getElem? (i := 46) rfl)
theorem own_w47 {Z : State} {a0 : Array Value} (hw : ∀ d ∈ tables_1, d.before a0 Z = true) : (Jvm.Cond.selects "com/example/dml_to_locks/dmltolocks/model/ColumnType$IntegerType" ({ cls := "com/example/dml_to_locks/dmltolocks/model/ColumnType$IntegerType", name := "minimum", desc := "()J" } : Jvm.MethodName) ({ cls := "com/example/dml_to_locks/dmltolocks/model/ColumnType$IntegerType", name := "minimum", desc := "()J" } : Jvm.MethodName)).before a0 Z = true := hw _ (List.mem_of_getElem? (i := 47) rfl)
theorem own_w48 {Z : State} {a0 : Array Value} (hw : ∀ d ∈ tables_1, d.before a0 Z = true) : (Jvm.Cond.code ({ cls := "com/example/dml_to_locks/dmltolocks/model/ColumnType$IntegerType", name := "minimum", desc := "()J" } : Jvm.MethodName) prog_67_method_6_code (1 : Nat) (Option.some Jvm.ClassFile.FieldType.long)).before a0 Z = true := hw _ (List.mem_of_getElem? (i := 48) rfl)
theorem own_w49 {Z : State} {a0 : Array Value} (hw : ∀ d ∈ tables_1, d.before a0 Z = true) : (Jvm.Cond.fieldLink "com/example/dml_to_locks/dmltolocks/model/IntegerTypeMinimumPinLaw" (31 : Nat) "com/example/dml_to_locks/dmltolocks/model/ColumnType$Kind" "BIGINT" "Lcom/example/dml_to_locks/dmltolocks/model/ColumnType$Kind;").before a0 Z = true := hw _ (List.mem_of_getElem? (i := 49) rfl)
theorem own_w50 {Z : State} {a0 : Array Value} (hw : ∀ d ∈ tables_1, d.before a0 Z = true) : (Jvm.Cond.laysStatic "com/example/dml_to_locks/dmltolocks/model/ColumnType$Kind" "BIGINT" "Lcom/example/dml_to_locks/dmltolocks/model/ColumnType$Kind;").before a0 Z = true := hw _ (List.mem_of_getElem? (i := 50) rfl)
theorem own_w51 {Z : State} {a0 : Array Value} (hw : ∀ d ∈ tables_1, d.before a0 Z = true) : (Jvm.Cond.constantLong "com/example/dml_to_locks/dmltolocks/model/IntegerTypeMinimumPinLaw" (34 : Nat) (-9223372036854775808 : Int64)).before a0 Z = true := hw _ (List.mem_of_getElem? (i := 51) rfl)
theorem own_w52 {Z : State} {a0 : Array Value} (hw : ∀ d ∈ tables_1, d.before a0 Z = true) : (Jvm.Cond.fieldLink "com/example/dml_to_locks/dmltolocks/model/IntegerTypeMinimumPinLaw" (26 : Nat) "com/example/dml_to_locks/dmltolocks/model/ColumnType$Kind" "INT" "Lcom/example/dml_to_locks/dmltolocks/model/ColumnType$Kind;").before a0 Z = true := hw _ (List.mem_of_getElem? (i := 52) rfl)
theorem own_w53 {Z : State} {a0 : Array Value} (hw : ∀ d ∈ tables_1, d.before a0 Z = true) : (Jvm.Cond.laysStatic "com/example/dml_to_locks/dmltolocks/model/ColumnType$Kind" "INT" "Lcom/example/dml_to_locks/dmltolocks/model/ColumnType$Kind;").before a0 Z = true := hw _ (List.mem_of_getElem? (i := 53) rfl)
theorem own_w54 {Z : State} {a0 : Array Value} (hw : ∀ d ∈ tables_1, d.before a0 Z = true) : (Jvm.Cond.constantLong "com/example/dml_to_locks/dmltolocks/model/IntegerTypeMinimumPinLaw" (29 : Nat) (-2147483648 : Int64)).before a0 Z = true := hw _ (List.mem_of_getElem? (i := 54) rfl)
theorem own_w55 {Z : State} {a0 : Array Value} (hw : ∀ d ∈ tables_1, d.before a0 Z = true) : (Jvm.Cond.fieldLink "com/example/dml_to_locks/dmltolocks/model/IntegerTypeMinimumPinLaw" (16 : Nat) "com/example/dml_to_locks/dmltolocks/model/ColumnType$Kind" "SMALLINT" "Lcom/example/dml_to_locks/dmltolocks/model/ColumnType$Kind;").before a0 Z = true := hw _ (List.mem_of_getElem? (i := 55) rfl)
theorem own_w56 {Z : State} {a0 : Array Value} (hw : ∀ d ∈ tables_1, d.before a0 Z = true) : (Jvm.Cond.laysStatic "com/example/dml_to_locks/dmltolocks/model/ColumnType$Kind" "SMALLINT" "Lcom/example/dml_to_locks/dmltolocks/model/ColumnType$Kind;").before a0 Z = true := hw _ (List.mem_of_getElem? (i := 56) rfl)
theorem own_w57 {Z : State} {a0 : Array Value} (hw : ∀ d ∈ tables_1, d.before a0 Z = true) : (Jvm.Cond.constantLong "com/example/dml_to_locks/dmltolocks/model/IntegerTypeMinimumPinLaw" (19 : Nat) (-32768 : Int64)).before a0 Z = true := hw _ (List.mem_of_getElem? (i := 57) rfl)
theorem own_w58 {Z : State} {a0 : Array Value} (hw : ∀ d ∈ tables_1, d.before a0 Z = true) : (Jvm.Cond.fieldLinkNest "com/example/dml_to_locks/dmltolocks/model/ColumnType$IntegerType" (106 : Nat) "com/example/dml_to_locks/dmltolocks/model/ColumnType$Kind" "bits" "I" "com/example/dml_to_locks/dmltolocks/model/ColumnType").before a0 Z = true := hw _ (List.mem_of_getElem? (i := 58) rfl)
theorem own_w60 {Z : State} {a0 : Array Value} (hw : ∀ d ∈ tables_1, d.before a0 Z = true) : (Jvm.Cond.fieldLink "com/example/dml_to_locks/dmltolocks/model/IntegerTypeMinimumPinLaw" (21 : Nat) "com/example/dml_to_locks/dmltolocks/model/ColumnType$Kind" "MEDIUMINT" "Lcom/example/dml_to_locks/dmltolocks/model/ColumnType$Kind;").before a0 Z = true := hw _ (List.mem_of_getElem? (i := 60) rfl)
theorem own_w61 {Z : State} {a0 : Array Value} (hw : ∀ d ∈ tables_1, d.before a0 Z = true) : (Jvm.Cond.laysStatic "com/example/dml_to_locks/dmltolocks/model/ColumnType$Kind" "MEDIUMINT" "Lcom/example/dml_to_locks/dmltolocks/model/ColumnType$Kind;").before a0 Z = true := hw _ (List.mem_of_getElem? (i := 61) rfl)
theorem own_w62 {Z : State} {a0 : Array Value} (hw : ∀ d ∈ tables_1, d.before a0 Z = true) : (Jvm.Cond.constantLong "com/example/dml_to_locks/dmltolocks/model/IntegerTypeMinimumPinLaw" (24 : Nat) (-8388608 : Int64)).before a0 Z = true := hw _ (List.mem_of_getElem? (i := 62) rfl)
theorem own_sa {Z : State} {a0 : Array Value} (hw : ∀ d ∈ tables_1, d.before a0 Z = true) : ∀ a ∈ Bundle.stringAtoms, a.before a0 Z = true := by
  intro a ha
  simp only [Bundle.stringAtoms, List.mem_cons, List.not_mem_nil, or_false] at ha
  rcases ha with rfl | rfl | rfl | rfl | rfl | rfl | rfl
  · exact own_w27 hw
  · exact own_w28 hw
  · exact own_w29 hw
  · exact own_w30 hw
  · exact own_w31 hw
  · exact own_w32 hw
  · exact own_w33 hw
/-- what the case says of the statics: A k is the object that the k-th of them holds -/
def own_P (Z : State) (A : Nat → Addr) : Prop :=
  (Sta Z Z.heap "com/example/dml_to_locks/dmltolocks/model/ColumnType$Kind" "TINYINT" "Lcom/example/dml_to_locks/dmltolocks/model/ColumnType$Kind;" (.ref (A 0))) ∧
  (Exa Z Z.heap (A 0) "com/example/dml_to_locks/dmltolocks/model/ColumnType$Kind") ∧
  (Fld Z Z.heap (A 0) "com/example/dml_to_locks/dmltolocks/model/ColumnType$Kind" "family" "Lcom/example/dml_to_locks/dmltolocks/model/ColumnType$Family;" (.ref (A 1))) ∧
  (Fld Z Z.heap (A 0) "com/example/dml_to_locks/dmltolocks/model/ColumnType$Kind" "bits" "I" (.int (8 : Int32))) ∧
  (Sta Z Z.heap "com/example/dml_to_locks/dmltolocks/model/ColumnType$Family" "INTEGER" "Lcom/example/dml_to_locks/dmltolocks/model/ColumnType$Family;" (.ref (A 1))) ∧
  (Exa Z Z.heap (A 1) "com/example/dml_to_locks/dmltolocks/model/ColumnType$Family") ∧
  (Sta Z Z.heap "com/example/dml_to_locks/dmltolocks/model/ColumnType$Kind" "BIGINT" "Lcom/example/dml_to_locks/dmltolocks/model/ColumnType$Kind;" (.ref (A 2))) ∧
  (Exa Z Z.heap (A 2) "com/example/dml_to_locks/dmltolocks/model/ColumnType$Kind") ∧
  (Fld Z Z.heap (A 2) "com/example/dml_to_locks/dmltolocks/model/ColumnType$Kind" "family" "Lcom/example/dml_to_locks/dmltolocks/model/ColumnType$Family;" (.ref (A 1))) ∧
  (Fld Z Z.heap (A 2) "com/example/dml_to_locks/dmltolocks/model/ColumnType$Kind" "bits" "I" (.int (64 : Int32))) ∧
  (Sta Z Z.heap "com/example/dml_to_locks/dmltolocks/model/ColumnType$Kind" "INT" "Lcom/example/dml_to_locks/dmltolocks/model/ColumnType$Kind;" (.ref (A 3))) ∧
  (Exa Z Z.heap (A 3) "com/example/dml_to_locks/dmltolocks/model/ColumnType$Kind") ∧
  (Fld Z Z.heap (A 3) "com/example/dml_to_locks/dmltolocks/model/ColumnType$Kind" "family" "Lcom/example/dml_to_locks/dmltolocks/model/ColumnType$Family;" (.ref (A 1))) ∧
  (Fld Z Z.heap (A 3) "com/example/dml_to_locks/dmltolocks/model/ColumnType$Kind" "bits" "I" (.int (32 : Int32))) ∧
  (Sta Z Z.heap "com/example/dml_to_locks/dmltolocks/model/ColumnType$Kind" "SMALLINT" "Lcom/example/dml_to_locks/dmltolocks/model/ColumnType$Kind;" (.ref (A 4))) ∧
  (Exa Z Z.heap (A 4) "com/example/dml_to_locks/dmltolocks/model/ColumnType$Kind") ∧
  (Fld Z Z.heap (A 4) "com/example/dml_to_locks/dmltolocks/model/ColumnType$Kind" "family" "Lcom/example/dml_to_locks/dmltolocks/model/ColumnType$Family;" (.ref (A 1))) ∧
  (Fld Z Z.heap (A 4) "com/example/dml_to_locks/dmltolocks/model/ColumnType$Kind" "bits" "I" (.int (16 : Int32))) ∧
  (Sta Z Z.heap "com/example/dml_to_locks/dmltolocks/model/ColumnType$Kind" "MEDIUMINT" "Lcom/example/dml_to_locks/dmltolocks/model/ColumnType$Kind;" (.ref (A 5))) ∧
  (Exa Z Z.heap (A 5) "com/example/dml_to_locks/dmltolocks/model/ColumnType$Kind") ∧
  (Fld Z Z.heap (A 5) "com/example/dml_to_locks/dmltolocks/model/ColumnType$Kind" "family" "Lcom/example/dml_to_locks/dmltolocks/model/ColumnType$Family;" (.ref (A 1))) ∧
  (Fld Z Z.heap (A 5) "com/example/dml_to_locks/dmltolocks/model/ColumnType$Kind" "bits" "I" (.int (24 : Int32)))
theorem own_p0 {Z : State} {A : Nat → Addr} (B : own_P Z A) : Sta Z Z.heap "com/example/dml_to_locks/dmltolocks/model/ColumnType$Kind" "TINYINT" "Lcom/example/dml_to_locks/dmltolocks/model/ColumnType$Kind;" (.ref (A 0)) := B.1
theorem own_p1 {Z : State} {A : Nat → Addr} (B : own_P Z A) : Exa Z Z.heap (A 0) "com/example/dml_to_locks/dmltolocks/model/ColumnType$Kind" := B.2.1
theorem own_p2 {Z : State} {A : Nat → Addr} (B : own_P Z A) : Fld Z Z.heap (A 0) "com/example/dml_to_locks/dmltolocks/model/ColumnType$Kind" "family" "Lcom/example/dml_to_locks/dmltolocks/model/ColumnType$Family;" (.ref (A 1)) := B.2.2.1
theorem own_p3 {Z : State} {A : Nat → Addr} (B : own_P Z A) : Fld Z Z.heap (A 0) "com/example/dml_to_locks/dmltolocks/model/ColumnType$Kind" "bits" "I" (.int (8 : Int32)) := B.2.2.2.1
theorem own_p4 {Z : State} {A : Nat → Addr} (B : own_P Z A) : Sta Z Z.heap "com/example/dml_to_locks/dmltolocks/model/ColumnType$Family" "INTEGER" "Lcom/example/dml_to_locks/dmltolocks/model/ColumnType$Family;" (.ref (A 1)) := B.2.2.2.2.1
theorem own_p5 {Z : State} {A : Nat → Addr} (B : own_P Z A) : Exa Z Z.heap (A 1) "com/example/dml_to_locks/dmltolocks/model/ColumnType$Family" := B.2.2.2.2.2.1
theorem own_p6 {Z : State} {A : Nat → Addr} (B : own_P Z A) : Sta Z Z.heap "com/example/dml_to_locks/dmltolocks/model/ColumnType$Kind" "BIGINT" "Lcom/example/dml_to_locks/dmltolocks/model/ColumnType$Kind;" (.ref (A 2)) := B.2.2.2.2.2.2.1
theorem own_p7 {Z : State} {A : Nat → Addr} (B : own_P Z A) : Exa Z Z.heap (A 2) "com/example/dml_to_locks/dmltolocks/model/ColumnType$Kind" := B.2.2.2.2.2.2.2.1
theorem own_p8 {Z : State} {A : Nat → Addr} (B : own_P Z A) : Fld Z Z.heap (A 2) "com/example/dml_to_locks/dmltolocks/model/ColumnType$Kind" "family" "Lcom/example/dml_to_locks/dmltolocks/model/ColumnType$Family;" (.ref (A 1)) := B.2.2.2.2.2.2.2.2.1
theorem own_p9 {Z : State} {A : Nat → Addr} (B : own_P Z A) : Fld Z Z.heap (A 2) "com/example/dml_to_locks/dmltolocks/model/ColumnType$Kind" "bits" "I" (.int (64 : Int32)) := B.2.2.2.2.2.2.2.2.2.1
theorem own_p10 {Z : State} {A : Nat → Addr} (B : own_P Z A) : Sta Z Z.heap "com/example/dml_to_locks/dmltolocks/model/ColumnType$Kind" "INT" "Lcom/example/dml_to_locks/dmltolocks/model/ColumnType$Kind;" (.ref (A 3)) := B.2.2.2.2.2.2.2.2.2.2.1
theorem own_p11 {Z : State} {A : Nat → Addr} (B : own_P Z A) : Exa Z Z.heap (A 3) "com/example/dml_to_locks/dmltolocks/model/ColumnType$Kind" := B.2.2.2.2.2.2.2.2.2.2.2.1
theorem own_p12 {Z : State} {A : Nat → Addr} (B : own_P Z A) : Fld Z Z.heap (A 3) "com/example/dml_to_locks/dmltolocks/model/ColumnType$Kind" "family" "Lcom/example/dml_to_locks/dmltolocks/model/ColumnType$Family;" (.ref (A 1)) := B.2.2.2.2.2.2.2.2.2.2.2.2.1
theorem own_p13 {Z : State} {A : Nat → Addr} (B : own_P Z A) : Fld Z Z.heap (A 3) "com/example/dml_to_locks/dmltolocks/model/ColumnType$Kind" "bits" "I" (.int (32 : Int32)) := B.2.2.2.2.2.2.2.2.2.2.2.2.2.1
theorem own_p14 {Z : State} {A : Nat → Addr} (B : own_P Z A) : Sta Z Z.heap "com/example/dml_to_locks/dmltolocks/model/ColumnType$Kind" "SMALLINT" "Lcom/example/dml_to_locks/dmltolocks/model/ColumnType$Kind;" (.ref (A 4)) := B.2.2.2.2.2.2.2.2.2.2.2.2.2.2.1
theorem own_p15 {Z : State} {A : Nat → Addr} (B : own_P Z A) : Exa Z Z.heap (A 4) "com/example/dml_to_locks/dmltolocks/model/ColumnType$Kind" := B.2.2.2.2.2.2.2.2.2.2.2.2.2.2.2.1
theorem own_p16 {Z : State} {A : Nat → Addr} (B : own_P Z A) : Fld Z Z.heap (A 4) "com/example/dml_to_locks/dmltolocks/model/ColumnType$Kind" "family" "Lcom/example/dml_to_locks/dmltolocks/model/ColumnType$Family;" (.ref (A 1)) := B.2.2.2.2.2.2.2.2.2.2.2.2.2.2.2.2.1
theorem own_p17 {Z : State} {A : Nat → Addr} (B : own_P Z A) : Fld Z Z.heap (A 4) "com/example/dml_to_locks/dmltolocks/model/ColumnType$Kind" "bits" "I" (.int (16 : Int32)) := B.2.2.2.2.2.2.2.2.2.2.2.2.2.2.2.2.2.1
theorem own_p18 {Z : State} {A : Nat → Addr} (B : own_P Z A) : Sta Z Z.heap "com/example/dml_to_locks/dmltolocks/model/ColumnType$Kind" "MEDIUMINT" "Lcom/example/dml_to_locks/dmltolocks/model/ColumnType$Kind;" (.ref (A 5)) := B.2.2.2.2.2.2.2.2.2.2.2.2.2.2.2.2.2.2.1
theorem own_p19 {Z : State} {A : Nat → Addr} (B : own_P Z A) : Exa Z Z.heap (A 5) "com/example/dml_to_locks/dmltolocks/model/ColumnType$Kind" := B.2.2.2.2.2.2.2.2.2.2.2.2.2.2.2.2.2.2.2.1
theorem own_p20 {Z : State} {A : Nat → Addr} (B : own_P Z A) : Fld Z Z.heap (A 5) "com/example/dml_to_locks/dmltolocks/model/ColumnType$Kind" "family" "Lcom/example/dml_to_locks/dmltolocks/model/ColumnType$Family;" (.ref (A 1)) := B.2.2.2.2.2.2.2.2.2.2.2.2.2.2.2.2.2.2.2.2.1
theorem own_p21 {Z : State} {A : Nat → Addr} (B : own_P Z A) : Fld Z Z.heap (A 5) "com/example/dml_to_locks/dmltolocks/model/ColumnType$Kind" "bits" "I" (.int (24 : Int32)) := B.2.2.2.2.2.2.2.2.2.2.2.2.2.2.2.2.2.2.2.2.2
set_option maxRecDepth 65536 in
theorem own_start {s : State} {a0 : Array Value} (hw : ∀ d ∈ tables_1, d.before a0 s = true) (hF : Fit s) (hn : narrow_1.value a0 s none s [] = some true) : ∃ A, own_P s A := by
  obtain ⟨n1, n2⟩ := and_e hn
  obtain ⟨n3, n4⟩ := and_e n2
  obtain ⟨n5, n6⟩ := and_e n4
  obtain ⟨n7, n8⟩ := and_e n6
  obtain ⟨n9, n10⟩ := and_e n8
  obtain ⟨n11, n12⟩ := and_e n10
  obtain ⟨n13, n14⟩ := and_e n12
  obtain ⟨n15, n16⟩ := and_e n14
  obtain ⟨n17, n18⟩ := and_e n16
  obtain ⟨n19, n20⟩ := and_e n18
  obtain ⟨n21, n22⟩ := and_e n20
  obtain ⟨n23, n24⟩ := and_e n22
  obtain ⟨n25, n26⟩ := and_e n24
  obtain ⟨n27, n28⟩ := and_e n26
  obtain ⟨n29, n30⟩ := and_e n28
  obtain ⟨a0, e0⟩ := exa_v n1
  obtain ⟨a1, e1⟩ := exa_v n3
  obtain ⟨a2, e2⟩ := exa_v n7
  obtain ⟨a3, e3⟩ := exa_v n11
  obtain ⟨a4, e4⟩ := exa_v n15
  obtain ⟨a5, e5⟩ := exa_v n21
  exact ⟨fun i => [a0, a1, a2, a3, a4, a5].getD i 0, Sta.start e0 (Or.inr ⟨(own_w2 hw), (own_w3 hw)⟩),
    Exa.start e0 n1,
    Fld.start ((fld_at e0).symm.trans (own_eqR n5 e1)),
    Fld.start ((fld_at e0).symm.trans (own_eqI n29)),
    Sta.start e1 (Or.inr ⟨(own_w20 hw), (own_w21 hw)⟩),
    Exa.start e1 n3,
    Sta.start e2 (Or.inr ⟨(own_w2 hw), (own_w50 hw)⟩),
    Exa.start e2 n7,
    Fld.start ((fld_at e2).symm.trans (own_eqR n9 e1)),
    Fld.start ((fld_at e2).symm.trans (own_eqI n25)),
    Sta.start e3 (Or.inr ⟨(own_w2 hw), (own_w53 hw)⟩),
    Exa.start e3 n11,
    Fld.start ((fld_at e3).symm.trans (own_eqR n13 e1)),
    Fld.start ((fld_at e3).symm.trans (own_eqI n30)),
    Sta.start e4 (Or.inr ⟨(own_w2 hw), (own_w56 hw)⟩),
    Exa.start e4 n15,
    Fld.start ((fld_at e4).symm.trans (own_eqR n17 e1)),
    Fld.start ((fld_at e4).symm.trans (own_eqI n19)),
    Sta.start e5 (Or.inr ⟨(own_w2 hw), (own_w61 hw)⟩),
    Exa.start e5 n21,
    Fld.start ((fld_at e5).symm.trans (own_eqR n23 e1)),
    Fld.start ((fld_at e5).symm.trans (own_eqI n27))⟩
theorem own_and (x : Int32) (k : Nat) (hk : k < 31) : ∃ i : Nat, i < 2 ^ k ∧ x &&& Int32.ofNat (2 ^ k - 1) = Int32.ofNat i := by
  have hp : (2 : Nat) ^ k ≤ 2 ^ 30 := Nat.pow_le_pow_right (by decide) (by omega)
  have hpos : 0 < (2 : Nat) ^ k := Nat.pow_pos (by decide)
  have e1 : (x &&& Int32.ofNat (2 ^ k - 1)).toInt = x.toInt % 2 ^ k := Jvm.Kit.i32_mask x _ (by omega) (by
    show (BitVec.ofNat 32 (2 ^ k - 1)).toNat = _
    rw [BitVec.toNat_ofNat, Nat.mod_eq_of_lt (by omega)])
  have hz : (0 : Int) < 2 ^ k := by exact_mod_cast hpos
  have h1 := Int.emod_nonneg x.toInt (Int.ne_of_gt hz)
  have h2 := Int.emod_lt_of_pos x.toInt hz
  have h3 : ((2 ^ k : Nat) : Int) = 2 ^ k := by simp
  refine ⟨(x.toInt % 2 ^ k).toNat, by omega, ?_⟩
  rw [← Int32.toInt_inj, e1, Int32.toInt_ofNat_small (by omega)]
  omega
theorem own_rem (x : Int32) (n : Nat) (hn : 0 < n) (hn' : n < 2 ^ 31) : ∃ i : Nat, i < n ∧ (x &&& 2147483647) % Int32.ofNat n = Int32.ofNat i := by
  have e1 : (x &&& 2147483647).toInt = x.toInt % 2 ^ 31 := Jvm.Kit.i32_mask x 2147483647 (k := 31) (by decide) (by decide)
  have e2 : (Int32.ofNat n).toInt = n := Int32.toInt_ofNat_small hn'
  have h1 : 0 ≤ x.toInt % 2 ^ 31 := Int.emod_nonneg _ (by decide)
  have hz : (0 : Int) < n := by omega
  have h4 := Int.emod_nonneg (x.toInt % 2 ^ 31) (Int.ne_of_gt hz)
  have h5 := Int.emod_lt_of_pos (x.toInt % 2 ^ 31) hz
  refine ⟨(x.toInt % 2 ^ 31 % n).toNat, by omega, ?_⟩
  rw [← Int32.toInt_inj, Jvm.Kit.i32_rem_nonneg (by omega), e1, e2, Int32.toInt_ofNat_small (by omega)]
  omega
theorem own_rem5 (x : Int32) : (x &&& (2147483647 : Int32)) % (5 : Int32) = (0 : Int32) ∨ (x &&& (2147483647 : Int32)) % (5 : Int32) = (1 : Int32) ∨ (x &&& (2147483647 : Int32)) % (5 : Int32) = (2 : Int32) ∨ (x &&& (2147483647 : Int32)) % (5 : Int32) = (3 : Int32) ∨ (x &&& (2147483647 : Int32)) % (5 : Int32) = (4 : Int32) := by
  obtain ⟨i, hi, q⟩ := own_rem x 5 (by decide) (by decide)
  have hc : i = 0 ∨ i = 1 ∨ i = 2 ∨ i = 3 ∨ i = 4 := by omega
  rcases hc with rfl | rfl | rfl | rfl | rfl
  · exact Or.inl q
  · exact Or.inr (Or.inl q)
  · exact Or.inr (Or.inr (Or.inl q))
  · exact Or.inr (Or.inr (Or.inr (Or.inl q)))
  · exact Or.inr (Or.inr (Or.inr (Or.inr (q))))
set_option maxRecDepth 65536 in
set_option maxHeartbeats 40000000 in
theorem own_c0 (l : Launch) (Z : State) (a0 : Array Value) (hw : ∀ d ∈ tables_1, d.before a0 Z = true) (A : Nat → Addr) (B : own_P Z A) (h0 : Heap) (n0 : Nat) (O : Old Z n0 h0) (a0r : Addr) : own_Met l Z (⟨"java/lang/Record", "<init>", "()V"⟩ : MethodName) jdk_30_method_1_code 1 none [] ({ frames := 1, cells := 0, slots := 0, locals := 12 } : Room) 0 0 #[(.ref a0r)] h0 (own_Q none n0 fun h => h = h0) := by
  refine own_enter own_pn0 (fun m => own_ef0 m a0r) ?_
  intro p e s m below meth c C
  have N := Fr.nil n0
  refine own_aloadN C (pc' := 1) (v := (.ref a0r)) d2_0 rfl rfl rfl ?_
  refine own_mv (pc' := 4) (Ls' := #[.val (.ref a0r)]) (st' := []) (cells' := 0) (slots' := 0) ?_ fun T X eT => initO X C.1 C.2.2.2.2.2.2.1 C.2.2.2.1 (own_w16 hw) (own_w17 hw) (own_w18 hw) eT (g := mkF m 1 #[.val (.ref a0r)] [(.ref a0r)]) rfl ((rfl : (#[.val (.ref a0r)] : Array Slot).size = 1).trans C.2.2.1.symm) rfl (hb C.2.1 d2_1) (by decide) (W := 0) (Nat.le_of_eq rfl) (by decide)
  exact own_retV C d2_4 rfl N (rfl) (by decide) (by decide)
set_option maxRecDepth 65536 in
set_option maxHeartbeats 40000000 in
theorem own_c1 (l : Launch) (Z : State) (a0 : Array Value) (hw : ∀ d ∈ tables_1, d.before a0 Z = true) (A : Nat → Addr) (B : own_P Z A) (h0 : Heap) (n0 : Nat) (O : Old Z n0 h0) (a0p : Addr) (a1p : Addr) : own_Met l Z (⟨"java/util/Objects", "requireNonNull", "(Ljava/lang/Object;Ljava/lang/String;)Ljava/lang/Object;"⟩ : MethodName) jdk_31_method_11_code 2 (some (FieldType.object "java/lang/Object")) [] ({ frames := 0, cells := 0, slots := 0, locals := 0 } : Room) 0 0 #[(.ref a0p), (.ref a1p)] h0 (own_Q (some (.ref a0p)) n0 fun h => h = h0) := by
  refine own_enter own_pn1 (fun m => own_ef1 m a0p a1p) ?_
  intro p e s m below meth c C
  have N := Fr.nil n0
  refine own_aloadN C (pc' := 1) (v := (.ref a0p)) d5_0 rfl rfl rfl ?_
  refine own_ifnonnullY C (pc' := 13) d5_1 (by decide) (by decide) ?_
  refine own_aloadN C (pc' := 14) (v := (.ref a0p)) d5_13 rfl rfl rfl ?_
  exact own_ret C d5_14 rfl (Or.inr (Or.inr (Or.inr (Or.inr ⟨rfl, rfl, rfl⟩)))) rfl N (rfl) (by decide) (by decide)
set_option maxRecDepth 65536 in
set_option maxHeartbeats 40000000 in
theorem own_c2 (l : Launch) (Z : State) (a0 : Array Value) (hw : ∀ d ∈ tables_1, d.before a0 Z = true) (A : Nat → Addr) (B : own_P Z A) (h0 : Heap) (n0 : Nat) (O : Old Z n0 h0) (a0p : Addr) (a1p : Addr) (F_a0p_family : Fld Z h0 a0p "com/example/dml_to_locks/dmltolocks/model/ColumnType$Kind" "family" "Lcom/example/dml_to_locks/dmltolocks/model/ColumnType$Family;" (.ref (A 1))) (hq1 : ((.ref (A 1)) : Value) = (.ref a1p)) : own_MetW l Z (⟨"com/example/dml_to_locks/dmltolocks/model/ColumnType", "requireFamily", "(Lcom/example/dml_to_locks/dmltolocks/model/ColumnType$Kind;Lcom/example/dml_to_locks/dmltolocks/model/ColumnType$Family;)V"⟩ : MethodName) prog_62_method_9_code 2 none [] ({ frames := 1, cells := 2, slots := 20, locals := 13 } : Room) 2 20 #[(.ref a0p), (.ref a1p)] h0 (own_Q none n0 fun h => Ext h0 h) := by
  refine own_enterW own_pn2 (fun m => own_ef1 m a0p a1p) ?_
  intro p e s m below meth c C
  have N := Fr.nil n0
  have H := own_W.start s h0.size
  have X : Ext h0 h0 := ⟨Nat.le_refl _, fun _ _ q => q⟩
  refine own_aloadN C (pc' := 1) (v := (.ref a0p)) d4_0 rfl rfl rfl ?_
  refine own_ldcS C H (pc' := 3) (n := 16) (own_w26 hw) (own_sa hw) d4_1 rfl (by decide) (by decide) (by decide) (by decide) rfl rfl ?_
  intro s h1 t1 C H Et1
  have O := O.ext Et1
  have X := own_extTrans X Et1
  refine own_callS C (pc' := 6) (W := 0) (argsL := [(.ref a0p), (.ref t1)]) (rest := []) (st' := [(.ref a0p)]) (cells' := 2) (slots' := 20) (own_w34 hw) (own_w35 hw) (own_w36 hw) (own_w37 hw) (by decide) (own_c1 l Z a0 hw A B h1 n0 O a0p t1) (by decide) (by decide) (lenOf own_pd1 rfl) rfl (Nat.le_of_eq rfl) rfl d4_3 rfl (by decide) (by decide) rfl rfl rfl N (own_pure fun locs N => ?_)
  refine own_pop C (pc' := 7) d4_6 rfl rfl ?_
  refine own_aloadN C (pc' := 8) (v := (.ref a0p)) d4_7 rfl rfl rfl ?_
  have F_a0p_family := Fld.ext Et1 F_a0p_family
  refine own_getR C (pc' := 11) (own_w38 hw) F_a0p_family d4_8 rfl ?_
  refine own_aloadN C (pc' := 12) (v := (.ref a1p)) d4_11 rfl rfl rfl ?_
  refine own_acmp C (pc' := 36) (same := true) d4_12 rfl rfl (decide_eq_true hq1) (by decide) (by decide) ?_
  exact own_retVW C H d4_36 rfl N (X) (by decide) (by decide)
set_option maxRecDepth 65536 in
set_option maxHeartbeats 40000000 in
theorem own_c3 (l : Launch) (Z : State) (a0 : Array Value) (hw : ∀ d ∈ tables_1, d.before a0 Z = true) (A : Nat → Addr) (B : own_P Z A) (h0 : Heap) (n0 : Nat) (O : Old Z n0 h0) (a0r : Addr) (a0p : Addr) (F_a0r_kind : Fld Z h0 a0r "com/example/dml_to_locks/dmltolocks/model/ColumnType$IntegerType" "kind" "Lcom/example/dml_to_locks/dmltolocks/model/ColumnType$Kind;" .null) (E_a0r : Exa Z h0 a0r "com/example/dml_to_locks/dmltolocks/model/ColumnType$IntegerType") (F_a0r_unsigned : Fld Z h0 a0r "com/example/dml_to_locks/dmltolocks/model/ColumnType$IntegerType" "unsigned" "Z" (.int (0 : Int32))) (F_a0p_family : Fld Z h0 a0p "com/example/dml_to_locks/dmltolocks/model/ColumnType$Kind" "family" "Lcom/example/dml_to_locks/dmltolocks/model/ColumnType$Family;" (.ref (A 1))) (g_a0r : n0 ≤ a0r) : own_MetW l Z (⟨"com/example/dml_to_locks/dmltolocks/model/ColumnType$IntegerType", "<init>", "(Lcom/example/dml_to_locks/dmltolocks/model/ColumnType$Kind;Z)V"⟩ : MethodName) prog_67_method_1_code 3 none [] ({ frames := 2, cells := 2, slots := 20, locals := 26 } : Room) 2 20 #[(.ref a0r), (.ref a0p), (.int (0 : Int32))] h0 (own_Q none n0 fun h => Keep h0 h [a0r] ∧ Exa Z h a0r "com/example/dml_to_locks/dmltolocks/model/ColumnType$IntegerType" ∧ Fld Z h a0r "com/example/dml_to_locks/dmltolocks/model/ColumnType$IntegerType" "kind" "Lcom/example/dml_to_locks/dmltolocks/model/ColumnType$Kind;" (.ref a0p) ∧ Fld Z h a0r "com/example/dml_to_locks/dmltolocks/model/ColumnType$IntegerType" "unsigned" "Z" (.int (0 : Int32))) := by
  refine own_enterW own_pn3 (fun m => own_ef2 m a0r a0p (0 : Int32)) ?_
  intro p e s m below meth c C
  have N := Fr.nil n0
  have H := own_W.start s h0.size
  have X : Keep h0 h0 [a0r] := Keep.refl _ _
  refine own_aloadN C (pc' := 1) (v := (.ref a0r)) d1_0 rfl rfl rfl ?_
  refine own_callI C (pc' := 4) (W := 0) (argsL := []) (rest := []) (st' := []) (cells' := 0) (slots' := 0) rfl (own_w11 hw) (own_w12 hw) (own_w14 hw) (own_w15 hw) (by decide) (own_c0 l Z a0 hw A B h0 n0 O a0r) (by decide) (by decide) (lenOf own_pd0 rfl) rfl (Nat.le_of_eq rfl) rfl d1_1 rfl (by decide) (by decide) rfl rfl rfl N (own_pure fun locs N => ?_)
  refine own_aloadN C (pc' := 5) (v := (.ref a0p)) d1_4 rfl rfl rfl ?_
  refine own_getS C (pc' := 8) (own_w19 hw) (Sta.ext O.2 (own_p4 B)) d1_5 rfl ?_
  refine own_callSNW C H (pc' := 11) (W := 0) (argsL := [(.ref a0p), (.ref (A 1))]) (rest := []) (st' := []) (cells' := 2) (slots' := 20) (own_w22 hw) (own_w23 hw) (own_w24 hw) (own_w25 hw) (by decide) (own_c2 l Z a0 hw A B h0 n0 O a0p (A 1) F_a0p_family rfl) (by decide) (by decide) (lenOf own_pd2 rfl) rfl (Nat.le_of_eq rfl) rfl d1_8 rfl (by decide) (by decide) rfl rfl rfl N ?_
  intro s h1 locs C H hD N
  have Eh1 := hD
  have O := O.ext Eh1
  have F_a0r_kind := Fld.ext Eh1 F_a0r_kind
  have E_a0r := Exa.ext Eh1 E_a0r
  have F_a0r_unsigned := Fld.ext Eh1 F_a0r_unsigned
  have F_a0p_family := Fld.ext Eh1 F_a0p_family
  have X := X.ext Eh1
  refine own_aloadN C (pc' := 12) (v := (.ref a0r)) d1_11 rfl rfl rfl ?_
  refine own_aloadN C (pc' := 13) (v := (.ref a0p)) d1_12 rfl rfl rfl ?_
  refine own_putF C (pc' := 16) (v' := (.ref a0p)) (ty := (.object "com/example/dml_to_locks/dmltolocks/model/ColumnType$Kind")) (own_w40 hw) F_a0r_kind E_a0r (Or.inr ⟨(own_w41 hw), rfl, rfl⟩) (own_w6 hw) (by decide) rfl rfl d1_13 rfl N g_a0r ?_
  intro h2 locs Wh2 N
  have O := O.wr Wh2 g_a0r
  have F_a0r_kind := Fld.same Wh2 F_a0r_kind
  have E_a0r := Exa.wr Wh2 E_a0r
  have F_a0r_unsigned := Fld.other Wh2 F_a0r_unsigned (Or.inr (slot_ne (a0 := a0) (C := "com/example/dml_to_locks/dmltolocks/model/ColumnType$IntegerType") (Or.inr (own_w43 hw)) (Or.inr (own_w41 hw)) (by decide) (t := .boolean) (t' := (.object "com/example/dml_to_locks/dmltolocks/model/ColumnType$Kind")) (by decide) (by decide)))
  have X := X.wr Wh2 (Or.inl (List.mem_singleton.mpr rfl))
  have H := own_W.mono H (Nat.le_of_eq Wh2.size.symm)
  refine own_aloadN C (pc' := 17) (v := (.ref a0r)) d1_16 rfl rfl rfl ?_
  refine own_iloadN C (pc' := 18) (v := (0 : Int32)) d1_17 rfl rfl ?_
  refine own_putF C (pc' := 21) (v' := (.int (0 : Int32))) (ty := .boolean) (own_w42 hw) F_a0r_unsigned E_a0r (Or.inr ⟨(own_w43 hw), rfl, rfl⟩) (own_w6 hw) (by decide) rfl rfl d1_18 rfl N g_a0r ?_
  intro h3 locs Wh3 N
  have O := O.wr Wh3 g_a0r
  have F_a0r_kind := Fld.other Wh3 F_a0r_kind (Or.inr (slot_ne (a0 := a0) (C := "com/example/dml_to_locks/dmltolocks/model/ColumnType$IntegerType") (Or.inr (own_w41 hw)) (Or.inr (own_w43 hw)) (by decide) (t := (.object "com/example/dml_to_locks/dmltolocks/model/ColumnType$Kind")) (t' := .boolean) (by decide) (by decide)))
  have E_a0r := Exa.wr Wh3 E_a0r
  have F_a0r_unsigned := Fld.same Wh3 F_a0r_unsigned
  have X := X.wr Wh3 (Or.inl (List.mem_singleton.mpr rfl))
  have H := own_W.mono H (Nat.le_of_eq Wh3.size.symm)
  exact own_retVW C H d1_21 rfl N (⟨X, E_a0r, F_a0r_kind, F_a0r_unsigned⟩) (by decide) (by decide)
set_option maxRecDepth 65536 in
set_option maxHeartbeats 40000000 in
theorem own_c4 (l : Launch) (Z : State) (a0 : Array Value) (hw : ∀ d ∈ tables_1, d.before a0 Z = true) (A : Nat → Addr) (B : own_P Z A) (h0 : Heap) (n0 : Nat) (O : Old Z n0 h0) (a0r : Addr) (F_a0r_unsigned : Fld Z h0 a0r "com/example/dml_to_locks/dmltolocks/model/ColumnType$IntegerType" "unsigned" "Z" (.int (0 : Int32))) (F_a0r_kind : Fld Z h0 a0r "com/example/dml_to_locks/dmltolocks/model/ColumnType$IntegerType" "kind" "Lcom/example/dml_to_locks/dmltolocks/model/ColumnType$Kind;" (.ref (A 0))) : own_Met l Z (⟨"com/example/dml_to_locks/dmltolocks/model/ColumnType$IntegerType", "minimum", "()J"⟩ : MethodName) prog_67_method_6_code 1 (some FieldType.long) [] ({ frames := 0, cells := 0, slots := 0, locals := 0 } : Room) 0 0 #[(.ref a0r)] h0 (own_Q (some (.long (-128 : Int64))) n0 fun h => h = h0) := by
  refine own_enter own_pn3 (fun m => own_ef0 m a0r) ?_
  intro p e s m below meth c C
  have N := Fr.nil n0
  refine own_aloadN C (pc' := 1) (v := (.ref a0r)) d6_0 rfl rfl rfl ?_
  refine own_getF C (pc' := 4) (host := "") (Or.inl (own_w42 hw)) F_a0r_unsigned d6_1 rfl ?_
  refine own_ifY C (pc' := 11) d6_4 (XT.i0_eq_t (by decide)) (by decide) (by decide) ?_
  refine own_lconst C (pc' := 12) (v := (1 : Int64)) d6_11 rfl rfl ?_
  refine own_aloadN C (pc' := 13) (v := (.ref a0r)) d6_12 rfl rfl rfl ?_
  refine own_getF C (pc' := 16) (host := "") (Or.inl (own_w40 hw)) F_a0r_kind d6_13 rfl ?_
  refine own_getF C (pc' := 19) (Or.inr (own_w58 hw)) (Fld.ext O.2 (own_p3 B)) d6_16 rfl ?_
  refine own_iconst C (pc' := 20) (v := (1 : Int32)) d6_19 rfl rfl ?_
  refine own_isub C (pc' := 21) (z := (7 : Int32)) d6_20 (by decide) rfl ?_
  refine own_lshl C (pc' := 22) (z := (128 : Int64)) d6_21 (by decide) rfl ?_
  refine own_lneg C (pc' := 23) (z := (-128 : Int64)) d6_22 (by decide) rfl ?_
  exact own_ret C d6_23 rfl (Or.inr (Or.inl ⟨rfl, rfl, _, rfl⟩)) rfl N (rfl) (by decide) (by decide)
set_option maxRecDepth 65536 in
set_option maxHeartbeats 40000000 in
theorem own_c5 (l : Launch) (Z : State) (a0 : Array Value) (hw : ∀ d ∈ tables_1, d.before a0 Z = true) (A : Nat → Addr) (B : own_P Z A) (h0 : Heap) (n0 : Nat) (O : Old Z n0 h0) (a0r : Addr) (a0p : Addr) (F_a0r_kind : Fld Z h0 a0r "com/example/dml_to_locks/dmltolocks/model/ColumnType$IntegerType" "kind" "Lcom/example/dml_to_locks/dmltolocks/model/ColumnType$Kind;" .null) (E_a0r : Exa Z h0 a0r "com/example/dml_to_locks/dmltolocks/model/ColumnType$IntegerType") (F_a0r_unsigned : Fld Z h0 a0r "com/example/dml_to_locks/dmltolocks/model/ColumnType$IntegerType" "unsigned" "Z" (.int (0 : Int32))) (F_a0p_family : Fld Z h0 a0p "com/example/dml_to_locks/dmltolocks/model/ColumnType$Kind" "family" "Lcom/example/dml_to_locks/dmltolocks/model/ColumnType$Family;" (.ref (A 1))) (g_a0r : n0 ≤ a0r) : own_MetW l Z (⟨"com/example/dml_to_locks/dmltolocks/model/ColumnType$IntegerType", "<init>", "(Lcom/example/dml_to_locks/dmltolocks/model/ColumnType$Kind;Z)V"⟩ : MethodName) prog_67_method_1_code 3 none [] ({ frames := 2, cells := 2, slots := 20, locals := 26 } : Room) 2 20 #[(.ref a0r), (.ref a0p), (.int (1 : Int32))] h0 (own_Q none n0 fun h => Keep h0 h [a0r] ∧ Exa Z h a0r "com/example/dml_to_locks/dmltolocks/model/ColumnType$IntegerType" ∧ Fld Z h a0r "com/example/dml_to_locks/dmltolocks/model/ColumnType$IntegerType" "kind" "Lcom/example/dml_to_locks/dmltolocks/model/ColumnType$Kind;" (.ref a0p) ∧ Fld Z h a0r "com/example/dml_to_locks/dmltolocks/model/ColumnType$IntegerType" "unsigned" "Z" (.int (1 : Int32))) := by
  refine own_enterW own_pn3 (fun m => own_ef2 m a0r a0p (1 : Int32)) ?_
  intro p e s m below meth c C
  have N := Fr.nil n0
  have H := own_W.start s h0.size
  have X : Keep h0 h0 [a0r] := Keep.refl _ _
  refine own_aloadN C (pc' := 1) (v := (.ref a0r)) d1_0 rfl rfl rfl ?_
  refine own_callI C (pc' := 4) (W := 0) (argsL := []) (rest := []) (st' := []) (cells' := 0) (slots' := 0) rfl (own_w11 hw) (own_w12 hw) (own_w14 hw) (own_w15 hw) (by decide) (own_c0 l Z a0 hw A B h0 n0 O a0r) (by decide) (by decide) (lenOf own_pd0 rfl) rfl (Nat.le_of_eq rfl) rfl d1_1 rfl (by decide) (by decide) rfl rfl rfl N (own_pure fun locs N => ?_)
  refine own_aloadN C (pc' := 5) (v := (.ref a0p)) d1_4 rfl rfl rfl ?_
  refine own_getS C (pc' := 8) (own_w19 hw) (Sta.ext O.2 (own_p4 B)) d1_5 rfl ?_
  refine own_callSNW C H (pc' := 11) (W := 0) (argsL := [(.ref a0p), (.ref (A 1))]) (rest := []) (st' := []) (cells' := 2) (slots' := 20) (own_w22 hw) (own_w23 hw) (own_w24 hw) (own_w25 hw) (by decide) (own_c2 l Z a0 hw A B h0 n0 O a0p (A 1) F_a0p_family rfl) (by decide) (by decide) (lenOf own_pd2 rfl) rfl (Nat.le_of_eq rfl) rfl d1_8 rfl (by decide) (by decide) rfl rfl rfl N ?_
  intro s h1 locs C H hD N
  have Eh1 := hD
  have O := O.ext Eh1
  have F_a0r_kind := Fld.ext Eh1 F_a0r_kind
  have E_a0r := Exa.ext Eh1 E_a0r
  have F_a0r_unsigned := Fld.ext Eh1 F_a0r_unsigned
  have F_a0p_family := Fld.ext Eh1 F_a0p_family
  have X := X.ext Eh1
  refine own_aloadN C (pc' := 12) (v := (.ref a0r)) d1_11 rfl rfl rfl ?_
  refine own_aloadN C (pc' := 13) (v := (.ref a0p)) d1_12 rfl rfl rfl ?_
  refine own_putF C (pc' := 16) (v' := (.ref a0p)) (ty := (.object "com/example/dml_to_locks/dmltolocks/model/ColumnType$Kind")) (own_w40 hw) F_a0r_kind E_a0r (Or.inr ⟨(own_w41 hw), rfl, rfl⟩) (own_w6 hw) (by decide) rfl rfl d1_13 rfl N g_a0r ?_
  intro h2 locs Wh2 N
  have O := O.wr Wh2 g_a0r
  have F_a0r_kind := Fld.same Wh2 F_a0r_kind
  have E_a0r := Exa.wr Wh2 E_a0r
  have F_a0r_unsigned := Fld.other Wh2 F_a0r_unsigned (Or.inr (slot_ne (a0 := a0) (C := "com/example/dml_to_locks/dmltolocks/model/ColumnType$IntegerType") (Or.inr (own_w43 hw)) (Or.inr (own_w41 hw)) (by decide) (t := .boolean) (t' := (.object "com/example/dml_to_locks/dmltolocks/model/ColumnType$Kind")) (by decide) (by decide)))
  have X := X.wr Wh2 (Or.inl (List.mem_singleton.mpr rfl))
  have H := own_W.mono H (Nat.le_of_eq Wh2.size.symm)
  refine own_aloadN C (pc' := 17) (v := (.ref a0r)) d1_16 rfl rfl rfl ?_
  refine own_iloadN C (pc' := 18) (v := (1 : Int32)) d1_17 rfl rfl ?_
  refine own_putF C (pc' := 21) (v' := (.int (1 : Int32))) (ty := .boolean) (own_w42 hw) F_a0r_unsigned E_a0r (Or.inr ⟨(own_w43 hw), rfl, rfl⟩) (own_w6 hw) (by decide) rfl rfl d1_18 rfl N g_a0r ?_
  intro h3 locs Wh3 N
  have O := O.wr Wh3 g_a0r
  have F_a0r_kind := Fld.other Wh3 F_a0r_kind (Or.inr (slot_ne (a0 := a0) (C := "com/example/dml_to_locks/dmltolocks/model/ColumnType$IntegerType") (Or.inr (own_w41 hw)) (Or.inr (own_w43 hw)) (by decide) (t := (.object "com/example/dml_to_locks/dmltolocks/model/ColumnType$Kind")) (t' := .boolean) (by decide) (by decide)))
  have E_a0r := Exa.wr Wh3 E_a0r
  have F_a0r_unsigned := Fld.same Wh3 F_a0r_unsigned
  have X := X.wr Wh3 (Or.inl (List.mem_singleton.mpr rfl))
  have H := own_W.mono H (Nat.le_of_eq Wh3.size.symm)
  exact own_retVW C H d1_21 rfl N (⟨X, E_a0r, F_a0r_kind, F_a0r_unsigned⟩) (by decide) (by decide)
set_option maxRecDepth 65536 in
set_option maxHeartbeats 40000000 in
theorem own_c6 (l : Launch) (Z : State) (a0 : Array Value) (hw : ∀ d ∈ tables_1, d.before a0 Z = true) (A : Nat → Addr) (B : own_P Z A) (h0 : Heap) (n0 : Nat) (O : Old Z n0 h0) (a0r : Addr) (F_a0r_unsigned : Fld Z h0 a0r "com/example/dml_to_locks/dmltolocks/model/ColumnType$IntegerType" "unsigned" "Z" (.int (1 : Int32))) : own_Met l Z (⟨"com/example/dml_to_locks/dmltolocks/model/ColumnType$IntegerType", "minimum", "()J"⟩ : MethodName) prog_67_method_6_code 1 (some FieldType.long) [] ({ frames := 0, cells := 0, slots := 0, locals := 0 } : Room) 0 0 #[(.ref a0r)] h0 (own_Q (some (.long (0 : Int64))) n0 fun h => h = h0) := by
  refine own_enter own_pn3 (fun m => own_ef0 m a0r) ?_
  intro p e s m below meth c C
  have N := Fr.nil n0
  refine own_aloadN C (pc' := 1) (v := (.ref a0r)) d6_0 rfl rfl rfl ?_
  refine own_getF C (pc' := 4) (host := "") (Or.inl (own_w42 hw)) F_a0r_unsigned d6_1 rfl ?_
  refine own_ifN C (pc' := 7) d6_4 (XT.i0_eq_f (by decide)) rfl ?_
  refine own_lconst C (pc' := 8) (v := (0 : Int64)) d6_7 rfl rfl ?_
  refine own_goto C (pc' := 23) d6_8 (by decide) (by decide) ?_
  exact own_ret C d6_23 rfl (Or.inr (Or.inl ⟨rfl, rfl, _, rfl⟩)) rfl N (rfl) (by decide) (by decide)
set_option maxRecDepth 65536 in
set_option maxHeartbeats 40000000 in
theorem own_c7 (l : Launch) (Z : State) (a0 : Array Value) (hw : ∀ d ∈ tables_1, d.before a0 Z = true) (A : Nat → Addr) (B : own_P Z A) (h0 : Heap) (n0 : Nat) (O : Old Z n0 h0) (a0r : Addr) (F_a0r_unsigned : Fld Z h0 a0r "com/example/dml_to_locks/dmltolocks/model/ColumnType$IntegerType" "unsigned" "Z" (.int (0 : Int32))) (F_a0r_kind : Fld Z h0 a0r "com/example/dml_to_locks/dmltolocks/model/ColumnType$IntegerType" "kind" "Lcom/example/dml_to_locks/dmltolocks/model/ColumnType$Kind;" (.ref (A 4))) : own_Met l Z (⟨"com/example/dml_to_locks/dmltolocks/model/ColumnType$IntegerType", "minimum", "()J"⟩ : MethodName) prog_67_method_6_code 1 (some FieldType.long) [] ({ frames := 0, cells := 0, slots := 0, locals := 0 } : Room) 0 0 #[(.ref a0r)] h0 (own_Q (some (.long (-32768 : Int64))) n0 fun h => h = h0) := by
  refine own_enter own_pn3 (fun m => own_ef0 m a0r) ?_
  intro p e s m below meth c C
  have N := Fr.nil n0
  refine own_aloadN C (pc' := 1) (v := (.ref a0r)) d6_0 rfl rfl rfl ?_
  refine own_getF C (pc' := 4) (host := "") (Or.inl (own_w42 hw)) F_a0r_unsigned d6_1 rfl ?_
  refine own_ifY C (pc' := 11) d6_4 (XT.i0_eq_t (by decide)) (by decide) (by decide) ?_
  refine own_lconst C (pc' := 12) (v := (1 : Int64)) d6_11 rfl rfl ?_
  refine own_aloadN C (pc' := 13) (v := (.ref a0r)) d6_12 rfl rfl rfl ?_
  refine own_getF C (pc' := 16) (host := "") (Or.inl (own_w40 hw)) F_a0r_kind d6_13 rfl ?_
  refine own_getF C (pc' := 19) (Or.inr (own_w58 hw)) (Fld.ext O.2 (own_p17 B)) d6_16 rfl ?_
  refine own_iconst C (pc' := 20) (v := (1 : Int32)) d6_19 rfl rfl ?_
  refine own_isub C (pc' := 21) (z := (15 : Int32)) d6_20 (by decide) rfl ?_
  refine own_lshl C (pc' := 22) (z := (32768 : Int64)) d6_21 (by decide) rfl ?_
  refine own_lneg C (pc' := 23) (z := (-32768 : Int64)) d6_22 (by decide) rfl ?_
  exact own_ret C d6_23 rfl (Or.inr (Or.inl ⟨rfl, rfl, _, rfl⟩)) rfl N (rfl) (by decide) (by decide)
set_option maxRecDepth 65536 in
set_option maxHeartbeats 40000000 in
theorem own_c8 (l : Launch) (Z : State) (a0 : Array Value) (hw : ∀ d ∈ tables_1, d.before a0 Z = true) (A : Nat → Addr) (B : own_P Z A) (h0 : Heap) (n0 : Nat) (O : Old Z n0 h0) (a0r : Addr) (F_a0r_unsigned : Fld Z h0 a0r "com/example/dml_to_locks/dmltolocks/model/ColumnType$IntegerType" "unsigned" "Z" (.int (0 : Int32))) (F_a0r_kind : Fld Z h0 a0r "com/example/dml_to_locks/dmltolocks/model/ColumnType$IntegerType" "kind" "Lcom/example/dml_to_locks/dmltolocks/model/ColumnType$Kind;" (.ref (A 5))) : own_Met l Z (⟨"com/example/dml_to_locks/dmltolocks/model/ColumnType$IntegerType", "minimum", "()J"⟩ : MethodName) prog_67_method_6_code 1 (some FieldType.long) [] ({ frames := 0, cells := 0, slots := 0, locals := 0 } : Room) 0 0 #[(.ref a0r)] h0 (own_Q (some (.long (-8388608 : Int64))) n0 fun h => h = h0) := by
  refine own_enter own_pn3 (fun m => own_ef0 m a0r) ?_
  intro p e s m below meth c C
  have N := Fr.nil n0
  refine own_aloadN C (pc' := 1) (v := (.ref a0r)) d6_0 rfl rfl rfl ?_
  refine own_getF C (pc' := 4) (host := "") (Or.inl (own_w42 hw)) F_a0r_unsigned d6_1 rfl ?_
  refine own_ifY C (pc' := 11) d6_4 (XT.i0_eq_t (by decide)) (by decide) (by decide) ?_
  refine own_lconst C (pc' := 12) (v := (1 : Int64)) d6_11 rfl rfl ?_
  refine own_aloadN C (pc' := 13) (v := (.ref a0r)) d6_12 rfl rfl rfl ?_
  refine own_getF C (pc' := 16) (host := "") (Or.inl (own_w40 hw)) F_a0r_kind d6_13 rfl ?_
  refine own_getF C (pc' := 19) (Or.inr (own_w58 hw)) (Fld.ext O.2 (own_p21 B)) d6_16 rfl ?_
  refine own_iconst C (pc' := 20) (v := (1 : Int32)) d6_19 rfl rfl ?_
  refine own_isub C (pc' := 21) (z := (23 : Int32)) d6_20 (by decide) rfl ?_
  refine own_lshl C (pc' := 22) (z := (8388608 : Int64)) d6_21 (by decide) rfl ?_
  refine own_lneg C (pc' := 23) (z := (-8388608 : Int64)) d6_22 (by decide) rfl ?_
  exact own_ret C d6_23 rfl (Or.inr (Or.inl ⟨rfl, rfl, _, rfl⟩)) rfl N (rfl) (by decide) (by decide)
set_option maxRecDepth 65536 in
set_option maxHeartbeats 40000000 in
theorem own_c9 (l : Launch) (Z : State) (a0 : Array Value) (hw : ∀ d ∈ tables_1, d.before a0 Z = true) (A : Nat → Addr) (B : own_P Z A) (h0 : Heap) (n0 : Nat) (O : Old Z n0 h0) (a0r : Addr) (F_a0r_unsigned : Fld Z h0 a0r "com/example/dml_to_locks/dmltolocks/model/ColumnType$IntegerType" "unsigned" "Z" (.int (0 : Int32))) (F_a0r_kind : Fld Z h0 a0r "com/example/dml_to_locks/dmltolocks/model/ColumnType$IntegerType" "kind" "Lcom/example/dml_to_locks/dmltolocks/model/ColumnType$Kind;" (.ref (A 3))) : own_Met l Z (⟨"com/example/dml_to_locks/dmltolocks/model/ColumnType$IntegerType", "minimum", "()J"⟩ : MethodName) prog_67_method_6_code 1 (some FieldType.long) [] ({ frames := 0, cells := 0, slots := 0, locals := 0 } : Room) 0 0 #[(.ref a0r)] h0 (own_Q (some (.long (-2147483648 : Int64))) n0 fun h => h = h0) := by
  refine own_enter own_pn3 (fun m => own_ef0 m a0r) ?_
  intro p e s m below meth c C
  have N := Fr.nil n0
  refine own_aloadN C (pc' := 1) (v := (.ref a0r)) d6_0 rfl rfl rfl ?_
  refine own_getF C (pc' := 4) (host := "") (Or.inl (own_w42 hw)) F_a0r_unsigned d6_1 rfl ?_
  refine own_ifY C (pc' := 11) d6_4 (XT.i0_eq_t (by decide)) (by decide) (by decide) ?_
  refine own_lconst C (pc' := 12) (v := (1 : Int64)) d6_11 rfl rfl ?_
  refine own_aloadN C (pc' := 13) (v := (.ref a0r)) d6_12 rfl rfl rfl ?_
  refine own_getF C (pc' := 16) (host := "") (Or.inl (own_w40 hw)) F_a0r_kind d6_13 rfl ?_
  refine own_getF C (pc' := 19) (Or.inr (own_w58 hw)) (Fld.ext O.2 (own_p13 B)) d6_16 rfl ?_
  refine own_iconst C (pc' := 20) (v := (1 : Int32)) d6_19 rfl rfl ?_
  refine own_isub C (pc' := 21) (z := (31 : Int32)) d6_20 (by decide) rfl ?_
  refine own_lshl C (pc' := 22) (z := (2147483648 : Int64)) d6_21 (by decide) rfl ?_
  refine own_lneg C (pc' := 23) (z := (-2147483648 : Int64)) d6_22 (by decide) rfl ?_
  exact own_ret C d6_23 rfl (Or.inr (Or.inl ⟨rfl, rfl, _, rfl⟩)) rfl N (rfl) (by decide) (by decide)
set_option maxRecDepth 65536 in
set_option maxHeartbeats 40000000 in
theorem own_c10 (l : Launch) (Z : State) (a0 : Array Value) (hw : ∀ d ∈ tables_1, d.before a0 Z = true) (A : Nat → Addr) (B : own_P Z A) (h0 : Heap) (n0 : Nat) (O : Old Z n0 h0) (a0r : Addr) (F_a0r_unsigned : Fld Z h0 a0r "com/example/dml_to_locks/dmltolocks/model/ColumnType$IntegerType" "unsigned" "Z" (.int (0 : Int32))) (F_a0r_kind : Fld Z h0 a0r "com/example/dml_to_locks/dmltolocks/model/ColumnType$IntegerType" "kind" "Lcom/example/dml_to_locks/dmltolocks/model/ColumnType$Kind;" (.ref (A 2))) : own_Met l Z (⟨"com/example/dml_to_locks/dmltolocks/model/ColumnType$IntegerType", "minimum", "()J"⟩ : MethodName) prog_67_method_6_code 1 (some FieldType.long) [] ({ frames := 0, cells := 0, slots := 0, locals := 0 } : Room) 0 0 #[(.ref a0r)] h0 (own_Q (some (.long (-9223372036854775808 : Int64))) n0 fun h => h = h0) := by
  refine own_enter own_pn3 (fun m => own_ef0 m a0r) ?_
  intro p e s m below meth c C
  have N := Fr.nil n0
  refine own_aloadN C (pc' := 1) (v := (.ref a0r)) d6_0 rfl rfl rfl ?_
  refine own_getF C (pc' := 4) (host := "") (Or.inl (own_w42 hw)) F_a0r_unsigned d6_1 rfl ?_
  refine own_ifY C (pc' := 11) d6_4 (XT.i0_eq_t (by decide)) (by decide) (by decide) ?_
  refine own_lconst C (pc' := 12) (v := (1 : Int64)) d6_11 rfl rfl ?_
  refine own_aloadN C (pc' := 13) (v := (.ref a0r)) d6_12 rfl rfl rfl ?_
  refine own_getF C (pc' := 16) (host := "") (Or.inl (own_w40 hw)) F_a0r_kind d6_13 rfl ?_
  refine own_getF C (pc' := 19) (Or.inr (own_w58 hw)) (Fld.ext O.2 (own_p9 B)) d6_16 rfl ?_
  refine own_iconst C (pc' := 20) (v := (1 : Int32)) d6_19 rfl rfl ?_
  refine own_isub C (pc' := 21) (z := (63 : Int32)) d6_20 (by decide) rfl ?_
  refine own_lshl C (pc' := 22) (z := (-9223372036854775808 : Int64)) d6_21 (by decide) rfl ?_
  refine own_lneg C (pc' := 23) (z := (-9223372036854775808 : Int64)) d6_22 (by decide) rfl ?_
  exact own_ret C d6_23 rfl (Or.inr (Or.inl ⟨rfl, rfl, _, rfl⟩)) rfl N (rfl) (by decide) (by decide)
set_option maxRecDepth 65536 in
set_option maxHeartbeats 400000000 in
theorem own_law (l : Launch) (Z : State) (a0 : Array Value) (hw : ∀ d ∈ tables_1, d.before a0 Z = true) (A : Nat → Addr) (B : own_P Z A) (h0 : Heap) (n0 : Nat) (O : Old Z n0 h0) (p0 : Int32) (p1 : Int32) : own_MetW l Z x code maxLocals ret tables_1 room_1 16 1152 #[(.int p0), (.int p1)] h0 (own_Q (some (.int (1 : Int32))) n0 fun _ => True) := by
  refine own_enterW (y := x) own_pn4 (fun m => own_ef3 m p0 p1) ?_
  intro p e s m below meth c C
  have N := Fr.nil n0
  replace C : own_Cx p s m meth c Z "com/example/dml_to_locks/dmltolocks/model/IntegerTypeMinimumPinLaw" code 10 (some FieldType.boolean) "law" := C
  have H := own_W.start s h0.size
  refine own_iloadN C (pc' := 1) (v := p0) at_0 rfl rfl ?_
  refine own_ldc C (pc' := 3) (own_w0 hw) at_1 rfl ?_
  refine own_iand C (pc' := 4) (z := (p0 &&& (2147483647 : Int32))) at_3 rfl rfl ?_
  refine own_iconst C (pc' := 5) (v := (5 : Int32)) at_4 rfl rfl ?_
  refine own_irem C (pc' := 6) (z := ((p0 &&& (2147483647 : Int32)) % (5 : Int32))) at_5 (by decide) rfl rfl ?_
  rcases own_rem5 p0 with es1 | es1 | es1 | es1 | es1
  · rw [es1]
    refine own_istoreN C (pc' := 7) (Ls' := #[.val (.int p0), .val (.int p1), .val (.int (0 : Int32)), .unset, .unset, .unset, .unset, .unset, .unset, .unset]) at_6 rfl rfl ?_
    refine own_iloadN C (pc' := 8) (v := p1) at_7 rfl rfl ?_
    refine own_iconst C (pc' := 9) (v := (1 : Int32)) at_8 rfl rfl ?_
    refine own_iand C (pc' := 10) (z := (p1 &&& (1 : Int32))) at_9 rfl rfl ?_
    by_cases qs2 : (p1 &&& (1 : Int32)) = (0 : Int32)
    · refine own_ifY C (pc' := 17) at_10 (XT.i0_eq_t qs2) (by decide) (by decide) ?_
      refine own_iconst C (pc' := 18) (v := (0 : Int32)) at_17 rfl rfl ?_
      refine own_istoreN C (pc' := 19) (Ls' := #[.val (.int p0), .val (.int p1), .val (.int (0 : Int32)), .val (.int (0 : Int32)), .unset, .unset, .unset, .unset, .unset, .unset]) at_18 rfl rfl ?_
      refine own_iloadN C (pc' := 20) (v := (0 : Int32)) at_19 rfl rfl ?_
      refine own_ifN C (pc' := 23) at_20 (XT.i0_ne_f (by decide)) rfl ?_
      refine own_getS C (pc' := 26) (own_w1 hw) (Sta.ext O.2 (own_p0 B)) at_23 rfl ?_
      refine own_astore C (pc' := 28) (Ls' := #[.val (.int p0), .val (.int p1), .val (.int (0 : Int32)), .val (.int (0 : Int32)), .val (.ref (A 0)), .unset, .unset, .unset, .unset, .unset]) at_26 rfl rfl rfl ?_
      refine own_ldc2 C (pc' := 31) (own_w4 hw) at_28 rfl ?_
      refine own_lstore C (pc' := 33) (Ls' := #[.val (.int p0), .val (.int p1), .val (.int (0 : Int32)), .val (.int (0 : Int32)), .val (.ref (A 0)), .val (.long (-128 : Int64)), .second, .unset, .unset, .unset]) at_31 rfl rfl ?_
      refine own_goto C (pc' := 100) at_33 (by decide) (by decide) ?_
      refine own_new C (pc' := 103) (own_w5 hw) (own_w6 hw) (own_w7 hw) at_100 rfl (by decide) (by decide) rfl rfl ?_
      intro h3 b3 qb3 Eb3 E_b3 Db3
      have g_b3 : n0 ≤ b3 := by rw [qb3]; exact own_ge O
      have O := O.ext Eb3
      have H := own_W.mono H Eb3.1
      have F_b3_kind : Fld Z h3 b3 "com/example/dml_to_locks/dmltolocks/model/ColumnType$IntegerType" "kind" "Lcom/example/dml_to_locks/dmltolocks/model/ColumnType$Kind;" .null := Db3 (Or.inr (own_w41 hw)) (ty := (.object "com/example/dml_to_locks/dmltolocks/model/ColumnType$Kind")) (by decide)
      have F_b3_unsigned : Fld Z h3 b3 "com/example/dml_to_locks/dmltolocks/model/ColumnType$IntegerType" "unsigned" "Z" (.int (0 : Int32)) := Db3 (Or.inr (own_w43 hw)) (ty := .boolean) (by decide)
      refine own_dup C (pc' := 104) at_103 rfl rfl ?_
      refine own_aload C (pc' := 106) (v := (.ref (A 0))) at_104 rfl rfl rfl ?_
      refine own_iloadN C (pc' := 107) (v := (0 : Int32)) at_106 rfl rfl ?_
      refine own_callIW C H (pc' := 110) (W := 1) (argsL := [(.ref (A 0)), (.int (0 : Int32))]) (rest := [(.ref b3)]) (st' := [(.ref b3)]) (cells' := 3) (slots' := 22) rfl (own_w8 hw) (own_w9 hw) (own_w7 hw) (own_w10 hw) (by decide) (own_c3 l Z a0 hw A B h3 n0 O b3 (A 0) F_b3_kind E_b3 F_b3_unsigned (Fld.ext O.2 (own_p2 B)) g_b3) (by decide) (by decide) (lenOf own_pd3 rfl) rfl (Nat.le_of_eq rfl) rfl at_107 rfl (by decide) (by decide) rfl rfl rfl N ?_
      intro s h4 locs C H hD N
      obtain ⟨Kh4, E_b3, F_b3_kind, F_b3_unsigned⟩ := hD
      have O := O.keep Kh4 (allS g_b3 all0)
      refine own_astore C (pc' := 112) (Ls' := #[.val (.int p0), .val (.int p1), .val (.int (0 : Int32)), .val (.int (0 : Int32)), .val (.ref (A 0)), .val (.long (-128 : Int64)), .second, .val (.ref b3), .unset, .unset]) at_110 rfl rfl rfl ?_
      refine own_aload C (pc' := 114) (v := (.ref b3)) at_112 rfl rfl rfl ?_
      refine own_callV C (pc' := 117) (W := 0) (argsL := []) (rest := []) (st' := [(.long (-128 : Int64))]) (cells' := 3) (slots' := 22) (own_w44 hw) (own_w45 hw) (own_w47 hw) (own_w46 hw) (own_w7 hw) (own_w48 hw) (by decide) E_b3 (own_c4 l Z a0 hw A B h4 n0 O b3 F_b3_unsigned F_b3_kind) (by decide) (by decide) (lenOf own_pd4 rfl) rfl (Nat.le_of_eq rfl) rfl at_114 rfl (by decide) (by decide) rfl rfl rfl N (own_pure fun locs N => ?_)
      refine own_lstore C (pc' := 119) (Ls' := #[.val (.int p0), .val (.int p1), .val (.int (0 : Int32)), .val (.int (0 : Int32)), .val (.ref (A 0)), .val (.long (-128 : Int64)), .second, .val (.ref b3), .val (.long (-128 : Int64)), .second]) at_117 rfl rfl ?_
      refine own_iloadN C (pc' := 120) (v := (0 : Int32)) at_119 rfl rfl ?_
      refine own_ifY C (pc' := 136) at_120 (XT.i0_eq_t (by decide)) (by decide) (by decide) ?_
      refine own_lload C (pc' := 138) (v := (-128 : Int64)) at_136 rfl rfl ?_
      refine own_lload C (pc' := 140) (v := (-128 : Int64)) at_138 rfl rfl ?_
      refine own_lcmp C (pc' := 141) (z := (0 : Int32)) at_140 (by decide) rfl ?_
      refine own_ifN C (pc' := 144) at_141 (XT.i0_ne_f (by decide)) rfl ?_
      refine own_iconst C (pc' := 145) (v := (1 : Int32)) at_144 rfl rfl ?_
      refine own_goto C (pc' := 149) at_145 (by decide) (by decide) ?_
      exact own_retW C H at_149 rfl (Or.inl ⟨rfl, Or.inr (Or.inl rfl), _, rfl⟩) rfl N (trivial) (by decide) (by decide)
    · refine own_ifN C (pc' := 13) at_10 (XT.i0_eq_f qs2) rfl ?_
      refine own_iconst C (pc' := 14) (v := (1 : Int32)) at_13 rfl rfl ?_
      refine own_goto C (pc' := 18) at_14 (by decide) (by decide) ?_
      refine own_istoreN C (pc' := 19) (Ls' := #[.val (.int p0), .val (.int p1), .val (.int (0 : Int32)), .val (.int (1 : Int32)), .unset, .unset, .unset, .unset, .unset, .unset]) at_18 rfl rfl ?_
      refine own_iloadN C (pc' := 20) (v := (0 : Int32)) at_19 rfl rfl ?_
      refine own_ifN C (pc' := 23) at_20 (XT.i0_ne_f (by decide)) rfl ?_
      refine own_getS C (pc' := 26) (own_w1 hw) (Sta.ext O.2 (own_p0 B)) at_23 rfl ?_
      refine own_astore C (pc' := 28) (Ls' := #[.val (.int p0), .val (.int p1), .val (.int (0 : Int32)), .val (.int (1 : Int32)), .val (.ref (A 0)), .unset, .unset, .unset, .unset, .unset]) at_26 rfl rfl rfl ?_
      refine own_ldc2 C (pc' := 31) (own_w4 hw) at_28 rfl ?_
      refine own_lstore C (pc' := 33) (Ls' := #[.val (.int p0), .val (.int p1), .val (.int (0 : Int32)), .val (.int (1 : Int32)), .val (.ref (A 0)), .val (.long (-128 : Int64)), .second, .unset, .unset, .unset]) at_31 rfl rfl ?_
      refine own_goto C (pc' := 100) at_33 (by decide) (by decide) ?_
      refine own_new C (pc' := 103) (own_w5 hw) (own_w6 hw) (own_w7 hw) at_100 rfl (by decide) (by decide) rfl rfl ?_
      intro h3 b3 qb3 Eb3 E_b3 Db3
      have g_b3 : n0 ≤ b3 := by rw [qb3]; exact own_ge O
      have O := O.ext Eb3
      have H := own_W.mono H Eb3.1
      have F_b3_kind : Fld Z h3 b3 "com/example/dml_to_locks/dmltolocks/model/ColumnType$IntegerType" "kind" "Lcom/example/dml_to_locks/dmltolocks/model/ColumnType$Kind;" .null := Db3 (Or.inr (own_w41 hw)) (ty := (.object "com/example/dml_to_locks/dmltolocks/model/ColumnType$Kind")) (by decide)
      have F_b3_unsigned : Fld Z h3 b3 "com/example/dml_to_locks/dmltolocks/model/ColumnType$IntegerType" "unsigned" "Z" (.int (0 : Int32)) := Db3 (Or.inr (own_w43 hw)) (ty := .boolean) (by decide)
      refine own_dup C (pc' := 104) at_103 rfl rfl ?_
      refine own_aload C (pc' := 106) (v := (.ref (A 0))) at_104 rfl rfl rfl ?_
      refine own_iloadN C (pc' := 107) (v := (1 : Int32)) at_106 rfl rfl ?_
      refine own_callIW C H (pc' := 110) (W := 1) (argsL := [(.ref (A 0)), (.int (1 : Int32))]) (rest := [(.ref b3)]) (st' := [(.ref b3)]) (cells' := 3) (slots' := 22) rfl (own_w8 hw) (own_w9 hw) (own_w7 hw) (own_w10 hw) (by decide) (own_c5 l Z a0 hw A B h3 n0 O b3 (A 0) F_b3_kind E_b3 F_b3_unsigned (Fld.ext O.2 (own_p2 B)) g_b3) (by decide) (by decide) (lenOf own_pd3 rfl) rfl (Nat.le_of_eq rfl) rfl at_107 rfl (by decide) (by decide) rfl rfl rfl N ?_
      intro s h4 locs C H hD N
      obtain ⟨Kh4, E_b3, F_b3_kind, F_b3_unsigned⟩ := hD
      have O := O.keep Kh4 (allS g_b3 all0)
      refine own_astore C (pc' := 112) (Ls' := #[.val (.int p0), .val (.int p1), .val (.int (0 : Int32)), .val (.int (1 : Int32)), .val (.ref (A 0)), .val (.long (-128 : Int64)), .second, .val (.ref b3), .unset, .unset]) at_110 rfl rfl rfl ?_
      refine own_aload C (pc' := 114) (v := (.ref b3)) at_112 rfl rfl rfl ?_
      refine own_callV C (pc' := 117) (W := 0) (argsL := []) (rest := []) (st' := [(.long (0 : Int64))]) (cells' := 3) (slots' := 22) (own_w44 hw) (own_w45 hw) (own_w47 hw) (own_w46 hw) (own_w7 hw) (own_w48 hw) (by decide) E_b3 (own_c6 l Z a0 hw A B h4 n0 O b3 F_b3_unsigned) (by decide) (by decide) (lenOf own_pd4 rfl) rfl (Nat.le_of_eq rfl) rfl at_114 rfl (by decide) (by decide) rfl rfl rfl N (own_pure fun locs N => ?_)
      refine own_lstore C (pc' := 119) (Ls' := #[.val (.int p0), .val (.int p1), .val (.int (0 : Int32)), .val (.int (1 : Int32)), .val (.ref (A 0)), .val (.long (-128 : Int64)), .second, .val (.ref b3), .val (.long (0 : Int64)), .second]) at_117 rfl rfl ?_
      refine own_iloadN C (pc' := 120) (v := (1 : Int32)) at_119 rfl rfl ?_
      refine own_ifN C (pc' := 123) at_120 (XT.i0_eq_f (by decide)) rfl ?_
      refine own_lload C (pc' := 125) (v := (0 : Int64)) at_123 rfl rfl ?_
      refine own_lconst C (pc' := 126) (v := (0 : Int64)) at_125 rfl rfl ?_
      refine own_lcmp C (pc' := 127) (z := (0 : Int32)) at_126 (by decide) rfl ?_
      refine own_ifN C (pc' := 130) at_127 (XT.i0_ne_f (by decide)) rfl ?_
      refine own_iconst C (pc' := 131) (v := (1 : Int32)) at_130 rfl rfl ?_
      refine own_goto C (pc' := 135) at_131 (by decide) (by decide) ?_
      exact own_retW C H at_135 rfl (Or.inl ⟨rfl, Or.inr (Or.inl rfl), _, rfl⟩) rfl N (trivial) (by decide) (by decide)
  · rw [es1]
    refine own_istoreN C (pc' := 7) (Ls' := #[.val (.int p0), .val (.int p1), .val (.int (1 : Int32)), .unset, .unset, .unset, .unset, .unset, .unset, .unset]) at_6 rfl rfl ?_
    refine own_iloadN C (pc' := 8) (v := p1) at_7 rfl rfl ?_
    refine own_iconst C (pc' := 9) (v := (1 : Int32)) at_8 rfl rfl ?_
    refine own_iand C (pc' := 10) (z := (p1 &&& (1 : Int32))) at_9 rfl rfl ?_
    by_cases qs2 : (p1 &&& (1 : Int32)) = (0 : Int32)
    · refine own_ifY C (pc' := 17) at_10 (XT.i0_eq_t qs2) (by decide) (by decide) ?_
      refine own_iconst C (pc' := 18) (v := (0 : Int32)) at_17 rfl rfl ?_
      refine own_istoreN C (pc' := 19) (Ls' := #[.val (.int p0), .val (.int p1), .val (.int (1 : Int32)), .val (.int (0 : Int32)), .unset, .unset, .unset, .unset, .unset, .unset]) at_18 rfl rfl ?_
      refine own_iloadN C (pc' := 20) (v := (1 : Int32)) at_19 rfl rfl ?_
      refine own_ifY C (pc' := 36) at_20 (XT.i0_ne_t (by decide)) (by decide) (by decide) ?_
      refine own_iloadN C (pc' := 37) (v := (1 : Int32)) at_36 rfl rfl ?_
      refine own_iconst C (pc' := 38) (v := (1 : Int32)) at_37 rfl rfl ?_
      refine own_icmpN C (pc' := 41) at_38 (XT.ii_ne_f (by decide)) rfl ?_
      refine own_getS C (pc' := 44) (own_w55 hw) (Sta.ext O.2 (own_p14 B)) at_41 rfl ?_
      refine own_astore C (pc' := 46) (Ls' := #[.val (.int p0), .val (.int p1), .val (.int (1 : Int32)), .val (.int (0 : Int32)), .val (.ref (A 4)), .unset, .unset, .unset, .unset, .unset]) at_44 rfl rfl rfl ?_
      refine own_ldc2 C (pc' := 49) (own_w57 hw) at_46 rfl ?_
      refine own_lstore C (pc' := 51) (Ls' := #[.val (.int p0), .val (.int p1), .val (.int (1 : Int32)), .val (.int (0 : Int32)), .val (.ref (A 4)), .val (.long (-32768 : Int64)), .second, .unset, .unset, .unset]) at_49 rfl rfl ?_
      refine own_goto C (pc' := 100) at_51 (by decide) (by decide) ?_
      refine own_new C (pc' := 103) (own_w5 hw) (own_w6 hw) (own_w7 hw) at_100 rfl (by decide) (by decide) rfl rfl ?_
      intro h3 b3 qb3 Eb3 E_b3 Db3
      have g_b3 : n0 ≤ b3 := by rw [qb3]; exact own_ge O
      have O := O.ext Eb3
      have H := own_W.mono H Eb3.1
      have F_b3_kind : Fld Z h3 b3 "com/example/dml_to_locks/dmltolocks/model/ColumnType$IntegerType" "kind" "Lcom/example/dml_to_locks/dmltolocks/model/ColumnType$Kind;" .null := Db3 (Or.inr (own_w41 hw)) (ty := (.object "com/example/dml_to_locks/dmltolocks/model/ColumnType$Kind")) (by decide)
      have F_b3_unsigned : Fld Z h3 b3 "com/example/dml_to_locks/dmltolocks/model/ColumnType$IntegerType" "unsigned" "Z" (.int (0 : Int32)) := Db3 (Or.inr (own_w43 hw)) (ty := .boolean) (by decide)
      refine own_dup C (pc' := 104) at_103 rfl rfl ?_
      refine own_aload C (pc' := 106) (v := (.ref (A 4))) at_104 rfl rfl rfl ?_
      refine own_iloadN C (pc' := 107) (v := (0 : Int32)) at_106 rfl rfl ?_
      refine own_callIW C H (pc' := 110) (W := 1) (argsL := [(.ref (A 4)), (.int (0 : Int32))]) (rest := [(.ref b3)]) (st' := [(.ref b3)]) (cells' := 3) (slots' := 22) rfl (own_w8 hw) (own_w9 hw) (own_w7 hw) (own_w10 hw) (by decide) (own_c3 l Z a0 hw A B h3 n0 O b3 (A 4) F_b3_kind E_b3 F_b3_unsigned (Fld.ext O.2 (own_p16 B)) g_b3) (by decide) (by decide) (lenOf own_pd3 rfl) rfl (Nat.le_of_eq rfl) rfl at_107 rfl (by decide) (by decide) rfl rfl rfl N ?_
      intro s h4 locs C H hD N
      obtain ⟨Kh4, E_b3, F_b3_kind, F_b3_unsigned⟩ := hD
      have O := O.keep Kh4 (allS g_b3 all0)
      refine own_astore C (pc' := 112) (Ls' := #[.val (.int p0), .val (.int p1), .val (.int (1 : Int32)), .val (.int (0 : Int32)), .val (.ref (A 4)), .val (.long (-32768 : Int64)), .second, .val (.ref b3), .unset, .unset]) at_110 rfl rfl rfl ?_
      refine own_aload C (pc' := 114) (v := (.ref b3)) at_112 rfl rfl rfl ?_
      refine own_callV C (pc' := 117) (W := 0) (argsL := []) (rest := []) (st' := [(.long (-32768 : Int64))]) (cells' := 3) (slots' := 22) (own_w44 hw) (own_w45 hw) (own_w47 hw) (own_w46 hw) (own_w7 hw) (own_w48 hw) (by decide) E_b3 (own_c7 l Z a0 hw A B h4 n0 O b3 F_b3_unsigned F_b3_kind) (by decide) (by decide) (lenOf own_pd4 rfl) rfl (Nat.le_of_eq rfl) rfl at_114 rfl (by decide) (by decide) rfl rfl rfl N (own_pure fun locs N => ?_)
      refine own_lstore C (pc' := 119) (Ls' := #[.val (.int p0), .val (.int p1), .val (.int (1 : Int32)), .val (.int (0 : Int32)), .val (.ref (A 4)), .val (.long (-32768 : Int64)), .second, .val (.ref b3), .val (.long (-32768 : Int64)), .second]) at_117 rfl rfl ?_
      refine own_iloadN C (pc' := 120) (v := (0 : Int32)) at_119 rfl rfl ?_
      refine own_ifY C (pc' := 136) at_120 (XT.i0_eq_t (by decide)) (by decide) (by decide) ?_
      refine own_lload C (pc' := 138) (v := (-32768 : Int64)) at_136 rfl rfl ?_
      refine own_lload C (pc' := 140) (v := (-32768 : Int64)) at_138 rfl rfl ?_
      refine own_lcmp C (pc' := 141) (z := (0 : Int32)) at_140 (by decide) rfl ?_
      refine own_ifN C (pc' := 144) at_141 (XT.i0_ne_f (by decide)) rfl ?_
      refine own_iconst C (pc' := 145) (v := (1 : Int32)) at_144 rfl rfl ?_
      refine own_goto C (pc' := 149) at_145 (by decide) (by decide) ?_
      exact own_retW C H at_149 rfl (Or.inl ⟨rfl, Or.inr (Or.inl rfl), _, rfl⟩) rfl N (trivial) (by decide) (by decide)
    · refine own_ifN C (pc' := 13) at_10 (XT.i0_eq_f qs2) rfl ?_
      refine own_iconst C (pc' := 14) (v := (1 : Int32)) at_13 rfl rfl ?_
      refine own_goto C (pc' := 18) at_14 (by decide) (by decide) ?_
      refine own_istoreN C (pc' := 19) (Ls' := #[.val (.int p0), .val (.int p1), .val (.int (1 : Int32)), .val (.int (1 : Int32)), .unset, .unset, .unset, .unset, .unset, .unset]) at_18 rfl rfl ?_
      refine own_iloadN C (pc' := 20) (v := (1 : Int32)) at_19 rfl rfl ?_
      refine own_ifY C (pc' := 36) at_20 (XT.i0_ne_t (by decide)) (by decide) (by decide) ?_
      refine own_iloadN C (pc' := 37) (v := (1 : Int32)) at_36 rfl rfl ?_
      refine own_iconst C (pc' := 38) (v := (1 : Int32)) at_37 rfl rfl ?_
      refine own_icmpN C (pc' := 41) at_38 (XT.ii_ne_f (by decide)) rfl ?_
      refine own_getS C (pc' := 44) (own_w55 hw) (Sta.ext O.2 (own_p14 B)) at_41 rfl ?_
      refine own_astore C (pc' := 46) (Ls' := #[.val (.int p0), .val (.int p1), .val (.int (1 : Int32)), .val (.int (1 : Int32)), .val (.ref (A 4)), .unset, .unset, .unset, .unset, .unset]) at_44 rfl rfl rfl ?_
      refine own_ldc2 C (pc' := 49) (own_w57 hw) at_46 rfl ?_
      refine own_lstore C (pc' := 51) (Ls' := #[.val (.int p0), .val (.int p1), .val (.int (1 : Int32)), .val (.int (1 : Int32)), .val (.ref (A 4)), .val (.long (-32768 : Int64)), .second, .unset, .unset, .unset]) at_49 rfl rfl ?_
      refine own_goto C (pc' := 100) at_51 (by decide) (by decide) ?_
      refine own_new C (pc' := 103) (own_w5 hw) (own_w6 hw) (own_w7 hw) at_100 rfl (by decide) (by decide) rfl rfl ?_
      intro h3 b3 qb3 Eb3 E_b3 Db3
      have g_b3 : n0 ≤ b3 := by rw [qb3]; exact own_ge O
      have O := O.ext Eb3
      have H := own_W.mono H Eb3.1
      have F_b3_kind : Fld Z h3 b3 "com/example/dml_to_locks/dmltolocks/model/ColumnType$IntegerType" "kind" "Lcom/example/dml_to_locks/dmltolocks/model/ColumnType$Kind;" .null := Db3 (Or.inr (own_w41 hw)) (ty := (.object "com/example/dml_to_locks/dmltolocks/model/ColumnType$Kind")) (by decide)
      have F_b3_unsigned : Fld Z h3 b3 "com/example/dml_to_locks/dmltolocks/model/ColumnType$IntegerType" "unsigned" "Z" (.int (0 : Int32)) := Db3 (Or.inr (own_w43 hw)) (ty := .boolean) (by decide)
      refine own_dup C (pc' := 104) at_103 rfl rfl ?_
      refine own_aload C (pc' := 106) (v := (.ref (A 4))) at_104 rfl rfl rfl ?_
      refine own_iloadN C (pc' := 107) (v := (1 : Int32)) at_106 rfl rfl ?_
      refine own_callIW C H (pc' := 110) (W := 1) (argsL := [(.ref (A 4)), (.int (1 : Int32))]) (rest := [(.ref b3)]) (st' := [(.ref b3)]) (cells' := 3) (slots' := 22) rfl (own_w8 hw) (own_w9 hw) (own_w7 hw) (own_w10 hw) (by decide) (own_c5 l Z a0 hw A B h3 n0 O b3 (A 4) F_b3_kind E_b3 F_b3_unsigned (Fld.ext O.2 (own_p16 B)) g_b3) (by decide) (by decide) (lenOf own_pd3 rfl) rfl (Nat.le_of_eq rfl) rfl at_107 rfl (by decide) (by decide) rfl rfl rfl N ?_
      intro s h4 locs C H hD N
      obtain ⟨Kh4, E_b3, F_b3_kind, F_b3_unsigned⟩ := hD
      have O := O.keep Kh4 (allS g_b3 all0)
      refine own_astore C (pc' := 112) (Ls' := #[.val (.int p0), .val (.int p1), .val (.int (1 : Int32)), .val (.int (1 : Int32)), .val (.ref (A 4)), .val (.long (-32768 : Int64)), .second, .val (.ref b3), .unset, .unset]) at_110 rfl rfl rfl ?_
      refine own_aload C (pc' := 114) (v := (.ref b3)) at_112 rfl rfl rfl ?_
      refine own_callV C (pc' := 117) (W := 0) (argsL := []) (rest := []) (st' := [(.long (0 : Int64))]) (cells' := 3) (slots' := 22) (own_w44 hw) (own_w45 hw) (own_w47 hw) (own_w46 hw) (own_w7 hw) (own_w48 hw) (by decide) E_b3 (own_c6 l Z a0 hw A B h4 n0 O b3 F_b3_unsigned) (by decide) (by decide) (lenOf own_pd4 rfl) rfl (Nat.le_of_eq rfl) rfl at_114 rfl (by decide) (by decide) rfl rfl rfl N (own_pure fun locs N => ?_)
      refine own_lstore C (pc' := 119) (Ls' := #[.val (.int p0), .val (.int p1), .val (.int (1 : Int32)), .val (.int (1 : Int32)), .val (.ref (A 4)), .val (.long (-32768 : Int64)), .second, .val (.ref b3), .val (.long (0 : Int64)), .second]) at_117 rfl rfl ?_
      refine own_iloadN C (pc' := 120) (v := (1 : Int32)) at_119 rfl rfl ?_
      refine own_ifN C (pc' := 123) at_120 (XT.i0_eq_f (by decide)) rfl ?_
      refine own_lload C (pc' := 125) (v := (0 : Int64)) at_123 rfl rfl ?_
      refine own_lconst C (pc' := 126) (v := (0 : Int64)) at_125 rfl rfl ?_
      refine own_lcmp C (pc' := 127) (z := (0 : Int32)) at_126 (by decide) rfl ?_
      refine own_ifN C (pc' := 130) at_127 (XT.i0_ne_f (by decide)) rfl ?_
      refine own_iconst C (pc' := 131) (v := (1 : Int32)) at_130 rfl rfl ?_
      refine own_goto C (pc' := 135) at_131 (by decide) (by decide) ?_
      exact own_retW C H at_135 rfl (Or.inl ⟨rfl, Or.inr (Or.inl rfl), _, rfl⟩) rfl N (trivial) (by decide) (by decide)
  · rw [es1]
    refine own_istoreN C (pc' := 7) (Ls' := #[.val (.int p0), .val (.int p1), .val (.int (2 : Int32)), .unset, .unset, .unset, .unset, .unset, .unset, .unset]) at_6 rfl rfl ?_
    refine own_iloadN C (pc' := 8) (v := p1) at_7 rfl rfl ?_
    refine own_iconst C (pc' := 9) (v := (1 : Int32)) at_8 rfl rfl ?_
    refine own_iand C (pc' := 10) (z := (p1 &&& (1 : Int32))) at_9 rfl rfl ?_
    by_cases qs2 : (p1 &&& (1 : Int32)) = (0 : Int32)
    · refine own_ifY C (pc' := 17) at_10 (XT.i0_eq_t qs2) (by decide) (by decide) ?_
      refine own_iconst C (pc' := 18) (v := (0 : Int32)) at_17 rfl rfl ?_
      refine own_istoreN C (pc' := 19) (Ls' := #[.val (.int p0), .val (.int p1), .val (.int (2 : Int32)), .val (.int (0 : Int32)), .unset, .unset, .unset, .unset, .unset, .unset]) at_18 rfl rfl ?_
      refine own_iloadN C (pc' := 20) (v := (2 : Int32)) at_19 rfl rfl ?_
      refine own_ifY C (pc' := 36) at_20 (XT.i0_ne_t (by decide)) (by decide) (by decide) ?_
      refine own_iloadN C (pc' := 37) (v := (2 : Int32)) at_36 rfl rfl ?_
      refine own_iconst C (pc' := 38) (v := (1 : Int32)) at_37 rfl rfl ?_
      refine own_icmpY C (pc' := 54) at_38 (XT.ii_ne_t (by decide)) (by decide) (by decide) ?_
      refine own_iloadN C (pc' := 55) (v := (2 : Int32)) at_54 rfl rfl ?_
      refine own_iconst C (pc' := 56) (v := (2 : Int32)) at_55 rfl rfl ?_
      refine own_icmpN C (pc' := 59) at_56 (XT.ii_ne_f (by decide)) rfl ?_
      refine own_getS C (pc' := 62) (own_w60 hw) (Sta.ext O.2 (own_p18 B)) at_59 rfl ?_
      refine own_astore C (pc' := 64) (Ls' := #[.val (.int p0), .val (.int p1), .val (.int (2 : Int32)), .val (.int (0 : Int32)), .val (.ref (A 5)), .unset, .unset, .unset, .unset, .unset]) at_62 rfl rfl rfl ?_
      refine own_ldc2 C (pc' := 67) (own_w62 hw) at_64 rfl ?_
      refine own_lstore C (pc' := 69) (Ls' := #[.val (.int p0), .val (.int p1), .val (.int (2 : Int32)), .val (.int (0 : Int32)), .val (.ref (A 5)), .val (.long (-8388608 : Int64)), .second, .unset, .unset, .unset]) at_67 rfl rfl ?_
      refine own_goto C (pc' := 100) at_69 (by decide) (by decide) ?_
      refine own_new C (pc' := 103) (own_w5 hw) (own_w6 hw) (own_w7 hw) at_100 rfl (by decide) (by decide) rfl rfl ?_
      intro h3 b3 qb3 Eb3 E_b3 Db3
      have g_b3 : n0 ≤ b3 := by rw [qb3]; exact own_ge O
      have O := O.ext Eb3
      have H := own_W.mono H Eb3.1
      have F_b3_kind : Fld Z h3 b3 "com/example/dml_to_locks/dmltolocks/model/ColumnType$IntegerType" "kind" "Lcom/example/dml_to_locks/dmltolocks/model/ColumnType$Kind;" .null := Db3 (Or.inr (own_w41 hw)) (ty := (.object "com/example/dml_to_locks/dmltolocks/model/ColumnType$Kind")) (by decide)
      have F_b3_unsigned : Fld Z h3 b3 "com/example/dml_to_locks/dmltolocks/model/ColumnType$IntegerType" "unsigned" "Z" (.int (0 : Int32)) := Db3 (Or.inr (own_w43 hw)) (ty := .boolean) (by decide)
      refine own_dup C (pc' := 104) at_103 rfl rfl ?_
      refine own_aload C (pc' := 106) (v := (.ref (A 5))) at_104 rfl rfl rfl ?_
      refine own_iloadN C (pc' := 107) (v := (0 : Int32)) at_106 rfl rfl ?_
      refine own_callIW C H (pc' := 110) (W := 1) (argsL := [(.ref (A 5)), (.int (0 : Int32))]) (rest := [(.ref b3)]) (st' := [(.ref b3)]) (cells' := 3) (slots' := 22) rfl (own_w8 hw) (own_w9 hw) (own_w7 hw) (own_w10 hw) (by decide) (own_c3 l Z a0 hw A B h3 n0 O b3 (A 5) F_b3_kind E_b3 F_b3_unsigned (Fld.ext O.2 (own_p20 B)) g_b3) (by decide) (by decide) (lenOf own_pd3 rfl) rfl (Nat.le_of_eq rfl) rfl at_107 rfl (by decide) (by decide) rfl rfl rfl N ?_
      intro s h4 locs C H hD N
      obtain ⟨Kh4, E_b3, F_b3_kind, F_b3_unsigned⟩ := hD
      have O := O.keep Kh4 (allS g_b3 all0)
      refine own_astore C (pc' := 112) (Ls' := #[.val (.int p0), .val (.int p1), .val (.int (2 : Int32)), .val (.int (0 : Int32)), .val (.ref (A 5)), .val (.long (-8388608 : Int64)), .second, .val (.ref b3), .unset, .unset]) at_110 rfl rfl rfl ?_
      refine own_aload C (pc' := 114) (v := (.ref b3)) at_112 rfl rfl rfl ?_
      refine own_callV C (pc' := 117) (W := 0) (argsL := []) (rest := []) (st' := [(.long (-8388608 : Int64))]) (cells' := 3) (slots' := 22) (own_w44 hw) (own_w45 hw) (own_w47 hw) (own_w46 hw) (own_w7 hw) (own_w48 hw) (by decide) E_b3 (own_c8 l Z a0 hw A B h4 n0 O b3 F_b3_unsigned F_b3_kind) (by decide) (by decide) (lenOf own_pd4 rfl) rfl (Nat.le_of_eq rfl) rfl at_114 rfl (by decide) (by decide) rfl rfl rfl N (own_pure fun locs N => ?_)
      refine own_lstore C (pc' := 119) (Ls' := #[.val (.int p0), .val (.int p1), .val (.int (2 : Int32)), .val (.int (0 : Int32)), .val (.ref (A 5)), .val (.long (-8388608 : Int64)), .second, .val (.ref b3), .val (.long (-8388608 : Int64)), .second]) at_117 rfl rfl ?_
      refine own_iloadN C (pc' := 120) (v := (0 : Int32)) at_119 rfl rfl ?_
      refine own_ifY C (pc' := 136) at_120 (XT.i0_eq_t (by decide)) (by decide) (by decide) ?_
      refine own_lload C (pc' := 138) (v := (-8388608 : Int64)) at_136 rfl rfl ?_
      refine own_lload C (pc' := 140) (v := (-8388608 : Int64)) at_138 rfl rfl ?_
      refine own_lcmp C (pc' := 141) (z := (0 : Int32)) at_140 (by decide) rfl ?_
      refine own_ifN C (pc' := 144) at_141 (XT.i0_ne_f (by decide)) rfl ?_
      refine own_iconst C (pc' := 145) (v := (1 : Int32)) at_144 rfl rfl ?_
      refine own_goto C (pc' := 149) at_145 (by decide) (by decide) ?_
      exact own_retW C H at_149 rfl (Or.inl ⟨rfl, Or.inr (Or.inl rfl), _, rfl⟩) rfl N (trivial) (by decide) (by decide)
    · refine own_ifN C (pc' := 13) at_10 (XT.i0_eq_f qs2) rfl ?_
      refine own_iconst C (pc' := 14) (v := (1 : Int32)) at_13 rfl rfl ?_
      refine own_goto C (pc' := 18) at_14 (by decide) (by decide) ?_
      refine own_istoreN C (pc' := 19) (Ls' := #[.val (.int p0), .val (.int p1), .val (.int (2 : Int32)), .val (.int (1 : Int32)), .unset, .unset, .unset, .unset, .unset, .unset]) at_18 rfl rfl ?_
      refine own_iloadN C (pc' := 20) (v := (2 : Int32)) at_19 rfl rfl ?_
      refine own_ifY C (pc' := 36) at_20 (XT.i0_ne_t (by decide)) (by decide) (by decide) ?_
      refine own_iloadN C (pc' := 37) (v := (2 : Int32)) at_36 rfl rfl ?_
      refine own_iconst C (pc' := 38) (v := (1 : Int32)) at_37 rfl rfl ?_
      refine own_icmpY C (pc' := 54) at_38 (XT.ii_ne_t (by decide)) (by decide) (by decide) ?_
      refine own_iloadN C (pc' := 55) (v := (2 : Int32)) at_54 rfl rfl ?_
      refine own_iconst C (pc' := 56) (v := (2 : Int32)) at_55 rfl rfl ?_
      refine own_icmpN C (pc' := 59) at_56 (XT.ii_ne_f (by decide)) rfl ?_
      refine own_getS C (pc' := 62) (own_w60 hw) (Sta.ext O.2 (own_p18 B)) at_59 rfl ?_
      refine own_astore C (pc' := 64) (Ls' := #[.val (.int p0), .val (.int p1), .val (.int (2 : Int32)), .val (.int (1 : Int32)), .val (.ref (A 5)), .unset, .unset, .unset, .unset, .unset]) at_62 rfl rfl rfl ?_
      refine own_ldc2 C (pc' := 67) (own_w62 hw) at_64 rfl ?_
      refine own_lstore C (pc' := 69) (Ls' := #[.val (.int p0), .val (.int p1), .val (.int (2 : Int32)), .val (.int (1 : Int32)), .val (.ref (A 5)), .val (.long (-8388608 : Int64)), .second, .unset, .unset, .unset]) at_67 rfl rfl ?_
      refine own_goto C (pc' := 100) at_69 (by decide) (by decide) ?_
      refine own_new C (pc' := 103) (own_w5 hw) (own_w6 hw) (own_w7 hw) at_100 rfl (by decide) (by decide) rfl rfl ?_
      intro h3 b3 qb3 Eb3 E_b3 Db3
      have g_b3 : n0 ≤ b3 := by rw [qb3]; exact own_ge O
      have O := O.ext Eb3
      have H := own_W.mono H Eb3.1
      have F_b3_kind : Fld Z h3 b3 "com/example/dml_to_locks/dmltolocks/model/ColumnType$IntegerType" "kind" "Lcom/example/dml_to_locks/dmltolocks/model/ColumnType$Kind;" .null := Db3 (Or.inr (own_w41 hw)) (ty := (.object "com/example/dml_to_locks/dmltolocks/model/ColumnType$Kind")) (by decide)
      have F_b3_unsigned : Fld Z h3 b3 "com/example/dml_to_locks/dmltolocks/model/ColumnType$IntegerType" "unsigned" "Z" (.int (0 : Int32)) := Db3 (Or.inr (own_w43 hw)) (ty := .boolean) (by decide)
      refine own_dup C (pc' := 104) at_103 rfl rfl ?_
      refine own_aload C (pc' := 106) (v := (.ref (A 5))) at_104 rfl rfl rfl ?_
      refine own_iloadN C (pc' := 107) (v := (1 : Int32)) at_106 rfl rfl ?_
      refine own_callIW C H (pc' := 110) (W := 1) (argsL := [(.ref (A 5)), (.int (1 : Int32))]) (rest := [(.ref b3)]) (st' := [(.ref b3)]) (cells' := 3) (slots' := 22) rfl (own_w8 hw) (own_w9 hw) (own_w7 hw) (own_w10 hw) (by decide) (own_c5 l Z a0 hw A B h3 n0 O b3 (A 5) F_b3_kind E_b3 F_b3_unsigned (Fld.ext O.2 (own_p20 B)) g_b3) (by decide) (by decide) (lenOf own_pd3 rfl) rfl (Nat.le_of_eq rfl) rfl at_107 rfl (by decide) (by decide) rfl rfl rfl N ?_
      intro s h4 locs C H hD N
      obtain ⟨Kh4, E_b3, F_b3_kind, F_b3_unsigned⟩ := hD
      have O := O.keep Kh4 (allS g_b3 all0)
      refine own_astore C (pc' := 112) (Ls' := #[.val (.int p0), .val (.int p1), .val (.int (2 : Int32)), .val (.int (1 : Int32)), .val (.ref (A 5)), .val (.long (-8388608 : Int64)), .second, .val (.ref b3), .unset, .unset]) at_110 rfl rfl rfl ?_
      refine own_aload C (pc' := 114) (v := (.ref b3)) at_112 rfl rfl rfl ?_
      refine own_callV C (pc' := 117) (W := 0) (argsL := []) (rest := []) (st' := [(.long (0 : Int64))]) (cells' := 3) (slots' := 22) (own_w44 hw) (own_w45 hw) (own_w47 hw) (own_w46 hw) (own_w7 hw) (own_w48 hw) (by decide) E_b3 (own_c6 l Z a0 hw A B h4 n0 O b3 F_b3_unsigned) (by decide) (by decide) (lenOf own_pd4 rfl) rfl (Nat.le_of_eq rfl) rfl at_114 rfl (by decide) (by decide) rfl rfl rfl N (own_pure fun locs N => ?_)
      refine own_lstore C (pc' := 119) (Ls' := #[.val (.int p0), .val (.int p1), .val (.int (2 : Int32)), .val (.int (1 : Int32)), .val (.ref (A 5)), .val (.long (-8388608 : Int64)), .second, .val (.ref b3), .val (.long (0 : Int64)), .second]) at_117 rfl rfl ?_
      refine own_iloadN C (pc' := 120) (v := (1 : Int32)) at_119 rfl rfl ?_
      refine own_ifN C (pc' := 123) at_120 (XT.i0_eq_f (by decide)) rfl ?_
      refine own_lload C (pc' := 125) (v := (0 : Int64)) at_123 rfl rfl ?_
      refine own_lconst C (pc' := 126) (v := (0 : Int64)) at_125 rfl rfl ?_
      refine own_lcmp C (pc' := 127) (z := (0 : Int32)) at_126 (by decide) rfl ?_
      refine own_ifN C (pc' := 130) at_127 (XT.i0_ne_f (by decide)) rfl ?_
      refine own_iconst C (pc' := 131) (v := (1 : Int32)) at_130 rfl rfl ?_
      refine own_goto C (pc' := 135) at_131 (by decide) (by decide) ?_
      exact own_retW C H at_135 rfl (Or.inl ⟨rfl, Or.inr (Or.inl rfl), _, rfl⟩) rfl N (trivial) (by decide) (by decide)
  · rw [es1]
    refine own_istoreN C (pc' := 7) (Ls' := #[.val (.int p0), .val (.int p1), .val (.int (3 : Int32)), .unset, .unset, .unset, .unset, .unset, .unset, .unset]) at_6 rfl rfl ?_
    refine own_iloadN C (pc' := 8) (v := p1) at_7 rfl rfl ?_
    refine own_iconst C (pc' := 9) (v := (1 : Int32)) at_8 rfl rfl ?_
    refine own_iand C (pc' := 10) (z := (p1 &&& (1 : Int32))) at_9 rfl rfl ?_
    by_cases qs2 : (p1 &&& (1 : Int32)) = (0 : Int32)
    · refine own_ifY C (pc' := 17) at_10 (XT.i0_eq_t qs2) (by decide) (by decide) ?_
      refine own_iconst C (pc' := 18) (v := (0 : Int32)) at_17 rfl rfl ?_
      refine own_istoreN C (pc' := 19) (Ls' := #[.val (.int p0), .val (.int p1), .val (.int (3 : Int32)), .val (.int (0 : Int32)), .unset, .unset, .unset, .unset, .unset, .unset]) at_18 rfl rfl ?_
      refine own_iloadN C (pc' := 20) (v := (3 : Int32)) at_19 rfl rfl ?_
      refine own_ifY C (pc' := 36) at_20 (XT.i0_ne_t (by decide)) (by decide) (by decide) ?_
      refine own_iloadN C (pc' := 37) (v := (3 : Int32)) at_36 rfl rfl ?_
      refine own_iconst C (pc' := 38) (v := (1 : Int32)) at_37 rfl rfl ?_
      refine own_icmpY C (pc' := 54) at_38 (XT.ii_ne_t (by decide)) (by decide) (by decide) ?_
      refine own_iloadN C (pc' := 55) (v := (3 : Int32)) at_54 rfl rfl ?_
      refine own_iconst C (pc' := 56) (v := (2 : Int32)) at_55 rfl rfl ?_
      refine own_icmpY C (pc' := 72) at_56 (XT.ii_ne_t (by decide)) (by decide) (by decide) ?_
      refine own_iloadN C (pc' := 73) (v := (3 : Int32)) at_72 rfl rfl ?_
      refine own_iconst C (pc' := 74) (v := (3 : Int32)) at_73 rfl rfl ?_
      refine own_icmpN C (pc' := 77) at_74 (XT.ii_ne_f (by decide)) rfl ?_
      refine own_getS C (pc' := 80) (own_w52 hw) (Sta.ext O.2 (own_p10 B)) at_77 rfl ?_
      refine own_astore C (pc' := 82) (Ls' := #[.val (.int p0), .val (.int p1), .val (.int (3 : Int32)), .val (.int (0 : Int32)), .val (.ref (A 3)), .unset, .unset, .unset, .unset, .unset]) at_80 rfl rfl rfl ?_
      refine own_ldc2 C (pc' := 85) (own_w54 hw) at_82 rfl ?_
      refine own_lstore C (pc' := 87) (Ls' := #[.val (.int p0), .val (.int p1), .val (.int (3 : Int32)), .val (.int (0 : Int32)), .val (.ref (A 3)), .val (.long (-2147483648 : Int64)), .second, .unset, .unset, .unset]) at_85 rfl rfl ?_
      refine own_goto C (pc' := 100) at_87 (by decide) (by decide) ?_
      refine own_new C (pc' := 103) (own_w5 hw) (own_w6 hw) (own_w7 hw) at_100 rfl (by decide) (by decide) rfl rfl ?_
      intro h3 b3 qb3 Eb3 E_b3 Db3
      have g_b3 : n0 ≤ b3 := by rw [qb3]; exact own_ge O
      have O := O.ext Eb3
      have H := own_W.mono H Eb3.1
      have F_b3_kind : Fld Z h3 b3 "com/example/dml_to_locks/dmltolocks/model/ColumnType$IntegerType" "kind" "Lcom/example/dml_to_locks/dmltolocks/model/ColumnType$Kind;" .null := Db3 (Or.inr (own_w41 hw)) (ty := (.object "com/example/dml_to_locks/dmltolocks/model/ColumnType$Kind")) (by decide)
      have F_b3_unsigned : Fld Z h3 b3 "com/example/dml_to_locks/dmltolocks/model/ColumnType$IntegerType" "unsigned" "Z" (.int (0 : Int32)) := Db3 (Or.inr (own_w43 hw)) (ty := .boolean) (by decide)
      refine own_dup C (pc' := 104) at_103 rfl rfl ?_
      refine own_aload C (pc' := 106) (v := (.ref (A 3))) at_104 rfl rfl rfl ?_
      refine own_iloadN C (pc' := 107) (v := (0 : Int32)) at_106 rfl rfl ?_
      refine own_callIW C H (pc' := 110) (W := 1) (argsL := [(.ref (A 3)), (.int (0 : Int32))]) (rest := [(.ref b3)]) (st' := [(.ref b3)]) (cells' := 3) (slots' := 22) rfl (own_w8 hw) (own_w9 hw) (own_w7 hw) (own_w10 hw) (by decide) (own_c3 l Z a0 hw A B h3 n0 O b3 (A 3) F_b3_kind E_b3 F_b3_unsigned (Fld.ext O.2 (own_p12 B)) g_b3) (by decide) (by decide) (lenOf own_pd3 rfl) rfl (Nat.le_of_eq rfl) rfl at_107 rfl (by decide) (by decide) rfl rfl rfl N ?_
      intro s h4 locs C H hD N
      obtain ⟨Kh4, E_b3, F_b3_kind, F_b3_unsigned⟩ := hD
      have O := O.keep Kh4 (allS g_b3 all0)
      refine own_astore C (pc' := 112) (Ls' := #[.val (.int p0), .val (.int p1), .val (.int (3 : Int32)), .val (.int (0 : Int32)), .val (.ref (A 3)), .val (.long (-2147483648 : Int64)), .second, .val (.ref b3), .unset, .unset]) at_110 rfl rfl rfl ?_
      refine own_aload C (pc' := 114) (v := (.ref b3)) at_112 rfl rfl rfl ?_
      refine own_callV C (pc' := 117) (W := 0) (argsL := []) (rest := []) (st' := [(.long (-2147483648 : Int64))]) (cells' := 3) (slots' := 22) (own_w44 hw) (own_w45 hw) (own_w47 hw) (own_w46 hw) (own_w7 hw) (own_w48 hw) (by decide) E_b3 (own_c9 l Z a0 hw A B h4 n0 O b3 F_b3_unsigned F_b3_kind) (by decide) (by decide) (lenOf own_pd4 rfl) rfl (Nat.le_of_eq rfl) rfl at_114 rfl (by decide) (by decide) rfl rfl rfl N (own_pure fun locs N => ?_)
      refine own_lstore C (pc' := 119) (Ls' := #[.val (.int p0), .val (.int p1), .val (.int (3 : Int32)), .val (.int (0 : Int32)), .val (.ref (A 3)), .val (.long (-2147483648 : Int64)), .second, .val (.ref b3), .val (.long (-2147483648 : Int64)), .second]) at_117 rfl rfl ?_
      refine own_iloadN C (pc' := 120) (v := (0 : Int32)) at_119 rfl rfl ?_
      refine own_ifY C (pc' := 136) at_120 (XT.i0_eq_t (by decide)) (by decide) (by decide) ?_
      refine own_lload C (pc' := 138) (v := (-2147483648 : Int64)) at_136 rfl rfl ?_
      refine own_lload C (pc' := 140) (v := (-2147483648 : Int64)) at_138 rfl rfl ?_
      refine own_lcmp C (pc' := 141) (z := (0 : Int32)) at_140 (by decide) rfl ?_
      refine own_ifN C (pc' := 144) at_141 (XT.i0_ne_f (by decide)) rfl ?_
      refine own_iconst C (pc' := 145) (v := (1 : Int32)) at_144 rfl rfl ?_
      refine own_goto C (pc' := 149) at_145 (by decide) (by decide) ?_
      exact own_retW C H at_149 rfl (Or.inl ⟨rfl, Or.inr (Or.inl rfl), _, rfl⟩) rfl N (trivial) (by decide) (by decide)
    · refine own_ifN C (pc' := 13) at_10 (XT.i0_eq_f qs2) rfl ?_
      refine own_iconst C (pc' := 14) (v := (1 : Int32)) at_13 rfl rfl ?_
      refine own_goto C (pc' := 18) at_14 (by decide) (by decide) ?_
      refine own_istoreN C (pc' := 19) (Ls' := #[.val (.int p0), .val (.int p1), .val (.int (3 : Int32)), .val (.int (1 : Int32)), .unset, .unset, .unset, .unset, .unset, .unset]) at_18 rfl rfl ?_
      refine own_iloadN C (pc' := 20) (v := (3 : Int32)) at_19 rfl rfl ?_
      refine own_ifY C (pc' := 36) at_20 (XT.i0_ne_t (by decide)) (by decide) (by decide) ?_
      refine own_iloadN C (pc' := 37) (v := (3 : Int32)) at_36 rfl rfl ?_
      refine own_iconst C (pc' := 38) (v := (1 : Int32)) at_37 rfl rfl ?_
      refine own_icmpY C (pc' := 54) at_38 (XT.ii_ne_t (by decide)) (by decide) (by decide) ?_
      refine own_iloadN C (pc' := 55) (v := (3 : Int32)) at_54 rfl rfl ?_
      refine own_iconst C (pc' := 56) (v := (2 : Int32)) at_55 rfl rfl ?_
      refine own_icmpY C (pc' := 72) at_56 (XT.ii_ne_t (by decide)) (by decide) (by decide) ?_
      refine own_iloadN C (pc' := 73) (v := (3 : Int32)) at_72 rfl rfl ?_
      refine own_iconst C (pc' := 74) (v := (3 : Int32)) at_73 rfl rfl ?_
      refine own_icmpN C (pc' := 77) at_74 (XT.ii_ne_f (by decide)) rfl ?_
      refine own_getS C (pc' := 80) (own_w52 hw) (Sta.ext O.2 (own_p10 B)) at_77 rfl ?_
      refine own_astore C (pc' := 82) (Ls' := #[.val (.int p0), .val (.int p1), .val (.int (3 : Int32)), .val (.int (1 : Int32)), .val (.ref (A 3)), .unset, .unset, .unset, .unset, .unset]) at_80 rfl rfl rfl ?_
      refine own_ldc2 C (pc' := 85) (own_w54 hw) at_82 rfl ?_
      refine own_lstore C (pc' := 87) (Ls' := #[.val (.int p0), .val (.int p1), .val (.int (3 : Int32)), .val (.int (1 : Int32)), .val (.ref (A 3)), .val (.long (-2147483648 : Int64)), .second, .unset, .unset, .unset]) at_85 rfl rfl ?_
      refine own_goto C (pc' := 100) at_87 (by decide) (by decide) ?_
      refine own_new C (pc' := 103) (own_w5 hw) (own_w6 hw) (own_w7 hw) at_100 rfl (by decide) (by decide) rfl rfl ?_
      intro h3 b3 qb3 Eb3 E_b3 Db3
      have g_b3 : n0 ≤ b3 := by rw [qb3]; exact own_ge O
      have O := O.ext Eb3
      have H := own_W.mono H Eb3.1
      have F_b3_kind : Fld Z h3 b3 "com/example/dml_to_locks/dmltolocks/model/ColumnType$IntegerType" "kind" "Lcom/example/dml_to_locks/dmltolocks/model/ColumnType$Kind;" .null := Db3 (Or.inr (own_w41 hw)) (ty := (.object "com/example/dml_to_locks/dmltolocks/model/ColumnType$Kind")) (by decide)
      have F_b3_unsigned : Fld Z h3 b3 "com/example/dml_to_locks/dmltolocks/model/ColumnType$IntegerType" "unsigned" "Z" (.int (0 : Int32)) := Db3 (Or.inr (own_w43 hw)) (ty := .boolean) (by decide)
      refine own_dup C (pc' := 104) at_103 rfl rfl ?_
      refine own_aload C (pc' := 106) (v := (.ref (A 3))) at_104 rfl rfl rfl ?_
      refine own_iloadN C (pc' := 107) (v := (1 : Int32)) at_106 rfl rfl ?_
      refine own_callIW C H (pc' := 110) (W := 1) (argsL := [(.ref (A 3)), (.int (1 : Int32))]) (rest := [(.ref b3)]) (st' := [(.ref b3)]) (cells' := 3) (slots' := 22) rfl (own_w8 hw) (own_w9 hw) (own_w7 hw) (own_w10 hw) (by decide) (own_c5 l Z a0 hw A B h3 n0 O b3 (A 3) F_b3_kind E_b3 F_b3_unsigned (Fld.ext O.2 (own_p12 B)) g_b3) (by decide) (by decide) (lenOf own_pd3 rfl) rfl (Nat.le_of_eq rfl) rfl at_107 rfl (by decide) (by decide) rfl rfl rfl N ?_
      intro s h4 locs C H hD N
      obtain ⟨Kh4, E_b3, F_b3_kind, F_b3_unsigned⟩ := hD
      have O := O.keep Kh4 (allS g_b3 all0)
      refine own_astore C (pc' := 112) (Ls' := #[.val (.int p0), .val (.int p1), .val (.int (3 : Int32)), .val (.int (1 : Int32)), .val (.ref (A 3)), .val (.long (-2147483648 : Int64)), .second, .val (.ref b3), .unset, .unset]) at_110 rfl rfl rfl ?_
      refine own_aload C (pc' := 114) (v := (.ref b3)) at_112 rfl rfl rfl ?_
      refine own_callV C (pc' := 117) (W := 0) (argsL := []) (rest := []) (st' := [(.long (0 : Int64))]) (cells' := 3) (slots' := 22) (own_w44 hw) (own_w45 hw) (own_w47 hw) (own_w46 hw) (own_w7 hw) (own_w48 hw) (by decide) E_b3 (own_c6 l Z a0 hw A B h4 n0 O b3 F_b3_unsigned) (by decide) (by decide) (lenOf own_pd4 rfl) rfl (Nat.le_of_eq rfl) rfl at_114 rfl (by decide) (by decide) rfl rfl rfl N (own_pure fun locs N => ?_)
      refine own_lstore C (pc' := 119) (Ls' := #[.val (.int p0), .val (.int p1), .val (.int (3 : Int32)), .val (.int (1 : Int32)), .val (.ref (A 3)), .val (.long (-2147483648 : Int64)), .second, .val (.ref b3), .val (.long (0 : Int64)), .second]) at_117 rfl rfl ?_
      refine own_iloadN C (pc' := 120) (v := (1 : Int32)) at_119 rfl rfl ?_
      refine own_ifN C (pc' := 123) at_120 (XT.i0_eq_f (by decide)) rfl ?_
      refine own_lload C (pc' := 125) (v := (0 : Int64)) at_123 rfl rfl ?_
      refine own_lconst C (pc' := 126) (v := (0 : Int64)) at_125 rfl rfl ?_
      refine own_lcmp C (pc' := 127) (z := (0 : Int32)) at_126 (by decide) rfl ?_
      refine own_ifN C (pc' := 130) at_127 (XT.i0_ne_f (by decide)) rfl ?_
      refine own_iconst C (pc' := 131) (v := (1 : Int32)) at_130 rfl rfl ?_
      refine own_goto C (pc' := 135) at_131 (by decide) (by decide) ?_
      exact own_retW C H at_135 rfl (Or.inl ⟨rfl, Or.inr (Or.inl rfl), _, rfl⟩) rfl N (trivial) (by decide) (by decide)
  · rw [es1]
    refine own_istoreN C (pc' := 7) (Ls' := #[.val (.int p0), .val (.int p1), .val (.int (4 : Int32)), .unset, .unset, .unset, .unset, .unset, .unset, .unset]) at_6 rfl rfl ?_
    refine own_iloadN C (pc' := 8) (v := p1) at_7 rfl rfl ?_
    refine own_iconst C (pc' := 9) (v := (1 : Int32)) at_8 rfl rfl ?_
    refine own_iand C (pc' := 10) (z := (p1 &&& (1 : Int32))) at_9 rfl rfl ?_
    by_cases qs2 : (p1 &&& (1 : Int32)) = (0 : Int32)
    · refine own_ifY C (pc' := 17) at_10 (XT.i0_eq_t qs2) (by decide) (by decide) ?_
      refine own_iconst C (pc' := 18) (v := (0 : Int32)) at_17 rfl rfl ?_
      refine own_istoreN C (pc' := 19) (Ls' := #[.val (.int p0), .val (.int p1), .val (.int (4 : Int32)), .val (.int (0 : Int32)), .unset, .unset, .unset, .unset, .unset, .unset]) at_18 rfl rfl ?_
      refine own_iloadN C (pc' := 20) (v := (4 : Int32)) at_19 rfl rfl ?_
      refine own_ifY C (pc' := 36) at_20 (XT.i0_ne_t (by decide)) (by decide) (by decide) ?_
      refine own_iloadN C (pc' := 37) (v := (4 : Int32)) at_36 rfl rfl ?_
      refine own_iconst C (pc' := 38) (v := (1 : Int32)) at_37 rfl rfl ?_
      refine own_icmpY C (pc' := 54) at_38 (XT.ii_ne_t (by decide)) (by decide) (by decide) ?_
      refine own_iloadN C (pc' := 55) (v := (4 : Int32)) at_54 rfl rfl ?_
      refine own_iconst C (pc' := 56) (v := (2 : Int32)) at_55 rfl rfl ?_
      refine own_icmpY C (pc' := 72) at_56 (XT.ii_ne_t (by decide)) (by decide) (by decide) ?_
      refine own_iloadN C (pc' := 73) (v := (4 : Int32)) at_72 rfl rfl ?_
      refine own_iconst C (pc' := 74) (v := (3 : Int32)) at_73 rfl rfl ?_
      refine own_icmpY C (pc' := 90) at_74 (XT.ii_ne_t (by decide)) (by decide) (by decide) ?_
      refine own_getS C (pc' := 93) (own_w49 hw) (Sta.ext O.2 (own_p6 B)) at_90 rfl ?_
      refine own_astore C (pc' := 95) (Ls' := #[.val (.int p0), .val (.int p1), .val (.int (4 : Int32)), .val (.int (0 : Int32)), .val (.ref (A 2)), .unset, .unset, .unset, .unset, .unset]) at_93 rfl rfl rfl ?_
      refine own_ldc2 C (pc' := 98) (own_w51 hw) at_95 rfl ?_
      refine own_lstore C (pc' := 100) (Ls' := #[.val (.int p0), .val (.int p1), .val (.int (4 : Int32)), .val (.int (0 : Int32)), .val (.ref (A 2)), .val (.long (-9223372036854775808 : Int64)), .second, .unset, .unset, .unset]) at_98 rfl rfl ?_
      refine own_new C (pc' := 103) (own_w5 hw) (own_w6 hw) (own_w7 hw) at_100 rfl (by decide) (by decide) rfl rfl ?_
      intro h3 b3 qb3 Eb3 E_b3 Db3
      have g_b3 : n0 ≤ b3 := by rw [qb3]; exact own_ge O
      have O := O.ext Eb3
      have H := own_W.mono H Eb3.1
      have F_b3_kind : Fld Z h3 b3 "com/example/dml_to_locks/dmltolocks/model/ColumnType$IntegerType" "kind" "Lcom/example/dml_to_locks/dmltolocks/model/ColumnType$Kind;" .null := Db3 (Or.inr (own_w41 hw)) (ty := (.object "com/example/dml_to_locks/dmltolocks/model/ColumnType$Kind")) (by decide)
      have F_b3_unsigned : Fld Z h3 b3 "com/example/dml_to_locks/dmltolocks/model/ColumnType$IntegerType" "unsigned" "Z" (.int (0 : Int32)) := Db3 (Or.inr (own_w43 hw)) (ty := .boolean) (by decide)
      refine own_dup C (pc' := 104) at_103 rfl rfl ?_
      refine own_aload C (pc' := 106) (v := (.ref (A 2))) at_104 rfl rfl rfl ?_
      refine own_iloadN C (pc' := 107) (v := (0 : Int32)) at_106 rfl rfl ?_
      refine own_callIW C H (pc' := 110) (W := 1) (argsL := [(.ref (A 2)), (.int (0 : Int32))]) (rest := [(.ref b3)]) (st' := [(.ref b3)]) (cells' := 3) (slots' := 22) rfl (own_w8 hw) (own_w9 hw) (own_w7 hw) (own_w10 hw) (by decide) (own_c3 l Z a0 hw A B h3 n0 O b3 (A 2) F_b3_kind E_b3 F_b3_unsigned (Fld.ext O.2 (own_p8 B)) g_b3) (by decide) (by decide) (lenOf own_pd3 rfl) rfl (Nat.le_of_eq rfl) rfl at_107 rfl (by decide) (by decide) rfl rfl rfl N ?_
      intro s h4 locs C H hD N
      obtain ⟨Kh4, E_b3, F_b3_kind, F_b3_unsigned⟩ := hD
      have O := O.keep Kh4 (allS g_b3 all0)
      refine own_astore C (pc' := 112) (Ls' := #[.val (.int p0), .val (.int p1), .val (.int (4 : Int32)), .val (.int (0 : Int32)), .val (.ref (A 2)), .val (.long (-9223372036854775808 : Int64)), .second, .val (.ref b3), .unset, .unset]) at_110 rfl rfl rfl ?_
      refine own_aload C (pc' := 114) (v := (.ref b3)) at_112 rfl rfl rfl ?_
      refine own_callV C (pc' := 117) (W := 0) (argsL := []) (rest := []) (st' := [(.long (-9223372036854775808 : Int64))]) (cells' := 3) (slots' := 22) (own_w44 hw) (own_w45 hw) (own_w47 hw) (own_w46 hw) (own_w7 hw) (own_w48 hw) (by decide) E_b3 (own_c10 l Z a0 hw A B h4 n0 O b3 F_b3_unsigned F_b3_kind) (by decide) (by decide) (lenOf own_pd4 rfl) rfl (Nat.le_of_eq rfl) rfl at_114 rfl (by decide) (by decide) rfl rfl rfl N (own_pure fun locs N => ?_)
      refine own_lstore C (pc' := 119) (Ls' := #[.val (.int p0), .val (.int p1), .val (.int (4 : Int32)), .val (.int (0 : Int32)), .val (.ref (A 2)), .val (.long (-9223372036854775808 : Int64)), .second, .val (.ref b3), .val (.long (-9223372036854775808 : Int64)), .second]) at_117 rfl rfl ?_
      refine own_iloadN C (pc' := 120) (v := (0 : Int32)) at_119 rfl rfl ?_
      refine own_ifY C (pc' := 136) at_120 (XT.i0_eq_t (by decide)) (by decide) (by decide) ?_
      refine own_lload C (pc' := 138) (v := (-9223372036854775808 : Int64)) at_136 rfl rfl ?_
      refine own_lload C (pc' := 140) (v := (-9223372036854775808 : Int64)) at_138 rfl rfl ?_
      refine own_lcmp C (pc' := 141) (z := (0 : Int32)) at_140 (by decide) rfl ?_
      refine own_ifN C (pc' := 144) at_141 (XT.i0_ne_f (by decide)) rfl ?_
      refine own_iconst C (pc' := 145) (v := (1 : Int32)) at_144 rfl rfl ?_
      refine own_goto C (pc' := 149) at_145 (by decide) (by decide) ?_
      exact own_retW C H at_149 rfl (Or.inl ⟨rfl, Or.inr (Or.inl rfl), _, rfl⟩) rfl N (trivial) (by decide) (by decide)
    · refine own_ifN C (pc' := 13) at_10 (XT.i0_eq_f qs2) rfl ?_
      refine own_iconst C (pc' := 14) (v := (1 : Int32)) at_13 rfl rfl ?_
      refine own_goto C (pc' := 18) at_14 (by decide) (by decide) ?_
      refine own_istoreN C (pc' := 19) (Ls' := #[.val (.int p0), .val (.int p1), .val (.int (4 : Int32)), .val (.int (1 : Int32)), .unset, .unset, .unset, .unset, .unset, .unset]) at_18 rfl rfl ?_
      refine own_iloadN C (pc' := 20) (v := (4 : Int32)) at_19 rfl rfl ?_
      refine own_ifY C (pc' := 36) at_20 (XT.i0_ne_t (by decide)) (by decide) (by decide) ?_
      refine own_iloadN C (pc' := 37) (v := (4 : Int32)) at_36 rfl rfl ?_
      refine own_iconst C (pc' := 38) (v := (1 : Int32)) at_37 rfl rfl ?_
      refine own_icmpY C (pc' := 54) at_38 (XT.ii_ne_t (by decide)) (by decide) (by decide) ?_
      refine own_iloadN C (pc' := 55) (v := (4 : Int32)) at_54 rfl rfl ?_
      refine own_iconst C (pc' := 56) (v := (2 : Int32)) at_55 rfl rfl ?_
      refine own_icmpY C (pc' := 72) at_56 (XT.ii_ne_t (by decide)) (by decide) (by decide) ?_
      refine own_iloadN C (pc' := 73) (v := (4 : Int32)) at_72 rfl rfl ?_
      refine own_iconst C (pc' := 74) (v := (3 : Int32)) at_73 rfl rfl ?_
      refine own_icmpY C (pc' := 90) at_74 (XT.ii_ne_t (by decide)) (by decide) (by decide) ?_
      refine own_getS C (pc' := 93) (own_w49 hw) (Sta.ext O.2 (own_p6 B)) at_90 rfl ?_
      refine own_astore C (pc' := 95) (Ls' := #[.val (.int p0), .val (.int p1), .val (.int (4 : Int32)), .val (.int (1 : Int32)), .val (.ref (A 2)), .unset, .unset, .unset, .unset, .unset]) at_93 rfl rfl rfl ?_
      refine own_ldc2 C (pc' := 98) (own_w51 hw) at_95 rfl ?_
      refine own_lstore C (pc' := 100) (Ls' := #[.val (.int p0), .val (.int p1), .val (.int (4 : Int32)), .val (.int (1 : Int32)), .val (.ref (A 2)), .val (.long (-9223372036854775808 : Int64)), .second, .unset, .unset, .unset]) at_98 rfl rfl ?_
      refine own_new C (pc' := 103) (own_w5 hw) (own_w6 hw) (own_w7 hw) at_100 rfl (by decide) (by decide) rfl rfl ?_
      intro h3 b3 qb3 Eb3 E_b3 Db3
      have g_b3 : n0 ≤ b3 := by rw [qb3]; exact own_ge O
      have O := O.ext Eb3
      have H := own_W.mono H Eb3.1
      have F_b3_kind : Fld Z h3 b3 "com/example/dml_to_locks/dmltolocks/model/ColumnType$IntegerType" "kind" "Lcom/example/dml_to_locks/dmltolocks/model/ColumnType$Kind;" .null := Db3 (Or.inr (own_w41 hw)) (ty := (.object "com/example/dml_to_locks/dmltolocks/model/ColumnType$Kind")) (by decide)
      have F_b3_unsigned : Fld Z h3 b3 "com/example/dml_to_locks/dmltolocks/model/ColumnType$IntegerType" "unsigned" "Z" (.int (0 : Int32)) := Db3 (Or.inr (own_w43 hw)) (ty := .boolean) (by decide)
      refine own_dup C (pc' := 104) at_103 rfl rfl ?_
      refine own_aload C (pc' := 106) (v := (.ref (A 2))) at_104 rfl rfl rfl ?_
      refine own_iloadN C (pc' := 107) (v := (1 : Int32)) at_106 rfl rfl ?_
      refine own_callIW C H (pc' := 110) (W := 1) (argsL := [(.ref (A 2)), (.int (1 : Int32))]) (rest := [(.ref b3)]) (st' := [(.ref b3)]) (cells' := 3) (slots' := 22) rfl (own_w8 hw) (own_w9 hw) (own_w7 hw) (own_w10 hw) (by decide) (own_c5 l Z a0 hw A B h3 n0 O b3 (A 2) F_b3_kind E_b3 F_b3_unsigned (Fld.ext O.2 (own_p8 B)) g_b3) (by decide) (by decide) (lenOf own_pd3 rfl) rfl (Nat.le_of_eq rfl) rfl at_107 rfl (by decide) (by decide) rfl rfl rfl N ?_
      intro s h4 locs C H hD N
      obtain ⟨Kh4, E_b3, F_b3_kind, F_b3_unsigned⟩ := hD
      have O := O.keep Kh4 (allS g_b3 all0)
      refine own_astore C (pc' := 112) (Ls' := #[.val (.int p0), .val (.int p1), .val (.int (4 : Int32)), .val (.int (1 : Int32)), .val (.ref (A 2)), .val (.long (-9223372036854775808 : Int64)), .second, .val (.ref b3), .unset, .unset]) at_110 rfl rfl rfl ?_
      refine own_aload C (pc' := 114) (v := (.ref b3)) at_112 rfl rfl rfl ?_
      refine own_callV C (pc' := 117) (W := 0) (argsL := []) (rest := []) (st' := [(.long (0 : Int64))]) (cells' := 3) (slots' := 22) (own_w44 hw) (own_w45 hw) (own_w47 hw) (own_w46 hw) (own_w7 hw) (own_w48 hw) (by decide) E_b3 (own_c6 l Z a0 hw A B h4 n0 O b3 F_b3_unsigned) (by decide) (by decide) (lenOf own_pd4 rfl) rfl (Nat.le_of_eq rfl) rfl at_114 rfl (by decide) (by decide) rfl rfl rfl N (own_pure fun locs N => ?_)
      refine own_lstore C (pc' := 119) (Ls' := #[.val (.int p0), .val (.int p1), .val (.int (4 : Int32)), .val (.int (1 : Int32)), .val (.ref (A 2)), .val (.long (-9223372036854775808 : Int64)), .second, .val (.ref b3), .val (.long (0 : Int64)), .second]) at_117 rfl rfl ?_
      refine own_iloadN C (pc' := 120) (v := (1 : Int32)) at_119 rfl rfl ?_
      refine own_ifN C (pc' := 123) at_120 (XT.i0_eq_f (by decide)) rfl ?_
      refine own_lload C (pc' := 125) (v := (0 : Int64)) at_123 rfl rfl ?_
      refine own_lconst C (pc' := 126) (v := (0 : Int64)) at_125 rfl rfl ?_
      refine own_lcmp C (pc' := 127) (z := (0 : Int32)) at_126 (by decide) rfl ?_
      refine own_ifN C (pc' := 130) at_127 (XT.i0_ne_f (by decide)) rfl ?_
      refine own_iconst C (pc' := 131) (v := (1 : Int32)) at_130 rfl rfl ?_
      refine own_goto C (pc' := 135) at_131 (by decide) (by decide) ?_
      exact own_retW C H at_135 rfl (Or.inl ⟨rfl, Or.inr (Or.inl rfl), _, rfl⟩) rfl N (trivial) (by decide) (by decide)
set_option maxRecDepth 65536 in
set_option maxHeartbeats 40000000 in
theorem comes_1 {Post : Tables → Env → Array Value → State → Outcome → State → Prop} (hpost : ∀ tb e args s v u, (limb_1_1.after args s (.returned v) u = true ∧ limb_1_2.after args s (.returned v) u = true ∧ True) → ReturnedEndW s (.returned v) u (Jvm.fieldLocs frame_1_writes args s ++ Jvm.arrayLocs frame_1_arrays args s ++ Jvm.staticLocs frame_1_statics s) 16 1152 → Post tb e args s (.returned v) u) :
    ArmFor flags0 classFile x code maxLocals ret World_1 tables_1 room_1 Calls_1 rest_1 Pre_1 Post := by
  intro l hfl _ _ p e ha hc hk s m args below hf hA hF happ hP
  obtain ⟨hcalls, hrest, hpre⟩ := hP
  obtain ⟨-, -, -, hnamed, -, -, -, hat⟩ := (Spec.applies_iff hf).mp happ
  obtain ⟨hg, hn⟩ := and_e (Cond.before_iff.mp (show (Jvm.Cond.and given_1 narrow_1).before args s = true from hpre))
  obtain ⟨h1, h2⟩ := and_e hg
  obtain ⟨hg0, h2⟩ := and_e h2
  have hg1 := h2
  obtain ⟨w0, w1, rfl⟩ : ∃ w0 w1 : Value, args = #[w0, w1] := by
    have hs : args.size = 2 := by simpa [Cond.value, given_1] using h1
    obtain ⟨L⟩ := args
    match L, hs with
    | [w0, w1], _ => exact ⟨w0, w1, rfl⟩
  have hw := fun d (hd : d ∈ tables_1) => atoms_spec (ws := Jvm.Cond.code x code maxLocals ret :: tables_1) hat d (List.mem_cons_of_mem _ hd)
  have hfit : Fit s := fun {y c} hc i hi => by
    obtain ⟨ha, rfl⟩ := Array.getElem?_eq_some_iff.mp hc
    have q := List.all_eq_true.mp ((Array.all_eq_true_iff_forall_mem.mp hF) _ (Array.getElem_mem ha)) i (List.mem_range.mpr hi)
    simpa [Array.getElem?_eq_getElem hi] using q
  obtain ⟨A, B⟩ := own_start hw hfit hn
  obtain ⟨i0, e0⟩ := is_v hg0
  obtain rfl : w0 = (.int i0) := Option.some.inj e0
  obtain ⟨i1, e1⟩ := is_v hg1
  obtain rfl : w1 = (.int i1) := Option.some.inj e1
  have M := own_law l s _ hw A B s.heap s.heap.size (Old.start s) i0 i1
  obtain ⟨n, o, h1, h2, h3, _, L, rfl, ⟨rfl, N, -⟩, hq⟩ := M p e ha hc hk s m _ below hf ((Spec.applies_iff_loose hf).mp happ).1 ⟨rfl, State.Warmed39.refl s, rfl⟩ trivial
  refine ⟨n, _, h1, h2, h3, hpost _ _ _ _ _ _ ⟨Cond.after_iff.mpr rfl, Cond.after_iff.mpr (eq_i res_at (Term.int_eval (1)) rfl), trivial⟩ ⟨hq.1, hq.2.1, hq.2.2.1, (hq.2.2.2.sift fun y hy => Or.inr (N y hy)).mono (by decide) (by decide)⟩⟩
theorem main_1_1 : Claimed_1_1 := comes_1 fun _ _ _ _ _ _ h hF => ⟨h.1, hF⟩
theorem main_1_2 : Claimed_1_2 := comes_1 fun _ _ _ _ _ _ h hF => ⟨h.2.1, hF⟩
end Jvm.Pilot.@@N@@
namespace Jvm.Pilot.@@N@@
open Jvm Jvm.ClassFile Sem Op Lib Jvm.Free Jvm.Stand Jvm.Pilot.@@N@@.Jvm.D
/-! MADE BY PROGRAM (witnessworld.py) out of the Statement's table words and the real class files: 20 classes; the members and pool entries that the words name. The judged class is class 1, her method 1. -/
namespace start1
open Jvm.ClassFile
def u (s : String) : CpInfo := .utf8 (stringToUtf16 s)
/-- a pool by its gaps: so many unusable entries, then the entry; so many at the end -/
def gap : Nat → List CpInfo → List CpInfo
  | 0, r => r
  | n + 1, r => .unusable :: gap n r
def poolList (es : List (Nat × CpInfo)) (last : Nat) : List CpInfo := es.foldr (fun e r => gap e.1 (e.2 :: r)) (gap last [])
def pool (es : List (Nat × CpInfo)) (last : Nat) : Array CpInfo := ⟨poolList es last⟩
def fileOf (pool : Array CpInfo) (this : Nat) (attrs : Array Attribute := #[]) (ms : Array MethodInfo := #[]) (fl : Nat := 33) (sup : Nat := 0) (ifs : Array Nat := #[]) (fds : Array FieldInfo := #[]) : ClassFile where
  minorVersion := 0
  majorVersion := 65
  constantPool := pool
  accessFlags := fl
  thisClass := this
  superClass := sup
  interfaces := ifs
  fields := fds
  methods := ms
  attributes := attrs
def plain (name : String) (sup : Option ClassId) : Class where
  name := name
  kind := .ordinary
  loader := none
  accessFlags := 33
  super := sup
  interfaces := #[]
  cf := none
  fields := #[]
  methods := #[]
  instanceTypes := #[]
  staticTypes := #[]
  resolved := #[]
  callSites := []
  init := .initialized
  statics := none
  mirror := none

def pool0 : Array CpInfo := pool [(5, u "<init>"), (0, u "()V"), (1, .class_ 10), (1, u "java/lang/Object")] 113

def k0c0 : Code := { maxStack := 0, maxLocals := 1, code := object_method_1_code, exceptionTable := #[], attributes := #[] }
def k0m0 : Method := { name := "<init>", desc := "()V", sig := { parameters := [], returnType := none }, accessFlags := 1, code := some k0c0 }
/-- java/lang/Object -/
def k0 : Class := { plain "java/lang/Object" none with
  accessFlags := 33
  interfaces := #[]
  cf := some (fileOf pool0 8 #[] #[{ accessFlags := 1, nameIndex := 5, descriptorIndex := 6, attributes := #[] }] 33 0 #[] #[])
  fields := #[]
  methods := #[k0m0]
  instanceTypes := #[]
  staticTypes := #[]
  resolved := Array.replicate 124 none
  statics := none }

def pool1 : Array CpInfo := pool [(2, .class_ 4), (1, u "java/lang/Object"), (0, u "<init>"), (0, u "()V"), (0, .integer 2147483647), (0, .fieldref 9 10), (0, .class_ 11), (0, .nameAndType 12 13), (0, u "com/example/dml_to_locks/dmltolocks/model/ColumnType$Kind"), (0, u "TINYINT"), (0, u "Lcom/example/dml_to_locks/dmltolocks/model/ColumnType$Kind;"), (0, .long 18446744073709551488), (1, .fieldref 9 17), (0, .nameAndType 18 13), (0, u "SMALLINT"), (0, .long 18446744073709518848), (1, .fieldref 9 22), (0, .nameAndType 23 13), (0, u "MEDIUMINT"), (0, .long 18446744073701163008), (1, .fieldref 9 27), (0, .nameAndType 28 13), (0, u "INT"), (0, .long 18446744071562067968), (1, .fieldref 9 32), (0, .nameAndType 33 13), (0, u "BIGINT"), (0, .long 9223372036854775808), (1, .class_ 37), (0, u "com/example/dml_to_locks/dmltolocks/model/ColumnType$IntegerType"), (0, .methodref 36 39), (0, .nameAndType 5 40), (0, u "(Lcom/example/dml_to_locks/dmltolocks/model/ColumnType$Kind;Z)V"), (0, .methodref 36 42), (0, .nameAndType 43 44), (0, u "minimum"), (0, u "()J"), (0, .class_ 46), (0, u "com/example/dml_to_locks/dmltolocks/model/IntegerTypeMinimumPinLaw"), (2, u "law"), (0, u "(II)Z")] 8

def k1m0 : Method := { name := "<init>", desc := "()V", sig := { parameters := [], returnType := none }, accessFlags := 2, code := none }
def k1c1 : Code := { maxStack := 4, maxLocals := 10, code := code, exceptionTable := #[], attributes := #[] }
def k1m1 : Method := { name := "law", desc := "(II)Z", sig := { parameters := [.int, .int], returnType := some .boolean }, accessFlags := 9, code := some k1c1 }
/-- com/example/dml_to_locks/dmltolocks/model/IntegerTypeMinimumPinLaw -/
def k1 : Class := { plain "com/example/dml_to_locks/dmltolocks/model/IntegerTypeMinimumPinLaw" (some 0) with
  accessFlags := 49
  interfaces := #[]
  cf := some (fileOf pool1 45 #[] #[{ accessFlags := 2, nameIndex := 5, descriptorIndex := 6, attributes := #[] }, { accessFlags := 9, nameIndex := 49, descriptorIndex := 50, attributes := #[] }] 49 2 #[] #[])
  fields := #[]
  methods := #[k1m0, k1m1]
  instanceTypes := #[]
  staticTypes := #[]
  resolved := Array.replicate 59 none
  statics := none }

def pool2 : Array CpInfo := pool [(1, .class_ 2), (0, u "java/lang/constant/Constable"), (0, .class_ 4), (0, u "java/lang/Object")] 6

/-- java/lang/constant/Constable -/
def k2 : Class := { plain "java/lang/constant/Constable" (some 0) with
  accessFlags := 1537
  interfaces := #[]
  cf := some (fileOf pool2 1 #[] #[] 1537 3 #[] #[])
  fields := #[]
  methods := #[]
  instanceTypes := #[]
  staticTypes := #[]
  resolved := Array.replicate 11 none
  statics := none }

def pool3 : Array CpInfo := pool [(1, .class_ 2), (0, u "java/lang/Comparable"), (0, .class_ 4), (0, u "java/lang/Object")] 7

/-- java/lang/Comparable -/
def k3 : Class := { plain "java/lang/Comparable" (some 0) with
  accessFlags := 1537
  interfaces := #[]
  cf := some (fileOf pool3 1 #[] #[] 1537 3 #[] #[])
  fields := #[]
  methods := #[]
  instanceTypes := #[]
  staticTypes := #[]
  resolved := Array.replicate 12 none
  statics := none }

def pool4 : Array CpInfo := pool [(1, .class_ 2), (0, u "java/io/Serializable"), (0, .class_ 4), (0, u "java/lang/Object")] 2

/-- java/io/Serializable -/
def k4 : Class := { plain "java/io/Serializable" (some 0) with
  accessFlags := 1537
  interfaces := #[]
  cf := some (fileOf pool4 1 #[] #[] 1537 3 #[] #[])
  fields := #[]
  methods := #[]
  instanceTypes := #[]
  staticTypes := #[]
  resolved := Array.replicate 7 none
  statics := none }

def pool5 : Array CpInfo := pool [(2, .class_ 4), (1, u "java/lang/Enum"), (0, u "name"), (0, u "Ljava/lang/String;"), (2, u "ordinal"), (0, u "I"), (1, .class_ 14), (1, u "java/lang/Object"), (4, u "hash"), (86, .class_ 108), (1, u "java/lang/Enum$EnumDesc"), (2, .class_ 112), (0, u "java/lang/constant/Constable"), (0, .class_ 114), (0, u "java/lang/Comparable"), (0, .class_ 116), (0, u "java/io/Serializable")] 87

/-- java/lang/Enum -/
def k5 : Class := { plain "java/lang/Enum" (some 0) with
  accessFlags := 1057
  interfaces := #[2, 3, 4]
  cf := some (fileOf pool5 2 #[.nestMembers #[106]] #[] 1057 12 #[111, 113, 115] #[{ accessFlags := 18, nameIndex := 5, descriptorIndex := 6, attributes := #[] }, { accessFlags := 18, nameIndex := 9, descriptorIndex := 10, attributes := #[] }, { accessFlags := 2, nameIndex := 19, descriptorIndex := 10, attributes := #[] }])
  fields := #[{ name := "name", type := (.object "java/lang/String"), accessFlags := 18, slot := 0, constantValue := 0 }, { name := "ordinal", type := .int, accessFlags := 18, slot := 1, constantValue := 0 }, { name := "hash", type := .int, accessFlags := 2, slot := 2, constantValue := 0 }]
  methods := #[]
  instanceTypes := #[(.object "java/lang/String"), .int, .int]
  staticTypes := #[]
  resolved := Array.replicate 204 none
  statics := none }

def pool6 : Array CpInfo := pool [(1, .class_ 2), (0, u "com/example/dml_to_locks/dmltolocks/model/ColumnType$Kind"), (2, u "TINYINT"), (0, u "Lcom/example/dml_to_locks/dmltolocks/model/ColumnType$Kind;"), (2, u "SMALLINT"), (2, u "MEDIUMINT"), (2, u "INT"), (2, u "BIGINT"), (2, u "CHAR"), (2, u "VARCHAR"), (2, u "DECIMAL"), (2, u "DATE"), (2, u "DATETIME"), (2, u "TIMESTAMP"), (2, u "TINYTEXT"), (2, u "TEXT"), (2, u "MEDIUMTEXT"), (2, u "LONGTEXT"), (2, u "TINYBLOB"), (2, u "BLOB"), (2, u "MEDIUMBLOB"), (2, u "LONGBLOB"), (2, u "FLOAT"), (2, u "DOUBLE"), (2, u "ENUM"), (2, u "SET"), (2, u "BIT"), (2, u "JSON"), (2, u "$VALUES"), (0, u "[Lcom/example/dml_to_locks/dmltolocks/model/ColumnType$Kind;"), (6, .class_ 91), (1, u "java/lang/Enum"), (8, u "family"), (0, u "Lcom/example/dml_to_locks/dmltolocks/model/ColumnType$Family;"), (2, u "bits"), (0, u "I"), (2, u "aliases"), (0, u "[Ljava/lang/String;"), (106, .class_ 217), (0, u "com/example/dml_to_locks/dmltolocks/model/ColumnType")] 3

/-- com/example/dml_to_locks/dmltolocks/model/ColumnType$Kind -/
def k6 : Class := { plain "com/example/dml_to_locks/dmltolocks/model/ColumnType$Kind" (some 5) with
  accessFlags := 16433
  interfaces := #[]
  cf := some (fileOf pool6 1 #[.nestHost 216] #[] 16433 89 #[] #[{ accessFlags := 16409, nameIndex := 5, descriptorIndex := 6, attributes := #[] }, { accessFlags := 16409, nameIndex := 9, descriptorIndex := 6, attributes := #[] }, { accessFlags := 16409, nameIndex := 12, descriptorIndex := 6, attributes := #[] }, { accessFlags := 16409, nameIndex := 15, descriptorIndex := 6, attributes := #[] }, { accessFlags := 16409, nameIndex := 18, descriptorIndex := 6, attributes := #[] }, { accessFlags := 16409, nameIndex := 21, descriptorIndex := 6, attributes := #[] }, { accessFlags := 16409, nameIndex := 24, descriptorIndex := 6, attributes := #[] }, { accessFlags := 16409, nameIndex := 27, descriptorIndex := 6, attributes := #[] }, { accessFlags := 16409, nameIndex := 30, descriptorIndex := 6, attributes := #[] }, { accessFlags := 16409, nameIndex := 33, descriptorIndex := 6, attributes := #[] }, { accessFlags := 16409, nameIndex := 36, descriptorIndex := 6, attributes := #[] }, { accessFlags := 16409, nameIndex := 39, descriptorIndex := 6, attributes := #[] }, { accessFlags := 16409, nameIndex := 42, descriptorIndex := 6, attributes := #[] }, { accessFlags := 16409, nameIndex := 45, descriptorIndex := 6, attributes := #[] }, { accessFlags := 16409, nameIndex := 48, descriptorIndex := 6, attributes := #[] }, { accessFlags := 16409, nameIndex := 51, descriptorIndex := 6, attributes := #[] }, { accessFlags := 16409, nameIndex := 54, descriptorIndex := 6, attributes := #[] }, { accessFlags := 16409, nameIndex := 57, descriptorIndex := 6, attributes := #[] }, { accessFlags := 16409, nameIndex := 60, descriptorIndex := 6, attributes := #[] }, { accessFlags := 16409, nameIndex := 63, descriptorIndex := 6, attributes := #[] }, { accessFlags := 16409, nameIndex := 66, descriptorIndex := 6, attributes := #[] }, { accessFlags := 16409, nameIndex := 69, descriptorIndex := 6, attributes := #[] }, { accessFlags := 16409, nameIndex := 72, descriptorIndex := 6, attributes := #[] }, { accessFlags := 16409, nameIndex := 75, descriptorIndex := 6, attributes := #[] }, { accessFlags := 16409, nameIndex := 78, descriptorIndex := 6, attributes := #[] }, { accessFlags := 18, nameIndex := 100, descriptorIndex := 101, attributes := #[] }, { accessFlags := 18, nameIndex := 104, descriptorIndex := 105, attributes := #[] }, { accessFlags := 18, nameIndex := 108, descriptorIndex := 109, attributes := #[] }, { accessFlags := 4122, nameIndex := 81, descriptorIndex := 82, attributes := #[] }])
  fields := #[{ name := "TINYINT", type := (.object "com/example/dml_to_locks/dmltolocks/model/ColumnType$Kind"), accessFlags := 16409, slot := 0, constantValue := 0 }, { name := "SMALLINT", type := (.object "com/example/dml_to_locks/dmltolocks/model/ColumnType$Kind"), accessFlags := 16409, slot := 1, constantValue := 0 }, { name := "MEDIUMINT", type := (.object "com/example/dml_to_locks/dmltolocks/model/ColumnType$Kind"), accessFlags := 16409, slot := 2, constantValue := 0 }, { name := "INT", type := (.object "com/example/dml_to_locks/dmltolocks/model/ColumnType$Kind"), accessFlags := 16409, slot := 3, constantValue := 0 }, { name := "BIGINT", type := (.object "com/example/dml_to_locks/dmltolocks/model/ColumnType$Kind"), accessFlags := 16409, slot := 4, constantValue := 0 }, { name := "CHAR", type := (.object "com/example/dml_to_locks/dmltolocks/model/ColumnType$Kind"), accessFlags := 16409, slot := 5, constantValue := 0 }, { name := "VARCHAR", type := (.object "com/example/dml_to_locks/dmltolocks/model/ColumnType$Kind"), accessFlags := 16409, slot := 6, constantValue := 0 }, { name := "DECIMAL", type := (.object "com/example/dml_to_locks/dmltolocks/model/ColumnType$Kind"), accessFlags := 16409, slot := 7, constantValue := 0 }, { name := "DATE", type := (.object "com/example/dml_to_locks/dmltolocks/model/ColumnType$Kind"), accessFlags := 16409, slot := 8, constantValue := 0 }, { name := "DATETIME", type := (.object "com/example/dml_to_locks/dmltolocks/model/ColumnType$Kind"), accessFlags := 16409, slot := 9, constantValue := 0 }, { name := "TIMESTAMP", type := (.object "com/example/dml_to_locks/dmltolocks/model/ColumnType$Kind"), accessFlags := 16409, slot := 10, constantValue := 0 }, { name := "TINYTEXT", type := (.object "com/example/dml_to_locks/dmltolocks/model/ColumnType$Kind"), accessFlags := 16409, slot := 11, constantValue := 0 }, { name := "TEXT", type := (.object "com/example/dml_to_locks/dmltolocks/model/ColumnType$Kind"), accessFlags := 16409, slot := 12, constantValue := 0 }, { name := "MEDIUMTEXT", type := (.object "com/example/dml_to_locks/dmltolocks/model/ColumnType$Kind"), accessFlags := 16409, slot := 13, constantValue := 0 }, { name := "LONGTEXT", type := (.object "com/example/dml_to_locks/dmltolocks/model/ColumnType$Kind"), accessFlags := 16409, slot := 14, constantValue := 0 }, { name := "TINYBLOB", type := (.object "com/example/dml_to_locks/dmltolocks/model/ColumnType$Kind"), accessFlags := 16409, slot := 15, constantValue := 0 }, { name := "BLOB", type := (.object "com/example/dml_to_locks/dmltolocks/model/ColumnType$Kind"), accessFlags := 16409, slot := 16, constantValue := 0 }, { name := "MEDIUMBLOB", type := (.object "com/example/dml_to_locks/dmltolocks/model/ColumnType$Kind"), accessFlags := 16409, slot := 17, constantValue := 0 }, { name := "LONGBLOB", type := (.object "com/example/dml_to_locks/dmltolocks/model/ColumnType$Kind"), accessFlags := 16409, slot := 18, constantValue := 0 }, { name := "FLOAT", type := (.object "com/example/dml_to_locks/dmltolocks/model/ColumnType$Kind"), accessFlags := 16409, slot := 19, constantValue := 0 }, { name := "DOUBLE", type := (.object "com/example/dml_to_locks/dmltolocks/model/ColumnType$Kind"), accessFlags := 16409, slot := 20, constantValue := 0 }, { name := "ENUM", type := (.object "com/example/dml_to_locks/dmltolocks/model/ColumnType$Kind"), accessFlags := 16409, slot := 21, constantValue := 0 }, { name := "SET", type := (.object "com/example/dml_to_locks/dmltolocks/model/ColumnType$Kind"), accessFlags := 16409, slot := 22, constantValue := 0 }, { name := "BIT", type := (.object "com/example/dml_to_locks/dmltolocks/model/ColumnType$Kind"), accessFlags := 16409, slot := 23, constantValue := 0 }, { name := "JSON", type := (.object "com/example/dml_to_locks/dmltolocks/model/ColumnType$Kind"), accessFlags := 16409, slot := 24, constantValue := 0 }, { name := "family", type := (.object "com/example/dml_to_locks/dmltolocks/model/ColumnType$Family"), accessFlags := 18, slot := 3, constantValue := 0 }, { name := "bits", type := .int, accessFlags := 18, slot := 4, constantValue := 0 }, { name := "aliases", type := (.array (.object "java/lang/String")), accessFlags := 18, slot := 5, constantValue := 0 }, { name := "$VALUES", type := (.array (.object "com/example/dml_to_locks/dmltolocks/model/ColumnType$Kind")), accessFlags := 4122, slot := 25, constantValue := 0 }]
  methods := #[]
  instanceTypes := #[(.object "java/lang/String"), .int, .int, (.object "com/example/dml_to_locks/dmltolocks/model/ColumnType$Family"), .int, (.array (.object "java/lang/String"))]
  staticTypes := #[(.object "com/example/dml_to_locks/dmltolocks/model/ColumnType$Kind"), (.object "com/example/dml_to_locks/dmltolocks/model/ColumnType$Kind"), (.object "com/example/dml_to_locks/dmltolocks/model/ColumnType$Kind"), (.object "com/example/dml_to_locks/dmltolocks/model/ColumnType$Kind"), (.object "com/example/dml_to_locks/dmltolocks/model/ColumnType$Kind"), (.object "com/example/dml_to_locks/dmltolocks/model/ColumnType$Kind"), (.object "com/example/dml_to_locks/dmltolocks/model/ColumnType$Kind"), (.object "com/example/dml_to_locks/dmltolocks/model/ColumnType$Kind"), (.object "com/example/dml_to_locks/dmltolocks/model/ColumnType$Kind"), (.object "com/example/dml_to_locks/dmltolocks/model/ColumnType$Kind"), (.object "com/example/dml_to_locks/dmltolocks/model/ColumnType$Kind"), (.object "com/example/dml_to_locks/dmltolocks/model/ColumnType$Kind"), (.object "com/example/dml_to_locks/dmltolocks/model/ColumnType$Kind"), (.object "com/example/dml_to_locks/dmltolocks/model/ColumnType$Kind"), (.object "com/example/dml_to_locks/dmltolocks/model/ColumnType$Kind"), (.object "com/example/dml_to_locks/dmltolocks/model/ColumnType$Kind"), (.object "com/example/dml_to_locks/dmltolocks/model/ColumnType$Kind"), (.object "com/example/dml_to_locks/dmltolocks/model/ColumnType$Kind"), (.object "com/example/dml_to_locks/dmltolocks/model/ColumnType$Kind"), (.object "com/example/dml_to_locks/dmltolocks/model/ColumnType$Kind"), (.object "com/example/dml_to_locks/dmltolocks/model/ColumnType$Kind"), (.object "com/example/dml_to_locks/dmltolocks/model/ColumnType$Kind"), (.object "com/example/dml_to_locks/dmltolocks/model/ColumnType$Kind"), (.object "com/example/dml_to_locks/dmltolocks/model/ColumnType$Kind"), (.object "com/example/dml_to_locks/dmltolocks/model/ColumnType$Kind"), (.array (.object "com/example/dml_to_locks/dmltolocks/model/ColumnType$Kind"))]
  resolved := Array.replicate 221 none
  statics := some 0 }

def pool7 : Array CpInfo := pool [(1, .methodref 2 3), (0, .class_ 4), (0, .nameAndType 5 6), (0, u "java/lang/Object"), (0, u "<init>"), (0, u "()V"), (0, .class_ 8), (0, u "java/lang/Record")] 13

def k7c0 : Code := { maxStack := 1, maxLocals := 1, code := jdk_30_method_1_code, exceptionTable := #[], attributes := #[] }
def k7m0 : Method := { name := "<init>", desc := "()V", sig := { parameters := [], returnType := none }, accessFlags := 4, code := some k7c0 }
/-- java/lang/Record -/
def k7 : Class := { plain "java/lang/Record" (some 0) with
  accessFlags := 1057
  interfaces := #[]
  cf := some (fileOf pool7 7 #[] #[{ accessFlags := 4, nameIndex := 5, descriptorIndex := 6, attributes := #[] }] 1057 2 #[] #[])
  fields := #[]
  methods := #[k7m0]
  instanceTypes := #[]
  staticTypes := #[]
  resolved := Array.replicate 22 none
  statics := none }

def pool8 : Array CpInfo := pool [(1, .string 2), (0, u "kind"), (0, .methodref 4 5), (0, .class_ 6), (0, .nameAndType 7 8), (0, u "java/util/Objects"), (0, u "requireNonNull"), (0, u "(Ljava/lang/Object;Ljava/lang/String;)Ljava/lang/Object;"), (0, .fieldref 10 11), (0, .class_ 12), (0, .nameAndType 13 14), (0, u "com/example/dml_to_locks/dmltolocks/model/ColumnType$Kind"), (0, u "family"), (0, u "Lcom/example/dml_to_locks/dmltolocks/model/ColumnType$Family;"), (35, .class_ 51), (0, u "com/example/dml_to_locks/dmltolocks/model/ColumnType"), (0, .class_ 53), (0, u "java/lang/Object"), (15, u "requireFamily"), (0, u "(Lcom/example/dml_to_locks/dmltolocks/model/ColumnType$Kind;Lcom/example/dml_to_locks/dmltolocks/model/ColumnType$Family;)V"), (7, .class_ 79), (0, u "com/example/dml_to_locks/dmltolocks/model/ColumnType$UnorderedType"), (0, .class_ 81), (0, u "com/example/dml_to_locks/dmltolocks/model/ColumnType$TemporalType"), (0, .class_ 83), (0, u "com/example/dml_to_locks/dmltolocks/model/ColumnType$DecimalType"), (0, .class_ 85), (0, u "com/example/dml_to_locks/dmltolocks/model/ColumnType$CharacterType"), (0, .class_ 87), (0, u "com/example/dml_to_locks/dmltolocks/model/ColumnType$IntegerType"), (0, .class_ 89), (0, u "com/example/dml_to_locks/dmltolocks/model/ColumnType$Held"), (0, .class_ 91), (0, u "com/example/dml_to_locks/dmltolocks/model/ColumnType$Family")] 26

def k8c0 : Code := { maxStack := 4, maxLocals := 2, code := prog_62_method_9_code, exceptionTable := #[], attributes := #[] }
def k8m0 : Method := { name := "requireFamily", desc := "(Lcom/example/dml_to_locks/dmltolocks/model/ColumnType$Kind;Lcom/example/dml_to_locks/dmltolocks/model/ColumnType$Family;)V", sig := { parameters := [(.object "com/example/dml_to_locks/dmltolocks/model/ColumnType$Kind"), (.object "com/example/dml_to_locks/dmltolocks/model/ColumnType$Family")], returnType := none }, accessFlags := 10, code := some k8c0 }
/-- com/example/dml_to_locks/dmltolocks/model/ColumnType -/
def k8 : Class := { plain "com/example/dml_to_locks/dmltolocks/model/ColumnType" (some 0) with
  accessFlags := 1537
  interfaces := #[]
  cf := some (fileOf pool8 50 #[.nestMembers #[78, 80, 82, 84, 86, 10, 88, 90]] #[{ accessFlags := 10, nameIndex := 69, descriptorIndex := 70, attributes := #[] }] 1537 52 #[] #[])
  fields := #[]
  methods := #[k8m0]
  instanceTypes := #[]
  staticTypes := #[]
  resolved := ⟨List.replicate 9 none ++ some (.field 6 25) :: List.replicate 108 none⟩
  statics := none }

def pool9 : Array CpInfo := pool [(1, .methodref 2 3), (0, .class_ 4), (0, .nameAndType 5 6), (0, u "java/lang/Record"), (0, u "<init>"), (0, u "()V"), (0, .fieldref 8 9), (0, .class_ 10), (0, .nameAndType 11 12), (0, u "com/example/dml_to_locks/dmltolocks/model/ColumnType$Family"), (0, u "INTEGER"), (0, u "Lcom/example/dml_to_locks/dmltolocks/model/ColumnType$Family;"), (0, .interfaceMethodref 14 15), (0, .class_ 16), (0, .nameAndType 17 18), (0, u "com/example/dml_to_locks/dmltolocks/model/ColumnType"), (0, u "requireFamily"), (0, u "(Lcom/example/dml_to_locks/dmltolocks/model/ColumnType$Kind;Lcom/example/dml_to_locks/dmltolocks/model/ColumnType$Family;)V"), (0, .fieldref 20 21), (0, .class_ 22), (0, .nameAndType 23 24), (0, u "com/example/dml_to_locks/dmltolocks/model/ColumnType$IntegerType"), (0, u "kind"), (0, u "Lcom/example/dml_to_locks/dmltolocks/model/ColumnType$Kind;"), (0, .fieldref 20 26), (0, .nameAndType 27 28), (0, u "unsigned"), (0, u "Z"), (54, u "()J"), (2, u "minimum"), (19, .fieldref 107 108), (0, .class_ 109), (0, .nameAndType 110 111), (0, u "com/example/dml_to_locks/dmltolocks/model/ColumnType$Kind"), (0, u "bits"), (0, u "I"), (35, u "DECIMAL_INTEGER"), (0, u "Ljava/util/regex/Pattern;"), (26, u "(Lcom/example/dml_to_locks/dmltolocks/model/ColumnType$Kind;Z)V")] 58

def k9c0 : Code := { maxStack := 2, maxLocals := 3, code := prog_67_method_1_code, exceptionTable := #[], attributes := #[] }
def k9m0 : Method := { name := "<init>", desc := "(Lcom/example/dml_to_locks/dmltolocks/model/ColumnType$Kind;Z)V", sig := { parameters := [(.object "com/example/dml_to_locks/dmltolocks/model/ColumnType$Kind"), .boolean], returnType := none }, accessFlags := 1, code := some k9c0 }
def k9c1 : Code := { maxStack := 4, maxLocals := 1, code := prog_67_method_6_code, exceptionTable := #[], attributes := #[] }
def k9m1 : Method := { name := "minimum", desc := "()J", sig := { parameters := [], returnType := some .long }, accessFlags := 1, code := some k9c1 }
/-- com/example/dml_to_locks/dmltolocks/model/ColumnType$IntegerType -/
def k9 : Class := { plain "com/example/dml_to_locks/dmltolocks/model/ColumnType$IntegerType" (some 7) with
  accessFlags := 49
  interfaces := #[8]
  cf := some (fileOf pool9 20 #[.nestHost 14] #[{ accessFlags := 1, nameIndex := 5, descriptorIndex := 175, attributes := #[] }, { accessFlags := 1, nameIndex := 86, descriptorIndex := 83, attributes := #[] }] 49 2 #[14] #[{ accessFlags := 18, nameIndex := 23, descriptorIndex := 24, attributes := #[] }, { accessFlags := 18, nameIndex := 27, descriptorIndex := 28, attributes := #[] }, { accessFlags := 26, nameIndex := 147, descriptorIndex := 148, attributes := #[] }])
  fields := #[{ name := "kind", type := (.object "com/example/dml_to_locks/dmltolocks/model/ColumnType$Kind"), accessFlags := 18, slot := 0, constantValue := 0 }, { name := "unsigned", type := .boolean, accessFlags := 18, slot := 1, constantValue := 0 }, { name := "DECIMAL_INTEGER", type := (.object "java/util/regex/Pattern"), accessFlags := 26, slot := 0, constantValue := 0 }]
  methods := #[k9m0, k9m1]
  instanceTypes := #[(.object "com/example/dml_to_locks/dmltolocks/model/ColumnType$Kind"), .boolean]
  staticTypes := #[(.object "java/util/regex/Pattern")]
  resolved := Array.replicate 234 none
  statics := none }

def pool10 : Array CpInfo := pool [(1, .class_ 2), (0, u "com/example/dml_to_locks/dmltolocks/model/ColumnType$Family"), (2, u "INTEGER"), (0, u "Lcom/example/dml_to_locks/dmltolocks/model/ColumnType$Family;"), (2, u "CHARACTER"), (2, u "DECIMAL"), (2, u "TEMPORAL"), (2, u "UNORDERED"), (2, u "$VALUES"), (0, u "[Lcom/example/dml_to_locks/dmltolocks/model/ColumnType$Family;"), (6, .class_ 31), (1, u "java/lang/Enum"), (28, .class_ 61), (0, u "com/example/dml_to_locks/dmltolocks/model/ColumnType")] 2

/-- com/example/dml_to_locks/dmltolocks/model/ColumnType$Family -/
def k10 : Class := { plain "com/example/dml_to_locks/dmltolocks/model/ColumnType$Family" (some 5) with
  accessFlags := 16433
  interfaces := #[]
  cf := some (fileOf pool10 1 #[.nestHost 60] #[] 16433 29 #[] #[{ accessFlags := 16409, nameIndex := 5, descriptorIndex := 6, attributes := #[] }, { accessFlags := 16409, nameIndex := 9, descriptorIndex := 6, attributes := #[] }, { accessFlags := 16409, nameIndex := 12, descriptorIndex := 6, attributes := #[] }, { accessFlags := 16409, nameIndex := 15, descriptorIndex := 6, attributes := #[] }, { accessFlags := 16409, nameIndex := 18, descriptorIndex := 6, attributes := #[] }, { accessFlags := 4122, nameIndex := 21, descriptorIndex := 22, attributes := #[] }])
  fields := #[{ name := "INTEGER", type := (.object "com/example/dml_to_locks/dmltolocks/model/ColumnType$Family"), accessFlags := 16409, slot := 0, constantValue := 0 }, { name := "CHARACTER", type := (.object "com/example/dml_to_locks/dmltolocks/model/ColumnType$Family"), accessFlags := 16409, slot := 1, constantValue := 0 }, { name := "DECIMAL", type := (.object "com/example/dml_to_locks/dmltolocks/model/ColumnType$Family"), accessFlags := 16409, slot := 2, constantValue := 0 }, { name := "TEMPORAL", type := (.object "com/example/dml_to_locks/dmltolocks/model/ColumnType$Family"), accessFlags := 16409, slot := 3, constantValue := 0 }, { name := "UNORDERED", type := (.object "com/example/dml_to_locks/dmltolocks/model/ColumnType$Family"), accessFlags := 16409, slot := 4, constantValue := 0 }, { name := "$VALUES", type := (.array (.object "com/example/dml_to_locks/dmltolocks/model/ColumnType$Family")), accessFlags := 4122, slot := 5, constantValue := 0 }]
  methods := #[]
  instanceTypes := #[(.object "java/lang/String"), .int, .int]
  staticTypes := #[(.object "com/example/dml_to_locks/dmltolocks/model/ColumnType$Family"), (.object "com/example/dml_to_locks/dmltolocks/model/ColumnType$Family"), (.object "com/example/dml_to_locks/dmltolocks/model/ColumnType$Family"), (.object "com/example/dml_to_locks/dmltolocks/model/ColumnType$Family"), (.object "com/example/dml_to_locks/dmltolocks/model/ColumnType$Family"), (.array (.object "com/example/dml_to_locks/dmltolocks/model/ColumnType$Family"))]
  resolved := Array.replicate 64 none
  statics := some 1 }

def pool11 : Array CpInfo := pool [(2, .class_ 4), (1, u "java/lang/CharSequence"), (42, .class_ 48), (0, u "java/lang/CharSequence$1CodePointIterator"), (10, .class_ 60), (0, u "java/lang/CharSequence$1CharIterator"), (5, .class_ 67), (0, u "java/lang/Object")] 63

/-- java/lang/CharSequence -/
def k11 : Class := { plain "java/lang/CharSequence" (some 0) with
  accessFlags := 1537
  interfaces := #[]
  cf := some (fileOf pool11 2 #[.nestMembers #[47, 59]] #[] 1537 66 #[] #[])
  fields := #[]
  methods := #[]
  instanceTypes := #[]
  staticTypes := #[]
  resolved := Array.replicate 131 none
  statics := none }

def pool12 : Array CpInfo := pool [(1, .class_ 2), (0, u "java/lang/constant/ConstantDesc"), (0, .class_ 4), (0, u "java/lang/Object")] 32

/-- java/lang/constant/ConstantDesc -/
def k12 : Class := { plain "java/lang/constant/ConstantDesc" (some 0) with
  accessFlags := 1537
  interfaces := #[]
  cf := some (fileOf pool12 1 #[] #[] 1537 3 #[] #[])
  fields := #[]
  methods := #[]
  instanceTypes := #[]
  staticTypes := #[]
  resolved := Array.replicate 37 none
  statics := none }

def pool13 : Array CpInfo := pool [(2, .class_ 4), (1, u "java/lang/Object"), (0, u "<init>"), (0, u "()V"), (3, .class_ 12), (1, u "java/lang/String"), (0, u "value"), (0, u "[B"), (2, u "coder"), (0, u "B"), (2, u "hash"), (0, u "I"), (2, u "hashIsZero"), (0, u "Z"), (13, u "COMPACT_STRINGS"), (534, .class_ 576), (0, u "java/lang/CharSequence"), (22, u "CASE_INSENSITIVE_ORDER"), (0, u "Ljava/util/Comparator;"), (500, u "serialPersistentFields"), (0, u "[Ljava/io/ObjectStreamField;"), (0, .class_ 1104), (0, u "java/lang/String$CaseInsensitiveComparator"), (1, .class_ 1107), (0, u "java/io/Serializable"), (0, .class_ 1109), (0, u "java/lang/Comparable"), (0, .class_ 1111), (0, u "java/lang/constant/Constable"), (0, .class_ 1113), (0, u "java/lang/constant/ConstantDesc"), (2, u "serialVersionUID"), (0, u "J"), (3, u "REPL"), (0, u "C"), (2, u "LATIN1"), (1, u "UTF16")] 323

def k13m0 : Method := { name := "<init>", desc := "()V", sig := { parameters := [], returnType := none }, accessFlags := 1, code := none }
/-- java/lang/String -/
def k13 : Class := { plain "java/lang/String" (some 0) with
  accessFlags := 49
  interfaces := #[4, 3, 11, 2, 12]
  cf := some (fileOf pool13 10 #[.nestMembers #[1103]] #[{ accessFlags := 1, nameIndex := 5, descriptorIndex := 6, attributes := #[] }] 49 2 #[1106, 1108, 575, 1110, 1112] #[{ accessFlags := 18, nameIndex := 13, descriptorIndex := 14, attributes := #[] }, { accessFlags := 18, nameIndex := 17, descriptorIndex := 18, attributes := #[] }, { accessFlags := 2, nameIndex := 21, descriptorIndex := 22, attributes := #[] }, { accessFlags := 2, nameIndex := 25, descriptorIndex := 26, attributes := #[] }, { accessFlags := 26, nameIndex := 1116, descriptorIndex := 1117, attributes := #[] }, { accessFlags := 24, nameIndex := 40, descriptorIndex := 26, attributes := #[] }, { accessFlags := 26, nameIndex := 1101, descriptorIndex := 1102, attributes := #[] }, { accessFlags := 26, nameIndex := 1121, descriptorIndex := 1122, attributes := #[] }, { accessFlags := 25, nameIndex := 599, descriptorIndex := 600, attributes := #[] }, { accessFlags := 24, nameIndex := 1125, descriptorIndex := 18, attributes := #[] }, { accessFlags := 24, nameIndex := 1127, descriptorIndex := 18, attributes := #[] }])
  fields := #[{ name := "value", type := (.array .byte), accessFlags := 18, slot := 0, constantValue := 0 }, { name := "coder", type := .byte, accessFlags := 18, slot := 1, constantValue := 0 }, { name := "hash", type := .int, accessFlags := 2, slot := 2, constantValue := 0 }, { name := "hashIsZero", type := .boolean, accessFlags := 2, slot := 3, constantValue := 0 }, { name := "serialVersionUID", type := .long, accessFlags := 26, slot := 0, constantValue := 0 }, { name := "COMPACT_STRINGS", type := .boolean, accessFlags := 24, slot := 1, constantValue := 0 }, { name := "serialPersistentFields", type := (.array (.object "java/io/ObjectStreamField")), accessFlags := 26, slot := 2, constantValue := 0 }, { name := "REPL", type := .char, accessFlags := 26, slot := 3, constantValue := 0 }, { name := "CASE_INSENSITIVE_ORDER", type := (.object "java/util/Comparator"), accessFlags := 25, slot := 4, constantValue := 0 }, { name := "LATIN1", type := .byte, accessFlags := 24, slot := 5, constantValue := 0 }, { name := "UTF16", type := .byte, accessFlags := 24, slot := 6, constantValue := 0 }]
  methods := #[k13m0]
  instanceTypes := #[(.array .byte), .byte, .int, .boolean]
  staticTypes := #[.long, .boolean, (.array (.object "java/io/ObjectStreamField")), .char, (.object "java/util/Comparator"), .byte, .byte]
  resolved := Array.replicate 1451 none
  statics := none }

def pool14 : Array CpInfo := pool [(2, .class_ 4), (1, u "java/lang/Object"), (0, u "<init>"), (0, u "()V"), (35, .class_ 44), (1, u "java/util/Objects"), (0, u "requireNonNull"), (48, u "(Ljava/lang/Object;Ljava/lang/String;)Ljava/lang/Object;")] 89

def k14m0 : Method := { name := "<init>", desc := "()V", sig := { parameters := [], returnType := none }, accessFlags := 2, code := none }
def k14c1 : Code := { maxStack := 3, maxLocals := 2, code := jdk_31_method_11_code, exceptionTable := #[], attributes := #[] }
def k14m1 : Method := { name := "requireNonNull", desc := "(Ljava/lang/Object;Ljava/lang/String;)Ljava/lang/Object;", sig := { parameters := [(.object "java/lang/Object"), (.object "java/lang/String")], returnType := some (.object "java/lang/Object") }, accessFlags := 9, code := some k14c1 }
/-- java/util/Objects -/
def k14 : Class := { plain "java/util/Objects" (some 0) with
  accessFlags := 49
  interfaces := #[]
  cf := some (fileOf pool14 42 #[] #[{ accessFlags := 2, nameIndex := 5, descriptorIndex := 6, attributes := #[] }, { accessFlags := 9, nameIndex := 45, descriptorIndex := 94, attributes := #[] }] 49 2 #[] #[])
  fields := #[]
  methods := #[k14m0, k14m1]
  instanceTypes := #[]
  staticTypes := #[]
  resolved := Array.replicate 184 none
  statics := none }

def pool15 : Array CpInfo := pool [(1, u "java/lang/Cloneable"), (0, .class_ 1), (0, u "java/lang/Object"), (0, .class_ 3)] 3

/-- java/lang/Cloneable -/
def k15 : Class := { plain "java/lang/Cloneable" (some 0) with
  accessFlags := 1537
  interfaces := #[]
  cf := some (fileOf pool15 2 #[] #[] 1537 4 #[] #[])
  fields := #[]
  methods := #[]
  instanceTypes := #[]
  staticTypes := #[]
  resolved := Array.replicate 8 none
  statics := none }

/-- the primitive byte -/
def k16 : Class := { plain "byte" none with kind := .primitive 'B', accessFlags := 0x411 }
/-- [B -/
def k17 : Class := { plain "[B" (some 0) with kind := .array 16 .byte, interfaces := #[15, 4], accessFlags := 1041 }

/-- the primitive int -/
def k18 : Class := { plain "int" none with kind := .primitive 'I', accessFlags := 0x411 }
/-- [I -/
def k19 : Class := { plain "[I" (some 0) with kind := .array 18 .int, interfaces := #[15, 4], accessFlags := 1041 }

def heap : Heap := #[{ cls := 6, slots := #[.ref 2, .ref 6, .ref 7, .ref 5, .ref 4, .null, .null, .null, .null, .null, .null, .null, .null, .null, .null, .null, .null, .null, .null, .null, .null, .null, .null, .null, .null, .null], vm := .statics 6 },
  { cls := 10, slots := #[.ref 3, .null, .null, .null, .null, .null], vm := .statics 10 },
  { cls := 6, slots := #[.null, .int 0, .int 0, .ref 3, .int 8, .null], vm := .none },
  { cls := 10, slots := #[.null, .int 0, .int 0], vm := .none },
  { cls := 6, slots := #[.null, .int 0, .int 0, .ref 3, .int 64, .null], vm := .none },
  { cls := 6, slots := #[.null, .int 0, .int 0, .ref 3, .int 32, .null], vm := .none },
  { cls := 6, slots := #[.null, .int 0, .int 0, .ref 3, .int 16, .null], vm := .none },
  { cls := 6, slots := #[.null, .int 0, .int 0, .ref 3, .int 24, .null], vm := .none }]
def classes : Array Class := #[k0, k1, k2, k3, k4, k5, k6, k7, k8, k9, k10, k11, k12, k13, k14, k15, k16, k17, k18, k19]
def interned : List (Array UInt16 × Addr) := []
def slotsUsed : Nat := 65
def theMethod : MethodId := ⟨1, 1⟩
def args0 : Array Value := #[.int 5, .int 2]
def aboutOver (below : List Frame) : State where
  vm := { classes := classes, interned := interned.toArray }
  heap := heap
  slotsUsed := slotsUsed
  threads := #[{ frames := .invoking theMethod args0 :: below }]
def below0 : List Frame := [.native { method := ⟨0, 0⟩, args := #[] }]
def about1 : State := aboutOver below0
def p0 : Program := .bare "" "" ""
def e0 : Env := launch0.env 0 0 0
theorem w_frames : about1.frames = Frame.invoking theMethod args0 :: below0 := rfl
set_option maxRecDepth 65536 in
theorem w_args : argsFit about1.vm theMethod args0 = true := by decide +kernel
set_option maxRecDepth 65536 in
theorem w_heap : heapFits about1 = true := by decide +kernel
set_option maxRecDepth 65536 in
theorem w_runnable : about1.curStatus? = some .runnable := by decide +kernel
set_option maxRecDepth 65536 in
theorem w_alone : about1.alone = true := by decide +kernel
set_option maxRecDepth 65536 in
theorem w_named : about1.methodNamed? x = some theMethod := by decide +kernel
set_option maxRecDepth 65536 in
theorem w_hears : about1.hears theMethod below0 = true := by decide +kernel
set_option maxRecDepth 65536 in
theorem w_ripe : about1.ripe theMethod args0 below0 = true := by decide +kernel
theorem w_running : about1.status = .running := rfl
set_option maxRecDepth 65536 in
theorem w_room : about1.hasRoom e0.platform room_1 = true :=
  launch0.hasRoom_least _ room_1 (by decide +kernel) (by decide +kernel) (by decide +kernel) (by decide +kernel) (by decide +kernel) (by decide +kernel)
theorem allAtoms_all (ts : List Jvm.Cond) (a : Array Jvm.Value) (st : Jvm.State) : (allAtoms ts).before a st = ts.all (fun c => c.before a st) := by
  induction ts with
  | nil => rfl
  | cons c t ih =>
    show (Jvm.Cond.and c (allAtoms t)).before a st = _
    rw [Jvm.Cond.before_and, ih, List.all_cons]
def words1 : List Jvm.Cond := Jvm.Cond.code x code maxLocals ret :: tables_1
/-- a 'code' word, met by the world's own term for the bytes: nothing is compared byte by byte -/
theorem code_word {y : MethodName} {bytes : ByteArray} {mx : Nat} {rt : Option FieldType} {a : Array Value} {s : State} {m : MethodId} {meth : Method} {c : Code} (h1 : s.methodNamed? y = some m) (h2 : s.vm.method? m = some meth) (h3 : meth.code = some c) (h4 : c.code = bytes)
    (h5 : (c.maxLocals == mx && c.exceptionTable.isEmpty && decide (c.maxStack ≤ mostOperands) && decide (meth.sig.returnType = rt) && !meth.locks && decide (parseMethodDescriptor y.desc = some meth.sig)) = true) : (Jvm.Cond.code y bytes mx rt).before a s = true := by
  simp only [Bool.and_eq_true, beq_iff_eq, Bool.not_eq_true', decide_eq_true_eq] at h5
  obtain ⟨⟨⟨⟨⟨g1, g2⟩, g3⟩, g4⟩, g5⟩, g6⟩ := h5
  simp [Cond.before, Cond.holds, Cond.value, h1, h2, h3, h4, g1, g2, g3, g4, g5, g6]
def isCode : Jvm.Cond → Bool
  | .code _ _ _ _ => true
  | _ => false
theorem all_split {L : List Jvm.Cond} {P : Jvm.Cond → Bool} (h1 : L.all (fun c => isCode c || P c) = true) (h2 : ∀ c ∈ L.filter isCode, P c = true) : L.all P = true := by
  refine List.all_eq_true.mpr fun c hc => ?_
  have h := List.all_eq_true.mp h1 c hc
  rcases Bool.eq_false_or_eq_true (isCode c) with hi | hi
  · exact h2 c (List.mem_filter.mpr ⟨hc, hi⟩)
  · simpa [hi] using h
set_option maxRecDepth 65536 in
theorem w_c0 : (Jvm.Cond.code x code maxLocals ret).before args0 about1 = true := code_word (m := ⟨1, 1⟩) (meth := k1m1) (c := k1c1) (by decide +kernel) rfl rfl rfl (by decide +kernel)
set_option maxRecDepth 65536 in
theorem w_c1 : (Jvm.Cond.code ({ cls := "com/example/dml_to_locks/dmltolocks/model/ColumnType$IntegerType", name := "<init>", desc := "(Lcom/example/dml_to_locks/dmltolocks/model/ColumnType$Kind;Z)V" } : Jvm.MethodName) prog_67_method_1_code (3 : Nat) (Option.none : Option Jvm.ClassFile.FieldType)).before args0 about1 = true := code_word (m := ⟨9, 0⟩) (meth := k9m0) (c := k9c0) (by decide +kernel) rfl rfl rfl (by decide +kernel)
set_option maxRecDepth 65536 in
theorem w_c2 : (Jvm.Cond.code ({ cls := "java/lang/Record", name := "<init>", desc := "()V" } : Jvm.MethodName) jdk_30_method_1_code (1 : Nat) (Option.none : Option Jvm.ClassFile.FieldType)).before args0 about1 = true := code_word (m := ⟨7, 0⟩) (meth := k7m0) (c := k7c0) (by decide +kernel) rfl rfl rfl (by decide +kernel)
set_option maxRecDepth 65536 in
theorem w_c3 : (Jvm.Cond.code ({ cls := "java/lang/Object", name := "<init>", desc := "()V" } : Jvm.MethodName) object_method_1_code (1 : Nat) (Option.none : Option Jvm.ClassFile.FieldType)).before args0 about1 = true := code_word (m := ⟨0, 0⟩) (meth := k0m0) (c := k0c0) (by decide +kernel) rfl rfl rfl (by decide +kernel)
set_option maxRecDepth 65536 in
theorem w_c4 : (Jvm.Cond.code ({ cls := "com/example/dml_to_locks/dmltolocks/model/ColumnType", name := "requireFamily", desc := "(Lcom/example/dml_to_locks/dmltolocks/model/ColumnType$Kind;Lcom/example/dml_to_locks/dmltolocks/model/ColumnType$Family;)V" } : Jvm.MethodName) prog_62_method_9_code (2 : Nat) (Option.none : Option Jvm.ClassFile.FieldType)).before args0 about1 = true := code_word (m := ⟨8, 0⟩) (meth := k8m0) (c := k8c0) (by decide +kernel) rfl rfl rfl (by decide +kernel)
set_option maxRecDepth 65536 in
theorem w_c5 : (Jvm.Cond.code ({ cls := "java/util/Objects", name := "requireNonNull", desc := "(Ljava/lang/Object;Ljava/lang/String;)Ljava/lang/Object;" } : Jvm.MethodName) jdk_31_method_11_code (2 : Nat) (Option.some (Jvm.ClassFile.FieldType.object "java/lang/Object"))).before args0 about1 = true := code_word (m := ⟨14, 1⟩) (meth := k14m1) (c := k14c1) (by decide +kernel) rfl rfl rfl (by decide +kernel)
set_option maxRecDepth 65536 in
theorem w_c6 : (Jvm.Cond.code ({ cls := "com/example/dml_to_locks/dmltolocks/model/ColumnType$IntegerType", name := "minimum", desc := "()J" } : Jvm.MethodName) prog_67_method_6_code (1 : Nat) (Option.some Jvm.ClassFile.FieldType.long)).before args0 about1 = true := code_word (m := ⟨9, 1⟩) (meth := k9m1) (c := k9c1) (by decide +kernel) rfl rfl rfl (by decide +kernel)
def codes1 : List Jvm.Cond := [Jvm.Cond.code x code maxLocals ret, Jvm.Cond.code ({ cls := "com/example/dml_to_locks/dmltolocks/model/ColumnType$IntegerType", name := "<init>", desc := "(Lcom/example/dml_to_locks/dmltolocks/model/ColumnType$Kind;Z)V" } : Jvm.MethodName) prog_67_method_1_code (3 : Nat) (Option.none : Option Jvm.ClassFile.FieldType), Jvm.Cond.code ({ cls := "java/lang/Record", name := "<init>", desc := "()V" } : Jvm.MethodName) jdk_30_method_1_code (1 : Nat) (Option.none : Option Jvm.ClassFile.FieldType), Jvm.Cond.code ({ cls := "java/lang/Object", name := "<init>", desc := "()V" } : Jvm.MethodName) object_method_1_code (1 : Nat) (Option.none : Option Jvm.ClassFile.FieldType), Jvm.Cond.code ({ cls := "com/example/dml_to_locks/dmltolocks/model/ColumnType", name := "requireFamily", desc := "(Lcom/example/dml_to_locks/dmltolocks/model/ColumnType$Kind;Lcom/example/dml_to_locks/dmltolocks/model/ColumnType$Family;)V" } : Jvm.MethodName) prog_62_method_9_code (2 : Nat) (Option.none : Option Jvm.ClassFile.FieldType), Jvm.Cond.code ({ cls := "java/util/Objects", name := "requireNonNull", desc := "(Ljava/lang/Object;Ljava/lang/String;)Ljava/lang/Object;" } : Jvm.MethodName) jdk_31_method_11_code (2 : Nat) (Option.some (Jvm.ClassFile.FieldType.object "java/lang/Object")), Jvm.Cond.code ({ cls := "com/example/dml_to_locks/dmltolocks/model/ColumnType$IntegerType", name := "minimum", desc := "()J" } : Jvm.MethodName) prog_67_method_6_code (1 : Nat) (Option.some Jvm.ClassFile.FieldType.long)]
set_option maxRecDepth 65536 in
theorem codes_eq : words1.filter isCode = codes1 := rfl
theorem w_codes : ∀ c ∈ words1.filter isCode, c.before args0 about1 = true := by
  rw [codes_eq]
  intro c hc
  simp only [codes1, List.mem_cons, List.not_mem_nil, or_false] at hc
  rcases hc with rfl | rfl | rfl | rfl | rfl | rfl | rfl
  · exact w_c0
  · exact w_c1
  · exact w_c2
  · exact w_c3
  · exact w_c4
  · exact w_c5
  · exact w_c6
set_option maxRecDepth 65536 in
theorem w_t1 : (words1.take 24).all (fun c => isCode c || c.before args0 about1) = true := by decide +kernel
set_option maxRecDepth 65536 in
theorem w_t2 : ((words1.drop 24).take 24).all (fun c => isCode c || c.before args0 about1) = true := by decide +kernel
set_option maxRecDepth 65536 in
theorem w_t3 : ((words1.drop 24).drop 24).all (fun c => isCode c || c.before args0 about1) = true := by decide +kernel
theorem w_tables : (allAtoms (Jvm.Cond.code x code maxLocals ret :: tables_1)).before args0 about1 = true := by
  rw [allAtoms_all]
  show words1.all (fun c => c.before args0 about1) = true
  refine all_split ?_ w_codes
  rw [← List.take_append_drop 24 words1, List.all_append, w_t1, ← List.take_append_drop 24 (words1.drop 24), List.all_append, w_t2, w_t3]
  rfl
set_option maxRecDepth 65536 in
theorem w_case : (Jvm.Cond.and given_1 narrow_1).before args0 about1 = true := by decide +kernel
theorem w_applies : (headSpec (Jvm.Cond.code x code maxLocals ret :: tables_1) room_1).applies x e0.platform about1 = true :=
  (Spec.applies_iff w_frames).mpr ⟨w_running, w_runnable, w_alone, w_named, w_hears, w_ripe, w_room, w_tables⟩
theorem atStart : AtStart classFile x code maxLocals ret World_1 tables_1 room_1 Calls_1 rest_1 Pre_1 launch0 p0 e0 about1 theMethod args0 below0 :=
  ⟨lists_1, trivial, launch0.admits_env _ _ _, launch0.least_env, fairChoices_fair.cas, fairChoices_fair.clock, w_frames, w_args, w_heap, w_applies, trivial, trivial, w_case⟩
end start1
theorem witness_1 : WitnessClaimed_1 := ⟨start1.p0, start1.e0, start1.about1, start1.theMethod, start1.args0, start1.below0, start1.atStart⟩
end Jvm.Pilot.@@N@@
