import JvmDerived
import JvmDerived.Pilot.@@N@@Statement
import JvmDerived.Pilot.@@N@@Code
set_option linter.unusedVariables false
set_option linter.unusedSimpArgs false
@@BLOCK:NumsL.lean.txt@@
namespace Jvm.Pilot.@@N@@
open Jvm Jvm.ClassFile Sem Op Lib Jvm.Free Jvm.Stand Jvm.LawKit Jvm.RoadKit Bundle Jvm.Pilot.@@N@@.Jvm.D
section Own
variable {p : Program} {l : Launch} {e : Env} {R : Room} {s : State} {m : MethodId} {args : Array Value} {below : List Frame} {meth : Method} {c : Code} {Z : State} {a0 : Array Value} {Q : Option Value → Heap → List Loc → Prop} {Fn : Outcome → State → Prop} {kk nn : Nat} {h h0 : Heap} {locs : List Loc} {cells slots cells' slots' n0 pc pc' : Nat} {Ls Ls' : Array Slot} {st st' rest : List Value} {own nm : String} {bytes : ByteArray} {mx : Nat} {rt : Option FieldType}
/-- the walk stands at pc with these locals and this stack over the heap h: from there the body comes to its end as Q says -/
def own_St (p : Program) (l : Launch) (e : Env) (R : Room) (s : State) (m : MethodId) (args : Array Value) (below : List Frame) (meth : Method) (c : Code) (Fn : Outcome → State → Prop) (h : Heap) (locs : List Loc) (cells slots : Nat) (pc : Nat) (Ls : Array Slot) (st : List Value) : Prop :=
  ∀ T, Stand p l e R s m args below meth c T locs cells slots → T.heap = h →
    ∃ s₂ o, Steps p.tables e below (T.setTop (mkF m pc Ls st)) s₂ ∧ s₂.status = .running ∧ Ended s₂ below o ∧ Fn o s₂
/-- the end of a body that interned nothing -/
def own_F (s : State) (Q : Option Value → Heap → List Loc → Prop) (kk nn : Nat) (o : Outcome) (s₂ : State) : Prop := ∃ v L, o = .returned v ∧ Q v s₂.heap L ∧ FrameEnd s o s₂ L kk nn
/-- what is fixed while a body is walked -/
def own_Cx (p : Program) (s : State) (m : MethodId) (meth : Method) (c : Code) (Z : State) (own : String) (bytes : ByteArray) (mx : Nat) (rt : Option FieldType) (nm : String) : Prop :=
  p.tables.exec = Jvm.exec ∧ c.code = bytes ∧ c.maxLocals = mx ∧ s.vm.findClass own = some m.cls ∧ meth.sig.returnType = rt ∧ meth.locks = false ∧ Z.Warmed39 s.vm ∧ meth.name = nm
/-- the contract of a body -/
def own_Met (l : Launch) (Z : State) (y : MethodName) (bytes : ByteArray) (mx : Nat) (rt : Option FieldType) (ws : List Jvm.Cond) (rm : Room) (kk nn : Nat) (as' : Array Value) (h : Heap) (Q : Option Value → Heap → List Loc → Prop) : Prop :=
  MetFree l y (head1 (Jvm.Cond.code y bytes mx rt :: ws) rm) (fun a U => a = as' ∧ Z.Warmed39 U.vm ∧ U.heap = h) (fun _ _ _ _ _ => True) (fun _ U o U' => ∃ v L, o = .returned v ∧ Q v U'.heap L ∧ FrameEnd U o U' L kk nn)
/-- what a body returns (w), that it wrote nothing old, what its heap says (D) -/
def own_Q (w : Option Value) (n0 : Nat) (D : Heap → Prop) : Option Value → Heap → List Loc → Prop := fun v h L => v = w ∧ Fr n0 L ∧ D h
theorem own_mv {h' : Heap} {locs' : List Loc} (G : own_St p l e R s m args below meth c Fn h' locs' cells' slots' pc' Ls' st')
    (step : ∀ T, Stand p l e R s m args below meth c T locs cells slots → T.heap = h → ∃ T', Stand p l e R s m args below meth c T' locs' cells' slots' ∧ T'.heap = h' ∧ ∀ t, Steps p.tables e below (T'.setTop (mkF m pc' Ls' st')) t → Steps p.tables e below (T.setTop (mkF m pc Ls st)) t) :
    own_St p l e R s m args below meth c Fn h locs cells slots pc Ls st := by
  intro T X eT
  obtain ⟨T', X', e', k⟩ := step T X eT
  obtain ⟨s₂, o, h1, r⟩ := G T' X' e'
  exact ⟨s₂, o, k _ h1, r⟩
theorem own_pl (G : own_St p l e R s m args below meth c Fn h locs cells slots pc' Ls' st')
    (step : ∀ T, At T m c below → ∀ t, Steps p.tables e below (T.setTop (mkF m pc' Ls' st')) t → Steps p.tables e below (T.setTop (mkF m pc Ls st)) t) :
    own_St p l e R s m args below meth c Fn h locs cells slots pc Ls st := own_mv G fun T X eT => ⟨T, X, eT, step T X.here⟩
theorem own_enter {y : MethodName} {ws : List Jvm.Cond} {rm : Room} {as' : Array Value} (hy : plainName y.cls = true) (hef : ∀ m, entryFrame m as' mx = mkF m 0 Ls [])
    (body : ∀ p e s m below meth c, own_Cx p s m meth c Z y.cls bytes mx rt y.name → own_St p l e rm s m as' below meth c (own_F s Q kk nn) h [] 0 0 0 Ls []) : own_Met l Z y bytes mx rt ws rm kk nn as' h Q := by
  refine MetFree.of_bodySF (plainFor_of_name hy) hisR ?_
  intro p e s m args below meth c s₁ Bd hml0 hP hK
  obtain ⟨rfl, hZ, hh⟩ := hP
  have X0 : Stand p l e rm s m args below meth c s₁ [] 0 0 := Stand.of_body Bd
  have e0 : s₁.heap = h := by rw [← hh, Bd.state]; rfl
  obtain ⟨s₂, o, h1, h2⟩ := body p e s m below meth c ⟨Bd.exec, Bd.bytes, hml0, findClass_of_methodNamed Bd.named, Bd.returns, BodyLoose.notSynchronized Bd, hZ, (name_of_methodNamed Bd.named Bd.method).1⟩ s₁ X0 e0
  exact ⟨s₂, o, castTop (hef m) h1, h2⟩
/-! single steps -/
theorem own_iloadN (C : own_Cx p s m meth c Z own bytes mx rt nm) {k : Fin 4} {v : Int32} (hd : decode bytes pc = .ok (.iload_n k, 1)) (hl : Ls[k.val]? = some (.val (.int v))) (hp : pc + 1 = pc') (G : own_St p l e R s m args below meth c Fn h locs cells slots pc' Ls (.int v :: st)) : own_St p l e R s m args below meth c Fn h locs cells slots pc Ls st := by
  subst hp; exact own_pl G fun T H t k => XS.iloadN H C.1 rfl (hb C.2.1 hd) hl k
theorem own_iload (C : own_Cx p s m meth c Z own bytes mx rt nm) {k : Nat} {v : Int32} (hd : decode bytes pc = .ok (.iload k, 2)) (hl : Ls[k]? = some (.val (.int v))) (hp : pc + 2 = pc') (G : own_St p l e R s m args below meth c Fn h locs cells slots pc' Ls (.int v :: st)) : own_St p l e R s m args below meth c Fn h locs cells slots pc Ls st := by
  subst hp; exact own_pl G fun T H t k => XS.iload H C.1 rfl (hb C.2.1 hd) hl k
theorem own_aloadN (C : own_Cx p s m meth c Z own bytes mx rt nm) {k : Fin 4} {v : Value} (hd : decode bytes pc = .ok (.aload_n k, 1)) (hl : Ls[k.val]? = some (.val v)) (hv : v.isRef = true) (hp : pc + 1 = pc') (G : own_St p l e R s m args below meth c Fn h locs cells slots pc' Ls (v :: st)) : own_St p l e R s m args below meth c Fn h locs cells slots pc Ls st := by
  subst hp; exact own_pl G fun T H t k => XS.aloadN H C.1 rfl (hb C.2.1 hd) hl hv k
theorem own_aload (C : own_Cx p s m meth c Z own bytes mx rt nm) {k : Nat} {v : Value} (hd : decode bytes pc = .ok (.aload k, 2)) (hl : Ls[k]? = some (.val v)) (hv : v.isRef = true) (hp : pc + 2 = pc') (G : own_St p l e R s m args below meth c Fn h locs cells slots pc' Ls (v :: st)) : own_St p l e R s m args below meth c Fn h locs cells slots pc Ls st := by
  subst hp; exact own_pl G fun T H t k => XS.aload H C.1 rfl (hb C.2.1 hd) hl hv k
theorem own_istoreN (C : own_Cx p s m meth c Z own bytes mx rt nm) {k : Fin 4} {x : Int32} (hd : decode bytes pc = .ok (.istore_n k, 1)) (hl : storeLocals Ls k.val (.int x) = some Ls') (hp : pc + 1 = pc') (G : own_St p l e R s m args below meth c Fn h locs cells slots pc' Ls' st) : own_St p l e R s m args below meth c Fn h locs cells slots pc Ls (.int x :: st) := by
  subst hp; exact own_pl G fun T H t k => XS.istoreN H C.1 rfl (hb C.2.1 hd) rfl hl k
theorem own_istore (C : own_Cx p s m meth c Z own bytes mx rt nm) {k : Nat} {x : Int32} (hd : decode bytes pc = .ok (.istore k, 2)) (hl : storeLocals Ls k (.int x) = some Ls') (hp : pc + 2 = pc') (G : own_St p l e R s m args below meth c Fn h locs cells slots pc' Ls' st) : own_St p l e R s m args below meth c Fn h locs cells slots pc Ls (.int x :: st) := by
  subst hp; exact own_pl G fun T H t k => XS.istore H C.1 rfl (hb C.2.1 hd) rfl hl k
theorem own_astoreN (C : own_Cx p s m meth c Z own bytes mx rt nm) {k : Fin 4} {x : Value} (hd : decode bytes pc = .ok (.astore_n k, 1)) (hv : x.isRef = true) (hl : storeLocals Ls k.val x = some Ls') (hp : pc + 1 = pc') (G : own_St p l e R s m args below meth c Fn h locs cells slots pc' Ls' st) : own_St p l e R s m args below meth c Fn h locs cells slots pc Ls (x :: st) := by
  subst hp; exact own_pl G fun T H t k => XS.astoreN H C.1 rfl (hb C.2.1 hd) rfl hv hl k
theorem own_astore (C : own_Cx p s m meth c Z own bytes mx rt nm) {k : Nat} {x : Value} (hd : decode bytes pc = .ok (.astore k, 2)) (hv : x.isRef = true) (hl : storeLocals Ls k x = some Ls') (hp : pc + 2 = pc') (G : own_St p l e R s m args below meth c Fn h locs cells slots pc' Ls' st) : own_St p l e R s m args below meth c Fn h locs cells slots pc Ls (x :: st) := by
  subst hp; exact own_pl G fun T H t k => XS.astore H C.1 rfl (hb C.2.1 hd) rfl hv hl k
theorem own_iconst (C : own_Cx p s m meth c Z own bytes mx rt nm) {i : Int} {v : Int32} (hd : decode bytes pc = .ok (.iconst i, 1)) (hv : Int32.ofInt i = v) (hp : pc + 1 = pc') (G : own_St p l e R s m args below meth c Fn h locs cells slots pc' Ls (.int v :: st)) : own_St p l e R s m args below meth c Fn h locs cells slots pc Ls st := by
  subst hp hv; exact own_pl G fun T H t k => XS.iconst H C.1 rfl (hb C.2.1 hd) k
theorem own_bipush (C : own_Cx p s m meth c Z own bytes mx rt nm) {i : Int} {v : Int32} (hd : decode bytes pc = .ok (.bipush i, 2)) (hv : (Int8.ofInt i).toInt32 = v) (hp : pc + 2 = pc') (G : own_St p l e R s m args below meth c Fn h locs cells slots pc' Ls (.int v :: st)) : own_St p l e R s m args below meth c Fn h locs cells slots pc Ls st := by
  subst hp hv; exact own_pl G fun T H t k => XS.bipush H C.1 rfl (hb C.2.1 hd) k
theorem own_aconst (C : own_Cx p s m meth c Z own bytes mx rt nm) (hd : decode bytes pc = .ok (.aconst_null, 1)) (hp : pc + 1 = pc') (G : own_St p l e R s m args below meth c Fn h locs cells slots pc' Ls (.null :: st)) : own_St p l e R s m args below meth c Fn h locs cells slots pc Ls st := by
  subst hp; exact own_pl G fun T H t k => XS.aconstNull H C.1 rfl (hb C.2.1 hd) k
theorem own_iand (C : own_Cx p s m meth c Z own bytes mx rt nm) {x y z : Int32} (hd : decode bytes pc = .ok (.iand, 1)) (hz : x &&& y = z) (hp : pc + 1 = pc') (G : own_St p l e R s m args below meth c Fn h locs cells slots pc' Ls (.int z :: st)) : own_St p l e R s m args below meth c Fn h locs cells slots pc Ls (.int y :: .int x :: st) := by
  subst hp hz; exact own_pl G fun T H t k => XS.iand H C.1 rfl (hb C.2.1 hd) rfl k
theorem own_iinc (C : own_Cx p s m meth c Z own bytes mx rt nm) {k : Nat} {cst : Int} {x z : Int32} (hd : decode bytes pc = .ok (.iinc k cst, 3)) (hl : Ls[k]? = some (.val (.int x))) (hz : x + Int32.ofInt cst = z) (hl' : storeLocals Ls k (.int z) = some Ls') (hp : pc + 3 = pc') (G : own_St p l e R s m args below meth c Fn h locs cells slots pc' Ls' st) : own_St p l e R s m args below meth c Fn h locs cells slots pc Ls st := by
  subst hp hz; exact own_pl G fun T H t k => XS.iinc H C.1 rfl (hb C.2.1 hd) hl hl' k
theorem own_goto (C : own_Cx p s m meth c Z own bytes mx rt nm) {o : Int} (hd : decode bytes pc = .ok (.goto o, 3)) (ho : 0 ≤ (pc : Int) + o) (hp : ((pc : Int) + o).toNat = pc') (G : own_St p l e R s m args below meth c Fn h locs cells slots pc' Ls st) : own_St p l e R s m args below meth c Fn h locs cells slots pc Ls st :=
  own_pl G fun T H t k => XS.goto H C.1 rfl rfl (hb C.2.1 hd) ho hp k
theorem own_ifY (C : own_Cx p s m meth c Z own bytes mx rt nm) {cd : ClassFile.Cond} {x : Int32} {o : Int} (hd : decode bytes pc = .ok (.ifCond cd o, 3)) (hc : ifCond.holds cd x = true) (ho : 0 ≤ (pc : Int) + o) (hp : ((pc : Int) + o).toNat = pc') (G : own_St p l e R s m args below meth c Fn h locs cells slots pc' Ls st) : own_St p l e R s m args below meth c Fn h locs cells slots pc Ls (.int x :: st) :=
  own_pl G fun T H t k => XS.ifYes H C.1 rfl rfl (hb C.2.1 hd) rfl hc ho hp k
theorem own_ifN (C : own_Cx p s m meth c Z own bytes mx rt nm) {cd : ClassFile.Cond} {x : Int32} {o : Int} (hd : decode bytes pc = .ok (.ifCond cd o, 3)) (hc : ifCond.holds cd x = false) (hp : pc + 3 = pc') (G : own_St p l e R s m args below meth c Fn h locs cells slots pc' Ls st) : own_St p l e R s m args below meth c Fn h locs cells slots pc Ls (.int x :: st) := by
  subst hp; exact own_pl G fun T H t k => XS.ifNo H C.1 rfl (hb C.2.1 hd) rfl hc k
theorem own_icmpY (C : own_Cx p s m meth c Z own bytes mx rt nm) {cd : ClassFile.Cond} {x y : Int32} {o : Int} (hd : decode bytes pc = .ok (.if_icmp cd o, 3)) (hc : if_icmp.holds cd x y = true) (ho : 0 ≤ (pc : Int) + o) (hp : ((pc : Int) + o).toNat = pc') (G : own_St p l e R s m args below meth c Fn h locs cells slots pc' Ls st) : own_St p l e R s m args below meth c Fn h locs cells slots pc Ls (.int y :: .int x :: st) :=
  own_pl G fun T H t k => XS.icmpYes H C.1 rfl rfl (hb C.2.1 hd) rfl hc ho hp k
theorem own_icmpN (C : own_Cx p s m meth c Z own bytes mx rt nm) {cd : ClassFile.Cond} {x y : Int32} {o : Int} (hd : decode bytes pc = .ok (.if_icmp cd o, 3)) (hc : if_icmp.holds cd x y = false) (hp : pc + 3 = pc') (G : own_St p l e R s m args below meth c Fn h locs cells slots pc' Ls st) : own_St p l e R s m args below meth c Fn h locs cells slots pc Ls (.int y :: .int x :: st) := by
  subst hp; exact own_pl G fun T H t k => XS.icmpNo H C.1 rfl (hb C.2.1 hd) rfl hc k
theorem own_acmp (C : own_Cx p s m meth c Z own bytes mx rt nm) {cd : ACond} {x y : Value} {o : Int} {same : Bool} (hd : decode bytes pc = .ok (.if_acmp cd o, 3)) (h1 : x.isRef = true) (h2 : y.isRef = true) (hq : decide (x = y) = same) (ho : 0 ≤ (pc : Int) + o) (hp : pc' = if acV cd same = true then ((pc : Int) + o).toNat else pc + 3) (G : own_St p l e R s m args below meth c Fn h locs cells slots pc' Ls st) : own_St p l e R s m args below meth c Fn h locs cells slots pc Ls (y :: x :: st) :=
  own_mv G fun T X eT => ⟨T, X, eT, fun t k => Jvm.RoadKit.acmp X C.1 rfl h1 h2 rfl (hb C.2.1 hd) rfl hq ho hp k⟩
/-! steps that read the tables or the heap -/
theorem own_getS (C : own_Cx p s m meth c Z own bytes mx rt nm) {O n d : String} {index : Nat} {v : Value} (w : (Jvm.Cond.fieldLink own index O n d).before a0 Z = true) (F : Sta Z h O n d v) (hd : decode bytes pc = .ok (.getstatic index, 3)) (hp : pc + 3 = pc') (G : own_St p l e R s m args below meth c Fn h locs cells slots pc' Ls (v :: st)) : own_St p l e R s m args below meth c Fn h locs cells slots pc Ls st := by
  subst hp; exact own_mv G fun T X eT => getS (host := "") X C.1 C.2.2.2.2.2.2.1 C.2.2.2.1 w Via.refl eT F (g := mkF m pc Ls st) rfl (hb C.2.1 hd)
theorem own_getF (C : own_Cx p s m meth c Z own bytes mx rt nm) {O n d host : String} {index : Nat} {a : Addr} {v : Value} (w : (Jvm.Cond.fieldLink own index O n d).before a0 Z = true ∨ (Jvm.Cond.fieldLinkNest own index O n d host).before a0 Z = true) (F : Fld Z h a O n d v) (hd : decode bytes pc = .ok (.getfield index, 3)) (hp : pc + 3 = pc') (G : own_St p l e R s m args below meth c Fn h locs cells slots pc' Ls (v :: st)) : own_St p l e R s m args below meth c Fn h locs cells slots pc Ls (.ref a :: st) := by
  subst hp; exact own_mv G fun T X eT => getF X C.1 C.2.2.2.2.2.2.1 C.2.2.2.1 w Via.refl eT F (g := mkF m pc Ls (.ref a :: st)) rfl rfl (hb C.2.1 hd)
theorem own_cast (C : own_Cx p s m meth c Z own bytes mx rt nm) {K : String} {index : Nat} {a : Addr} (w : (Jvm.Cond.classLink own index K).before a0 Z = true) (F : Ins Z h a K true) (hd : decode bytes pc = .ok (.checkcast index, 3)) (hp : pc + 3 = pc') (G : own_St p l e R s m args below meth c Fn h locs cells slots pc' Ls (.ref a :: st)) : own_St p l e R s m args below meth c Fn h locs cells slots pc Ls (.ref a :: st) := by
  subst hp; exact own_mv G fun T X eT => castY X C.1 C.2.2.2.2.2.2.1 C.2.2.2.1 w eT F (g := mkF m pc Ls (.ref a :: st)) rfl rfl (hb C.2.1 hd)
theorem own_aaload (C : own_Cx p s m meth c Z own bytes mx rt nm) {a : Addr} {k : ClassId} {ty : FieldType} {z j : Int32} {v : Value} {vs : List Value} {dv : Value} (V : Arv Z h a k ty z vs dv) (hty : ty.isReference = true) (hin : ¬ j < 0 ∧ j < z) (hv : vs.getD j.toNatClampNeg dv = v) (hd : decode bytes pc = .ok (.aaload, 1)) (hp : pc + 1 = pc') (G : own_St p l e R s m args below meth c Fn h locs cells slots pc' Ls (v :: st)) : own_St p l e R s m args below meth c Fn h locs cells slots pc Ls (.int j :: .ref a :: st) := by
  subst hp
  obtain ⟨cl, A, q1, S, q3, H, F⟩ := V
  exact own_mv G fun T X eT => ⟨T, X, eT, fun t k => X.aaload C.1 (by rw [eT]; exact A.1) (State.isArrayOf_alike C.2.2.2.2.2.2.1.alike A.2.1) hty A.2.2 (inb_of S hin) (H.at (inb_of S hin) hv) (g := mkF m pc Ls (.int j :: .ref a :: st)) rfl rfl (hb C.2.1 hd) t k⟩
theorem own_alen (C : own_Cx p s m meth c Z own bytes mx rt nm) {a : Addr} {k : ClassId} {ty : FieldType} {z : Int32} {vs : List Value} {dv : Value} (V : Arv Z h a k ty z vs dv) (hd : decode bytes pc = .ok (.arraylength, 1)) (hp : pc + 1 = pc') (G : own_St p l e R s m args below meth c Fn h locs cells slots pc' Ls (.int z :: st)) : own_St p l e R s m args below meth c Fn h locs cells slots pc Ls (.ref a :: st) := by
  subst hp
  obtain ⟨cl, A, q1, S, q3, H, F⟩ := V
  rw [← len_of S q3] at G
  exact own_mv G fun T X eT => ⟨T, X, eT, fun t k => X.arraylength C.1 (by rw [eT]; exact A.1) (State.isArrayOf_alike C.2.2.2.2.2.2.1.alike A.2.1) (g := mkF m pc Ls (.ref a :: st)) rfl rfl (hb C.2.1 hd) t k⟩
theorem own_clone (C : own_Cx p s m meth c Z own bytes mx rt nm) {ad : String} {index : Nat} (w1 : (Jvm.Cond.methodLink own index ⟨ad, "clone", "()Ljava/lang/Object;"⟩).before a0 Z = true) (w2 : (Jvm.Cond.sameMethod ad "java/lang/Object" "clone" "()Ljava/lang/Object;").before a0 Z = true) (w3 : (Jvm.Cond.native ⟨"java/lang/Object", "clone", "()Ljava/lang/Object;"⟩).before a0 Z = true)
    (w4 : (Jvm.Cond.instanceMethod ⟨"java/lang/Object", "clone", "()Ljava/lang/Object;"⟩).before a0 Z = true) (w5 : (Jvm.Cond.selects ad ⟨ad, "clone", "()Ljava/lang/Object;"⟩ ⟨"java/lang/Object", "clone", "()Ljava/lang/Object;"⟩).before a0 Z = true) (w6 : (Jvm.Cond.castable ad "java/lang/Cloneable").before a0 Z = true)
    {a : Addr} {k : ClassId} {ty : FieldType} {z : Int32} {vs : List Value} {dv : Value} {W cap : Nat} (V : Arv Z h a k ty z vs dv) (E : Exa Z h a ad) (hsz : Ls.size = mx) (hd : decode bytes pc = .ok (.invokevirtual index, 3)) (hp : pc + 3 = pc') (hf : 1 ≤ R.frames) (hW : 2 * 0 + (st.map fun v => v.category).sum ≤ W) (hl : W + 14 ≤ R.locals) (hcap : z.toNatClampNeg ≤ cap) (hc : cells + 1 ≤ R.cells) (hsl : slots + cap ≤ R.slots) (hc' : cells + 1 = cells') (hl' : slots + cap = slots')
    (G : ∀ h' b, b = h.size → Ext h h' → Arv Z h' b k ty z vs dv → Exa Z h' b ad → own_St p l e R s m args below meth c Fn h' locs cells' slots' pc' Ls (.ref b :: st)) : own_St p l e R s m args below meth c Fn h locs cells slots pc Ls (.ref a :: st) := by
  subst hp hc' hl'
  intro T X eT
  obtain ⟨T', h', X', e', E', A', Ex, k⟩ := cloneH X C.1 C.2.2.2.2.2.2.1 C.2.2.2.1 w1 w2 w3 w4 w5 w6 eT V.arh E (g := mkF m pc Ls (.ref a :: st)) rfl (hsz.trans C.2.2.1.symm) rfl (hb C.2.1 hd) hf hW hl hcap hc hsl
  obtain ⟨s₂, o, h1, r⟩ := G h' _ rfl E' A' Ex T' X' e'
  exact ⟨s₂, o, k _ h1, r⟩
/-! calls -/
section Calls
variable {y z : MethodName} {index W maxL : Nat} {bytes' : ByteArray} {ret' : Option FieldType} {rm : Room} {argsL : List Value} {w : Option Value} {D : Heap → Prop}
theorem own_callS (C : own_Cx p s m meth c Z own bytes mx rt nm) (w1 : (Jvm.Cond.methodLink own index y).before a0 Z = true) (w2 : (Jvm.Cond.static y).before a0 Z = true) (wz : (Jvm.Cond.initialized y.cls).before a0 Z = true) (wc : (Jvm.Cond.code y bytes' maxL ret').before a0 Z = true) (hy : y.cls ≠ "java/lang/invoke/MethodHandle" ∧ y.cls ≠ "java/lang/invoke/VarHandle")
    (M : own_Met l Z y bytes' maxL ret' [] rm rm.cells rm.slots argsL.toArray h (own_Q w n0 D)) (hf : rm.frames + 1 ≤ R.frames) (hl : W + (maxL + 11) + rm.locals ≤ R.locals) (hlen : ∀ sig, parseMethodDescriptor y.desc = some sig → argsL.length = sig.parameters.length) (hst : st = argsL.reverse ++ rest) (hW : 2 * 0 + (rest.map fun v => v.category).sum ≤ W) (hsz : Ls.size = mx) (hd : decode bytes pc = .ok (.invokestatic index, 3)) (hp : pc + 3 = pc')
    (hc : cells + rm.cells ≤ R.cells) (hs : slots + rm.slots ≤ R.slots) (hc' : cells + rm.cells = cells') (hs' : slots + rm.slots = slots') (hst' : w.toList ++ rest = st') (N : Fr n0 locs)
    (G : ∀ h' locs', D h' → Fr n0 locs' → own_St p l e R s m args below meth c Fn h' locs' cells' slots' pc' Ls st') : own_St p l e R s m args below meth c Fn h locs cells slots pc Ls st := by
  subst hp hc' hs' hst'
  intro T X eT
  obtain ⟨_, _, ⟨T', L', k', n'⟩, -, X', ⟨Lc, hQ, l', y', z'⟩, k⟩ := Jvm.LawKit.callS X C.1 C.2.2.2.1 (mvT C.2.2.2.2.2.2.1 w1) (mvT C.2.2.2.2.2.2.1 w2) (mvT C.2.2.2.2.2.2.1 wz) (mvT C.2.2.2.2.2.2.1 wc) hy (backOf (W := W) M C.2.2.2.2.2.2.1 wc wz hf hl) (g := mkF m pc Ls st) rfl (hsz.trans C.2.2.1.symm) hlen hst hW (hb C.2.1 hd) (fun _ _ => ⟨rfl, eT, hc, hs⟩)
  dsimp only [Pt.U, Pt.locs, Pt.cells, Pt.slots] at X' l' y' z' k hQ
  subst l' y' z'
  obtain ⟨rfl, N', hD⟩ := hQ
  obtain ⟨s₂, o, h1, r⟩ := G _ _ hD (N.app N') T' X' rfl
  exact ⟨s₂, o, k _ h1, r⟩
end Calls
/-! the ends -/
theorem own_ret {i : Instr} {v : Value} {t : FieldType} {w : Option Value} {D : Heap → Prop} (C : own_Cx p s m meth c Z own bytes mx (some t) nm) (hd : decode bytes pc = .ok (i, 1)) (hn : narrow t v = v)
    (hi : (i = .ireturn ∧ (t = .int ∨ t = .boolean ∨ t = .byte ∨ t = .char ∨ t = .short) ∧ ∃ z, v = .int z) ∨ (i = .lreturn ∧ t = .long ∧ ∃ z, v = .long z) ∨ (i = .dreturn ∧ t = .double ∧ ∃ z, v = .double z) ∨ (i = .freturn ∧ t = .float ∧ ∃ z, v = .float z) ∨ (i = .areturn ∧ t.isReference = true ∧ v.isRef = true))
    (hw : some v = w) (N : Fr n0 locs) (hD : D h) (hk : cells ≤ kk) (hs : slots ≤ nn) : own_St p l e R s m args below meth c (own_F s (own_Q w n0 D) kk nn) h locs cells slots pc Ls (v :: st) := by
  subst hw
  intro T X eT
  obtain ⟨fs, hr, hrun, hended, hW, hsame⟩ := X.leave (v := some v) (fun q => by rw [C.2.2.2.2.1] at q; cases q) C.2.2.2.2.2.1
  exact ⟨_, _, retOut X C.1 C.2.2.2.2.1 hn hi (hb C.2.1 hd) hr, hrun, hended, _, locs, rfl, ⟨rfl, N, by show D T.heap; rw [eT]; exact hD⟩, ⟨_, rfl⟩, hW, hsame.mono hk hs⟩
/-! small facts -/
theorem own_ge (O : Old Z n0 h) : n0 ≤ h.size := O.1 ▸ O.2.1
theorem own_extTrans {h1 h2 : Heap} (E : Ext h h1) (E' : Ext h1 h2) : Ext h h2 := ⟨Nat.le_trans E.1 E'.1, fun a c q => E'.2 a c (E.2 a c q)⟩
theorem own_pure (G : ∀ locs', Fr n0 locs' → own_St p l e R s m args below meth c Fn h locs' cells slots pc Ls st) : ∀ h' locs', h' = h → Fr n0 locs' → own_St p l e R s m args below meth c Fn h' locs' cells slots pc Ls st := fun h' locs' q N => q ▸ G locs' N
theorem own_eqI {t : Term} {k : Int32} (q : (Jvm.Cond.eq t (.int k)).value a0 s none s [] = some true) : t.eval a0 s none [] s = some (.int k) := by
  simp only [Cond.value, Term.eval] at q
  cases ht : t.eval a0 s none [] s with
  | none => simp [ht] at q
  | some x => cases x <;> simp [ht] at q ⊢; exact q
theorem own_eqR {t u : Term} {b : Addr} (q : (Jvm.Cond.eq t u).value a0 s none s [] = some true) (hu : u.eval a0 s none [] s = some (.ref b)) : t.eval a0 s none [] s = some (.ref b) := by
  simp only [Cond.value, hu] at q
  cases ht : t.eval a0 s none [] s with
  | none => simp [ht] at q
  | some x => cases x <;> simp [ht] at q ⊢; exact q
theorem own_len {t : Term} {k : Int32} {a : Addr} {cl : Cell} (q : (Term.length t).eval a0 s none [] s = some (.int k)) (ht : t.eval a0 s none [] s = some (.ref a)) (hc : s.heap[a]? = some cl) : cl.slots.size < 2 ^ 31 ∧ cl.slots.size.toInt32 = k := by
  simp only [Term.eval, ht, Option.bind_eq_bind, Option.bind_some] at q
  cases ha : s.arrayAt? a with
  | none => simp [ha] at q
  | some c' =>
    have e : c' = cl := by
      simp only [State.arrayAt?, hc, Option.bind_eq_bind, Option.bind_some, Option.bind_eq_some_iff] at ha
      obtain ⟨k', -, ha⟩ := ha
      split at ha
      · cases ha
      · split at ha
        · exact (Option.some.inj ha).symm
        · cases ha
    subst e
    by_cases hl : c'.slots.size < 2 ^ 31
    · simp [ha, hl] at q; exact ⟨hl, q⟩
    · simp [ha, hl] at q
end Own
theorem d1_0 : decode prog_27_method_5_code 0 = .ok (.aconst_null, 1) := by decide +kernel
theorem d1_1 : decode prog_27_method_5_code 1 = .ok (.astore_n 1, 1) := by decide +kernel
theorem d1_2 : decode prog_27_method_5_code 2 = .ok (.invokestatic 57, 3) := by decide +kernel
theorem d1_5 : decode prog_27_method_5_code 5 = .ok (.astore_n 2, 1) := by decide +kernel
theorem d1_6 : decode prog_27_method_5_code 6 = .ok (.aload_n 2, 1) := by decide +kernel
theorem d1_7 : decode prog_27_method_5_code 7 = .ok (.arraylength, 1) := by decide +kernel
theorem d1_8 : decode prog_27_method_5_code 8 = .ok (.istore_n 3, 1) := by decide +kernel
theorem d1_9 : decode prog_27_method_5_code 9 = .ok (.iconst 0, 1) := by decide +kernel
theorem d1_10 : decode prog_27_method_5_code 10 = .ok (.istore 4, 2) := by decide +kernel
theorem d1_12 : decode prog_27_method_5_code 12 = .ok (.iload 4, 2) := by decide +kernel
theorem d1_14 : decode prog_27_method_5_code 14 = .ok (.iload_n 3, 1) := by decide +kernel
theorem d1_15 : decode prog_27_method_5_code 15 = .ok (.if_icmp .ge 27, 3) := by decide +kernel
theorem d1_18 : decode prog_27_method_5_code 18 = .ok (.aload_n 2, 1) := by decide +kernel
theorem d1_19 : decode prog_27_method_5_code 19 = .ok (.iload 4, 2) := by decide +kernel
theorem d1_21 : decode prog_27_method_5_code 21 = .ok (.aaload, 1) := by decide +kernel
theorem d1_22 : decode prog_27_method_5_code 22 = .ok (.astore 5, 2) := by decide +kernel
theorem d1_24 : decode prog_27_method_5_code 24 = .ok (.aload 5, 2) := by decide +kernel
theorem d1_26 : decode prog_27_method_5_code 26 = .ok (.getfield 38, 3) := by decide +kernel
theorem d1_29 : decode prog_27_method_5_code 29 = .ok (.iload_n 0, 1) := by decide +kernel
theorem d1_30 : decode prog_27_method_5_code 30 = .ok (.if_icmp .ne 6, 3) := by decide +kernel
theorem d1_33 : decode prog_27_method_5_code 33 = .ok (.aload 5, 2) := by decide +kernel
theorem d1_35 : decode prog_27_method_5_code 35 = .ok (.astore_n 1, 1) := by decide +kernel
theorem d1_36 : decode prog_27_method_5_code 36 = .ok (.iinc 4 1, 3) := by decide +kernel
theorem d1_39 : decode prog_27_method_5_code 39 = .ok (.goto (-27), 3) := by decide +kernel
theorem d1_42 : decode prog_27_method_5_code 42 = .ok (.aload_n 1, 1) := by decide +kernel
theorem d1_43 : decode prog_27_method_5_code 43 = .ok (.areturn, 1) := by decide +kernel
theorem d2_0 : decode prog_27_method_1_code 0 = .ok (.getstatic 19, 3) := by decide +kernel
theorem d2_3 : decode prog_27_method_1_code 3 = .ok (.invokevirtual 23, 3) := by decide +kernel
theorem d2_6 : decode prog_27_method_1_code 6 = .ok (.checkcast 24, 3) := by decide +kernel
theorem d2_9 : decode prog_27_method_1_code 9 = .ok (.areturn, 1) := by decide +kernel
theorem d3_0 : decode method_2_code 0 = .ok (.iload_n 0, 1) := by decide +kernel
theorem d3_1 : decode method_2_code 1 = .ok (.bipush 67, 2) := by decide +kernel
theorem d3_3 : decode method_2_code 3 = .ok (.if_icmp .ne 7, 3) := by decide +kernel
theorem d3_6 : decode method_2_code 6 = .ok (.getstatic 7, 3) := by decide +kernel
theorem d3_9 : decode method_2_code 9 = .ok (.areturn, 1) := by decide +kernel
theorem d3_10 : decode method_2_code 10 = .ok (.iload_n 0, 1) := by decide +kernel
theorem d3_11 : decode method_2_code 11 = .ok (.bipush 73, 2) := by decide +kernel
theorem d3_13 : decode method_2_code 13 = .ok (.if_icmp .ne 7, 3) := by decide +kernel
theorem d3_16 : decode method_2_code 16 = .ok (.getstatic 13, 3) := by decide +kernel
theorem d3_19 : decode method_2_code 19 = .ok (.areturn, 1) := by decide +kernel
theorem d3_20 : decode method_2_code 20 = .ok (.iload_n 0, 1) := by decide +kernel
theorem d3_21 : decode method_2_code 21 = .ok (.bipush 80, 2) := by decide +kernel
theorem d3_23 : decode method_2_code 23 = .ok (.if_icmp .ne 7, 3) := by decide +kernel
theorem d3_26 : decode method_2_code 26 = .ok (.getstatic 16, 3) := by decide +kernel
theorem d3_29 : decode method_2_code 29 = .ok (.areturn, 1) := by decide +kernel
theorem d3_30 : decode method_2_code 30 = .ok (.iload_n 0, 1) := by decide +kernel
theorem d3_31 : decode method_2_code 31 = .ok (.bipush 83, 2) := by decide +kernel
theorem d3_33 : decode method_2_code 33 = .ok (.if_icmp .ne 7, 3) := by decide +kernel
theorem d3_36 : decode method_2_code 36 = .ok (.getstatic 19, 3) := by decide +kernel
theorem d3_39 : decode method_2_code 39 = .ok (.areturn, 1) := by decide +kernel
theorem d3_40 : decode method_2_code 40 = .ok (.iload_n 0, 1) := by decide +kernel
theorem d3_41 : decode method_2_code 41 = .ok (.bipush 69, 2) := by decide +kernel
theorem d3_43 : decode method_2_code 43 = .ok (.if_icmp .ne 7, 3) := by decide +kernel
theorem d3_46 : decode method_2_code 46 = .ok (.getstatic 22, 3) := by decide +kernel
theorem d3_49 : decode method_2_code 49 = .ok (.areturn, 1) := by decide +kernel
theorem d3_50 : decode method_2_code 50 = .ok (.aconst_null, 1) := by decide +kernel
theorem d3_51 : decode method_2_code 51 = .ok (.areturn, 1) := by decide +kernel
theorem own_pd0 : parseMethodDescriptor "()[Lcom/example/wide_query/widequery/QuerySymbol;" = some ⟨[], some (.array (.object "com/example/wide_query/widequery/QuerySymbol"))⟩ := by decide +kernel
theorem own_pd1 : parseMethodDescriptor "(I)Lcom/example/wide_query/widequery/QuerySymbol;" = some ⟨[.int], some (.object "com/example/wide_query/widequery/QuerySymbol")⟩ := by decide +kernel
theorem own_pn0 : plainName "com/example/wide_query/widequery/QuerySymbol" = true := by first | (simp [plainName, overriddenIn]; done) | decide +kernel
theorem own_pn1 : plainName "com/example/wide_query/widequery/QuerySymbolOfLetterPinLaw" = true := by first | (simp [plainName, overriddenIn]; done) | decide +kernel
theorem own_ef0 (m : MethodId) : entryFrame m #[] 0 = mkF m 0 #[] [] := by first | (simp [entryFrame, mkF, argsToLocals, Value.category]; done) | rfl
theorem own_ef1 (m : MethodId) (x0 : Int32) : entryFrame m #[(.int x0)] 6 = mkF m 0 #[.val (.int x0), .unset, .unset, .unset, .unset, .unset] [] := by first | (simp [entryFrame, mkF, argsToLocals, Value.category]; done) | rfl
theorem own_ef2 (m : MethodId) (x0 : Int32) : entryFrame m #[(.int x0)] 1 = mkF m 0 #[.val (.int x0)] [] := by first | (simp [entryFrame, mkF, argsToLocals, Value.category]; done) | rfl
theorem own_ef3 (m : MethodId) (x0 : Int32) (x1 : Int32) : entryFrame m #[(.int x0), (.int x1)] 3 = mkF m 0 #[.val (.int x0), .val (.int x1), .unset] [] := by first | (simp [entryFrame, mkF, argsToLocals, Value.category]; done) | rfl
theorem own_w0 {Z : State} {a0 : Array Value} (hw : ∀ d ∈ tables_1, d.before a0 Z = true) : (Jvm.Cond.methodLink "com/example/wide_query/widequery/QuerySymbolOfLetterPinLaw" (25 : Nat) ({ cls := "com/example/wide_query/widequery/QuerySymbol", name := "ofLetter", desc := "(I)Lcom/example/wide_query/widequery/QuerySymbol;" } : Jvm.MethodName)).before a0 Z = true := hw _ (List.mem_of_getElem? (i := 0) rfl)
theorem own_w1 {Z : State} {a0 : Array Value} (hw : ∀ d ∈ tables_1, d.before a0 Z = true) : (Jvm.Cond.static ({ cls := "com/example/wide_query/widequery/QuerySymbol", name := "ofLetter", desc := "(I)Lcom/example/wide_query/widequery/QuerySymbol;" } : Jvm.MethodName)).before a0 Z = true := hw _ (List.mem_of_getElem? (i := 1) rfl)
theorem own_w2 {Z : State} {a0 : Array Value} (hw : ∀ d ∈ tables_1, d.before a0 Z = true) : (Jvm.Cond.initialized "com/example/wide_query/widequery/QuerySymbol").before a0 Z = true := hw _ (List.mem_of_getElem? (i := 2) rfl)
theorem own_w3 {Z : State} {a0 : Array Value} (hw : ∀ d ∈ tables_1, d.before a0 Z = true) : (Jvm.Cond.code ({ cls := "com/example/wide_query/widequery/QuerySymbol", name := "ofLetter", desc := "(I)Lcom/example/wide_query/widequery/QuerySymbol;" } : Jvm.MethodName) prog_27_method_5_code (6 : Nat) (Option.some (Jvm.ClassFile.FieldType.object "com/example/wide_query/widequery/QuerySymbol"))).before a0 Z = true := hw _ (List.mem_of_getElem? (i := 3) rfl)
theorem own_w4 {Z : State} {a0 : Array Value} (hw : ∀ d ∈ tables_1, d.before a0 Z = true) : (Jvm.Cond.methodLink "com/example/wide_query/widequery/QuerySymbol" (57 : Nat) ({ cls := "com/example/wide_query/widequery/QuerySymbol", name := "values", desc := "()[Lcom/example/wide_query/widequery/QuerySymbol;" } : Jvm.MethodName)).before a0 Z = true := hw _ (List.mem_of_getElem? (i := 4) rfl)
theorem own_w5 {Z : State} {a0 : Array Value} (hw : ∀ d ∈ tables_1, d.before a0 Z = true) : (Jvm.Cond.static ({ cls := "com/example/wide_query/widequery/QuerySymbol", name := "values", desc := "()[Lcom/example/wide_query/widequery/QuerySymbol;" } : Jvm.MethodName)).before a0 Z = true := hw _ (List.mem_of_getElem? (i := 5) rfl)
theorem own_w6 {Z : State} {a0 : Array Value} (hw : ∀ d ∈ tables_1, d.before a0 Z = true) : (Jvm.Cond.code ({ cls := "com/example/wide_query/widequery/QuerySymbol", name := "values", desc := "()[Lcom/example/wide_query/widequery/QuerySymbol;" } : Jvm.MethodName) prog_27_method_1_code (0 : Nat) (Option.some (Jvm.ClassFile.FieldType.array (Jvm.ClassFile.FieldType.object "com/example/wide_query/widequery/QuerySymbol")))).before a0 Z = true := hw _ (List.mem_of_getElem? (i := 6) rfl)
theorem own_w7 {Z : State} {a0 : Array Value} (hw : ∀ d ∈ tables_1, d.before a0 Z = true) : (Jvm.Cond.fieldLink "com/example/wide_query/widequery/QuerySymbol" (19 : Nat) "com/example/wide_query/widequery/QuerySymbol" "$VALUES" "[Lcom/example/wide_query/widequery/QuerySymbol;").before a0 Z = true := hw _ (List.mem_of_getElem? (i := 7) rfl)
theorem own_w8 {Z : State} {a0 : Array Value} (hw : ∀ d ∈ tables_1, d.before a0 Z = true) : (Jvm.Cond.laysStatic "com/example/wide_query/widequery/QuerySymbol" "$VALUES" "[Lcom/example/wide_query/widequery/QuerySymbol;").before a0 Z = true := hw _ (List.mem_of_getElem? (i := 8) rfl)
theorem own_w9 {Z : State} {a0 : Array Value} (hw : ∀ d ∈ tables_1, d.before a0 Z = true) : (Jvm.Cond.methodLink "com/example/wide_query/widequery/QuerySymbol" (23 : Nat) ({ cls := "[Lcom/example/wide_query/widequery/QuerySymbol;", name := "clone", desc := "()Ljava/lang/Object;" } : Jvm.MethodName)).before a0 Z = true := hw _ (List.mem_of_getElem? (i := 9) rfl)
theorem own_w10 {Z : State} {a0 : Array Value} (hw : ∀ d ∈ tables_1, d.before a0 Z = true) : (Jvm.Cond.sameMethod "[Lcom/example/wide_query/widequery/QuerySymbol;" "java/lang/Object" "clone" "()Ljava/lang/Object;").before a0 Z = true := hw _ (List.mem_of_getElem? (i := 10) rfl)
theorem own_w12 {Z : State} {a0 : Array Value} (hw : ∀ d ∈ tables_1, d.before a0 Z = true) : (Jvm.Cond.instanceMethod ({ cls := "java/lang/Object", name := "clone", desc := "()Ljava/lang/Object;" } : Jvm.MethodName)).before a0 Z = true := hw _ (List.mem_of_getElem? (i := 12) rfl)
theorem own_w13 {Z : State} {a0 : Array Value} (hw : ∀ d ∈ tables_1, d.before a0 Z = true) : (Jvm.Cond.selects "[Lcom/example/wide_query/widequery/QuerySymbol;" ({ cls := "[Lcom/example/wide_query/widequery/QuerySymbol;", name := "clone", desc := "()Ljava/lang/Object;" } : Jvm.MethodName) ({ cls := "java/lang/Object", name := "clone", desc := "()Ljava/lang/Object;" } : Jvm.MethodName)).before a0 Z = true := hw _ (List.mem_of_getElem? (i := 13) rfl)
theorem own_w14 {Z : State} {a0 : Array Value} (hw : ∀ d ∈ tables_1, d.before a0 Z = true) : (Jvm.Cond.native ({ cls := "java/lang/Object", name := "clone", desc := "()Ljava/lang/Object;" } : Jvm.MethodName)).before a0 Z = true := hw _ (List.mem_of_getElem? (i := 14) rfl)
theorem own_w15 {Z : State} {a0 : Array Value} (hw : ∀ d ∈ tables_1, d.before a0 Z = true) : (Jvm.Cond.castable "[Lcom/example/wide_query/widequery/QuerySymbol;" "java/lang/Cloneable").before a0 Z = true := hw _ (List.mem_of_getElem? (i := 15) rfl)
theorem own_w16 {Z : State} {a0 : Array Value} (hw : ∀ d ∈ tables_1, d.before a0 Z = true) : (Jvm.Cond.laysStatic "com/example/wide_query/widequery/QuerySymbol" "CONCEPT" "Lcom/example/wide_query/widequery/QuerySymbol;").before a0 Z = true := hw _ (List.mem_of_getElem? (i := 16) rfl)
theorem own_w17 {Z : State} {a0 : Array Value} (hw : ∀ d ∈ tables_1, d.before a0 Z = true) : (Jvm.Cond.laysStatic "com/example/wide_query/widequery/QuerySymbol" "INSTANCE" "Lcom/example/wide_query/widequery/QuerySymbol;").before a0 Z = true := hw _ (List.mem_of_getElem? (i := 17) rfl)
theorem own_w18 {Z : State} {a0 : Array Value} (hw : ∀ d ∈ tables_1, d.before a0 Z = true) : (Jvm.Cond.laysStatic "com/example/wide_query/widequery/QuerySymbol" "PROPERTY" "Lcom/example/wide_query/widequery/QuerySymbol;").before a0 Z = true := hw _ (List.mem_of_getElem? (i := 18) rfl)
theorem own_w19 {Z : State} {a0 : Array Value} (hw : ∀ d ∈ tables_1, d.before a0 Z = true) : (Jvm.Cond.laysStatic "com/example/wide_query/widequery/QuerySymbol" "SIMILAR" "Lcom/example/wide_query/widequery/QuerySymbol;").before a0 Z = true := hw _ (List.mem_of_getElem? (i := 19) rfl)
theorem own_w20 {Z : State} {a0 : Array Value} (hw : ∀ d ∈ tables_1, d.before a0 Z = true) : (Jvm.Cond.laysStatic "com/example/wide_query/widequery/QuerySymbol" "EXAMPLE" "Lcom/example/wide_query/widequery/QuerySymbol;").before a0 Z = true := hw _ (List.mem_of_getElem? (i := 20) rfl)
theorem own_w22 {Z : State} {a0 : Array Value} (hw : ∀ d ∈ tables_1, d.before a0 Z = true) : (Jvm.Cond.classLink "com/example/wide_query/widequery/QuerySymbol" (24 : Nat) "[Lcom/example/wide_query/widequery/QuerySymbol;").before a0 Z = true := hw _ (List.mem_of_getElem? (i := 22) rfl)
theorem own_w24 {Z : State} {a0 : Array Value} (hw : ∀ d ∈ tables_1, d.before a0 Z = true) : (Jvm.Cond.fieldLink "com/example/wide_query/widequery/QuerySymbol" (38 : Nat) "com/example/wide_query/widequery/QuerySymbol" "letter" "C").before a0 Z = true := hw _ (List.mem_of_getElem? (i := 24) rfl)
theorem own_w26 {Z : State} {a0 : Array Value} (hw : ∀ d ∈ tables_1, d.before a0 Z = true) : (Jvm.Cond.methodLink "com/example/wide_query/widequery/QuerySymbolOfLetterPinLaw" (29 : Nat) ({ cls := "com/example/wide_query/widequery/QuerySymbolOfLetterPinLaw", name := "expected", desc := "(I)Lcom/example/wide_query/widequery/QuerySymbol;" } : Jvm.MethodName)).before a0 Z = true := hw _ (List.mem_of_getElem? (i := 26) rfl)
theorem own_w27 {Z : State} {a0 : Array Value} (hw : ∀ d ∈ tables_1, d.before a0 Z = true) : (Jvm.Cond.static ({ cls := "com/example/wide_query/widequery/QuerySymbolOfLetterPinLaw", name := "expected", desc := "(I)Lcom/example/wide_query/widequery/QuerySymbol;" } : Jvm.MethodName)).before a0 Z = true := hw _ (List.mem_of_getElem? (i := 27) rfl)
theorem own_w28 {Z : State} {a0 : Array Value} (hw : ∀ d ∈ tables_1, d.before a0 Z = true) : (Jvm.Cond.initialized "com/example/wide_query/widequery/QuerySymbolOfLetterPinLaw").before a0 Z = true := hw _ (List.mem_of_getElem? (i := 28) rfl)
theorem own_w29 {Z : State} {a0 : Array Value} (hw : ∀ d ∈ tables_1, d.before a0 Z = true) : (Jvm.Cond.code ({ cls := "com/example/wide_query/widequery/QuerySymbolOfLetterPinLaw", name := "expected", desc := "(I)Lcom/example/wide_query/widequery/QuerySymbol;" } : Jvm.MethodName) method_2_code (1 : Nat) (Option.some (Jvm.ClassFile.FieldType.object "com/example/wide_query/widequery/QuerySymbol"))).before a0 Z = true := hw _ (List.mem_of_getElem? (i := 29) rfl)
theorem own_w30 {Z : State} {a0 : Array Value} (hw : ∀ d ∈ tables_1, d.before a0 Z = true) : (Jvm.Cond.fieldLink "com/example/wide_query/widequery/QuerySymbolOfLetterPinLaw" (22 : Nat) "com/example/wide_query/widequery/QuerySymbol" "EXAMPLE" "Lcom/example/wide_query/widequery/QuerySymbol;").before a0 Z = true := hw _ (List.mem_of_getElem? (i := 30) rfl)
theorem own_w31 {Z : State} {a0 : Array Value} (hw : ∀ d ∈ tables_1, d.before a0 Z = true) : (Jvm.Cond.fieldLink "com/example/wide_query/widequery/QuerySymbolOfLetterPinLaw" (13 : Nat) "com/example/wide_query/widequery/QuerySymbol" "INSTANCE" "Lcom/example/wide_query/widequery/QuerySymbol;").before a0 Z = true := hw _ (List.mem_of_getElem? (i := 31) rfl)
theorem own_w32 {Z : State} {a0 : Array Value} (hw : ∀ d ∈ tables_1, d.before a0 Z = true) : (Jvm.Cond.fieldLink "com/example/wide_query/widequery/QuerySymbolOfLetterPinLaw" (19 : Nat) "com/example/wide_query/widequery/QuerySymbol" "SIMILAR" "Lcom/example/wide_query/widequery/QuerySymbol;").before a0 Z = true := hw _ (List.mem_of_getElem? (i := 32) rfl)
theorem own_w33 {Z : State} {a0 : Array Value} (hw : ∀ d ∈ tables_1, d.before a0 Z = true) : (Jvm.Cond.fieldLink "com/example/wide_query/widequery/QuerySymbolOfLetterPinLaw" (7 : Nat) "com/example/wide_query/widequery/QuerySymbol" "CONCEPT" "Lcom/example/wide_query/widequery/QuerySymbol;").before a0 Z = true := hw _ (List.mem_of_getElem? (i := 33) rfl)
theorem own_w34 {Z : State} {a0 : Array Value} (hw : ∀ d ∈ tables_1, d.before a0 Z = true) : (Jvm.Cond.fieldLink "com/example/wide_query/widequery/QuerySymbolOfLetterPinLaw" (16 : Nat) "com/example/wide_query/widequery/QuerySymbol" "PROPERTY" "Lcom/example/wide_query/widequery/QuerySymbol;").before a0 Z = true := hw _ (List.mem_of_getElem? (i := 34) rfl)
/-- what the case says of the statics: A k is the object that the k-th of them holds -/
def own_P (Z : State) (A : Nat → Addr) : Prop :=
  (Sta Z Z.heap "com/example/wide_query/widequery/QuerySymbol" "$VALUES" "[Lcom/example/wide_query/widequery/QuerySymbol;" (.ref (A 0))) ∧
  (Exa Z Z.heap (A 0) "[Lcom/example/wide_query/widequery/QuerySymbol;") ∧
  (∃ k, Arv Z Z.heap (A 0) k (.object "com/example/wide_query/widequery/QuerySymbol") (5 : Int32) [(.ref (A 1)), (.ref (A 2)), (.ref (A 3)), (.ref (A 4)), (.ref (A 5))] .null) ∧
  (Sta Z Z.heap "com/example/wide_query/widequery/QuerySymbol" "CONCEPT" "Lcom/example/wide_query/widequery/QuerySymbol;" (.ref (A 1))) ∧
  (Exa Z Z.heap (A 1) "com/example/wide_query/widequery/QuerySymbol") ∧
  (Fld Z Z.heap (A 1) "com/example/wide_query/widequery/QuerySymbol" "letter" "C" (.int (67 : Int32))) ∧
  (Sta Z Z.heap "com/example/wide_query/widequery/QuerySymbol" "INSTANCE" "Lcom/example/wide_query/widequery/QuerySymbol;" (.ref (A 2))) ∧
  (Exa Z Z.heap (A 2) "com/example/wide_query/widequery/QuerySymbol") ∧
  (Fld Z Z.heap (A 2) "com/example/wide_query/widequery/QuerySymbol" "letter" "C" (.int (73 : Int32))) ∧
  (Sta Z Z.heap "com/example/wide_query/widequery/QuerySymbol" "PROPERTY" "Lcom/example/wide_query/widequery/QuerySymbol;" (.ref (A 3))) ∧
  (Exa Z Z.heap (A 3) "com/example/wide_query/widequery/QuerySymbol") ∧
  (Fld Z Z.heap (A 3) "com/example/wide_query/widequery/QuerySymbol" "letter" "C" (.int (80 : Int32))) ∧
  (Sta Z Z.heap "com/example/wide_query/widequery/QuerySymbol" "SIMILAR" "Lcom/example/wide_query/widequery/QuerySymbol;" (.ref (A 4))) ∧
  (Exa Z Z.heap (A 4) "com/example/wide_query/widequery/QuerySymbol") ∧
  (Fld Z Z.heap (A 4) "com/example/wide_query/widequery/QuerySymbol" "letter" "C" (.int (83 : Int32))) ∧
  (Sta Z Z.heap "com/example/wide_query/widequery/QuerySymbol" "EXAMPLE" "Lcom/example/wide_query/widequery/QuerySymbol;" (.ref (A 5))) ∧
  (Exa Z Z.heap (A 5) "com/example/wide_query/widequery/QuerySymbol") ∧
  (Fld Z Z.heap (A 5) "com/example/wide_query/widequery/QuerySymbol" "letter" "C" (.int (69 : Int32)))
theorem own_p0 {Z : State} {A : Nat → Addr} (B : own_P Z A) : Sta Z Z.heap "com/example/wide_query/widequery/QuerySymbol" "$VALUES" "[Lcom/example/wide_query/widequery/QuerySymbol;" (.ref (A 0)) := B.1
theorem own_p1 {Z : State} {A : Nat → Addr} (B : own_P Z A) : Exa Z Z.heap (A 0) "[Lcom/example/wide_query/widequery/QuerySymbol;" := B.2.1
theorem own_p2 {Z : State} {A : Nat → Addr} (B : own_P Z A) : ∃ k, Arv Z Z.heap (A 0) k (.object "com/example/wide_query/widequery/QuerySymbol") (5 : Int32) [(.ref (A 1)), (.ref (A 2)), (.ref (A 3)), (.ref (A 4)), (.ref (A 5))] .null := B.2.2.1
theorem own_p3 {Z : State} {A : Nat → Addr} (B : own_P Z A) : Sta Z Z.heap "com/example/wide_query/widequery/QuerySymbol" "CONCEPT" "Lcom/example/wide_query/widequery/QuerySymbol;" (.ref (A 1)) := B.2.2.2.1
theorem own_p4 {Z : State} {A : Nat → Addr} (B : own_P Z A) : Exa Z Z.heap (A 1) "com/example/wide_query/widequery/QuerySymbol" := B.2.2.2.2.1
theorem own_p5 {Z : State} {A : Nat → Addr} (B : own_P Z A) : Fld Z Z.heap (A 1) "com/example/wide_query/widequery/QuerySymbol" "letter" "C" (.int (67 : Int32)) := B.2.2.2.2.2.1
theorem own_p6 {Z : State} {A : Nat → Addr} (B : own_P Z A) : Sta Z Z.heap "com/example/wide_query/widequery/QuerySymbol" "INSTANCE" "Lcom/example/wide_query/widequery/QuerySymbol;" (.ref (A 2)) := B.2.2.2.2.2.2.1
theorem own_p7 {Z : State} {A : Nat → Addr} (B : own_P Z A) : Exa Z Z.heap (A 2) "com/example/wide_query/widequery/QuerySymbol" := B.2.2.2.2.2.2.2.1
theorem own_p8 {Z : State} {A : Nat → Addr} (B : own_P Z A) : Fld Z Z.heap (A 2) "com/example/wide_query/widequery/QuerySymbol" "letter" "C" (.int (73 : Int32)) := B.2.2.2.2.2.2.2.2.1
theorem own_p9 {Z : State} {A : Nat → Addr} (B : own_P Z A) : Sta Z Z.heap "com/example/wide_query/widequery/QuerySymbol" "PROPERTY" "Lcom/example/wide_query/widequery/QuerySymbol;" (.ref (A 3)) := B.2.2.2.2.2.2.2.2.2.1
theorem own_p10 {Z : State} {A : Nat → Addr} (B : own_P Z A) : Exa Z Z.heap (A 3) "com/example/wide_query/widequery/QuerySymbol" := B.2.2.2.2.2.2.2.2.2.2.1
theorem own_p11 {Z : State} {A : Nat → Addr} (B : own_P Z A) : Fld Z Z.heap (A 3) "com/example/wide_query/widequery/QuerySymbol" "letter" "C" (.int (80 : Int32)) := B.2.2.2.2.2.2.2.2.2.2.2.1
theorem own_p12 {Z : State} {A : Nat → Addr} (B : own_P Z A) : Sta Z Z.heap "com/example/wide_query/widequery/QuerySymbol" "SIMILAR" "Lcom/example/wide_query/widequery/QuerySymbol;" (.ref (A 4)) := B.2.2.2.2.2.2.2.2.2.2.2.2.1
theorem own_p13 {Z : State} {A : Nat → Addr} (B : own_P Z A) : Exa Z Z.heap (A 4) "com/example/wide_query/widequery/QuerySymbol" := B.2.2.2.2.2.2.2.2.2.2.2.2.2.1
theorem own_p14 {Z : State} {A : Nat → Addr} (B : own_P Z A) : Fld Z Z.heap (A 4) "com/example/wide_query/widequery/QuerySymbol" "letter" "C" (.int (83 : Int32)) := B.2.2.2.2.2.2.2.2.2.2.2.2.2.2.1
theorem own_p15 {Z : State} {A : Nat → Addr} (B : own_P Z A) : Sta Z Z.heap "com/example/wide_query/widequery/QuerySymbol" "EXAMPLE" "Lcom/example/wide_query/widequery/QuerySymbol;" (.ref (A 5)) := B.2.2.2.2.2.2.2.2.2.2.2.2.2.2.2.1
theorem own_p16 {Z : State} {A : Nat → Addr} (B : own_P Z A) : Exa Z Z.heap (A 5) "com/example/wide_query/widequery/QuerySymbol" := B.2.2.2.2.2.2.2.2.2.2.2.2.2.2.2.2.1
theorem own_p17 {Z : State} {A : Nat → Addr} (B : own_P Z A) : Fld Z Z.heap (A 5) "com/example/wide_query/widequery/QuerySymbol" "letter" "C" (.int (69 : Int32)) := B.2.2.2.2.2.2.2.2.2.2.2.2.2.2.2.2.2
set_option maxRecDepth 65536 in
theorem own_start {s : State} {a0 : Array Value} (hw : ∀ d ∈ tables_1, d.before a0 s = true) (hF : Fit s) (hn : narrow_1.value a0 s none s [] = some true) : ∃ A, own_P s A := by
  obtain ⟨n1, n2⟩ := and_e hn
  obtain ⟨n3, n4⟩ := and_e n2
  obtain ⟨n5, n6⟩ := and_e n4
  obtain ⟨n7, n8⟩ := and_e n6
  obtain ⟨n9, n10⟩ := and_e n8
  obtain ⟨n11, n12⟩ := and_e n10
  obtain ⟨n13, n14⟩ := and_e n12
  obtain ⟨n15, n16⟩ := and_e n14
  obtain ⟨n17, n18⟩ := and_e n16
  obtain ⟨n19, n20⟩ := and_e n18
  obtain ⟨n21, n22⟩ := and_e n20
  obtain ⟨n23, n24⟩ := and_e n22
  obtain ⟨n25, n26⟩ := and_e n24
  obtain ⟨n27, n28⟩ := and_e n26
  obtain ⟨n29, n30⟩ := and_e n28
  obtain ⟨n31, n32⟩ := and_e n30
  obtain ⟨n33, n34⟩ := and_e n32
  obtain ⟨a0, e0⟩ := arr_v n1
  obtain ⟨a1, e1⟩ := exa_v n7
  obtain ⟨a2, e2⟩ := exa_v n11
  obtain ⟨a3, e3⟩ := exa_v n15
  obtain ⟨a4, e4⟩ := exa_v n19
  obtain ⟨a5, e5⟩ := exa_v n23
  obtain ⟨cl0, Ar0⟩ := Arr.start e0 n1
  obtain ⟨ln0, lm0⟩ := own_len (own_eqI n5) e0 Ar0.1
  have el0_0 := (elem_in (own_eqR n9 e1) e0 (Term.int_eval (0)) Ar0.1).2
  have el0_1 := (elem_in (own_eqR n13 e2) e0 (Term.int_eval (1)) Ar0.1).2
  have el0_2 := (elem_in (own_eqR n17 e3) e0 (Term.int_eval (2)) Ar0.1).2
  have el0_3 := (elem_in (own_eqR n21 e4) e0 (Term.int_eval (3)) Ar0.1).2
  have el0_4 := (elem_in (own_eqR n25 e5) e0 (Term.int_eval (4)) Ar0.1).2
  exact ⟨fun i => [a0, a1, a2, a3, a4, a5].getD i 0, Sta.start e0 (Or.inr ⟨(own_w2 hw), (own_w8 hw)⟩),
    Exa.start e0 n3,
    ⟨_, Arv.start hF Ar0 ln0 lm0 (by decide) rfl ⟨el0_0, el0_1, el0_2, el0_3, el0_4, trivial⟩⟩,
    Sta.start e1 (Or.inr ⟨(own_w2 hw), (own_w16 hw)⟩),
    Exa.start e1 n7,
    Fld.start ((fld_at e1).symm.trans (own_eqI n27)),
    Sta.start e2 (Or.inr ⟨(own_w2 hw), (own_w17 hw)⟩),
    Exa.start e2 n11,
    Fld.start ((fld_at e2).symm.trans (own_eqI n29)),
    Sta.start e3 (Or.inr ⟨(own_w2 hw), (own_w18 hw)⟩),
    Exa.start e3 n15,
    Fld.start ((fld_at e3).symm.trans (own_eqI n31)),
    Sta.start e4 (Or.inr ⟨(own_w2 hw), (own_w19 hw)⟩),
    Exa.start e4 n19,
    Fld.start ((fld_at e4).symm.trans (own_eqI n33)),
    Sta.start e5 (Or.inr ⟨(own_w2 hw), (own_w20 hw)⟩),
    Exa.start e5 n23,
    Fld.start ((fld_at e5).symm.trans (own_eqI n34))⟩
set_option maxRecDepth 65536 in
set_option maxHeartbeats 40000000 in
theorem own_c0 (l : Launch) (Z : State) (a0 : Array Value) (hw : ∀ d ∈ tables_1, d.before a0 Z = true) (A : Nat → Addr) (B : own_P Z A) (h0 : Heap) (n0 : Nat) (O : Old Z n0 h0) : own_Met l Z (⟨"com/example/wide_query/widequery/QuerySymbol", "values", "()[Lcom/example/wide_query/widequery/QuerySymbol;"⟩ : MethodName) prog_27_method_1_code 0 (some (FieldType.array (FieldType.object "com/example/wide_query/widequery/QuerySymbol"))) [] ({ frames := 1, cells := 1, slots := 5, locals := 14 } : Room) 1 5 #[] h0 (own_Q (some (.ref h0.size)) n0 fun h => Ext h0 h ∧ ∃ k, Arv Z h h0.size k (.object "com/example/wide_query/widequery/QuerySymbol") (5 : Int32) [(.ref (A 1)), (.ref (A 2)), (.ref (A 3)), (.ref (A 4)), (.ref (A 5))] .null) := by
  refine own_enter own_pn0 (fun m => own_ef0 m) ?_
  intro p e s m below meth c C
  have N := Fr.nil n0
  have X : Ext h0 h0 := ⟨Nat.le_refl _, fun _ _ q => q⟩
  refine own_getS C (pc' := 3) (own_w7 hw) (Sta.ext O.2 (own_p0 B)) d2_0 rfl ?_
  obtain ⟨k_V1, V1⟩ := own_p2 B
  refine own_clone C (pc' := 6) (W := 0) (cap := 5) (own_w9 hw) (own_w10 hw) (own_w14 hw) (own_w12 hw) (own_w13 hw) (own_w15 hw) (Arv.ext V1 O.2) (Exa.ext O.2 (own_p1 B)) rfl d2_3 rfl (by decide) (Nat.le_of_eq rfl) (by decide) (by decide) (by decide) (by decide) rfl rfl ?_
  intro h2 b2 qb2 Eb2 V_b2 E_b2
  have g_b2 : n0 ≤ b2 := by rw [qb2]; exact own_ge O
  have z_b2 : h0.size ≤ b2 := by rw [qb2]; exact X.1
  have O := O.ext Eb2
  have X := own_extTrans X Eb2
  refine own_cast C (pc' := 9) (own_w22 hw) (Ins.self E_b2) d2_6 rfl ?_
  exact own_ret C d2_9 rfl (Or.inr (Or.inr (Or.inr (Or.inr ⟨rfl, rfl, rfl⟩)))) (by rw [qb2]) N (⟨X, _, qb2 ▸ V_b2⟩) (by decide) (by decide)
set_option maxRecDepth 65536 in
set_option maxHeartbeats 40000000 in
theorem own_c1 (l : Launch) (Z : State) (a0 : Array Value) (hw : ∀ d ∈ tables_1, d.before a0 Z = true) (A : Nat → Addr) (B : own_P Z A) (h0 : Heap) (n0 : Nat) (O : Old Z n0 h0) (p0 : Int32) (hq0 : p0 = (67 : Int32)) : own_Met l Z (⟨"com/example/wide_query/widequery/QuerySymbol", "ofLetter", "(I)Lcom/example/wide_query/widequery/QuerySymbol;"⟩ : MethodName) prog_27_method_5_code 6 (some (FieldType.object "com/example/wide_query/widequery/QuerySymbol")) [] ({ frames := 2, cells := 1, slots := 5, locals := 25 } : Room) 1 5 #[(.int p0)] h0 (own_Q (some (.ref (A 1))) n0 fun h => Ext h0 h) := by
  refine own_enter own_pn0 (fun m => own_ef1 m p0) ?_
  intro p e s m below meth c C
  have N := Fr.nil n0
  have X : Ext h0 h0 := ⟨Nat.le_refl _, fun _ _ q => q⟩
  refine own_aconst C (pc' := 1) d1_0 rfl ?_
  refine own_astoreN C (pc' := 2) (Ls' := #[.val (.int p0), .val .null, .unset, .unset, .unset, .unset]) d1_1 rfl rfl rfl ?_
  refine own_callS C (pc' := 5) (W := 0) (argsL := []) (rest := []) (st' := [(.ref h0.size)]) (cells' := 1) (slots' := 5) (own_w4 hw) (own_w5 hw) (own_w2 hw) (own_w6 hw) (by decide) (own_c0 l Z a0 hw A B h0 n0 O) (by decide) (by decide) (lenOf own_pd0 rfl) rfl (Nat.le_of_eq rfl) rfl d1_2 rfl (by decide) (by decide) rfl rfl rfl N ?_
  intro h1 locs hD N
  obtain ⟨Eh1, k_h0_size, V_h0_size⟩ := hD
  have g_h0_size : n0 ≤ h0.size := own_ge O
  have z_h0_size : h0.size ≤ h0.size := X.1
  have O := O.ext Eh1
  have X := own_extTrans X Eh1
  refine own_astoreN C (pc' := 6) (Ls' := #[.val (.int p0), .val .null, .val (.ref h0.size), .unset, .unset, .unset]) d1_5 rfl rfl rfl ?_
  refine own_aloadN C (pc' := 7) (v := (.ref h0.size)) d1_6 rfl rfl rfl ?_
  refine own_alen C (pc' := 8) V_h0_size d1_7 rfl ?_
  refine own_istoreN C (pc' := 9) (Ls' := #[.val (.int p0), .val .null, .val (.ref h0.size), .val (.int (5 : Int32)), .unset, .unset]) d1_8 rfl rfl ?_
  refine own_iconst C (pc' := 10) (v := (0 : Int32)) d1_9 rfl rfl ?_
  refine own_istore C (pc' := 12) (Ls' := #[.val (.int p0), .val .null, .val (.ref h0.size), .val (.int (5 : Int32)), .val (.int (0 : Int32)), .unset]) d1_10 rfl rfl ?_
  refine own_iload C (pc' := 14) (v := (0 : Int32)) d1_12 rfl rfl ?_
  refine own_iloadN C (pc' := 15) (v := (5 : Int32)) d1_14 rfl rfl ?_
  refine own_icmpN C (pc' := 18) d1_15 (XT.ii_ge_f (by decide)) rfl ?_
  refine own_aloadN C (pc' := 19) (v := (.ref h0.size)) d1_18 rfl rfl rfl ?_
  refine own_iload C (pc' := 21) (v := (0 : Int32)) d1_19 rfl rfl ?_
  refine own_aaload C (pc' := 22) (v := (.ref (A 1))) V_h0_size rfl ⟨by decide, by decide⟩ rfl d1_21 rfl ?_
  refine own_astore C (pc' := 24) (Ls' := #[.val (.int p0), .val .null, .val (.ref h0.size), .val (.int (5 : Int32)), .val (.int (0 : Int32)), .val (.ref (A 1))]) d1_22 rfl rfl rfl ?_
  refine own_aload C (pc' := 26) (v := (.ref (A 1))) d1_24 rfl rfl rfl ?_
  refine own_getF C (pc' := 29) (host := "") (Or.inl (own_w24 hw)) (Fld.ext O.2 (own_p5 B)) d1_26 rfl ?_
  refine own_iloadN C (pc' := 30) (v := p0) d1_29 rfl rfl ?_
  refine own_icmpN C (pc' := 33) d1_30 (XT.ii_ne_f (Eq.symm hq0)) rfl ?_
  refine own_aload C (pc' := 35) (v := (.ref (A 1))) d1_33 rfl rfl rfl ?_
  refine own_astoreN C (pc' := 36) (Ls' := #[.val (.int p0), .val (.ref (A 1)), .val (.ref h0.size), .val (.int (5 : Int32)), .val (.int (0 : Int32)), .val (.ref (A 1))]) d1_35 rfl rfl rfl ?_
  refine own_iinc C (pc' := 39) (x := (0 : Int32)) (z := (1 : Int32)) (Ls' := #[.val (.int p0), .val (.ref (A 1)), .val (.ref h0.size), .val (.int (5 : Int32)), .val (.int (1 : Int32)), .val (.ref (A 1))]) d1_36 rfl (by decide) rfl rfl ?_
  refine own_goto C (pc' := 12) d1_39 (by decide) (by decide) ?_
  refine own_iload C (pc' := 14) (v := (1 : Int32)) d1_12 rfl rfl ?_
  refine own_iloadN C (pc' := 15) (v := (5 : Int32)) d1_14 rfl rfl ?_
  refine own_icmpN C (pc' := 18) d1_15 (XT.ii_ge_f (by decide)) rfl ?_
  refine own_aloadN C (pc' := 19) (v := (.ref h0.size)) d1_18 rfl rfl rfl ?_
  refine own_iload C (pc' := 21) (v := (1 : Int32)) d1_19 rfl rfl ?_
  refine own_aaload C (pc' := 22) (v := (.ref (A 2))) V_h0_size rfl ⟨by decide, by decide⟩ rfl d1_21 rfl ?_
  refine own_astore C (pc' := 24) (Ls' := #[.val (.int p0), .val (.ref (A 1)), .val (.ref h0.size), .val (.int (5 : Int32)), .val (.int (1 : Int32)), .val (.ref (A 2))]) d1_22 rfl rfl rfl ?_
  refine own_aload C (pc' := 26) (v := (.ref (A 2))) d1_24 rfl rfl rfl ?_
  refine own_getF C (pc' := 29) (host := "") (Or.inl (own_w24 hw)) (Fld.ext O.2 (own_p8 B)) d1_26 rfl ?_
  refine own_iloadN C (pc' := 30) (v := p0) d1_29 rfl rfl ?_
  refine own_icmpY C (pc' := 36) d1_30 (XT.ii_ne_t (fun q => (fun q => absurd (hq0.symm.trans q) (by decide)) q.symm)) (by decide) (by decide) ?_
  refine own_iinc C (pc' := 39) (x := (1 : Int32)) (z := (2 : Int32)) (Ls' := #[.val (.int p0), .val (.ref (A 1)), .val (.ref h0.size), .val (.int (5 : Int32)), .val (.int (2 : Int32)), .val (.ref (A 2))]) d1_36 rfl (by decide) rfl rfl ?_
  refine own_goto C (pc' := 12) d1_39 (by decide) (by decide) ?_
  refine own_iload C (pc' := 14) (v := (2 : Int32)) d1_12 rfl rfl ?_
  refine own_iloadN C (pc' := 15) (v := (5 : Int32)) d1_14 rfl rfl ?_
  refine own_icmpN C (pc' := 18) d1_15 (XT.ii_ge_f (by decide)) rfl ?_
  refine own_aloadN C (pc' := 19) (v := (.ref h0.size)) d1_18 rfl rfl rfl ?_
  refine own_iload C (pc' := 21) (v := (2 : Int32)) d1_19 rfl rfl ?_
  refine own_aaload C (pc' := 22) (v := (.ref (A 3))) V_h0_size rfl ⟨by decide, by decide⟩ rfl d1_21 rfl ?_
  refine own_astore C (pc' := 24) (Ls' := #[.val (.int p0), .val (.ref (A 1)), .val (.ref h0.size), .val (.int (5 : Int32)), .val (.int (2 : Int32)), .val (.ref (A 3))]) d1_22 rfl rfl rfl ?_
  refine own_aload C (pc' := 26) (v := (.ref (A 3))) d1_24 rfl rfl rfl ?_
  refine own_getF C (pc' := 29) (host := "") (Or.inl (own_w24 hw)) (Fld.ext O.2 (own_p11 B)) d1_26 rfl ?_
  refine own_iloadN C (pc' := 30) (v := p0) d1_29 rfl rfl ?_
  refine own_icmpY C (pc' := 36) d1_30 (XT.ii_ne_t (fun q => (fun q => absurd (hq0.symm.trans q) (by decide)) q.symm)) (by decide) (by decide) ?_
  refine own_iinc C (pc' := 39) (x := (2 : Int32)) (z := (3 : Int32)) (Ls' := #[.val (.int p0), .val (.ref (A 1)), .val (.ref h0.size), .val (.int (5 : Int32)), .val (.int (3 : Int32)), .val (.ref (A 3))]) d1_36 rfl (by decide) rfl rfl ?_
  refine own_goto C (pc' := 12) d1_39 (by decide) (by decide) ?_
  refine own_iload C (pc' := 14) (v := (3 : Int32)) d1_12 rfl rfl ?_
  refine own_iloadN C (pc' := 15) (v := (5 : Int32)) d1_14 rfl rfl ?_
  refine own_icmpN C (pc' := 18) d1_15 (XT.ii_ge_f (by decide)) rfl ?_
  refine own_aloadN C (pc' := 19) (v := (.ref h0.size)) d1_18 rfl rfl rfl ?_
  refine own_iload C (pc' := 21) (v := (3 : Int32)) d1_19 rfl rfl ?_
  refine own_aaload C (pc' := 22) (v := (.ref (A 4))) V_h0_size rfl ⟨by decide, by decide⟩ rfl d1_21 rfl ?_
  refine own_astore C (pc' := 24) (Ls' := #[.val (.int p0), .val (.ref (A 1)), .val (.ref h0.size), .val (.int (5 : Int32)), .val (.int (3 : Int32)), .val (.ref (A 4))]) d1_22 rfl rfl rfl ?_
  refine own_aload C (pc' := 26) (v := (.ref (A 4))) d1_24 rfl rfl rfl ?_
  refine own_getF C (pc' := 29) (host := "") (Or.inl (own_w24 hw)) (Fld.ext O.2 (own_p14 B)) d1_26 rfl ?_
  refine own_iloadN C (pc' := 30) (v := p0) d1_29 rfl rfl ?_
  refine own_icmpY C (pc' := 36) d1_30 (XT.ii_ne_t (fun q => (fun q => absurd (hq0.symm.trans q) (by decide)) q.symm)) (by decide) (by decide) ?_
  refine own_iinc C (pc' := 39) (x := (3 : Int32)) (z := (4 : Int32)) (Ls' := #[.val (.int p0), .val (.ref (A 1)), .val (.ref h0.size), .val (.int (5 : Int32)), .val (.int (4 : Int32)), .val (.ref (A 4))]) d1_36 rfl (by decide) rfl rfl ?_
  refine own_goto C (pc' := 12) d1_39 (by decide) (by decide) ?_
  refine own_iload C (pc' := 14) (v := (4 : Int32)) d1_12 rfl rfl ?_
  refine own_iloadN C (pc' := 15) (v := (5 : Int32)) d1_14 rfl rfl ?_
  refine own_icmpN C (pc' := 18) d1_15 (XT.ii_ge_f (by decide)) rfl ?_
  refine own_aloadN C (pc' := 19) (v := (.ref h0.size)) d1_18 rfl rfl rfl ?_
  refine own_iload C (pc' := 21) (v := (4 : Int32)) d1_19 rfl rfl ?_
  refine own_aaload C (pc' := 22) (v := (.ref (A 5))) V_h0_size rfl ⟨by decide, by decide⟩ rfl d1_21 rfl ?_
  refine own_astore C (pc' := 24) (Ls' := #[.val (.int p0), .val (.ref (A 1)), .val (.ref h0.size), .val (.int (5 : Int32)), .val (.int (4 : Int32)), .val (.ref (A 5))]) d1_22 rfl rfl rfl ?_
  refine own_aload C (pc' := 26) (v := (.ref (A 5))) d1_24 rfl rfl rfl ?_
  refine own_getF C (pc' := 29) (host := "") (Or.inl (own_w24 hw)) (Fld.ext O.2 (own_p17 B)) d1_26 rfl ?_
  refine own_iloadN C (pc' := 30) (v := p0) d1_29 rfl rfl ?_
  refine own_icmpY C (pc' := 36) d1_30 (XT.ii_ne_t (fun q => (fun q => absurd (hq0.symm.trans q) (by decide)) q.symm)) (by decide) (by decide) ?_
  refine own_iinc C (pc' := 39) (x := (4 : Int32)) (z := (5 : Int32)) (Ls' := #[.val (.int p0), .val (.ref (A 1)), .val (.ref h0.size), .val (.int (5 : Int32)), .val (.int (5 : Int32)), .val (.ref (A 5))]) d1_36 rfl (by decide) rfl rfl ?_
  refine own_goto C (pc' := 12) d1_39 (by decide) (by decide) ?_
  refine own_iload C (pc' := 14) (v := (5 : Int32)) d1_12 rfl rfl ?_
  refine own_iloadN C (pc' := 15) (v := (5 : Int32)) d1_14 rfl rfl ?_
  refine own_icmpY C (pc' := 42) d1_15 (XT.ii_ge_t (by decide)) (by decide) (by decide) ?_
  refine own_aloadN C (pc' := 43) (v := (.ref (A 1))) d1_42 rfl rfl rfl ?_
  exact own_ret C d1_43 rfl (Or.inr (Or.inr (Or.inr (Or.inr ⟨rfl, rfl, rfl⟩)))) rfl N (X) (by decide) (by decide)
set_option maxRecDepth 65536 in
set_option maxHeartbeats 40000000 in
theorem own_c2 (l : Launch) (Z : State) (a0 : Array Value) (hw : ∀ d ∈ tables_1, d.before a0 Z = true) (A : Nat → Addr) (B : own_P Z A) (h0 : Heap) (n0 : Nat) (O : Old Z n0 h0) (p0 : Int32) (hq0 : p0 = (67 : Int32)) : own_Met l Z (⟨"com/example/wide_query/widequery/QuerySymbolOfLetterPinLaw", "expected", "(I)Lcom/example/wide_query/widequery/QuerySymbol;"⟩ : MethodName) method_2_code 1 (some (FieldType.object "com/example/wide_query/widequery/QuerySymbol")) [] ({ frames := 0, cells := 0, slots := 0, locals := 0 } : Room) 0 0 #[(.int p0)] h0 (own_Q (some (.ref (A 1))) n0 fun h => h = h0) := by
  refine own_enter own_pn1 (fun m => own_ef2 m p0) ?_
  intro p e s m below meth c C
  have N := Fr.nil n0
  refine own_iloadN C (pc' := 1) (v := p0) d3_0 rfl rfl ?_
  refine own_bipush C (pc' := 3) (v := (67 : Int32)) d3_1 rfl rfl ?_
  refine own_icmpN C (pc' := 6) d3_3 (XT.ii_ne_f hq0) rfl ?_
  refine own_getS C (pc' := 9) (own_w33 hw) (Sta.ext O.2 (own_p3 B)) d3_6 rfl ?_
  exact own_ret C d3_9 rfl (Or.inr (Or.inr (Or.inr (Or.inr ⟨rfl, rfl, rfl⟩)))) rfl N (rfl) (by decide) (by decide)
set_option maxRecDepth 65536 in
set_option maxHeartbeats 40000000 in
theorem own_c3 (l : Launch) (Z : State) (a0 : Array Value) (hw : ∀ d ∈ tables_1, d.before a0 Z = true) (A : Nat → Addr) (B : own_P Z A) (h0 : Heap) (n0 : Nat) (O : Old Z n0 h0) (p0 : Int32) (hq0 : ¬ (p0 = (67 : Int32))) (hq1 : p0 = (73 : Int32)) : own_Met l Z (⟨"com/example/wide_query/widequery/QuerySymbol", "ofLetter", "(I)Lcom/example/wide_query/widequery/QuerySymbol;"⟩ : MethodName) prog_27_method_5_code 6 (some (FieldType.object "com/example/wide_query/widequery/QuerySymbol")) [] ({ frames := 2, cells := 1, slots := 5, locals := 25 } : Room) 1 5 #[(.int p0)] h0 (own_Q (some (.ref (A 2))) n0 fun h => Ext h0 h) := by
  refine own_enter own_pn0 (fun m => own_ef1 m p0) ?_
  intro p e s m below meth c C
  have N := Fr.nil n0
  have X : Ext h0 h0 := ⟨Nat.le_refl _, fun _ _ q => q⟩
  refine own_aconst C (pc' := 1) d1_0 rfl ?_
  refine own_astoreN C (pc' := 2) (Ls' := #[.val (.int p0), .val .null, .unset, .unset, .unset, .unset]) d1_1 rfl rfl rfl ?_
  refine own_callS C (pc' := 5) (W := 0) (argsL := []) (rest := []) (st' := [(.ref h0.size)]) (cells' := 1) (slots' := 5) (own_w4 hw) (own_w5 hw) (own_w2 hw) (own_w6 hw) (by decide) (own_c0 l Z a0 hw A B h0 n0 O) (by decide) (by decide) (lenOf own_pd0 rfl) rfl (Nat.le_of_eq rfl) rfl d1_2 rfl (by decide) (by decide) rfl rfl rfl N ?_
  intro h1 locs hD N
  obtain ⟨Eh1, k_h0_size, V_h0_size⟩ := hD
  have g_h0_size : n0 ≤ h0.size := own_ge O
  have z_h0_size : h0.size ≤ h0.size := X.1
  have O := O.ext Eh1
  have X := own_extTrans X Eh1
  refine own_astoreN C (pc' := 6) (Ls' := #[.val (.int p0), .val .null, .val (.ref h0.size), .unset, .unset, .unset]) d1_5 rfl rfl rfl ?_
  refine own_aloadN C (pc' := 7) (v := (.ref h0.size)) d1_6 rfl rfl rfl ?_
  refine own_alen C (pc' := 8) V_h0_size d1_7 rfl ?_
  refine own_istoreN C (pc' := 9) (Ls' := #[.val (.int p0), .val .null, .val (.ref h0.size), .val (.int (5 : Int32)), .unset, .unset]) d1_8 rfl rfl ?_
  refine own_iconst C (pc' := 10) (v := (0 : Int32)) d1_9 rfl rfl ?_
  refine own_istore C (pc' := 12) (Ls' := #[.val (.int p0), .val .null, .val (.ref h0.size), .val (.int (5 : Int32)), .val (.int (0 : Int32)), .unset]) d1_10 rfl rfl ?_
  refine own_iload C (pc' := 14) (v := (0 : Int32)) d1_12 rfl rfl ?_
  refine own_iloadN C (pc' := 15) (v := (5 : Int32)) d1_14 rfl rfl ?_
  refine own_icmpN C (pc' := 18) d1_15 (XT.ii_ge_f (by decide)) rfl ?_
  refine own_aloadN C (pc' := 19) (v := (.ref h0.size)) d1_18 rfl rfl rfl ?_
  refine own_iload C (pc' := 21) (v := (0 : Int32)) d1_19 rfl rfl ?_
  refine own_aaload C (pc' := 22) (v := (.ref (A 1))) V_h0_size rfl ⟨by decide, by decide⟩ rfl d1_21 rfl ?_
  refine own_astore C (pc' := 24) (Ls' := #[.val (.int p0), .val .null, .val (.ref h0.size), .val (.int (5 : Int32)), .val (.int (0 : Int32)), .val (.ref (A 1))]) d1_22 rfl rfl rfl ?_
  refine own_aload C (pc' := 26) (v := (.ref (A 1))) d1_24 rfl rfl rfl ?_
  refine own_getF C (pc' := 29) (host := "") (Or.inl (own_w24 hw)) (Fld.ext O.2 (own_p5 B)) d1_26 rfl ?_
  refine own_iloadN C (pc' := 30) (v := p0) d1_29 rfl rfl ?_
  refine own_icmpY C (pc' := 36) d1_30 (XT.ii_ne_t (fun q => hq0 q.symm)) (by decide) (by decide) ?_
  refine own_iinc C (pc' := 39) (x := (0 : Int32)) (z := (1 : Int32)) (Ls' := #[.val (.int p0), .val .null, .val (.ref h0.size), .val (.int (5 : Int32)), .val (.int (1 : Int32)), .val (.ref (A 1))]) d1_36 rfl (by decide) rfl rfl ?_
  refine own_goto C (pc' := 12) d1_39 (by decide) (by decide) ?_
  refine own_iload C (pc' := 14) (v := (1 : Int32)) d1_12 rfl rfl ?_
  refine own_iloadN C (pc' := 15) (v := (5 : Int32)) d1_14 rfl rfl ?_
  refine own_icmpN C (pc' := 18) d1_15 (XT.ii_ge_f (by decide)) rfl ?_
  refine own_aloadN C (pc' := 19) (v := (.ref h0.size)) d1_18 rfl rfl rfl ?_
  refine own_iload C (pc' := 21) (v := (1 : Int32)) d1_19 rfl rfl ?_
  refine own_aaload C (pc' := 22) (v := (.ref (A 2))) V_h0_size rfl ⟨by decide, by decide⟩ rfl d1_21 rfl ?_
  refine own_astore C (pc' := 24) (Ls' := #[.val (.int p0), .val .null, .val (.ref h0.size), .val (.int (5 : Int32)), .val (.int (1 : Int32)), .val (.ref (A 2))]) d1_22 rfl rfl rfl ?_
  refine own_aload C (pc' := 26) (v := (.ref (A 2))) d1_24 rfl rfl rfl ?_
  refine own_getF C (pc' := 29) (host := "") (Or.inl (own_w24 hw)) (Fld.ext O.2 (own_p8 B)) d1_26 rfl ?_
  refine own_iloadN C (pc' := 30) (v := p0) d1_29 rfl rfl ?_
  refine own_icmpN C (pc' := 33) d1_30 (XT.ii_ne_f (Eq.symm hq1)) rfl ?_
  refine own_aload C (pc' := 35) (v := (.ref (A 2))) d1_33 rfl rfl rfl ?_
  refine own_astoreN C (pc' := 36) (Ls' := #[.val (.int p0), .val (.ref (A 2)), .val (.ref h0.size), .val (.int (5 : Int32)), .val (.int (1 : Int32)), .val (.ref (A 2))]) d1_35 rfl rfl rfl ?_
  refine own_iinc C (pc' := 39) (x := (1 : Int32)) (z := (2 : Int32)) (Ls' := #[.val (.int p0), .val (.ref (A 2)), .val (.ref h0.size), .val (.int (5 : Int32)), .val (.int (2 : Int32)), .val (.ref (A 2))]) d1_36 rfl (by decide) rfl rfl ?_
  refine own_goto C (pc' := 12) d1_39 (by decide) (by decide) ?_
  refine own_iload C (pc' := 14) (v := (2 : Int32)) d1_12 rfl rfl ?_
  refine own_iloadN C (pc' := 15) (v := (5 : Int32)) d1_14 rfl rfl ?_
  refine own_icmpN C (pc' := 18) d1_15 (XT.ii_ge_f (by decide)) rfl ?_
  refine own_aloadN C (pc' := 19) (v := (.ref h0.size)) d1_18 rfl rfl rfl ?_
  refine own_iload C (pc' := 21) (v := (2 : Int32)) d1_19 rfl rfl ?_
  refine own_aaload C (pc' := 22) (v := (.ref (A 3))) V_h0_size rfl ⟨by decide, by decide⟩ rfl d1_21 rfl ?_
  refine own_astore C (pc' := 24) (Ls' := #[.val (.int p0), .val (.ref (A 2)), .val (.ref h0.size), .val (.int (5 : Int32)), .val (.int (2 : Int32)), .val (.ref (A 3))]) d1_22 rfl rfl rfl ?_
  refine own_aload C (pc' := 26) (v := (.ref (A 3))) d1_24 rfl rfl rfl ?_
  refine own_getF C (pc' := 29) (host := "") (Or.inl (own_w24 hw)) (Fld.ext O.2 (own_p11 B)) d1_26 rfl ?_
  refine own_iloadN C (pc' := 30) (v := p0) d1_29 rfl rfl ?_
  refine own_icmpY C (pc' := 36) d1_30 (XT.ii_ne_t (fun q => (fun q => absurd (hq1.symm.trans q) (by decide)) q.symm)) (by decide) (by decide) ?_
  refine own_iinc C (pc' := 39) (x := (2 : Int32)) (z := (3 : Int32)) (Ls' := #[.val (.int p0), .val (.ref (A 2)), .val (.ref h0.size), .val (.int (5 : Int32)), .val (.int (3 : Int32)), .val (.ref (A 3))]) d1_36 rfl (by decide) rfl rfl ?_
  refine own_goto C (pc' := 12) d1_39 (by decide) (by decide) ?_
  refine own_iload C (pc' := 14) (v := (3 : Int32)) d1_12 rfl rfl ?_
  refine own_iloadN C (pc' := 15) (v := (5 : Int32)) d1_14 rfl rfl ?_
  refine own_icmpN C (pc' := 18) d1_15 (XT.ii_ge_f (by decide)) rfl ?_
  refine own_aloadN C (pc' := 19) (v := (.ref h0.size)) d1_18 rfl rfl rfl ?_
  refine own_iload C (pc' := 21) (v := (3 : Int32)) d1_19 rfl rfl ?_
  refine own_aaload C (pc' := 22) (v := (.ref (A 4))) V_h0_size rfl ⟨by decide, by decide⟩ rfl d1_21 rfl ?_
  refine own_astore C (pc' := 24) (Ls' := #[.val (.int p0), .val (.ref (A 2)), .val (.ref h0.size), .val (.int (5 : Int32)), .val (.int (3 : Int32)), .val (.ref (A 4))]) d1_22 rfl rfl rfl ?_
  refine own_aload C (pc' := 26) (v := (.ref (A 4))) d1_24 rfl rfl rfl ?_
  refine own_getF C (pc' := 29) (host := "") (Or.inl (own_w24 hw)) (Fld.ext O.2 (own_p14 B)) d1_26 rfl ?_
  refine own_iloadN C (pc' := 30) (v := p0) d1_29 rfl rfl ?_
  refine own_icmpY C (pc' := 36) d1_30 (XT.ii_ne_t (fun q => (fun q => absurd (hq1.symm.trans q) (by decide)) q.symm)) (by decide) (by decide) ?_
  refine own_iinc C (pc' := 39) (x := (3 : Int32)) (z := (4 : Int32)) (Ls' := #[.val (.int p0), .val (.ref (A 2)), .val (.ref h0.size), .val (.int (5 : Int32)), .val (.int (4 : Int32)), .val (.ref (A 4))]) d1_36 rfl (by decide) rfl rfl ?_
  refine own_goto C (pc' := 12) d1_39 (by decide) (by decide) ?_
  refine own_iload C (pc' := 14) (v := (4 : Int32)) d1_12 rfl rfl ?_
  refine own_iloadN C (pc' := 15) (v := (5 : Int32)) d1_14 rfl rfl ?_
  refine own_icmpN C (pc' := 18) d1_15 (XT.ii_ge_f (by decide)) rfl ?_
  refine own_aloadN C (pc' := 19) (v := (.ref h0.size)) d1_18 rfl rfl rfl ?_
  refine own_iload C (pc' := 21) (v := (4 : Int32)) d1_19 rfl rfl ?_
  refine own_aaload C (pc' := 22) (v := (.ref (A 5))) V_h0_size rfl ⟨by decide, by decide⟩ rfl d1_21 rfl ?_
  refine own_astore C (pc' := 24) (Ls' := #[.val (.int p0), .val (.ref (A 2)), .val (.ref h0.size), .val (.int (5 : Int32)), .val (.int (4 : Int32)), .val (.ref (A 5))]) d1_22 rfl rfl rfl ?_
  refine own_aload C (pc' := 26) (v := (.ref (A 5))) d1_24 rfl rfl rfl ?_
  refine own_getF C (pc' := 29) (host := "") (Or.inl (own_w24 hw)) (Fld.ext O.2 (own_p17 B)) d1_26 rfl ?_
  refine own_iloadN C (pc' := 30) (v := p0) d1_29 rfl rfl ?_
  refine own_icmpY C (pc' := 36) d1_30 (XT.ii_ne_t (fun q => (fun q => absurd (hq1.symm.trans q) (by decide)) q.symm)) (by decide) (by decide) ?_
  refine own_iinc C (pc' := 39) (x := (4 : Int32)) (z := (5 : Int32)) (Ls' := #[.val (.int p0), .val (.ref (A 2)), .val (.ref h0.size), .val (.int (5 : Int32)), .val (.int (5 : Int32)), .val (.ref (A 5))]) d1_36 rfl (by decide) rfl rfl ?_
  refine own_goto C (pc' := 12) d1_39 (by decide) (by decide) ?_
  refine own_iload C (pc' := 14) (v := (5 : Int32)) d1_12 rfl rfl ?_
  refine own_iloadN C (pc' := 15) (v := (5 : Int32)) d1_14 rfl rfl ?_
  refine own_icmpY C (pc' := 42) d1_15 (XT.ii_ge_t (by decide)) (by decide) (by decide) ?_
  refine own_aloadN C (pc' := 43) (v := (.ref (A 2))) d1_42 rfl rfl rfl ?_
  exact own_ret C d1_43 rfl (Or.inr (Or.inr (Or.inr (Or.inr ⟨rfl, rfl, rfl⟩)))) rfl N (X) (by decide) (by decide)
set_option maxRecDepth 65536 in
set_option maxHeartbeats 40000000 in
theorem own_c4 (l : Launch) (Z : State) (a0 : Array Value) (hw : ∀ d ∈ tables_1, d.before a0 Z = true) (A : Nat → Addr) (B : own_P Z A) (h0 : Heap) (n0 : Nat) (O : Old Z n0 h0) (p0 : Int32) (hq0 : ¬ (p0 = (67 : Int32))) (hq1 : p0 = (73 : Int32)) : own_Met l Z (⟨"com/example/wide_query/widequery/QuerySymbolOfLetterPinLaw", "expected", "(I)Lcom/example/wide_query/widequery/QuerySymbol;"⟩ : MethodName) method_2_code 1 (some (FieldType.object "com/example/wide_query/widequery/QuerySymbol")) [] ({ frames := 0, cells := 0, slots := 0, locals := 0 } : Room) 0 0 #[(.int p0)] h0 (own_Q (some (.ref (A 2))) n0 fun h => h = h0) := by
  refine own_enter own_pn1 (fun m => own_ef2 m p0) ?_
  intro p e s m below meth c C
  have N := Fr.nil n0
  refine own_iloadN C (pc' := 1) (v := p0) d3_0 rfl rfl ?_
  refine own_bipush C (pc' := 3) (v := (67 : Int32)) d3_1 rfl rfl ?_
  refine own_icmpY C (pc' := 10) d3_3 (XT.ii_ne_t hq0) (by decide) (by decide) ?_
  refine own_iloadN C (pc' := 11) (v := p0) d3_10 rfl rfl ?_
  refine own_bipush C (pc' := 13) (v := (73 : Int32)) d3_11 rfl rfl ?_
  refine own_icmpN C (pc' := 16) d3_13 (XT.ii_ne_f hq1) rfl ?_
  refine own_getS C (pc' := 19) (own_w31 hw) (Sta.ext O.2 (own_p6 B)) d3_16 rfl ?_
  exact own_ret C d3_19 rfl (Or.inr (Or.inr (Or.inr (Or.inr ⟨rfl, rfl, rfl⟩)))) rfl N (rfl) (by decide) (by decide)
set_option maxRecDepth 65536 in
set_option maxHeartbeats 40000000 in
theorem own_c5 (l : Launch) (Z : State) (a0 : Array Value) (hw : ∀ d ∈ tables_1, d.before a0 Z = true) (A : Nat → Addr) (B : own_P Z A) (h0 : Heap) (n0 : Nat) (O : Old Z n0 h0) (p0 : Int32) (hq0 : ¬ (p0 = (67 : Int32))) (hq1 : ¬ (p0 = (73 : Int32))) (hq2 : p0 = (80 : Int32)) : own_Met l Z (⟨"com/example/wide_query/widequery/QuerySymbol", "ofLetter", "(I)Lcom/example/wide_query/widequery/QuerySymbol;"⟩ : MethodName) prog_27_method_5_code 6 (some (FieldType.object "com/example/wide_query/widequery/QuerySymbol")) [] ({ frames := 2, cells := 1, slots := 5, locals := 25 } : Room) 1 5 #[(.int p0)] h0 (own_Q (some (.ref (A 3))) n0 fun h => Ext h0 h) := by
  refine own_enter own_pn0 (fun m => own_ef1 m p0) ?_
  intro p e s m below meth c C
  have N := Fr.nil n0
  have X : Ext h0 h0 := ⟨Nat.le_refl _, fun _ _ q => q⟩
  refine own_aconst C (pc' := 1) d1_0 rfl ?_
  refine own_astoreN C (pc' := 2) (Ls' := #[.val (.int p0), .val .null, .unset, .unset, .unset, .unset]) d1_1 rfl rfl rfl ?_
  refine own_callS C (pc' := 5) (W := 0) (argsL := []) (rest := []) (st' := [(.ref h0.size)]) (cells' := 1) (slots' := 5) (own_w4 hw) (own_w5 hw) (own_w2 hw) (own_w6 hw) (by decide) (own_c0 l Z a0 hw A B h0 n0 O) (by decide) (by decide) (lenOf own_pd0 rfl) rfl (Nat.le_of_eq rfl) rfl d1_2 rfl (by decide) (by decide) rfl rfl rfl N ?_
  intro h1 locs hD N
  obtain ⟨Eh1, k_h0_size, V_h0_size⟩ := hD
  have g_h0_size : n0 ≤ h0.size := own_ge O
  have z_h0_size : h0.size ≤ h0.size := X.1
  have O := O.ext Eh1
  have X := own_extTrans X Eh1
  refine own_astoreN C (pc' := 6) (Ls' := #[.val (.int p0), .val .null, .val (.ref h0.size), .unset, .unset, .unset]) d1_5 rfl rfl rfl ?_
  refine own_aloadN C (pc' := 7) (v := (.ref h0.size)) d1_6 rfl rfl rfl ?_
  refine own_alen C (pc' := 8) V_h0_size d1_7 rfl ?_
  refine own_istoreN C (pc' := 9) (Ls' := #[.val (.int p0), .val .null, .val (.ref h0.size), .val (.int (5 : Int32)), .unset, .unset]) d1_8 rfl rfl ?_
  refine own_iconst C (pc' := 10) (v := (0 : Int32)) d1_9 rfl rfl ?_
  refine own_istore C (pc' := 12) (Ls' := #[.val (.int p0), .val .null, .val (.ref h0.size), .val (.int (5 : Int32)), .val (.int (0 : Int32)), .unset]) d1_10 rfl rfl ?_
  refine own_iload C (pc' := 14) (v := (0 : Int32)) d1_12 rfl rfl ?_
  refine own_iloadN C (pc' := 15) (v := (5 : Int32)) d1_14 rfl rfl ?_
  refine own_icmpN C (pc' := 18) d1_15 (XT.ii_ge_f (by decide)) rfl ?_
  refine own_aloadN C (pc' := 19) (v := (.ref h0.size)) d1_18 rfl rfl rfl ?_
  refine own_iload C (pc' := 21) (v := (0 : Int32)) d1_19 rfl rfl ?_
  refine own_aaload C (pc' := 22) (v := (.ref (A 1))) V_h0_size rfl ⟨by decide, by decide⟩ rfl d1_21 rfl ?_
  refine own_astore C (pc' := 24) (Ls' := #[.val (.int p0), .val .null, .val (.ref h0.size), .val (.int (5 : Int32)), .val (.int (0 : Int32)), .val (.ref (A 1))]) d1_22 rfl rfl rfl ?_
  refine own_aload C (pc' := 26) (v := (.ref (A 1))) d1_24 rfl rfl rfl ?_
  refine own_getF C (pc' := 29) (host := "") (Or.inl (own_w24 hw)) (Fld.ext O.2 (own_p5 B)) d1_26 rfl ?_
  refine own_iloadN C (pc' := 30) (v := p0) d1_29 rfl rfl ?_
  refine own_icmpY C (pc' := 36) d1_30 (XT.ii_ne_t (fun q => hq0 q.symm)) (by decide) (by decide) ?_
  refine own_iinc C (pc' := 39) (x := (0 : Int32)) (z := (1 : Int32)) (Ls' := #[.val (.int p0), .val .null, .val (.ref h0.size), .val (.int (5 : Int32)), .val (.int (1 : Int32)), .val (.ref (A 1))]) d1_36 rfl (by decide) rfl rfl ?_
  refine own_goto C (pc' := 12) d1_39 (by decide) (by decide) ?_
  refine own_iload C (pc' := 14) (v := (1 : Int32)) d1_12 rfl rfl ?_
  refine own_iloadN C (pc' := 15) (v := (5 : Int32)) d1_14 rfl rfl ?_
  refine own_icmpN C (pc' := 18) d1_15 (XT.ii_ge_f (by decide)) rfl ?_
  refine own_aloadN C (pc' := 19) (v := (.ref h0.size)) d1_18 rfl rfl rfl ?_
  refine own_iload C (pc' := 21) (v := (1 : Int32)) d1_19 rfl rfl ?_
  refine own_aaload C (pc' := 22) (v := (.ref (A 2))) V_h0_size rfl ⟨by decide, by decide⟩ rfl d1_21 rfl ?_
  refine own_astore C (pc' := 24) (Ls' := #[.val (.int p0), .val .null, .val (.ref h0.size), .val (.int (5 : Int32)), .val (.int (1 : Int32)), .val (.ref (A 2))]) d1_22 rfl rfl rfl ?_
  refine own_aload C (pc' := 26) (v := (.ref (A 2))) d1_24 rfl rfl rfl ?_
  refine own_getF C (pc' := 29) (host := "") (Or.inl (own_w24 hw)) (Fld.ext O.2 (own_p8 B)) d1_26 rfl ?_
  refine own_iloadN C (pc' := 30) (v := p0) d1_29 rfl rfl ?_
  refine own_icmpY C (pc' := 36) d1_30 (XT.ii_ne_t (fun q => hq1 q.symm)) (by decide) (by decide) ?_
  refine own_iinc C (pc' := 39) (x := (1 : Int32)) (z := (2 : Int32)) (Ls' := #[.val (.int p0), .val .null, .val (.ref h0.size), .val (.int (5 : Int32)), .val (.int (2 : Int32)), .val (.ref (A 2))]) d1_36 rfl (by decide) rfl rfl ?_
  refine own_goto C (pc' := 12) d1_39 (by decide) (by decide) ?_
  refine own_iload C (pc' := 14) (v := (2 : Int32)) d1_12 rfl rfl ?_
  refine own_iloadN C (pc' := 15) (v := (5 : Int32)) d1_14 rfl rfl ?_
  refine own_icmpN C (pc' := 18) d1_15 (XT.ii_ge_f (by decide)) rfl ?_
  refine own_aloadN C (pc' := 19) (v := (.ref h0.size)) d1_18 rfl rfl rfl ?_
  refine own_iload C (pc' := 21) (v := (2 : Int32)) d1_19 rfl rfl ?_
  refine own_aaload C (pc' := 22) (v := (.ref (A 3))) V_h0_size rfl ⟨by decide, by decide⟩ rfl d1_21 rfl ?_
  refine own_astore C (pc' := 24) (Ls' := #[.val (.int p0), .val .null, .val (.ref h0.size), .val (.int (5 : Int32)), .val (.int (2 : Int32)), .val (.ref (A 3))]) d1_22 rfl rfl rfl ?_
  refine own_aload C (pc' := 26) (v := (.ref (A 3))) d1_24 rfl rfl rfl ?_
  refine own_getF C (pc' := 29) (host := "") (Or.inl (own_w24 hw)) (Fld.ext O.2 (own_p11 B)) d1_26 rfl ?_
  refine own_iloadN C (pc' := 30) (v := p0) d1_29 rfl rfl ?_
  refine own_icmpN C (pc' := 33) d1_30 (XT.ii_ne_f (Eq.symm hq2)) rfl ?_
  refine own_aload C (pc' := 35) (v := (.ref (A 3))) d1_33 rfl rfl rfl ?_
  refine own_astoreN C (pc' := 36) (Ls' := #[.val (.int p0), .val (.ref (A 3)), .val (.ref h0.size), .val (.int (5 : Int32)), .val (.int (2 : Int32)), .val (.ref (A 3))]) d1_35 rfl rfl rfl ?_
  refine own_iinc C (pc' := 39) (x := (2 : Int32)) (z := (3 : Int32)) (Ls' := #[.val (.int p0), .val (.ref (A 3)), .val (.ref h0.size), .val (.int (5 : Int32)), .val (.int (3 : Int32)), .val (.ref (A 3))]) d1_36 rfl (by decide) rfl rfl ?_
  refine own_goto C (pc' := 12) d1_39 (by decide) (by decide) ?_
  refine own_iload C (pc' := 14) (v := (3 : Int32)) d1_12 rfl rfl ?_
  refine own_iloadN C (pc' := 15) (v := (5 : Int32)) d1_14 rfl rfl ?_
  refine own_icmpN C (pc' := 18) d1_15 (XT.ii_ge_f (by decide)) rfl ?_
  refine own_aloadN C (pc' := 19) (v := (.ref h0.size)) d1_18 rfl rfl rfl ?_
  refine own_iload C (pc' := 21) (v := (3 : Int32)) d1_19 rfl rfl ?_
  refine own_aaload C (pc' := 22) (v := (.ref (A 4))) V_h0_size rfl ⟨by decide, by decide⟩ rfl d1_21 rfl ?_
  refine own_astore C (pc' := 24) (Ls' := #[.val (.int p0), .val (.ref (A 3)), .val (.ref h0.size), .val (.int (5 : Int32)), .val (.int (3 : Int32)), .val (.ref (A 4))]) d1_22 rfl rfl rfl ?_
  refine own_aload C (pc' := 26) (v := (.ref (A 4))) d1_24 rfl rfl rfl ?_
  refine own_getF C (pc' := 29) (host := "") (Or.inl (own_w24 hw)) (Fld.ext O.2 (own_p14 B)) d1_26 rfl ?_
  refine own_iloadN C (pc' := 30) (v := p0) d1_29 rfl rfl ?_
  refine own_icmpY C (pc' := 36) d1_30 (XT.ii_ne_t (fun q => (fun q => absurd (hq2.symm.trans q) (by decide)) q.symm)) (by decide) (by decide) ?_
  refine own_iinc C (pc' := 39) (x := (3 : Int32)) (z := (4 : Int32)) (Ls' := #[.val (.int p0), .val (.ref (A 3)), .val (.ref h0.size), .val (.int (5 : Int32)), .val (.int (4 : Int32)), .val (.ref (A 4))]) d1_36 rfl (by decide) rfl rfl ?_
  refine own_goto C (pc' := 12) d1_39 (by decide) (by decide) ?_
  refine own_iload C (pc' := 14) (v := (4 : Int32)) d1_12 rfl rfl ?_
  refine own_iloadN C (pc' := 15) (v := (5 : Int32)) d1_14 rfl rfl ?_
  refine own_icmpN C (pc' := 18) d1_15 (XT.ii_ge_f (by decide)) rfl ?_
  refine own_aloadN C (pc' := 19) (v := (.ref h0.size)) d1_18 rfl rfl rfl ?_
  refine own_iload C (pc' := 21) (v := (4 : Int32)) d1_19 rfl rfl ?_
  refine own_aaload C (pc' := 22) (v := (.ref (A 5))) V_h0_size rfl ⟨by decide, by decide⟩ rfl d1_21 rfl ?_
  refine own_astore C (pc' := 24) (Ls' := #[.val (.int p0), .val (.ref (A 3)), .val (.ref h0.size), .val (.int (5 : Int32)), .val (.int (4 : Int32)), .val (.ref (A 5))]) d1_22 rfl rfl rfl ?_
  refine own_aload C (pc' := 26) (v := (.ref (A 5))) d1_24 rfl rfl rfl ?_
  refine own_getF C (pc' := 29) (host := "") (Or.inl (own_w24 hw)) (Fld.ext O.2 (own_p17 B)) d1_26 rfl ?_
  refine own_iloadN C (pc' := 30) (v := p0) d1_29 rfl rfl ?_
  refine own_icmpY C (pc' := 36) d1_30 (XT.ii_ne_t (fun q => (fun q => absurd (hq2.symm.trans q) (by decide)) q.symm)) (by decide) (by decide) ?_
  refine own_iinc C (pc' := 39) (x := (4 : Int32)) (z := (5 : Int32)) (Ls' := #[.val (.int p0), .val (.ref (A 3)), .val (.ref h0.size), .val (.int (5 : Int32)), .val (.int (5 : Int32)), .val (.ref (A 5))]) d1_36 rfl (by decide) rfl rfl ?_
  refine own_goto C (pc' := 12) d1_39 (by decide) (by decide) ?_
  refine own_iload C (pc' := 14) (v := (5 : Int32)) d1_12 rfl rfl ?_
  refine own_iloadN C (pc' := 15) (v := (5 : Int32)) d1_14 rfl rfl ?_
  refine own_icmpY C (pc' := 42) d1_15 (XT.ii_ge_t (by decide)) (by decide) (by decide) ?_
  refine own_aloadN C (pc' := 43) (v := (.ref (A 3))) d1_42 rfl rfl rfl ?_
  exact own_ret C d1_43 rfl (Or.inr (Or.inr (Or.inr (Or.inr ⟨rfl, rfl, rfl⟩)))) rfl N (X) (by decide) (by decide)
set_option maxRecDepth 65536 in
set_option maxHeartbeats 40000000 in
theorem own_c6 (l : Launch) (Z : State) (a0 : Array Value) (hw : ∀ d ∈ tables_1, d.before a0 Z = true) (A : Nat → Addr) (B : own_P Z A) (h0 : Heap) (n0 : Nat) (O : Old Z n0 h0) (p0 : Int32) (hq0 : ¬ (p0 = (67 : Int32))) (hq1 : ¬ (p0 = (73 : Int32))) (hq2 : p0 = (80 : Int32)) : own_Met l Z (⟨"com/example/wide_query/widequery/QuerySymbolOfLetterPinLaw", "expected", "(I)Lcom/example/wide_query/widequery/QuerySymbol;"⟩ : MethodName) method_2_code 1 (some (FieldType.object "com/example/wide_query/widequery/QuerySymbol")) [] ({ frames := 0, cells := 0, slots := 0, locals := 0 } : Room) 0 0 #[(.int p0)] h0 (own_Q (some (.ref (A 3))) n0 fun h => h = h0) := by
  refine own_enter own_pn1 (fun m => own_ef2 m p0) ?_
  intro p e s m below meth c C
  have N := Fr.nil n0
  refine own_iloadN C (pc' := 1) (v := p0) d3_0 rfl rfl ?_
  refine own_bipush C (pc' := 3) (v := (67 : Int32)) d3_1 rfl rfl ?_
  refine own_icmpY C (pc' := 10) d3_3 (XT.ii_ne_t hq0) (by decide) (by decide) ?_
  refine own_iloadN C (pc' := 11) (v := p0) d3_10 rfl rfl ?_
  refine own_bipush C (pc' := 13) (v := (73 : Int32)) d3_11 rfl rfl ?_
  refine own_icmpY C (pc' := 20) d3_13 (XT.ii_ne_t hq1) (by decide) (by decide) ?_
  refine own_iloadN C (pc' := 21) (v := p0) d3_20 rfl rfl ?_
  refine own_bipush C (pc' := 23) (v := (80 : Int32)) d3_21 rfl rfl ?_
  refine own_icmpN C (pc' := 26) d3_23 (XT.ii_ne_f hq2) rfl ?_
  refine own_getS C (pc' := 29) (own_w34 hw) (Sta.ext O.2 (own_p9 B)) d3_26 rfl ?_
  exact own_ret C d3_29 rfl (Or.inr (Or.inr (Or.inr (Or.inr ⟨rfl, rfl, rfl⟩)))) rfl N (rfl) (by decide) (by decide)
set_option maxRecDepth 65536 in
set_option maxHeartbeats 40000000 in
theorem own_c7 (l : Launch) (Z : State) (a0 : Array Value) (hw : ∀ d ∈ tables_1, d.before a0 Z = true) (A : Nat → Addr) (B : own_P Z A) (h0 : Heap) (n0 : Nat) (O : Old Z n0 h0) (p0 : Int32) (hq0 : ¬ (p0 = (67 : Int32))) (hq1 : ¬ (p0 = (73 : Int32))) (hq2 : ¬ (p0 = (80 : Int32))) (hq3 : p0 = (83 : Int32)) : own_Met l Z (⟨"com/example/wide_query/widequery/QuerySymbol", "ofLetter", "(I)Lcom/example/wide_query/widequery/QuerySymbol;"⟩ : MethodName) prog_27_method_5_code 6 (some (FieldType.object "com/example/wide_query/widequery/QuerySymbol")) [] ({ frames := 2, cells := 1, slots := 5, locals := 25 } : Room) 1 5 #[(.int p0)] h0 (own_Q (some (.ref (A 4))) n0 fun h => Ext h0 h) := by
  refine own_enter own_pn0 (fun m => own_ef1 m p0) ?_
  intro p e s m below meth c C
  have N := Fr.nil n0
  have X : Ext h0 h0 := ⟨Nat.le_refl _, fun _ _ q => q⟩
  refine own_aconst C (pc' := 1) d1_0 rfl ?_
  refine own_astoreN C (pc' := 2) (Ls' := #[.val (.int p0), .val .null, .unset, .unset, .unset, .unset]) d1_1 rfl rfl rfl ?_
  refine own_callS C (pc' := 5) (W := 0) (argsL := []) (rest := []) (st' := [(.ref h0.size)]) (cells' := 1) (slots' := 5) (own_w4 hw) (own_w5 hw) (own_w2 hw) (own_w6 hw) (by decide) (own_c0 l Z a0 hw A B h0 n0 O) (by decide) (by decide) (lenOf own_pd0 rfl) rfl (Nat.le_of_eq rfl) rfl d1_2 rfl (by decide) (by decide) rfl rfl rfl N ?_
  intro h1 locs hD N
  obtain ⟨Eh1, k_h0_size, V_h0_size⟩ := hD
  have g_h0_size : n0 ≤ h0.size := own_ge O
  have z_h0_size : h0.size ≤ h0.size := X.1
  have O := O.ext Eh1
  have X := own_extTrans X Eh1
  refine own_astoreN C (pc' := 6) (Ls' := #[.val (.int p0), .val .null, .val (.ref h0.size), .unset, .unset, .unset]) d1_5 rfl rfl rfl ?_
  refine own_aloadN C (pc' := 7) (v := (.ref h0.size)) d1_6 rfl rfl rfl ?_
  refine own_alen C (pc' := 8) V_h0_size d1_7 rfl ?_
  refine own_istoreN C (pc' := 9) (Ls' := #[.val (.int p0), .val .null, .val (.ref h0.size), .val (.int (5 : Int32)), .unset, .unset]) d1_8 rfl rfl ?_
  refine own_iconst C (pc' := 10) (v := (0 : Int32)) d1_9 rfl rfl ?_
  refine own_istore C (pc' := 12) (Ls' := #[.val (.int p0), .val .null, .val (.ref h0.size), .val (.int (5 : Int32)), .val (.int (0 : Int32)), .unset]) d1_10 rfl rfl ?_
  refine own_iload C (pc' := 14) (v := (0 : Int32)) d1_12 rfl rfl ?_
  refine own_iloadN C (pc' := 15) (v := (5 : Int32)) d1_14 rfl rfl ?_
  refine own_icmpN C (pc' := 18) d1_15 (XT.ii_ge_f (by decide)) rfl ?_
  refine own_aloadN C (pc' := 19) (v := (.ref h0.size)) d1_18 rfl rfl rfl ?_
  refine own_iload C (pc' := 21) (v := (0 : Int32)) d1_19 rfl rfl ?_
  refine own_aaload C (pc' := 22) (v := (.ref (A 1))) V_h0_size rfl ⟨by decide, by decide⟩ rfl d1_21 rfl ?_
  refine own_astore C (pc' := 24) (Ls' := #[.val (.int p0), .val .null, .val (.ref h0.size), .val (.int (5 : Int32)), .val (.int (0 : Int32)), .val (.ref (A 1))]) d1_22 rfl rfl rfl ?_
  refine own_aload C (pc' := 26) (v := (.ref (A 1))) d1_24 rfl rfl rfl ?_
  refine own_getF C (pc' := 29) (host := "") (Or.inl (own_w24 hw)) (Fld.ext O.2 (own_p5 B)) d1_26 rfl ?_
  refine own_iloadN C (pc' := 30) (v := p0) d1_29 rfl rfl ?_
  refine own_icmpY C (pc' := 36) d1_30 (XT.ii_ne_t (fun q => hq0 q.symm)) (by decide) (by decide) ?_
  refine own_iinc C (pc' := 39) (x := (0 : Int32)) (z := (1 : Int32)) (Ls' := #[.val (.int p0), .val .null, .val (.ref h0.size), .val (.int (5 : Int32)), .val (.int (1 : Int32)), .val (.ref (A 1))]) d1_36 rfl (by decide) rfl rfl ?_
  refine own_goto C (pc' := 12) d1_39 (by decide) (by decide) ?_
  refine own_iload C (pc' := 14) (v := (1 : Int32)) d1_12 rfl rfl ?_
  refine own_iloadN C (pc' := 15) (v := (5 : Int32)) d1_14 rfl rfl ?_
  refine own_icmpN C (pc' := 18) d1_15 (XT.ii_ge_f (by decide)) rfl ?_
  refine own_aloadN C (pc' := 19) (v := (.ref h0.size)) d1_18 rfl rfl rfl ?_
  refine own_iload C (pc' := 21) (v := (1 : Int32)) d1_19 rfl rfl ?_
  refine own_aaload C (pc' := 22) (v := (.ref (A 2))) V_h0_size rfl ⟨by decide, by decide⟩ rfl d1_21 rfl ?_
  refine own_astore C (pc' := 24) (Ls' := #[.val (.int p0), .val .null, .val (.ref h0.size), .val (.int (5 : Int32)), .val (.int (1 : Int32)), .val (.ref (A 2))]) d1_22 rfl rfl rfl ?_
  refine own_aload C (pc' := 26) (v := (.ref (A 2))) d1_24 rfl rfl rfl ?_
  refine own_getF C (pc' := 29) (host := "") (Or.inl (own_w24 hw)) (Fld.ext O.2 (own_p8 B)) d1_26 rfl ?_
  refine own_iloadN C (pc' := 30) (v := p0) d1_29 rfl rfl ?_
  refine own_icmpY C (pc' := 36) d1_30 (XT.ii_ne_t (fun q => hq1 q.symm)) (by decide) (by decide) ?_
  refine own_iinc C (pc' := 39) (x := (1 : Int32)) (z := (2 : Int32)) (Ls' := #[.val (.int p0), .val .null, .val (.ref h0.size), .val (.int (5 : Int32)), .val (.int (2 : Int32)), .val (.ref (A 2))]) d1_36 rfl (by decide) rfl rfl ?_
  refine own_goto C (pc' := 12) d1_39 (by decide) (by decide) ?_
  refine own_iload C (pc' := 14) (v := (2 : Int32)) d1_12 rfl rfl ?_
  refine own_iloadN C (pc' := 15) (v := (5 : Int32)) d1_14 rfl rfl ?_
  refine own_icmpN C (pc' := 18) d1_15 (XT.ii_ge_f (by decide)) rfl ?_
  refine own_aloadN C (pc' := 19) (v := (.ref h0.size)) d1_18 rfl rfl rfl ?_
  refine own_iload C (pc' := 21) (v := (2 : Int32)) d1_19 rfl rfl ?_
  refine own_aaload C (pc' := 22) (v := (.ref (A 3))) V_h0_size rfl ⟨by decide, by decide⟩ rfl d1_21 rfl ?_
  refine own_astore C (pc' := 24) (Ls' := #[.val (.int p0), .val .null, .val (.ref h0.size), .val (.int (5 : Int32)), .val (.int (2 : Int32)), .val (.ref (A 3))]) d1_22 rfl rfl rfl ?_
  refine own_aload C (pc' := 26) (v := (.ref (A 3))) d1_24 rfl rfl rfl ?_
  refine own_getF C (pc' := 29) (host := "") (Or.inl (own_w24 hw)) (Fld.ext O.2 (own_p11 B)) d1_26 rfl ?_
  refine own_iloadN C (pc' := 30) (v := p0) d1_29 rfl rfl ?_
  refine own_icmpY C (pc' := 36) d1_30 (XT.ii_ne_t (fun q => hq2 q.symm)) (by decide) (by decide) ?_
  refine own_iinc C (pc' := 39) (x := (2 : Int32)) (z := (3 : Int32)) (Ls' := #[.val (.int p0), .val .null, .val (.ref h0.size), .val (.int (5 : Int32)), .val (.int (3 : Int32)), .val (.ref (A 3))]) d1_36 rfl (by decide) rfl rfl ?_
  refine own_goto C (pc' := 12) d1_39 (by decide) (by decide) ?_
  refine own_iload C (pc' := 14) (v := (3 : Int32)) d1_12 rfl rfl ?_
  refine own_iloadN C (pc' := 15) (v := (5 : Int32)) d1_14 rfl rfl ?_
  refine own_icmpN C (pc' := 18) d1_15 (XT.ii_ge_f (by decide)) rfl ?_
  refine own_aloadN C (pc' := 19) (v := (.ref h0.size)) d1_18 rfl rfl rfl ?_
  refine own_iload C (pc' := 21) (v := (3 : Int32)) d1_19 rfl rfl ?_
  refine own_aaload C (pc' := 22) (v := (.ref (A 4))) V_h0_size rfl ⟨by decide, by decide⟩ rfl d1_21 rfl ?_
  refine own_astore C (pc' := 24) (Ls' := #[.val (.int p0), .val .null, .val (.ref h0.size), .val (.int (5 : Int32)), .val (.int (3 : Int32)), .val (.ref (A 4))]) d1_22 rfl rfl rfl ?_
  refine own_aload C (pc' := 26) (v := (.ref (A 4))) d1_24 rfl rfl rfl ?_
  refine own_getF C (pc' := 29) (host := "") (Or.inl (own_w24 hw)) (Fld.ext O.2 (own_p14 B)) d1_26 rfl ?_
  refine own_iloadN C (pc' := 30) (v := p0) d1_29 rfl rfl ?_
  refine own_icmpN C (pc' := 33) d1_30 (XT.ii_ne_f (Eq.symm hq3)) rfl ?_
  refine own_aload C (pc' := 35) (v := (.ref (A 4))) d1_33 rfl rfl rfl ?_
  refine own_astoreN C (pc' := 36) (Ls' := #[.val (.int p0), .val (.ref (A 4)), .val (.ref h0.size), .val (.int (5 : Int32)), .val (.int (3 : Int32)), .val (.ref (A 4))]) d1_35 rfl rfl rfl ?_
  refine own_iinc C (pc' := 39) (x := (3 : Int32)) (z := (4 : Int32)) (Ls' := #[.val (.int p0), .val (.ref (A 4)), .val (.ref h0.size), .val (.int (5 : Int32)), .val (.int (4 : Int32)), .val (.ref (A 4))]) d1_36 rfl (by decide) rfl rfl ?_
  refine own_goto C (pc' := 12) d1_39 (by decide) (by decide) ?_
  refine own_iload C (pc' := 14) (v := (4 : Int32)) d1_12 rfl rfl ?_
  refine own_iloadN C (pc' := 15) (v := (5 : Int32)) d1_14 rfl rfl ?_
  refine own_icmpN C (pc' := 18) d1_15 (XT.ii_ge_f (by decide)) rfl ?_
  refine own_aloadN C (pc' := 19) (v := (.ref h0.size)) d1_18 rfl rfl rfl ?_
  refine own_iload C (pc' := 21) (v := (4 : Int32)) d1_19 rfl rfl ?_
  refine own_aaload C (pc' := 22) (v := (.ref (A 5))) V_h0_size rfl ⟨by decide, by decide⟩ rfl d1_21 rfl ?_
  refine own_astore C (pc' := 24) (Ls' := #[.val (.int p0), .val (.ref (A 4)), .val (.ref h0.size), .val (.int (5 : Int32)), .val (.int (4 : Int32)), .val (.ref (A 5))]) d1_22 rfl rfl rfl ?_
  refine own_aload C (pc' := 26) (v := (.ref (A 5))) d1_24 rfl rfl rfl ?_
  refine own_getF C (pc' := 29) (host := "") (Or.inl (own_w24 hw)) (Fld.ext O.2 (own_p17 B)) d1_26 rfl ?_
  refine own_iloadN C (pc' := 30) (v := p0) d1_29 rfl rfl ?_
  refine own_icmpY C (pc' := 36) d1_30 (XT.ii_ne_t (fun q => (fun q => absurd (hq3.symm.trans q) (by decide)) q.symm)) (by decide) (by decide) ?_
  refine own_iinc C (pc' := 39) (x := (4 : Int32)) (z := (5 : Int32)) (Ls' := #[.val (.int p0), .val (.ref (A 4)), .val (.ref h0.size), .val (.int (5 : Int32)), .val (.int (5 : Int32)), .val (.ref (A 5))]) d1_36 rfl (by decide) rfl rfl ?_
  refine own_goto C (pc' := 12) d1_39 (by decide) (by decide) ?_
  refine own_iload C (pc' := 14) (v := (5 : Int32)) d1_12 rfl rfl ?_
  refine own_iloadN C (pc' := 15) (v := (5 : Int32)) d1_14 rfl rfl ?_
  refine own_icmpY C (pc' := 42) d1_15 (XT.ii_ge_t (by decide)) (by decide) (by decide) ?_
  refine own_aloadN C (pc' := 43) (v := (.ref (A 4))) d1_42 rfl rfl rfl ?_
  exact own_ret C d1_43 rfl (Or.inr (Or.inr (Or.inr (Or.inr ⟨rfl, rfl, rfl⟩)))) rfl N (X) (by decide) (by decide)
set_option maxRecDepth 65536 in
set_option maxHeartbeats 40000000 in
theorem own_c8 (l : Launch) (Z : State) (a0 : Array Value) (hw : ∀ d ∈ tables_1, d.before a0 Z = true) (A : Nat → Addr) (B : own_P Z A) (h0 : Heap) (n0 : Nat) (O : Old Z n0 h0) (p0 : Int32) (hq0 : ¬ (p0 = (67 : Int32))) (hq1 : ¬ (p0 = (73 : Int32))) (hq2 : ¬ (p0 = (80 : Int32))) (hq3 : p0 = (83 : Int32)) : own_Met l Z (⟨"com/example/wide_query/widequery/QuerySymbolOfLetterPinLaw", "expected", "(I)Lcom/example/wide_query/widequery/QuerySymbol;"⟩ : MethodName) method_2_code 1 (some (FieldType.object "com/example/wide_query/widequery/QuerySymbol")) [] ({ frames := 0, cells := 0, slots := 0, locals := 0 } : Room) 0 0 #[(.int p0)] h0 (own_Q (some (.ref (A 4))) n0 fun h => h = h0) := by
  refine own_enter own_pn1 (fun m => own_ef2 m p0) ?_
  intro p e s m below meth c C
  have N := Fr.nil n0
  refine own_iloadN C (pc' := 1) (v := p0) d3_0 rfl rfl ?_
  refine own_bipush C (pc' := 3) (v := (67 : Int32)) d3_1 rfl rfl ?_
  refine own_icmpY C (pc' := 10) d3_3 (XT.ii_ne_t hq0) (by decide) (by decide) ?_
  refine own_iloadN C (pc' := 11) (v := p0) d3_10 rfl rfl ?_
  refine own_bipush C (pc' := 13) (v := (73 : Int32)) d3_11 rfl rfl ?_
  refine own_icmpY C (pc' := 20) d3_13 (XT.ii_ne_t hq1) (by decide) (by decide) ?_
  refine own_iloadN C (pc' := 21) (v := p0) d3_20 rfl rfl ?_
  refine own_bipush C (pc' := 23) (v := (80 : Int32)) d3_21 rfl rfl ?_
  refine own_icmpY C (pc' := 30) d3_23 (XT.ii_ne_t hq2) (by decide) (by decide) ?_
  refine own_iloadN C (pc' := 31) (v := p0) d3_30 rfl rfl ?_
  refine own_bipush C (pc' := 33) (v := (83 : Int32)) d3_31 rfl rfl ?_
  refine own_icmpN C (pc' := 36) d3_33 (XT.ii_ne_f hq3) rfl ?_
  refine own_getS C (pc' := 39) (own_w32 hw) (Sta.ext O.2 (own_p12 B)) d3_36 rfl ?_
  exact own_ret C d3_39 rfl (Or.inr (Or.inr (Or.inr (Or.inr ⟨rfl, rfl, rfl⟩)))) rfl N (rfl) (by decide) (by decide)
set_option maxRecDepth 65536 in
set_option maxHeartbeats 40000000 in
theorem own_c9 (l : Launch) (Z : State) (a0 : Array Value) (hw : ∀ d ∈ tables_1, d.before a0 Z = true) (A : Nat → Addr) (B : own_P Z A) (h0 : Heap) (n0 : Nat) (O : Old Z n0 h0) (p0 : Int32) (hq0 : ¬ (p0 = (67 : Int32))) (hq1 : ¬ (p0 = (73 : Int32))) (hq2 : ¬ (p0 = (80 : Int32))) (hq3 : ¬ (p0 = (83 : Int32))) (hq4 : p0 = (69 : Int32)) : own_Met l Z (⟨"com/example/wide_query/widequery/QuerySymbol", "ofLetter", "(I)Lcom/example/wide_query/widequery/QuerySymbol;"⟩ : MethodName) prog_27_method_5_code 6 (some (FieldType.object "com/example/wide_query/widequery/QuerySymbol")) [] ({ frames := 2, cells := 1, slots := 5, locals := 25 } : Room) 1 5 #[(.int p0)] h0 (own_Q (some (.ref (A 5))) n0 fun h => Ext h0 h) := by
  refine own_enter own_pn0 (fun m => own_ef1 m p0) ?_
  intro p e s m below meth c C
  have N := Fr.nil n0
  have X : Ext h0 h0 := ⟨Nat.le_refl _, fun _ _ q => q⟩
  refine own_aconst C (pc' := 1) d1_0 rfl ?_
  refine own_astoreN C (pc' := 2) (Ls' := #[.val (.int p0), .val .null, .unset, .unset, .unset, .unset]) d1_1 rfl rfl rfl ?_
  refine own_callS C (pc' := 5) (W := 0) (argsL := []) (rest := []) (st' := [(.ref h0.size)]) (cells' := 1) (slots' := 5) (own_w4 hw) (own_w5 hw) (own_w2 hw) (own_w6 hw) (by decide) (own_c0 l Z a0 hw A B h0 n0 O) (by decide) (by decide) (lenOf own_pd0 rfl) rfl (Nat.le_of_eq rfl) rfl d1_2 rfl (by decide) (by decide) rfl rfl rfl N ?_
  intro h1 locs hD N
  obtain ⟨Eh1, k_h0_size, V_h0_size⟩ := hD
  have g_h0_size : n0 ≤ h0.size := own_ge O
  have z_h0_size : h0.size ≤ h0.size := X.1
  have O := O.ext Eh1
  have X := own_extTrans X Eh1
  refine own_astoreN C (pc' := 6) (Ls' := #[.val (.int p0), .val .null, .val (.ref h0.size), .unset, .unset, .unset]) d1_5 rfl rfl rfl ?_
  refine own_aloadN C (pc' := 7) (v := (.ref h0.size)) d1_6 rfl rfl rfl ?_
  refine own_alen C (pc' := 8) V_h0_size d1_7 rfl ?_
  refine own_istoreN C (pc' := 9) (Ls' := #[.val (.int p0), .val .null, .val (.ref h0.size), .val (.int (5 : Int32)), .unset, .unset]) d1_8 rfl rfl ?_
  refine own_iconst C (pc' := 10) (v := (0 : Int32)) d1_9 rfl rfl ?_
  refine own_istore C (pc' := 12) (Ls' := #[.val (.int p0), .val .null, .val (.ref h0.size), .val (.int (5 : Int32)), .val (.int (0 : Int32)), .unset]) d1_10 rfl rfl ?_
  refine own_iload C (pc' := 14) (v := (0 : Int32)) d1_12 rfl rfl ?_
  refine own_iloadN C (pc' := 15) (v := (5 : Int32)) d1_14 rfl rfl ?_
  refine own_icmpN C (pc' := 18) d1_15 (XT.ii_ge_f (by decide)) rfl ?_
  refine own_aloadN C (pc' := 19) (v := (.ref h0.size)) d1_18 rfl rfl rfl ?_
  refine own_iload C (pc' := 21) (v := (0 : Int32)) d1_19 rfl rfl ?_
  refine own_aaload C (pc' := 22) (v := (.ref (A 1))) V_h0_size rfl ⟨by decide, by decide⟩ rfl d1_21 rfl ?_
  refine own_astore C (pc' := 24) (Ls' := #[.val (.int p0), .val .null, .val (.ref h0.size), .val (.int (5 : Int32)), .val (.int (0 : Int32)), .val (.ref (A 1))]) d1_22 rfl rfl rfl ?_
  refine own_aload C (pc' := 26) (v := (.ref (A 1))) d1_24 rfl rfl rfl ?_
  refine own_getF C (pc' := 29) (host := "") (Or.inl (own_w24 hw)) (Fld.ext O.2 (own_p5 B)) d1_26 rfl ?_
  refine own_iloadN C (pc' := 30) (v := p0) d1_29 rfl rfl ?_
  refine own_icmpY C (pc' := 36) d1_30 (XT.ii_ne_t (fun q => hq0 q.symm)) (by decide) (by decide) ?_
  refine own_iinc C (pc' := 39) (x := (0 : Int32)) (z := (1 : Int32)) (Ls' := #[.val (.int p0), .val .null, .val (.ref h0.size), .val (.int (5 : Int32)), .val (.int (1 : Int32)), .val (.ref (A 1))]) d1_36 rfl (by decide) rfl rfl ?_
  refine own_goto C (pc' := 12) d1_39 (by decide) (by decide) ?_
  refine own_iload C (pc' := 14) (v := (1 : Int32)) d1_12 rfl rfl ?_
  refine own_iloadN C (pc' := 15) (v := (5 : Int32)) d1_14 rfl rfl ?_
  refine own_icmpN C (pc' := 18) d1_15 (XT.ii_ge_f (by decide)) rfl ?_
  refine own_aloadN C (pc' := 19) (v := (.ref h0.size)) d1_18 rfl rfl rfl ?_
  refine own_iload C (pc' := 21) (v := (1 : Int32)) d1_19 rfl rfl ?_
  refine own_aaload C (pc' := 22) (v := (.ref (A 2))) V_h0_size rfl ⟨by decide, by decide⟩ rfl d1_21 rfl ?_
  refine own_astore C (pc' := 24) (Ls' := #[.val (.int p0), .val .null, .val (.ref h0.size), .val (.int (5 : Int32)), .val (.int (1 : Int32)), .val (.ref (A 2))]) d1_22 rfl rfl rfl ?_
  refine own_aload C (pc' := 26) (v := (.ref (A 2))) d1_24 rfl rfl rfl ?_
  refine own_getF C (pc' := 29) (host := "") (Or.inl (own_w24 hw)) (Fld.ext O.2 (own_p8 B)) d1_26 rfl ?_
  refine own_iloadN C (pc' := 30) (v := p0) d1_29 rfl rfl ?_
  refine own_icmpY C (pc' := 36) d1_30 (XT.ii_ne_t (fun q => hq1 q.symm)) (by decide) (by decide) ?_
  refine own_iinc C (pc' := 39) (x := (1 : Int32)) (z := (2 : Int32)) (Ls' := #[.val (.int p0), .val .null, .val (.ref h0.size), .val (.int (5 : Int32)), .val (.int (2 : Int32)), .val (.ref (A 2))]) d1_36 rfl (by decide) rfl rfl ?_
  refine own_goto C (pc' := 12) d1_39 (by decide) (by decide) ?_
  refine own_iload C (pc' := 14) (v := (2 : Int32)) d1_12 rfl rfl ?_
  refine own_iloadN C (pc' := 15) (v := (5 : Int32)) d1_14 rfl rfl ?_
  refine own_icmpN C (pc' := 18) d1_15 (XT.ii_ge_f (by decide)) rfl ?_
  refine own_aloadN C (pc' := 19) (v := (.ref h0.size)) d1_18 rfl rfl rfl ?_
  refine own_iload C (pc' := 21) (v := (2 : Int32)) d1_19 rfl rfl ?_
  refine own_aaload C (pc' := 22) (v := (.ref (A 3))) V_h0_size rfl ⟨by decide, by decide⟩ rfl d1_21 rfl ?_
  refine own_astore C (pc' := 24) (Ls' := #[.val (.int p0), .val .null, .val (.ref h0.size), .val (.int (5 : Int32)), .val (.int (2 : Int32)), .val (.ref (A 3))]) d1_22 rfl rfl rfl ?_
  refine own_aload C (pc' := 26) (v := (.ref (A 3))) d1_24 rfl rfl rfl ?_
  refine own_getF C (pc' := 29) (host := "") (Or.inl (own_w24 hw)) (Fld.ext O.2 (own_p11 B)) d1_26 rfl ?_
  refine own_iloadN C (pc' := 30) (v := p0) d1_29 rfl rfl ?_
  refine own_icmpY C (pc' := 36) d1_30 (XT.ii_ne_t (fun q => hq2 q.symm)) (by decide) (by decide) ?_
  refine own_iinc C (pc' := 39) (x := (2 : Int32)) (z := (3 : Int32)) (Ls' := #[.val (.int p0), .val .null, .val (.ref h0.size), .val (.int (5 : Int32)), .val (.int (3 : Int32)), .val (.ref (A 3))]) d1_36 rfl (by decide) rfl rfl ?_
  refine own_goto C (pc' := 12) d1_39 (by decide) (by decide) ?_
  refine own_iload C (pc' := 14) (v := (3 : Int32)) d1_12 rfl rfl ?_
  refine own_iloadN C (pc' := 15) (v := (5 : Int32)) d1_14 rfl rfl ?_
  refine own_icmpN C (pc' := 18) d1_15 (XT.ii_ge_f (by decide)) rfl ?_
  refine own_aloadN C (pc' := 19) (v := (.ref h0.size)) d1_18 rfl rfl rfl ?_
  refine own_iload C (pc' := 21) (v := (3 : Int32)) d1_19 rfl rfl ?_
  refine own_aaload C (pc' := 22) (v := (.ref (A 4))) V_h0_size rfl ⟨by decide, by decide⟩ rfl d1_21 rfl ?_
  refine own_astore C (pc' := 24) (Ls' := #[.val (.int p0), .val .null, .val (.ref h0.size), .val (.int (5 : Int32)), .val (.int (3 : Int32)), .val (.ref (A 4))]) d1_22 rfl rfl rfl ?_
  refine own_aload C (pc' := 26) (v := (.ref (A 4))) d1_24 rfl rfl rfl ?_
  refine own_getF C (pc' := 29) (host := "") (Or.inl (own_w24 hw)) (Fld.ext O.2 (own_p14 B)) d1_26 rfl ?_
  refine own_iloadN C (pc' := 30) (v := p0) d1_29 rfl rfl ?_
  refine own_icmpY C (pc' := 36) d1_30 (XT.ii_ne_t (fun q => hq3 q.symm)) (by decide) (by decide) ?_
  refine own_iinc C (pc' := 39) (x := (3 : Int32)) (z := (4 : Int32)) (Ls' := #[.val (.int p0), .val .null, .val (.ref h0.size), .val (.int (5 : Int32)), .val (.int (4 : Int32)), .val (.ref (A 4))]) d1_36 rfl (by decide) rfl rfl ?_
  refine own_goto C (pc' := 12) d1_39 (by decide) (by decide) ?_
  refine own_iload C (pc' := 14) (v := (4 : Int32)) d1_12 rfl rfl ?_
  refine own_iloadN C (pc' := 15) (v := (5 : Int32)) d1_14 rfl rfl ?_
  refine own_icmpN C (pc' := 18) d1_15 (XT.ii_ge_f (by decide)) rfl ?_
  refine own_aloadN C (pc' := 19) (v := (.ref h0.size)) d1_18 rfl rfl rfl ?_
  refine own_iload C (pc' := 21) (v := (4 : Int32)) d1_19 rfl rfl ?_
  refine own_aaload C (pc' := 22) (v := (.ref (A 5))) V_h0_size rfl ⟨by decide, by decide⟩ rfl d1_21 rfl ?_
  refine own_astore C (pc' := 24) (Ls' := #[.val (.int p0), .val .null, .val (.ref h0.size), .val (.int (5 : Int32)), .val (.int (4 : Int32)), .val (.ref (A 5))]) d1_22 rfl rfl rfl ?_
  refine own_aload C (pc' := 26) (v := (.ref (A 5))) d1_24 rfl rfl rfl ?_
  refine own_getF C (pc' := 29) (host := "") (Or.inl (own_w24 hw)) (Fld.ext O.2 (own_p17 B)) d1_26 rfl ?_
  refine own_iloadN C (pc' := 30) (v := p0) d1_29 rfl rfl ?_
  refine own_icmpN C (pc' := 33) d1_30 (XT.ii_ne_f (Eq.symm hq4)) rfl ?_
  refine own_aload C (pc' := 35) (v := (.ref (A 5))) d1_33 rfl rfl rfl ?_
  refine own_astoreN C (pc' := 36) (Ls' := #[.val (.int p0), .val (.ref (A 5)), .val (.ref h0.size), .val (.int (5 : Int32)), .val (.int (4 : Int32)), .val (.ref (A 5))]) d1_35 rfl rfl rfl ?_
  refine own_iinc C (pc' := 39) (x := (4 : Int32)) (z := (5 : Int32)) (Ls' := #[.val (.int p0), .val (.ref (A 5)), .val (.ref h0.size), .val (.int (5 : Int32)), .val (.int (5 : Int32)), .val (.ref (A 5))]) d1_36 rfl (by decide) rfl rfl ?_
  refine own_goto C (pc' := 12) d1_39 (by decide) (by decide) ?_
  refine own_iload C (pc' := 14) (v := (5 : Int32)) d1_12 rfl rfl ?_
  refine own_iloadN C (pc' := 15) (v := (5 : Int32)) d1_14 rfl rfl ?_
  refine own_icmpY C (pc' := 42) d1_15 (XT.ii_ge_t (by decide)) (by decide) (by decide) ?_
  refine own_aloadN C (pc' := 43) (v := (.ref (A 5))) d1_42 rfl rfl rfl ?_
  exact own_ret C d1_43 rfl (Or.inr (Or.inr (Or.inr (Or.inr ⟨rfl, rfl, rfl⟩)))) rfl N (X) (by decide) (by decide)
set_option maxRecDepth 65536 in
set_option maxHeartbeats 40000000 in
theorem own_c10 (l : Launch) (Z : State) (a0 : Array Value) (hw : ∀ d ∈ tables_1, d.before a0 Z = true) (A : Nat → Addr) (B : own_P Z A) (h0 : Heap) (n0 : Nat) (O : Old Z n0 h0) (p0 : Int32) (hq0 : ¬ (p0 = (67 : Int32))) (hq1 : ¬ (p0 = (73 : Int32))) (hq2 : ¬ (p0 = (80 : Int32))) (hq3 : ¬ (p0 = (83 : Int32))) (hq4 : p0 = (69 : Int32)) : own_Met l Z (⟨"com/example/wide_query/widequery/QuerySymbolOfLetterPinLaw", "expected", "(I)Lcom/example/wide_query/widequery/QuerySymbol;"⟩ : MethodName) method_2_code 1 (some (FieldType.object "com/example/wide_query/widequery/QuerySymbol")) [] ({ frames := 0, cells := 0, slots := 0, locals := 0 } : Room) 0 0 #[(.int p0)] h0 (own_Q (some (.ref (A 5))) n0 fun h => h = h0) := by
  refine own_enter own_pn1 (fun m => own_ef2 m p0) ?_
  intro p e s m below meth c C
  have N := Fr.nil n0
  refine own_iloadN C (pc' := 1) (v := p0) d3_0 rfl rfl ?_
  refine own_bipush C (pc' := 3) (v := (67 : Int32)) d3_1 rfl rfl ?_
  refine own_icmpY C (pc' := 10) d3_3 (XT.ii_ne_t hq0) (by decide) (by decide) ?_
  refine own_iloadN C (pc' := 11) (v := p0) d3_10 rfl rfl ?_
  refine own_bipush C (pc' := 13) (v := (73 : Int32)) d3_11 rfl rfl ?_
  refine own_icmpY C (pc' := 20) d3_13 (XT.ii_ne_t hq1) (by decide) (by decide) ?_
  refine own_iloadN C (pc' := 21) (v := p0) d3_20 rfl rfl ?_
  refine own_bipush C (pc' := 23) (v := (80 : Int32)) d3_21 rfl rfl ?_
  refine own_icmpY C (pc' := 30) d3_23 (XT.ii_ne_t hq2) (by decide) (by decide) ?_
  refine own_iloadN C (pc' := 31) (v := p0) d3_30 rfl rfl ?_
  refine own_bipush C (pc' := 33) (v := (83 : Int32)) d3_31 rfl rfl ?_
  refine own_icmpY C (pc' := 40) d3_33 (XT.ii_ne_t hq3) (by decide) (by decide) ?_
  refine own_iloadN C (pc' := 41) (v := p0) d3_40 rfl rfl ?_
  refine own_bipush C (pc' := 43) (v := (69 : Int32)) d3_41 rfl rfl ?_
  refine own_icmpN C (pc' := 46) d3_43 (XT.ii_ne_f hq4) rfl ?_
  refine own_getS C (pc' := 49) (own_w30 hw) (Sta.ext O.2 (own_p15 B)) d3_46 rfl ?_
  exact own_ret C d3_49 rfl (Or.inr (Or.inr (Or.inr (Or.inr ⟨rfl, rfl, rfl⟩)))) rfl N (rfl) (by decide) (by decide)
set_option maxRecDepth 65536 in
set_option maxHeartbeats 40000000 in
theorem own_c11 (l : Launch) (Z : State) (a0 : Array Value) (hw : ∀ d ∈ tables_1, d.before a0 Z = true) (A : Nat → Addr) (B : own_P Z A) (h0 : Heap) (n0 : Nat) (O : Old Z n0 h0) (p0 : Int32) (hq0 : ¬ (p0 = (67 : Int32))) (hq1 : ¬ (p0 = (73 : Int32))) (hq2 : ¬ (p0 = (80 : Int32))) (hq3 : ¬ (p0 = (83 : Int32))) (hq4 : ¬ (p0 = (69 : Int32))) : own_Met l Z (⟨"com/example/wide_query/widequery/QuerySymbol", "ofLetter", "(I)Lcom/example/wide_query/widequery/QuerySymbol;"⟩ : MethodName) prog_27_method_5_code 6 (some (FieldType.object "com/example/wide_query/widequery/QuerySymbol")) [] ({ frames := 2, cells := 1, slots := 5, locals := 25 } : Room) 1 5 #[(.int p0)] h0 (own_Q (some .null) n0 fun h => Ext h0 h) := by
  refine own_enter own_pn0 (fun m => own_ef1 m p0) ?_
  intro p e s m below meth c C
  have N := Fr.nil n0
  have X : Ext h0 h0 := ⟨Nat.le_refl _, fun _ _ q => q⟩
  refine own_aconst C (pc' := 1) d1_0 rfl ?_
  refine own_astoreN C (pc' := 2) (Ls' := #[.val (.int p0), .val .null, .unset, .unset, .unset, .unset]) d1_1 rfl rfl rfl ?_
  refine own_callS C (pc' := 5) (W := 0) (argsL := []) (rest := []) (st' := [(.ref h0.size)]) (cells' := 1) (slots' := 5) (own_w4 hw) (own_w5 hw) (own_w2 hw) (own_w6 hw) (by decide) (own_c0 l Z a0 hw A B h0 n0 O) (by decide) (by decide) (lenOf own_pd0 rfl) rfl (Nat.le_of_eq rfl) rfl d1_2 rfl (by decide) (by decide) rfl rfl rfl N ?_
  intro h1 locs hD N
  obtain ⟨Eh1, k_h0_size, V_h0_size⟩ := hD
  have g_h0_size : n0 ≤ h0.size := own_ge O
  have z_h0_size : h0.size ≤ h0.size := X.1
  have O := O.ext Eh1
  have X := own_extTrans X Eh1
  refine own_astoreN C (pc' := 6) (Ls' := #[.val (.int p0), .val .null, .val (.ref h0.size), .unset, .unset, .unset]) d1_5 rfl rfl rfl ?_
  refine own_aloadN C (pc' := 7) (v := (.ref h0.size)) d1_6 rfl rfl rfl ?_
  refine own_alen C (pc' := 8) V_h0_size d1_7 rfl ?_
  refine own_istoreN C (pc' := 9) (Ls' := #[.val (.int p0), .val .null, .val (.ref h0.size), .val (.int (5 : Int32)), .unset, .unset]) d1_8 rfl rfl ?_
  refine own_iconst C (pc' := 10) (v := (0 : Int32)) d1_9 rfl rfl ?_
  refine own_istore C (pc' := 12) (Ls' := #[.val (.int p0), .val .null, .val (.ref h0.size), .val (.int (5 : Int32)), .val (.int (0 : Int32)), .unset]) d1_10 rfl rfl ?_
  refine own_iload C (pc' := 14) (v := (0 : Int32)) d1_12 rfl rfl ?_
  refine own_iloadN C (pc' := 15) (v := (5 : Int32)) d1_14 rfl rfl ?_
  refine own_icmpN C (pc' := 18) d1_15 (XT.ii_ge_f (by decide)) rfl ?_
  refine own_aloadN C (pc' := 19) (v := (.ref h0.size)) d1_18 rfl rfl rfl ?_
  refine own_iload C (pc' := 21) (v := (0 : Int32)) d1_19 rfl rfl ?_
  refine own_aaload C (pc' := 22) (v := (.ref (A 1))) V_h0_size rfl ⟨by decide, by decide⟩ rfl d1_21 rfl ?_
  refine own_astore C (pc' := 24) (Ls' := #[.val (.int p0), .val .null, .val (.ref h0.size), .val (.int (5 : Int32)), .val (.int (0 : Int32)), .val (.ref (A 1))]) d1_22 rfl rfl rfl ?_
  refine own_aload C (pc' := 26) (v := (.ref (A 1))) d1_24 rfl rfl rfl ?_
  refine own_getF C (pc' := 29) (host := "") (Or.inl (own_w24 hw)) (Fld.ext O.2 (own_p5 B)) d1_26 rfl ?_
  refine own_iloadN C (pc' := 30) (v := p0) d1_29 rfl rfl ?_
  refine own_icmpY C (pc' := 36) d1_30 (XT.ii_ne_t (fun q => hq0 q.symm)) (by decide) (by decide) ?_
  refine own_iinc C (pc' := 39) (x := (0 : Int32)) (z := (1 : Int32)) (Ls' := #[.val (.int p0), .val .null, .val (.ref h0.size), .val (.int (5 : Int32)), .val (.int (1 : Int32)), .val (.ref (A 1))]) d1_36 rfl (by decide) rfl rfl ?_
  refine own_goto C (pc' := 12) d1_39 (by decide) (by decide) ?_
  refine own_iload C (pc' := 14) (v := (1 : Int32)) d1_12 rfl rfl ?_
  refine own_iloadN C (pc' := 15) (v := (5 : Int32)) d1_14 rfl rfl ?_
  refine own_icmpN C (pc' := 18) d1_15 (XT.ii_ge_f (by decide)) rfl ?_
  refine own_aloadN C (pc' := 19) (v := (.ref h0.size)) d1_18 rfl rfl rfl ?_
  refine own_iload C (pc' := 21) (v := (1 : Int32)) d1_19 rfl rfl ?_
  refine own_aaload C (pc' := 22) (v := (.ref (A 2))) V_h0_size rfl ⟨by decide, by decide⟩ rfl d1_21 rfl ?_
  refine own_astore C (pc' := 24) (Ls' := #[.val (.int p0), .val .null, .val (.ref h0.size), .val (.int (5 : Int32)), .val (.int (1 : Int32)), .val (.ref (A 2))]) d1_22 rfl rfl rfl ?_
  refine own_aload C (pc' := 26) (v := (.ref (A 2))) d1_24 rfl rfl rfl ?_
  refine own_getF C (pc' := 29) (host := "") (Or.inl (own_w24 hw)) (Fld.ext O.2 (own_p8 B)) d1_26 rfl ?_
  refine own_iloadN C (pc' := 30) (v := p0) d1_29 rfl rfl ?_
  refine own_icmpY C (pc' := 36) d1_30 (XT.ii_ne_t (fun q => hq1 q.symm)) (by decide) (by decide) ?_
  refine own_iinc C (pc' := 39) (x := (1 : Int32)) (z := (2 : Int32)) (Ls' := #[.val (.int p0), .val .null, .val (.ref h0.size), .val (.int (5 : Int32)), .val (.int (2 : Int32)), .val (.ref (A 2))]) d1_36 rfl (by decide) rfl rfl ?_
  refine own_goto C (pc' := 12) d1_39 (by decide) (by decide) ?_
  refine own_iload C (pc' := 14) (v := (2 : Int32)) d1_12 rfl rfl ?_
  refine own_iloadN C (pc' := 15) (v := (5 : Int32)) d1_14 rfl rfl ?_
  refine own_icmpN C (pc' := 18) d1_15 (XT.ii_ge_f (by decide)) rfl ?_
  refine own_aloadN C (pc' := 19) (v := (.ref h0.size)) d1_18 rfl rfl rfl ?_
  refine own_iload C (pc' := 21) (v := (2 : Int32)) d1_19 rfl rfl ?_
  refine own_aaload C (pc' := 22) (v := (.ref (A 3))) V_h0_size rfl ⟨by decide, by decide⟩ rfl d1_21 rfl ?_
  refine own_astore C (pc' := 24) (Ls' := #[.val (.int p0), .val .null, .val (.ref h0.size), .val (.int (5 : Int32)), .val (.int (2 : Int32)), .val (.ref (A 3))]) d1_22 rfl rfl rfl ?_
  refine own_aload C (pc' := 26) (v := (.ref (A 3))) d1_24 rfl rfl rfl ?_
  refine own_getF C (pc' := 29) (host := "") (Or.inl (own_w24 hw)) (Fld.ext O.2 (own_p11 B)) d1_26 rfl ?_
  refine own_iloadN C (pc' := 30) (v := p0) d1_29 rfl rfl ?_
  refine own_icmpY C (pc' := 36) d1_30 (XT.ii_ne_t (fun q => hq2 q.symm)) (by decide) (by decide) ?_
  refine own_iinc C (pc' := 39) (x := (2 : Int32)) (z := (3 : Int32)) (Ls' := #[.val (.int p0), .val .null, .val (.ref h0.size), .val (.int (5 : Int32)), .val (.int (3 : Int32)), .val (.ref (A 3))]) d1_36 rfl (by decide) rfl rfl ?_
  refine own_goto C (pc' := 12) d1_39 (by decide) (by decide) ?_
  refine own_iload C (pc' := 14) (v := (3 : Int32)) d1_12 rfl rfl ?_
  refine own_iloadN C (pc' := 15) (v := (5 : Int32)) d1_14 rfl rfl ?_
  refine own_icmpN C (pc' := 18) d1_15 (XT.ii_ge_f (by decide)) rfl ?_
  refine own_aloadN C (pc' := 19) (v := (.ref h0.size)) d1_18 rfl rfl rfl ?_
  refine own_iload C (pc' := 21) (v := (3 : Int32)) d1_19 rfl rfl ?_
  refine own_aaload C (pc' := 22) (v := (.ref (A 4))) V_h0_size rfl ⟨by decide, by decide⟩ rfl d1_21 rfl ?_
  refine own_astore C (pc' := 24) (Ls' := #[.val (.int p0), .val .null, .val (.ref h0.size), .val (.int (5 : Int32)), .val (.int (3 : Int32)), .val (.ref (A 4))]) d1_22 rfl rfl rfl ?_
  refine own_aload C (pc' := 26) (v := (.ref (A 4))) d1_24 rfl rfl rfl ?_
  refine own_getF C (pc' := 29) (host := "") (Or.inl (own_w24 hw)) (Fld.ext O.2 (own_p14 B)) d1_26 rfl ?_
  refine own_iloadN C (pc' := 30) (v := p0) d1_29 rfl rfl ?_
  refine own_icmpY C (pc' := 36) d1_30 (XT.ii_ne_t (fun q => hq3 q.symm)) (by decide) (by decide) ?_
  refine own_iinc C (pc' := 39) (x := (3 : Int32)) (z := (4 : Int32)) (Ls' := #[.val (.int p0), .val .null, .val (.ref h0.size), .val (.int (5 : Int32)), .val (.int (4 : Int32)), .val (.ref (A 4))]) d1_36 rfl (by decide) rfl rfl ?_
  refine own_goto C (pc' := 12) d1_39 (by decide) (by decide) ?_
  refine own_iload C (pc' := 14) (v := (4 : Int32)) d1_12 rfl rfl ?_
  refine own_iloadN C (pc' := 15) (v := (5 : Int32)) d1_14 rfl rfl ?_
  refine own_icmpN C (pc' := 18) d1_15 (XT.ii_ge_f (by decide)) rfl ?_
  refine own_aloadN C (pc' := 19) (v := (.ref h0.size)) d1_18 rfl rfl rfl ?_
  refine own_iload C (pc' := 21) (v := (4 : Int32)) d1_19 rfl rfl ?_
  refine own_aaload C (pc' := 22) (v := (.ref (A 5))) V_h0_size rfl ⟨by decide, by decide⟩ rfl d1_21 rfl ?_
  refine own_astore C (pc' := 24) (Ls' := #[.val (.int p0), .val .null, .val (.ref h0.size), .val (.int (5 : Int32)), .val (.int (4 : Int32)), .val (.ref (A 5))]) d1_22 rfl rfl rfl ?_
  refine own_aload C (pc' := 26) (v := (.ref (A 5))) d1_24 rfl rfl rfl ?_
  refine own_getF C (pc' := 29) (host := "") (Or.inl (own_w24 hw)) (Fld.ext O.2 (own_p17 B)) d1_26 rfl ?_
  refine own_iloadN C (pc' := 30) (v := p0) d1_29 rfl rfl ?_
  refine own_icmpY C (pc' := 36) d1_30 (XT.ii_ne_t (fun q => hq4 q.symm)) (by decide) (by decide) ?_
  refine own_iinc C (pc' := 39) (x := (4 : Int32)) (z := (5 : Int32)) (Ls' := #[.val (.int p0), .val .null, .val (.ref h0.size), .val (.int (5 : Int32)), .val (.int (5 : Int32)), .val (.ref (A 5))]) d1_36 rfl (by decide) rfl rfl ?_
  refine own_goto C (pc' := 12) d1_39 (by decide) (by decide) ?_
  refine own_iload C (pc' := 14) (v := (5 : Int32)) d1_12 rfl rfl ?_
  refine own_iloadN C (pc' := 15) (v := (5 : Int32)) d1_14 rfl rfl ?_
  refine own_icmpY C (pc' := 42) d1_15 (XT.ii_ge_t (by decide)) (by decide) (by decide) ?_
  refine own_aloadN C (pc' := 43) (v := .null) d1_42 rfl rfl rfl ?_
  exact own_ret C d1_43 rfl (Or.inr (Or.inr (Or.inr (Or.inr ⟨rfl, rfl, rfl⟩)))) rfl N (X) (by decide) (by decide)
set_option maxRecDepth 65536 in
set_option maxHeartbeats 40000000 in
theorem own_c12 (l : Launch) (Z : State) (a0 : Array Value) (hw : ∀ d ∈ tables_1, d.before a0 Z = true) (A : Nat → Addr) (B : own_P Z A) (h0 : Heap) (n0 : Nat) (O : Old Z n0 h0) (p0 : Int32) (hq0 : ¬ (p0 = (67 : Int32))) (hq1 : ¬ (p0 = (73 : Int32))) (hq2 : ¬ (p0 = (80 : Int32))) (hq3 : ¬ (p0 = (83 : Int32))) (hq4 : ¬ (p0 = (69 : Int32))) : own_Met l Z (⟨"com/example/wide_query/widequery/QuerySymbolOfLetterPinLaw", "expected", "(I)Lcom/example/wide_query/widequery/QuerySymbol;"⟩ : MethodName) method_2_code 1 (some (FieldType.object "com/example/wide_query/widequery/QuerySymbol")) [] ({ frames := 0, cells := 0, slots := 0, locals := 0 } : Room) 0 0 #[(.int p0)] h0 (own_Q (some .null) n0 fun h => h = h0) := by
  refine own_enter own_pn1 (fun m => own_ef2 m p0) ?_
  intro p e s m below meth c C
  have N := Fr.nil n0
  refine own_iloadN C (pc' := 1) (v := p0) d3_0 rfl rfl ?_
  refine own_bipush C (pc' := 3) (v := (67 : Int32)) d3_1 rfl rfl ?_
  refine own_icmpY C (pc' := 10) d3_3 (XT.ii_ne_t hq0) (by decide) (by decide) ?_
  refine own_iloadN C (pc' := 11) (v := p0) d3_10 rfl rfl ?_
  refine own_bipush C (pc' := 13) (v := (73 : Int32)) d3_11 rfl rfl ?_
  refine own_icmpY C (pc' := 20) d3_13 (XT.ii_ne_t hq1) (by decide) (by decide) ?_
  refine own_iloadN C (pc' := 21) (v := p0) d3_20 rfl rfl ?_
  refine own_bipush C (pc' := 23) (v := (80 : Int32)) d3_21 rfl rfl ?_
  refine own_icmpY C (pc' := 30) d3_23 (XT.ii_ne_t hq2) (by decide) (by decide) ?_
  refine own_iloadN C (pc' := 31) (v := p0) d3_30 rfl rfl ?_
  refine own_bipush C (pc' := 33) (v := (83 : Int32)) d3_31 rfl rfl ?_
  refine own_icmpY C (pc' := 40) d3_33 (XT.ii_ne_t hq3) (by decide) (by decide) ?_
  refine own_iloadN C (pc' := 41) (v := p0) d3_40 rfl rfl ?_
  refine own_bipush C (pc' := 43) (v := (69 : Int32)) d3_41 rfl rfl ?_
  refine own_icmpY C (pc' := 50) d3_43 (XT.ii_ne_t hq4) (by decide) (by decide) ?_
  refine own_aconst C (pc' := 51) d3_50 rfl ?_
  exact own_ret C d3_51 rfl (Or.inr (Or.inr (Or.inr (Or.inr ⟨rfl, rfl, rfl⟩)))) rfl N (rfl) (by decide) (by decide)
set_option maxRecDepth 65536 in
set_option maxHeartbeats 400000000 in
theorem own_law (l : Launch) (Z : State) (a0 : Array Value) (hw : ∀ d ∈ tables_1, d.before a0 Z = true) (A : Nat → Addr) (B : own_P Z A) (h0 : Heap) (n0 : Nat) (O : Old Z n0 h0) (p0 : Int32) (p1 : Int32) : own_Met l Z x code maxLocals ret tables_1 room_1 16 128 #[(.int p0), (.int p1)] h0 (own_Q (some (.int (1 : Int32))) n0 fun _ => True) := by
  refine own_enter (y := x) own_pn1 (fun m => own_ef3 m p0 p1) ?_
  intro p e s m below meth c C
  have N := Fr.nil n0
  replace C : own_Cx p s m meth c Z "com/example/wide_query/widequery/QuerySymbolOfLetterPinLaw" code 3 (some FieldType.boolean) "law" := C
  refine own_iloadN C (pc' := 1) (v := p1) at_0 rfl rfl ?_
  refine own_iconst C (pc' := 2) (v := (1 : Int32)) at_1 rfl rfl ?_
  refine own_iand C (pc' := 3) (z := (p1 &&& (1 : Int32))) at_2 rfl rfl ?_
  by_cases qs1 : (p1 &&& (1 : Int32)) = (0 : Int32)
  · refine own_ifY C (pc' := 11) at_3 (XT.i0_eq_t qs1) (by decide) (by decide) ?_
    refine own_iloadN C (pc' := 12) (v := p0) at_11 rfl rfl ?_
    refine own_bipush C (pc' := 14) (v := (127 : Int32)) at_12 rfl rfl ?_
    refine own_iand C (pc' := 15) (z := (p0 &&& (127 : Int32))) at_14 rfl rfl ?_
    refine own_istoreN C (pc' := 16) (Ls' := #[.val (.int p0), .val (.int p1), .val (.int (p0 &&& (127 : Int32)))]) at_15 rfl rfl ?_
    refine own_iloadN C (pc' := 17) (v := (p0 &&& (127 : Int32))) at_16 rfl rfl ?_
    by_cases qs2 : (p0 &&& (127 : Int32)) = (67 : Int32)
    · refine own_callS C (pc' := 20) (W := 0) (argsL := [(.int (p0 &&& (127 : Int32)))]) (rest := []) (st' := [(.ref (A 1))]) (cells' := 1) (slots' := 5) (own_w0 hw) (own_w1 hw) (own_w2 hw) (own_w3 hw) (by decide) (own_c1 l Z a0 hw A B h0 n0 O (p0 &&& (127 : Int32)) qs2) (by decide) (by decide) (lenOf own_pd1 rfl) rfl (Nat.le_of_eq rfl) rfl at_17 rfl (by decide) (by decide) rfl rfl rfl N ?_
      intro h3 locs hD N
      have Eh3 := hD
      have O := O.ext Eh3
      refine own_iloadN C (pc' := 21) (v := (p0 &&& (127 : Int32))) at_20 rfl rfl ?_
      refine own_callS C (pc' := 24) (W := 1) (argsL := [(.int (p0 &&& (127 : Int32)))]) (rest := [(.ref (A 1))]) (st' := [(.ref (A 1)), (.ref (A 1))]) (cells' := 1) (slots' := 5) (own_w26 hw) (own_w27 hw) (own_w28 hw) (own_w29 hw) (by decide) (own_c2 l Z a0 hw A B h3 n0 O (p0 &&& (127 : Int32)) qs2) (by decide) (by decide) (lenOf own_pd1 rfl) rfl (Nat.le_of_eq rfl) rfl at_21 rfl (by decide) (by decide) rfl rfl rfl N (own_pure fun locs N => ?_)
      refine own_acmp C (pc' := 27) (same := true) at_24 rfl rfl (decide_eq_true rfl) (by decide) (by decide) ?_
      refine own_iconst C (pc' := 28) (v := (1 : Int32)) at_27 rfl rfl ?_
      refine own_goto C (pc' := 32) at_28 (by decide) (by decide) ?_
      exact own_ret C at_32 rfl (Or.inl ⟨rfl, Or.inr (Or.inl rfl), _, rfl⟩) rfl N (trivial) (by decide) (by decide)
    · by_cases qs3 : (p0 &&& (127 : Int32)) = (73 : Int32)
      · refine own_callS C (pc' := 20) (W := 0) (argsL := [(.int (p0 &&& (127 : Int32)))]) (rest := []) (st' := [(.ref (A 2))]) (cells' := 1) (slots' := 5) (own_w0 hw) (own_w1 hw) (own_w2 hw) (own_w3 hw) (by decide) (own_c3 l Z a0 hw A B h0 n0 O (p0 &&& (127 : Int32)) qs2 qs3) (by decide) (by decide) (lenOf own_pd1 rfl) rfl (Nat.le_of_eq rfl) rfl at_17 rfl (by decide) (by decide) rfl rfl rfl N ?_
        intro h4 locs hD N
        have Eh4 := hD
        have O := O.ext Eh4
        refine own_iloadN C (pc' := 21) (v := (p0 &&& (127 : Int32))) at_20 rfl rfl ?_
        refine own_callS C (pc' := 24) (W := 1) (argsL := [(.int (p0 &&& (127 : Int32)))]) (rest := [(.ref (A 2))]) (st' := [(.ref (A 2)), (.ref (A 2))]) (cells' := 1) (slots' := 5) (own_w26 hw) (own_w27 hw) (own_w28 hw) (own_w29 hw) (by decide) (own_c4 l Z a0 hw A B h4 n0 O (p0 &&& (127 : Int32)) qs2 qs3) (by decide) (by decide) (lenOf own_pd1 rfl) rfl (Nat.le_of_eq rfl) rfl at_21 rfl (by decide) (by decide) rfl rfl rfl N (own_pure fun locs N => ?_)
        refine own_acmp C (pc' := 27) (same := true) at_24 rfl rfl (decide_eq_true rfl) (by decide) (by decide) ?_
        refine own_iconst C (pc' := 28) (v := (1 : Int32)) at_27 rfl rfl ?_
        refine own_goto C (pc' := 32) at_28 (by decide) (by decide) ?_
        exact own_ret C at_32 rfl (Or.inl ⟨rfl, Or.inr (Or.inl rfl), _, rfl⟩) rfl N (trivial) (by decide) (by decide)
      · by_cases qs4 : (p0 &&& (127 : Int32)) = (80 : Int32)
        · refine own_callS C (pc' := 20) (W := 0) (argsL := [(.int (p0 &&& (127 : Int32)))]) (rest := []) (st' := [(.ref (A 3))]) (cells' := 1) (slots' := 5) (own_w0 hw) (own_w1 hw) (own_w2 hw) (own_w3 hw) (by decide) (own_c5 l Z a0 hw A B h0 n0 O (p0 &&& (127 : Int32)) qs2 qs3 qs4) (by decide) (by decide) (lenOf own_pd1 rfl) rfl (Nat.le_of_eq rfl) rfl at_17 rfl (by decide) (by decide) rfl rfl rfl N ?_
          intro h5 locs hD N
          have Eh5 := hD
          have O := O.ext Eh5
          refine own_iloadN C (pc' := 21) (v := (p0 &&& (127 : Int32))) at_20 rfl rfl ?_
          refine own_callS C (pc' := 24) (W := 1) (argsL := [(.int (p0 &&& (127 : Int32)))]) (rest := [(.ref (A 3))]) (st' := [(.ref (A 3)), (.ref (A 3))]) (cells' := 1) (slots' := 5) (own_w26 hw) (own_w27 hw) (own_w28 hw) (own_w29 hw) (by decide) (own_c6 l Z a0 hw A B h5 n0 O (p0 &&& (127 : Int32)) qs2 qs3 qs4) (by decide) (by decide) (lenOf own_pd1 rfl) rfl (Nat.le_of_eq rfl) rfl at_21 rfl (by decide) (by decide) rfl rfl rfl N (own_pure fun locs N => ?_)
          refine own_acmp C (pc' := 27) (same := true) at_24 rfl rfl (decide_eq_true rfl) (by decide) (by decide) ?_
          refine own_iconst C (pc' := 28) (v := (1 : Int32)) at_27 rfl rfl ?_
          refine own_goto C (pc' := 32) at_28 (by decide) (by decide) ?_
          exact own_ret C at_32 rfl (Or.inl ⟨rfl, Or.inr (Or.inl rfl), _, rfl⟩) rfl N (trivial) (by decide) (by decide)
        · by_cases qs5 : (p0 &&& (127 : Int32)) = (83 : Int32)
          · refine own_callS C (pc' := 20) (W := 0) (argsL := [(.int (p0 &&& (127 : Int32)))]) (rest := []) (st' := [(.ref (A 4))]) (cells' := 1) (slots' := 5) (own_w0 hw) (own_w1 hw) (own_w2 hw) (own_w3 hw) (by decide) (own_c7 l Z a0 hw A B h0 n0 O (p0 &&& (127 : Int32)) qs2 qs3 qs4 qs5) (by decide) (by decide) (lenOf own_pd1 rfl) rfl (Nat.le_of_eq rfl) rfl at_17 rfl (by decide) (by decide) rfl rfl rfl N ?_
            intro h6 locs hD N
            have Eh6 := hD
            have O := O.ext Eh6
            refine own_iloadN C (pc' := 21) (v := (p0 &&& (127 : Int32))) at_20 rfl rfl ?_
            refine own_callS C (pc' := 24) (W := 1) (argsL := [(.int (p0 &&& (127 : Int32)))]) (rest := [(.ref (A 4))]) (st' := [(.ref (A 4)), (.ref (A 4))]) (cells' := 1) (slots' := 5) (own_w26 hw) (own_w27 hw) (own_w28 hw) (own_w29 hw) (by decide) (own_c8 l Z a0 hw A B h6 n0 O (p0 &&& (127 : Int32)) qs2 qs3 qs4 qs5) (by decide) (by decide) (lenOf own_pd1 rfl) rfl (Nat.le_of_eq rfl) rfl at_21 rfl (by decide) (by decide) rfl rfl rfl N (own_pure fun locs N => ?_)
            refine own_acmp C (pc' := 27) (same := true) at_24 rfl rfl (decide_eq_true rfl) (by decide) (by decide) ?_
            refine own_iconst C (pc' := 28) (v := (1 : Int32)) at_27 rfl rfl ?_
            refine own_goto C (pc' := 32) at_28 (by decide) (by decide) ?_
            exact own_ret C at_32 rfl (Or.inl ⟨rfl, Or.inr (Or.inl rfl), _, rfl⟩) rfl N (trivial) (by decide) (by decide)
          · by_cases qs6 : (p0 &&& (127 : Int32)) = (69 : Int32)
            · refine own_callS C (pc' := 20) (W := 0) (argsL := [(.int (p0 &&& (127 : Int32)))]) (rest := []) (st' := [(.ref (A 5))]) (cells' := 1) (slots' := 5) (own_w0 hw) (own_w1 hw) (own_w2 hw) (own_w3 hw) (by decide) (own_c9 l Z a0 hw A B h0 n0 O (p0 &&& (127 : Int32)) qs2 qs3 qs4 qs5 qs6) (by decide) (by decide) (lenOf own_pd1 rfl) rfl (Nat.le_of_eq rfl) rfl at_17 rfl (by decide) (by decide) rfl rfl rfl N ?_
              intro h7 locs hD N
              have Eh7 := hD
              have O := O.ext Eh7
              refine own_iloadN C (pc' := 21) (v := (p0 &&& (127 : Int32))) at_20 rfl rfl ?_
              refine own_callS C (pc' := 24) (W := 1) (argsL := [(.int (p0 &&& (127 : Int32)))]) (rest := [(.ref (A 5))]) (st' := [(.ref (A 5)), (.ref (A 5))]) (cells' := 1) (slots' := 5) (own_w26 hw) (own_w27 hw) (own_w28 hw) (own_w29 hw) (by decide) (own_c10 l Z a0 hw A B h7 n0 O (p0 &&& (127 : Int32)) qs2 qs3 qs4 qs5 qs6) (by decide) (by decide) (lenOf own_pd1 rfl) rfl (Nat.le_of_eq rfl) rfl at_21 rfl (by decide) (by decide) rfl rfl rfl N (own_pure fun locs N => ?_)
              refine own_acmp C (pc' := 27) (same := true) at_24 rfl rfl (decide_eq_true rfl) (by decide) (by decide) ?_
              refine own_iconst C (pc' := 28) (v := (1 : Int32)) at_27 rfl rfl ?_
              refine own_goto C (pc' := 32) at_28 (by decide) (by decide) ?_
              exact own_ret C at_32 rfl (Or.inl ⟨rfl, Or.inr (Or.inl rfl), _, rfl⟩) rfl N (trivial) (by decide) (by decide)
            · refine own_callS C (pc' := 20) (W := 0) (argsL := [(.int (p0 &&& (127 : Int32)))]) (rest := []) (st' := [.null]) (cells' := 1) (slots' := 5) (own_w0 hw) (own_w1 hw) (own_w2 hw) (own_w3 hw) (by decide) (own_c11 l Z a0 hw A B h0 n0 O (p0 &&& (127 : Int32)) qs2 qs3 qs4 qs5 qs6) (by decide) (by decide) (lenOf own_pd1 rfl) rfl (Nat.le_of_eq rfl) rfl at_17 rfl (by decide) (by decide) rfl rfl rfl N ?_
              intro h7 locs hD N
              have Eh7 := hD
              have O := O.ext Eh7
              refine own_iloadN C (pc' := 21) (v := (p0 &&& (127 : Int32))) at_20 rfl rfl ?_
              refine own_callS C (pc' := 24) (W := 1) (argsL := [(.int (p0 &&& (127 : Int32)))]) (rest := [.null]) (st' := [.null, .null]) (cells' := 1) (slots' := 5) (own_w26 hw) (own_w27 hw) (own_w28 hw) (own_w29 hw) (by decide) (own_c12 l Z a0 hw A B h7 n0 O (p0 &&& (127 : Int32)) qs2 qs3 qs4 qs5 qs6) (by decide) (by decide) (lenOf own_pd1 rfl) rfl (Nat.le_of_eq rfl) rfl at_21 rfl (by decide) (by decide) rfl rfl rfl N (own_pure fun locs N => ?_)
              refine own_acmp C (pc' := 27) (same := true) at_24 rfl rfl (decide_eq_true rfl) (by decide) (by decide) ?_
              refine own_iconst C (pc' := 28) (v := (1 : Int32)) at_27 rfl rfl ?_
              refine own_goto C (pc' := 32) at_28 (by decide) (by decide) ?_
              exact own_ret C at_32 rfl (Or.inl ⟨rfl, Or.inr (Or.inl rfl), _, rfl⟩) rfl N (trivial) (by decide) (by decide)
  · refine own_ifN C (pc' := 6) at_3 (XT.i0_eq_f qs1) rfl ?_
    refine own_iloadN C (pc' := 7) (v := p0) at_6 rfl rfl ?_
    refine own_istoreN C (pc' := 8) (Ls' := #[.val (.int p0), .val (.int p1), .val (.int p0)]) at_7 rfl rfl ?_
    refine own_goto C (pc' := 16) at_8 (by decide) (by decide) ?_
    refine own_iloadN C (pc' := 17) (v := p0) at_16 rfl rfl ?_
    by_cases qs2 : p0 = (67 : Int32)
    · refine own_callS C (pc' := 20) (W := 0) (argsL := [(.int p0)]) (rest := []) (st' := [(.ref (A 1))]) (cells' := 1) (slots' := 5) (own_w0 hw) (own_w1 hw) (own_w2 hw) (own_w3 hw) (by decide) (own_c1 l Z a0 hw A B h0 n0 O p0 qs2) (by decide) (by decide) (lenOf own_pd1 rfl) rfl (Nat.le_of_eq rfl) rfl at_17 rfl (by decide) (by decide) rfl rfl rfl N ?_
      intro h3 locs hD N
      have Eh3 := hD
      have O := O.ext Eh3
      refine own_iloadN C (pc' := 21) (v := p0) at_20 rfl rfl ?_
      refine own_callS C (pc' := 24) (W := 1) (argsL := [(.int p0)]) (rest := [(.ref (A 1))]) (st' := [(.ref (A 1)), (.ref (A 1))]) (cells' := 1) (slots' := 5) (own_w26 hw) (own_w27 hw) (own_w28 hw) (own_w29 hw) (by decide) (own_c2 l Z a0 hw A B h3 n0 O p0 qs2) (by decide) (by decide) (lenOf own_pd1 rfl) rfl (Nat.le_of_eq rfl) rfl at_21 rfl (by decide) (by decide) rfl rfl rfl N (own_pure fun locs N => ?_)
      refine own_acmp C (pc' := 27) (same := true) at_24 rfl rfl (decide_eq_true rfl) (by decide) (by decide) ?_
      refine own_iconst C (pc' := 28) (v := (1 : Int32)) at_27 rfl rfl ?_
      refine own_goto C (pc' := 32) at_28 (by decide) (by decide) ?_
      exact own_ret C at_32 rfl (Or.inl ⟨rfl, Or.inr (Or.inl rfl), _, rfl⟩) rfl N (trivial) (by decide) (by decide)
    · by_cases qs3 : p0 = (73 : Int32)
      · refine own_callS C (pc' := 20) (W := 0) (argsL := [(.int p0)]) (rest := []) (st' := [(.ref (A 2))]) (cells' := 1) (slots' := 5) (own_w0 hw) (own_w1 hw) (own_w2 hw) (own_w3 hw) (by decide) (own_c3 l Z a0 hw A B h0 n0 O p0 qs2 qs3) (by decide) (by decide) (lenOf own_pd1 rfl) rfl (Nat.le_of_eq rfl) rfl at_17 rfl (by decide) (by decide) rfl rfl rfl N ?_
        intro h4 locs hD N
        have Eh4 := hD
        have O := O.ext Eh4
        refine own_iloadN C (pc' := 21) (v := p0) at_20 rfl rfl ?_
        refine own_callS C (pc' := 24) (W := 1) (argsL := [(.int p0)]) (rest := [(.ref (A 2))]) (st' := [(.ref (A 2)), (.ref (A 2))]) (cells' := 1) (slots' := 5) (own_w26 hw) (own_w27 hw) (own_w28 hw) (own_w29 hw) (by decide) (own_c4 l Z a0 hw A B h4 n0 O p0 qs2 qs3) (by decide) (by decide) (lenOf own_pd1 rfl) rfl (Nat.le_of_eq rfl) rfl at_21 rfl (by decide) (by decide) rfl rfl rfl N (own_pure fun locs N => ?_)
        refine own_acmp C (pc' := 27) (same := true) at_24 rfl rfl (decide_eq_true rfl) (by decide) (by decide) ?_
        refine own_iconst C (pc' := 28) (v := (1 : Int32)) at_27 rfl rfl ?_
        refine own_goto C (pc' := 32) at_28 (by decide) (by decide) ?_
        exact own_ret C at_32 rfl (Or.inl ⟨rfl, Or.inr (Or.inl rfl), _, rfl⟩) rfl N (trivial) (by decide) (by decide)
      · by_cases qs4 : p0 = (80 : Int32)
        · refine own_callS C (pc' := 20) (W := 0) (argsL := [(.int p0)]) (rest := []) (st' := [(.ref (A 3))]) (cells' := 1) (slots' := 5) (own_w0 hw) (own_w1 hw) (own_w2 hw) (own_w3 hw) (by decide) (own_c5 l Z a0 hw A B h0 n0 O p0 qs2 qs3 qs4) (by decide) (by decide) (lenOf own_pd1 rfl) rfl (Nat.le_of_eq rfl) rfl at_17 rfl (by decide) (by decide) rfl rfl rfl N ?_
          intro h5 locs hD N
          have Eh5 := hD
          have O := O.ext Eh5
          refine own_iloadN C (pc' := 21) (v := p0) at_20 rfl rfl ?_
          refine own_callS C (pc' := 24) (W := 1) (argsL := [(.int p0)]) (rest := [(.ref (A 3))]) (st' := [(.ref (A 3)), (.ref (A 3))]) (cells' := 1) (slots' := 5) (own_w26 hw) (own_w27 hw) (own_w28 hw) (own_w29 hw) (by decide) (own_c6 l Z a0 hw A B h5 n0 O p0 qs2 qs3 qs4) (by decide) (by decide) (lenOf own_pd1 rfl) rfl (Nat.le_of_eq rfl) rfl at_21 rfl (by decide) (by decide) rfl rfl rfl N (own_pure fun locs N => ?_)
          refine own_acmp C (pc' := 27) (same := true) at_24 rfl rfl (decide_eq_true rfl) (by decide) (by decide) ?_
          refine own_iconst C (pc' := 28) (v := (1 : Int32)) at_27 rfl rfl ?_
          refine own_goto C (pc' := 32) at_28 (by decide) (by decide) ?_
          exact own_ret C at_32 rfl (Or.inl ⟨rfl, Or.inr (Or.inl rfl), _, rfl⟩) rfl N (trivial) (by decide) (by decide)
        · by_cases qs5 : p0 = (83 : Int32)
          · refine own_callS C (pc' := 20) (W := 0) (argsL := [(.int p0)]) (rest := []) (st' := [(.ref (A 4))]) (cells' := 1) (slots' := 5) (own_w0 hw) (own_w1 hw) (own_w2 hw) (own_w3 hw) (by decide) (own_c7 l Z a0 hw A B h0 n0 O p0 qs2 qs3 qs4 qs5) (by decide) (by decide) (lenOf own_pd1 rfl) rfl (Nat.le_of_eq rfl) rfl at_17 rfl (by decide) (by decide) rfl rfl rfl N ?_
            intro h6 locs hD N
            have Eh6 := hD
            have O := O.ext Eh6
            refine own_iloadN C (pc' := 21) (v := p0) at_20 rfl rfl ?_
            refine own_callS C (pc' := 24) (W := 1) (argsL := [(.int p0)]) (rest := [(.ref (A 4))]) (st' := [(.ref (A 4)), (.ref (A 4))]) (cells' := 1) (slots' := 5) (own_w26 hw) (own_w27 hw) (own_w28 hw) (own_w29 hw) (by decide) (own_c8 l Z a0 hw A B h6 n0 O p0 qs2 qs3 qs4 qs5) (by decide) (by decide) (lenOf own_pd1 rfl) rfl (Nat.le_of_eq rfl) rfl at_21 rfl (by decide) (by decide) rfl rfl rfl N (own_pure fun locs N => ?_)
            refine own_acmp C (pc' := 27) (same := true) at_24 rfl rfl (decide_eq_true rfl) (by decide) (by decide) ?_
            refine own_iconst C (pc' := 28) (v := (1 : Int32)) at_27 rfl rfl ?_
            refine own_goto C (pc' := 32) at_28 (by decide) (by decide) ?_
            exact own_ret C at_32 rfl (Or.inl ⟨rfl, Or.inr (Or.inl rfl), _, rfl⟩) rfl N (trivial) (by decide) (by decide)
          · by_cases qs6 : p0 = (69 : Int32)
            · refine own_callS C (pc' := 20) (W := 0) (argsL := [(.int p0)]) (rest := []) (st' := [(.ref (A 5))]) (cells' := 1) (slots' := 5) (own_w0 hw) (own_w1 hw) (own_w2 hw) (own_w3 hw) (by decide) (own_c9 l Z a0 hw A B h0 n0 O p0 qs2 qs3 qs4 qs5 qs6) (by decide) (by decide) (lenOf own_pd1 rfl) rfl (Nat.le_of_eq rfl) rfl at_17 rfl (by decide) (by decide) rfl rfl rfl N ?_
              intro h7 locs hD N
              have Eh7 := hD
              have O := O.ext Eh7
              refine own_iloadN C (pc' := 21) (v := p0) at_20 rfl rfl ?_
              refine own_callS C (pc' := 24) (W := 1) (argsL := [(.int p0)]) (rest := [(.ref (A 5))]) (st' := [(.ref (A 5)), (.ref (A 5))]) (cells' := 1) (slots' := 5) (own_w26 hw) (own_w27 hw) (own_w28 hw) (own_w29 hw) (by decide) (own_c10 l Z a0 hw A B h7 n0 O p0 qs2 qs3 qs4 qs5 qs6) (by decide) (by decide) (lenOf own_pd1 rfl) rfl (Nat.le_of_eq rfl) rfl at_21 rfl (by decide) (by decide) rfl rfl rfl N (own_pure fun locs N => ?_)
              refine own_acmp C (pc' := 27) (same := true) at_24 rfl rfl (decide_eq_true rfl) (by decide) (by decide) ?_
              refine own_iconst C (pc' := 28) (v := (1 : Int32)) at_27 rfl rfl ?_
              refine own_goto C (pc' := 32) at_28 (by decide) (by decide) ?_
              exact own_ret C at_32 rfl (Or.inl ⟨rfl, Or.inr (Or.inl rfl), _, rfl⟩) rfl N (trivial) (by decide) (by decide)
            · refine own_callS C (pc' := 20) (W := 0) (argsL := [(.int p0)]) (rest := []) (st' := [.null]) (cells' := 1) (slots' := 5) (own_w0 hw) (own_w1 hw) (own_w2 hw) (own_w3 hw) (by decide) (own_c11 l Z a0 hw A B h0 n0 O p0 qs2 qs3 qs4 qs5 qs6) (by decide) (by decide) (lenOf own_pd1 rfl) rfl (Nat.le_of_eq rfl) rfl at_17 rfl (by decide) (by decide) rfl rfl rfl N ?_
              intro h7 locs hD N
              have Eh7 := hD
              have O := O.ext Eh7
              refine own_iloadN C (pc' := 21) (v := p0) at_20 rfl rfl ?_
              refine own_callS C (pc' := 24) (W := 1) (argsL := [(.int p0)]) (rest := [.null]) (st' := [.null, .null]) (cells' := 1) (slots' := 5) (own_w26 hw) (own_w27 hw) (own_w28 hw) (own_w29 hw) (by decide) (own_c12 l Z a0 hw A B h7 n0 O p0 qs2 qs3 qs4 qs5 qs6) (by decide) (by decide) (lenOf own_pd1 rfl) rfl (Nat.le_of_eq rfl) rfl at_21 rfl (by decide) (by decide) rfl rfl rfl N (own_pure fun locs N => ?_)
              refine own_acmp C (pc' := 27) (same := true) at_24 rfl rfl (decide_eq_true rfl) (by decide) (by decide) ?_
              refine own_iconst C (pc' := 28) (v := (1 : Int32)) at_27 rfl rfl ?_
              refine own_goto C (pc' := 32) at_28 (by decide) (by decide) ?_
              exact own_ret C at_32 rfl (Or.inl ⟨rfl, Or.inr (Or.inl rfl), _, rfl⟩) rfl N (trivial) (by decide) (by decide)
set_option maxRecDepth 65536 in
set_option maxHeartbeats 40000000 in
theorem comes_1 {Post : Tables → Env → Array Value → State → Outcome → State → Prop} (hpost : ∀ tb e args s v u, (limb_1_1.after args s (.returned v) u = true ∧ limb_1_2.after args s (.returned v) u = true ∧ True) → FrameEnd s (.returned v) u (Jvm.fieldLocs frame_1_writes args s ++ Jvm.arrayLocs frame_1_arrays args s ++ Jvm.staticLocs frame_1_statics s) 16 128 → Post tb e args s (.returned v) u) :
    ArmFor flags0 classFile x code maxLocals ret World_1 tables_1 room_1 Calls_1 rest_1 Pre_1 Post := by
  intro l hfl _ _ p e ha hc hk s m args below hf hA hF happ hP
  obtain ⟨hcalls, hrest, hpre⟩ := hP
  obtain ⟨-, -, -, hnamed, -, -, -, hat⟩ := (Spec.applies_iff hf).mp happ
  obtain ⟨hg, hn⟩ := and_e (Cond.before_iff.mp (show (Jvm.Cond.and given_1 narrow_1).before args s = true from hpre))
  obtain ⟨h1, h2⟩ := and_e hg
  obtain ⟨hg0, h2⟩ := and_e h2
  have hg1 := h2
  obtain ⟨w0, w1, rfl⟩ : ∃ w0 w1 : Value, args = #[w0, w1] := by
    have hs : args.size = 2 := by simpa [Cond.value, given_1] using h1
    obtain ⟨L⟩ := args
    match L, hs with
    | [w0, w1], _ => exact ⟨w0, w1, rfl⟩
  have hw := fun d (hd : d ∈ tables_1) => atoms_spec (ws := Jvm.Cond.code x code maxLocals ret :: tables_1) hat d (List.mem_cons_of_mem _ hd)
  have hfit : Fit s := fun {y c} hc i hi => by
    obtain ⟨ha, rfl⟩ := Array.getElem?_eq_some_iff.mp hc
    have q := List.all_eq_true.mp ((Array.all_eq_true_iff_forall_mem.mp hF) _ (Array.getElem_mem ha)) i (List.mem_range.mpr hi)
    simpa [Array.getElem?_eq_getElem hi] using q
  obtain ⟨A, B⟩ := own_start hw hfit hn
  obtain ⟨i0, e0⟩ := is_v hg0
  obtain rfl : w0 = (.int i0) := Option.some.inj e0
  obtain ⟨i1, e1⟩ := is_v hg1
  obtain rfl : w1 = (.int i1) := Option.some.inj e1
  have M := own_law l s _ hw A B s.heap s.heap.size (Old.start s) i0 i1
  obtain ⟨n, o, h1, h2, h3, _, L, rfl, ⟨rfl, N, -⟩, hq⟩ := M p e ha hc hk s m _ below hf ((Spec.applies_iff_loose hf).mp happ).1 ⟨rfl, State.Warmed39.refl s, rfl⟩ trivial
  refine ⟨n, _, h1, h2, h3, hpost _ _ _ _ _ _ ⟨Cond.after_iff.mpr rfl, Cond.after_iff.mpr (eq_i res_at (Term.int_eval (1)) rfl), trivial⟩ ⟨hq.1, hq.2.1, (hq.2.2.sift fun y hy => Or.inr (N y hy)).mono (by decide) (by decide)⟩⟩
theorem main_1_1 : Claimed_1_1 := comes_1 fun _ _ _ _ _ _ h hF => ⟨h.1, hF⟩
theorem main_1_2 : Claimed_1_2 := comes_1 fun _ _ _ _ _ _ h hF => ⟨h.2.1, hF⟩
end Jvm.Pilot.@@N@@
namespace Jvm.Pilot.@@N@@
open Jvm Jvm.ClassFile Sem Op Lib Jvm.Free Jvm.Stand Jvm.Pilot.@@N@@.Jvm.D
/-! MADE BY PROGRAM (witnessworld.py) out of the Statement's table words and the real class files: 13 classes; the members and pool entries that the words name. The judged class is class 1, her method 2. -/
namespace start1
open Jvm.ClassFile
def u (s : String) : CpInfo := .utf8 (stringToUtf16 s)
/-- a pool by its gaps: so many unusable entries, then the entry; so many at the end -/
def gap : Nat → List CpInfo → List CpInfo
  | 0, r => r
  | n + 1, r => .unusable :: gap n r
def poolList (es : List (Nat × CpInfo)) (last : Nat) : List CpInfo := es.foldr (fun e r => gap e.1 (e.2 :: r)) (gap last [])
def pool (es : List (Nat × CpInfo)) (last : Nat) : Array CpInfo := ⟨poolList es last⟩
def fileOf (pool : Array CpInfo) (this : Nat) (attrs : Array Attribute := #[]) (ms : Array MethodInfo := #[]) (fl : Nat := 33) (sup : Nat := 0) (ifs : Array Nat := #[]) (fds : Array FieldInfo := #[]) : ClassFile where
  minorVersion := 0
  majorVersion := 65
  constantPool := pool
  accessFlags := fl
  thisClass := this
  superClass := sup
  interfaces := ifs
  fields := fds
  methods := ms
  attributes := attrs
def plain (name : String) (sup : Option ClassId) : Class where
  name := name
  kind := .ordinary
  loader := none
  accessFlags := 33
  super := sup
  interfaces := #[]
  cf := none
  fields := #[]
  methods := #[]
  instanceTypes := #[]
  staticTypes := #[]
  resolved := #[]
  callSites := []
  init := .initialized
  statics := none
  mirror := none

def pool0 : Array CpInfo := pool [(5, u "<init>"), (0, u "()V"), (1, .class_ 10), (1, u "java/lang/Object"), (85, u "clone"), (0, u "()Ljava/lang/Object;")] 26

def k0m0 : Method := { name := "<init>", desc := "()V", sig := { parameters := [], returnType := none }, accessFlags := 1, code := none }
def k0m1 : Method := { name := "clone", desc := "()Ljava/lang/Object;", sig := { parameters := [], returnType := some (.object "java/lang/Object") }, accessFlags := 260, code := none }
/-- java/lang/Object -/
def k0 : Class := { plain "java/lang/Object" none with
  accessFlags := 33
  interfaces := #[]
  cf := some (fileOf pool0 8 #[] #[{ accessFlags := 1, nameIndex := 5, descriptorIndex := 6, attributes := #[] }, { accessFlags := 260, nameIndex := 96, descriptorIndex := 97, attributes := #[] }] 33 0 #[] #[])
  fields := #[]
  methods := #[k0m0, k0m1]
  instanceTypes := #[]
  staticTypes := #[]
  resolved := Array.replicate 124 none
  statics := none }

def pool1 : Array CpInfo := pool [(2, .class_ 4), (1, u "java/lang/Object"), (0, u "<init>"), (0, u "()V"), (0, .fieldref 8 9), (0, .class_ 10), (0, .nameAndType 11 12), (0, u "com/example/wide_query/widequery/QuerySymbol"), (0, u "CONCEPT"), (0, u "Lcom/example/wide_query/widequery/QuerySymbol;"), (0, .fieldref 8 14), (0, .nameAndType 15 12), (0, u "INSTANCE"), (0, .fieldref 8 17), (0, .nameAndType 18 12), (0, u "PROPERTY"), (0, .fieldref 8 20), (0, .nameAndType 21 12), (0, u "SIMILAR"), (0, .fieldref 8 23), (0, .nameAndType 24 12), (0, u "EXAMPLE"), (0, .methodref 8 26), (0, .nameAndType 27 28), (0, u "ofLetter"), (0, u "(I)Lcom/example/wide_query/widequery/QuerySymbol;"), (0, .methodref 30 31), (0, .class_ 32), (0, .nameAndType 33 28), (0, u "com/example/wide_query/widequery/QuerySymbolOfLetterPinLaw"), (0, u "expected"), (3, u "law"), (0, u "(II)Z")] 2

def k1m0 : Method := { name := "<init>", desc := "()V", sig := { parameters := [], returnType := none }, accessFlags := 2, code := none }
def k1c1 : Code := { maxStack := 2, maxLocals := 1, code := method_2_code, exceptionTable := #[], attributes := #[] }
def k1m1 : Method := { name := "expected", desc := "(I)Lcom/example/wide_query/widequery/QuerySymbol;", sig := { parameters := [.int], returnType := some (.object "com/example/wide_query/widequery/QuerySymbol") }, accessFlags := 10, code := some k1c1 }
def k1c2 : Code := { maxStack := 2, maxLocals := 3, code := code, exceptionTable := #[], attributes := #[] }
def k1m2 : Method := { name := "law", desc := "(II)Z", sig := { parameters := [.int, .int], returnType := some .boolean }, accessFlags := 9, code := some k1c2 }
/-- com/example/wide_query/widequery/QuerySymbolOfLetterPinLaw -/
def k1 : Class := { plain "com/example/wide_query/widequery/QuerySymbolOfLetterPinLaw" (some 0) with
  accessFlags := 49
  interfaces := #[]
  cf := some (fileOf pool1 30 #[] #[{ accessFlags := 2, nameIndex := 5, descriptorIndex := 6, attributes := #[] }, { accessFlags := 10, nameIndex := 33, descriptorIndex := 28, attributes := #[] }, { accessFlags := 9, nameIndex := 37, descriptorIndex := 38, attributes := #[] }] 49 2 #[] #[])
  fields := #[]
  methods := #[k1m0, k1m1, k1m2]
  instanceTypes := #[]
  staticTypes := #[]
  resolved := Array.replicate 41 none
  statics := none }

def pool2 : Array CpInfo := pool [(1, .class_ 2), (0, u "java/lang/constant/Constable"), (0, .class_ 4), (0, u "java/lang/Object")] 6

/-- java/lang/constant/Constable -/
def k2 : Class := { plain "java/lang/constant/Constable" (some 0) with
  accessFlags := 1537
  interfaces := #[]
  cf := some (fileOf pool2 1 #[] #[] 1537 3 #[] #[])
  fields := #[]
  methods := #[]
  instanceTypes := #[]
  staticTypes := #[]
  resolved := Array.replicate 11 none
  statics := none }

def pool3 : Array CpInfo := pool [(1, .class_ 2), (0, u "java/lang/Comparable"), (0, .class_ 4), (0, u "java/lang/Object")] 7

/-- java/lang/Comparable -/
def k3 : Class := { plain "java/lang/Comparable" (some 0) with
  accessFlags := 1537
  interfaces := #[]
  cf := some (fileOf pool3 1 #[] #[] 1537 3 #[] #[])
  fields := #[]
  methods := #[]
  instanceTypes := #[]
  staticTypes := #[]
  resolved := Array.replicate 12 none
  statics := none }

def pool4 : Array CpInfo := pool [(1, .class_ 2), (0, u "java/io/Serializable"), (0, .class_ 4), (0, u "java/lang/Object")] 2

/-- java/io/Serializable -/
def k4 : Class := { plain "java/io/Serializable" (some 0) with
  accessFlags := 1537
  interfaces := #[]
  cf := some (fileOf pool4 1 #[] #[] 1537 3 #[] #[])
  fields := #[]
  methods := #[]
  instanceTypes := #[]
  staticTypes := #[]
  resolved := Array.replicate 7 none
  statics := none }

def pool5 : Array CpInfo := pool [(2, .class_ 4), (1, u "java/lang/Enum"), (0, u "name"), (0, u "Ljava/lang/String;"), (2, u "ordinal"), (0, u "I"), (1, .class_ 14), (1, u "java/lang/Object"), (4, u "hash"), (86, .class_ 108), (1, u "java/lang/Enum$EnumDesc"), (2, .class_ 112), (0, u "java/lang/constant/Constable"), (0, .class_ 114), (0, u "java/lang/Comparable"), (0, .class_ 116), (0, u "java/io/Serializable")] 87

/-- java/lang/Enum -/
def k5 : Class := { plain "java/lang/Enum" (some 0) with
  accessFlags := 1057
  interfaces := #[2, 3, 4]
  cf := some (fileOf pool5 2 #[.nestMembers #[106]] #[] 1057 12 #[111, 113, 115] #[{ accessFlags := 18, nameIndex := 5, descriptorIndex := 6, attributes := #[] }, { accessFlags := 18, nameIndex := 9, descriptorIndex := 10, attributes := #[] }, { accessFlags := 2, nameIndex := 19, descriptorIndex := 10, attributes := #[] }])
  fields := #[{ name := "name", type := (.object "java/lang/String"), accessFlags := 18, slot := 0, constantValue := 0 }, { name := "ordinal", type := .int, accessFlags := 18, slot := 1, constantValue := 0 }, { name := "hash", type := .int, accessFlags := 2, slot := 2, constantValue := 0 }]
  methods := #[]
  instanceTypes := #[(.object "java/lang/String"), .int, .int]
  staticTypes := #[]
  resolved := Array.replicate 204 none
  statics := none }

def pool6 : Array CpInfo := pool [(1, .class_ 2), (0, u "com/example/wide_query/widequery/QuerySymbol"), (2, u "CONCEPT"), (0, u "Lcom/example/wide_query/widequery/QuerySymbol;"), (2, u "INSTANCE"), (2, u "PROPERTY"), (2, u "SIMILAR"), (2, u "EXAMPLE"), (0, .fieldref 1 20), (0, .nameAndType 21 22), (0, u "$VALUES"), (0, u "[Lcom/example/wide_query/widequery/QuerySymbol;"), (0, .methodref 24 25), (0, .class_ 22), (0, .nameAndType 26 27), (0, u "clone"), (0, u "()Ljava/lang/Object;"), (1, .class_ 31), (1, u "java/lang/Enum"), (6, .fieldref 1 39), (0, .nameAndType 40 41), (0, u "letter"), (0, u "C"), (2, u "before"), (0, u "Lcom/example/wide_query/widequery/QuerySymbol$Operands;"), (2, u "after"), (2, u "followsSymbol"), (0, u "Z"), (4, .methodref 1 58), (0, .nameAndType 59 60), (0, u "values"), (0, u "()[Lcom/example/wide_query/widequery/QuerySymbol;"), (2, .class_ 65), (1, u "com/example/wide_query/widequery/QuerySymbol$Operands"), (28, u "ofLetter"), (0, u "(I)Lcom/example/wide_query/widequery/QuerySymbol;")] 25

def k6c0 : Code := { maxStack := 1, maxLocals := 0, code := prog_27_method_1_code, exceptionTable := #[], attributes := #[] }
def k6m0 : Method := { name := "values", desc := "()[Lcom/example/wide_query/widequery/QuerySymbol;", sig := { parameters := [], returnType := some (.array (.object "com/example/wide_query/widequery/QuerySymbol")) }, accessFlags := 9, code := some k6c0 }
def k6c1 : Code := { maxStack := 2, maxLocals := 6, code := prog_27_method_5_code, exceptionTable := #[], attributes := #[] }
def k6m1 : Method := { name := "ofLetter", desc := "(I)Lcom/example/wide_query/widequery/QuerySymbol;", sig := { parameters := [.int], returnType := some (.object "com/example/wide_query/widequery/QuerySymbol") }, accessFlags := 8, code := some k6c1 }
/-- com/example/wide_query/widequery/QuerySymbol -/
def k6 : Class := { plain "com/example/wide_query/widequery/QuerySymbol" (some 5) with
  accessFlags := 16432
  interfaces := #[]
  cf := some (fileOf pool6 1 #[.nestMembers #[63]] #[{ accessFlags := 9, nameIndex := 59, descriptorIndex := 60, attributes := #[] }, { accessFlags := 8, nameIndex := 94, descriptorIndex := 95, attributes := #[] }] 16432 29 #[] #[{ accessFlags := 16409, nameIndex := 5, descriptorIndex := 6, attributes := #[] }, { accessFlags := 16409, nameIndex := 9, descriptorIndex := 6, attributes := #[] }, { accessFlags := 16409, nameIndex := 12, descriptorIndex := 6, attributes := #[] }, { accessFlags := 16409, nameIndex := 15, descriptorIndex := 6, attributes := #[] }, { accessFlags := 16409, nameIndex := 18, descriptorIndex := 6, attributes := #[] }, { accessFlags := 18, nameIndex := 40, descriptorIndex := 41, attributes := #[] }, { accessFlags := 18, nameIndex := 44, descriptorIndex := 45, attributes := #[] }, { accessFlags := 18, nameIndex := 48, descriptorIndex := 45, attributes := #[] }, { accessFlags := 18, nameIndex := 51, descriptorIndex := 52, attributes := #[] }, { accessFlags := 4122, nameIndex := 21, descriptorIndex := 22, attributes := #[] }])
  fields := #[{ name := "CONCEPT", type := (.object "com/example/wide_query/widequery/QuerySymbol"), accessFlags := 16409, slot := 0, constantValue := 0 }, { name := "INSTANCE", type := (.object "com/example/wide_query/widequery/QuerySymbol"), accessFlags := 16409, slot := 1, constantValue := 0 }, { name := "PROPERTY", type := (.object "com/example/wide_query/widequery/QuerySymbol"), accessFlags := 16409, slot := 2, constantValue := 0 }, { name := "SIMILAR", type := (.object "com/example/wide_query/widequery/QuerySymbol"), accessFlags := 16409, slot := 3, constantValue := 0 }, { name := "EXAMPLE", type := (.object "com/example/wide_query/widequery/QuerySymbol"), accessFlags := 16409, slot := 4, constantValue := 0 }, { name := "letter", type := .char, accessFlags := 18, slot := 3, constantValue := 0 }, { name := "before", type := (.object "com/example/wide_query/widequery/QuerySymbol$Operands"), accessFlags := 18, slot := 4, constantValue := 0 }, { name := "after", type := (.object "com/example/wide_query/widequery/QuerySymbol$Operands"), accessFlags := 18, slot := 5, constantValue := 0 }, { name := "followsSymbol", type := .boolean, accessFlags := 18, slot := 6, constantValue := 0 }, { name := "$VALUES", type := (.array (.object "com/example/wide_query/widequery/QuerySymbol")), accessFlags := 4122, slot := 5, constantValue := 0 }]
  methods := #[k6m0, k6m1]
  instanceTypes := #[(.object "java/lang/String"), .int, .int, .char, (.object "com/example/wide_query/widequery/QuerySymbol$Operands"), (.object "com/example/wide_query/widequery/QuerySymbol$Operands"), .boolean]
  staticTypes := #[(.object "com/example/wide_query/widequery/QuerySymbol"), (.object "com/example/wide_query/widequery/QuerySymbol"), (.object "com/example/wide_query/widequery/QuerySymbol"), (.object "com/example/wide_query/widequery/QuerySymbol"), (.object "com/example/wide_query/widequery/QuerySymbol"), (.array (.object "com/example/wide_query/widequery/QuerySymbol"))]
  resolved := Array.replicate 121 none
  statics := some 0 }

def pool7 : Array CpInfo := pool [(1, .class_ 2), (0, u "java/lang/Cloneable"), (0, .class_ 4), (0, u "java/lang/Object")] 2

/-- java/lang/Cloneable -/
def k7 : Class := { plain "java/lang/Cloneable" (some 0) with
  accessFlags := 1537
  interfaces := #[]
  cf := some (fileOf pool7 1 #[] #[] 1537 3 #[] #[])
  fields := #[]
  methods := #[]
  instanceTypes := #[]
  staticTypes := #[]
  resolved := Array.replicate 7 none
  statics := none }

/-- the primitive byte -/
def k8 : Class := { plain "byte" none with kind := .primitive 'B', accessFlags := 0x411 }
/-- [B -/
def k9 : Class := { plain "[B" (some 0) with kind := .array 8 .byte, interfaces := #[7, 4], accessFlags := 1041 }

/-- the primitive int -/
def k10 : Class := { plain "int" none with kind := .primitive 'I', accessFlags := 0x411 }
/-- [I -/
def k11 : Class := { plain "[I" (some 0) with kind := .array 10 .int, interfaces := #[7, 4], accessFlags := 1041 }

/-- [Lcom/example/wide_query/widequery/QuerySymbol; -/
def k12 : Class := { plain "[Lcom/example/wide_query/widequery/QuerySymbol;" (some 0) with kind := .array 6 (.object "com/example/wide_query/widequery/QuerySymbol"), interfaces := #[7, 4], accessFlags := 1041 }

def heap : Heap := #[{ cls := 6, slots := #[.ref 2, .ref 3, .ref 4, .ref 5, .ref 6, .ref 1], vm := .statics 6 },
  { cls := 12, slots := #[.ref 2, .ref 3, .ref 4, .ref 5, .ref 6], vm := .none },
  { cls := 6, slots := #[.null, .int 0, .int 0, .int 67, .null, .null, .int 0], vm := .none },
  { cls := 6, slots := #[.null, .int 0, .int 0, .int 73, .null, .null, .int 0], vm := .none },
  { cls := 6, slots := #[.null, .int 0, .int 0, .int 80, .null, .null, .int 0], vm := .none },
  { cls := 6, slots := #[.null, .int 0, .int 0, .int 83, .null, .null, .int 0], vm := .none },
  { cls := 6, slots := #[.null, .int 0, .int 0, .int 69, .null, .null, .int 0], vm := .none }]
def classes : Array Class := #[k0, k1, k2, k3, k4, k5, k6, k7, k8, k9, k10, k11, k12]
def interned : List (Array UInt16 × Addr) := []
def slotsUsed : Nat := 46
def theMethod : MethodId := ⟨1, 2⟩
def args0 : Array Value := #[.int 5, .int 3]
def aboutOver (below : List Frame) : State where
  vm := { classes := classes, interned := interned.toArray }
  heap := heap
  slotsUsed := slotsUsed
  threads := #[{ frames := .invoking theMethod args0 :: below }]
def below0 : List Frame := [.native { method := ⟨0, 0⟩, args := #[] }]
def about1 : State := aboutOver below0
def p0 : Program := .bare "" "" ""
def e0 : Env := launch0.env 0 0 0
theorem w_frames : about1.frames = Frame.invoking theMethod args0 :: below0 := rfl
set_option maxRecDepth 65536 in
theorem w_args : argsFit about1.vm theMethod args0 = true := by decide +kernel
set_option maxRecDepth 65536 in
theorem w_heap : heapFits about1 = true := by decide +kernel
set_option maxRecDepth 65536 in
theorem w_runnable : about1.curStatus? = some .runnable := by decide +kernel
set_option maxRecDepth 65536 in
theorem w_alone : about1.alone = true := by decide +kernel
set_option maxRecDepth 65536 in
theorem w_named : about1.methodNamed? x = some theMethod := by decide +kernel
set_option maxRecDepth 65536 in
theorem w_hears : about1.hears theMethod below0 = true := by decide +kernel
set_option maxRecDepth 65536 in
theorem w_ripe : about1.ripe theMethod args0 below0 = true := by decide +kernel
theorem w_running : about1.status = .running := rfl
set_option maxRecDepth 65536 in
theorem w_room : about1.hasRoom e0.platform room_1 = true :=
  launch0.hasRoom_least _ room_1 (by decide +kernel) (by decide +kernel) (by decide +kernel) (by decide +kernel) (by decide +kernel) (by decide +kernel)
theorem allAtoms_all (ts : List Jvm.Cond) (a : Array Jvm.Value) (st : Jvm.State) : (allAtoms ts).before a st = ts.all (fun c => c.before a st) := by
  induction ts with
  | nil => rfl
  | cons c t ih =>
    show (Jvm.Cond.and c (allAtoms t)).before a st = _
    rw [Jvm.Cond.before_and, ih, List.all_cons]
def words1 : List Jvm.Cond := Jvm.Cond.code x code maxLocals ret :: tables_1
/-- a 'code' word, met by the world's own term for the bytes: nothing is compared byte by byte -/
theorem code_word {y : MethodName} {bytes : ByteArray} {mx : Nat} {rt : Option FieldType} {a : Array Value} {s : State} {m : MethodId} {meth : Method} {c : Code} (h1 : s.methodNamed? y = some m) (h2 : s.vm.method? m = some meth) (h3 : meth.code = some c) (h4 : c.code = bytes)
    (h5 : (c.maxLocals == mx && c.exceptionTable.isEmpty && decide (c.maxStack ≤ mostOperands) && decide (meth.sig.returnType = rt) && !meth.locks && decide (parseMethodDescriptor y.desc = some meth.sig)) = true) : (Jvm.Cond.code y bytes mx rt).before a s = true := by
  simp only [Bool.and_eq_true, beq_iff_eq, Bool.not_eq_true', decide_eq_true_eq] at h5
  obtain ⟨⟨⟨⟨⟨g1, g2⟩, g3⟩, g4⟩, g5⟩, g6⟩ := h5
  simp [Cond.before, Cond.holds, Cond.value, h1, h2, h3, h4, g1, g2, g3, g4, g5, g6]
def isCode : Jvm.Cond → Bool
  | .code _ _ _ _ => true
  | _ => false
theorem all_split {L : List Jvm.Cond} {P : Jvm.Cond → Bool} (h1 : L.all (fun c => isCode c || P c) = true) (h2 : ∀ c ∈ L.filter isCode, P c = true) : L.all P = true := by
  refine List.all_eq_true.mpr fun c hc => ?_
  have h := List.all_eq_true.mp h1 c hc
  rcases Bool.eq_false_or_eq_true (isCode c) with hi | hi
  · exact h2 c (List.mem_filter.mpr ⟨hc, hi⟩)
  · simpa [hi] using h
set_option maxRecDepth 65536 in
theorem w_c0 : (Jvm.Cond.code x code maxLocals ret).before args0 about1 = true := code_word (m := ⟨1, 2⟩) (meth := k1m2) (c := k1c2) (by decide +kernel) rfl rfl rfl (by decide +kernel)
set_option maxRecDepth 65536 in
theorem w_c1 : (Jvm.Cond.code ({ cls := "com/example/wide_query/widequery/QuerySymbol", name := "ofLetter", desc := "(I)Lcom/example/wide_query/widequery/QuerySymbol;" } : Jvm.MethodName) prog_27_method_5_code (6 : Nat) (Option.some (Jvm.ClassFile.FieldType.object "com/example/wide_query/widequery/QuerySymbol"))).before args0 about1 = true := code_word (m := ⟨6, 1⟩) (meth := k6m1) (c := k6c1) (by decide +kernel) rfl rfl rfl (by decide +kernel)
set_option maxRecDepth 65536 in
theorem w_c2 : (Jvm.Cond.code ({ cls := "com/example/wide_query/widequery/QuerySymbol", name := "values", desc := "()[Lcom/example/wide_query/widequery/QuerySymbol;" } : Jvm.MethodName) prog_27_method_1_code (0 : Nat) (Option.some (Jvm.ClassFile.FieldType.array (Jvm.ClassFile.FieldType.object "com/example/wide_query/widequery/QuerySymbol")))).before args0 about1 = true := code_word (m := ⟨6, 0⟩) (meth := k6m0) (c := k6c0) (by decide +kernel) rfl rfl rfl (by decide +kernel)
set_option maxRecDepth 65536 in
theorem w_c3 : (Jvm.Cond.code ({ cls := "com/example/wide_query/widequery/QuerySymbolOfLetterPinLaw", name := "expected", desc := "(I)Lcom/example/wide_query/widequery/QuerySymbol;" } : Jvm.MethodName) method_2_code (1 : Nat) (Option.some (Jvm.ClassFile.FieldType.object "com/example/wide_query/widequery/QuerySymbol"))).before args0 about1 = true := code_word (m := ⟨1, 1⟩) (meth := k1m1) (c := k1c1) (by decide +kernel) rfl rfl rfl (by decide +kernel)
def codes1 : List Jvm.Cond := [Jvm.Cond.code x code maxLocals ret, Jvm.Cond.code ({ cls := "com/example/wide_query/widequery/QuerySymbol", name := "ofLetter", desc := "(I)Lcom/example/wide_query/widequery/QuerySymbol;" } : Jvm.MethodName) prog_27_method_5_code (6 : Nat) (Option.some (Jvm.ClassFile.FieldType.object "com/example/wide_query/widequery/QuerySymbol")), Jvm.Cond.code ({ cls := "com/example/wide_query/widequery/QuerySymbol", name := "values", desc := "()[Lcom/example/wide_query/widequery/QuerySymbol;" } : Jvm.MethodName) prog_27_method_1_code (0 : Nat) (Option.some (Jvm.ClassFile.FieldType.array (Jvm.ClassFile.FieldType.object "com/example/wide_query/widequery/QuerySymbol"))), Jvm.Cond.code ({ cls := "com/example/wide_query/widequery/QuerySymbolOfLetterPinLaw", name := "expected", desc := "(I)Lcom/example/wide_query/widequery/QuerySymbol;" } : Jvm.MethodName) method_2_code (1 : Nat) (Option.some (Jvm.ClassFile.FieldType.object "com/example/wide_query/widequery/QuerySymbol"))]
set_option maxRecDepth 65536 in
theorem codes_eq : words1.filter isCode = codes1 := rfl
theorem w_codes : ∀ c ∈ words1.filter isCode, c.before args0 about1 = true := by
  rw [codes_eq]
  intro c hc
  simp only [codes1, List.mem_cons, List.not_mem_nil, or_false] at hc
  rcases hc with rfl | rfl | rfl | rfl
  · exact w_c0
  · exact w_c1
  · exact w_c2
  · exact w_c3
set_option maxRecDepth 65536 in
theorem w_t1 : (words1.take 24).all (fun c => isCode c || c.before args0 about1) = true := by decide +kernel
set_option maxRecDepth 65536 in
theorem w_t2 : (words1.drop 24).all (fun c => isCode c || c.before args0 about1) = true := by decide +kernel
theorem w_tables : (allAtoms (Jvm.Cond.code x code maxLocals ret :: tables_1)).before args0 about1 = true := by
  rw [allAtoms_all]
  show words1.all (fun c => c.before args0 about1) = true
  refine all_split ?_ w_codes
  rw [← List.take_append_drop 24 words1, List.all_append, w_t1, w_t2]
  rfl
set_option maxRecDepth 65536 in
theorem w_case : (Jvm.Cond.and given_1 narrow_1).before args0 about1 = true := by decide +kernel
theorem w_applies : (headSpec (Jvm.Cond.code x code maxLocals ret :: tables_1) room_1).applies x e0.platform about1 = true :=
  (Spec.applies_iff w_frames).mpr ⟨w_running, w_runnable, w_alone, w_named, w_hears, w_ripe, w_room, w_tables⟩
theorem atStart : AtStart classFile x code maxLocals ret World_1 tables_1 room_1 Calls_1 rest_1 Pre_1 launch0 p0 e0 about1 theMethod args0 below0 :=
  ⟨lists_1, trivial, launch0.admits_env _ _ _, launch0.least_env, fairChoices_fair.cas, fairChoices_fair.clock, w_frames, w_args, w_heap, w_applies, trivial, trivial, w_case⟩
end start1
theorem witness_1 : WitnessClaimed_1 := ⟨start1.p0, start1.e0, start1.about1, start1.theMethod, start1.args0, start1.below0, start1.atStart⟩
end Jvm.Pilot.@@N@@
