import JvmDerived
import JvmDerived.Pilot.@@N@@Statement
import JvmDerived.Pilot.@@N@@Code
set_option linter.unusedVariables false
set_option linter.unusedSimpArgs false
@@BLOCK:NumsL.lean.txt@@
namespace Jvm.Pilot.@@N@@
open Jvm Jvm.ClassFile Sem Op Lib Jvm.Free Jvm.Stand Jvm.LawKit Jvm.RoadKit Bundle Jvm.Pilot.@@N@@.Jvm.D
section Own
variable {p : Program} {l : Launch} {e : Env} {R : Room} {s : State} {m : MethodId} {args : Array Value} {below : List Frame} {meth : Method} {c : Code} {Z : State} {a0 : Array Value} {Q : Option Value → Heap → List Loc → Prop} {Fn : Outcome → State → Prop} {kk nn : Nat} {h h0 : Heap} {locs : List Loc} {cells slots cells' slots' n0 pc pc' : Nat} {Ls Ls' : Array Slot} {st st' rest : List Value} {own nm : String} {bytes : ByteArray} {mx : Nat} {rt : Option FieldType}
/-- the walk stands at pc with these locals and this stack over the heap h: from there the body comes to its end as Q says -/
def own_St (p : Program) (l : Launch) (e : Env) (R : Room) (s : State) (m : MethodId) (args : Array Value) (below : List Frame) (meth : Method) (c : Code) (Fn : Outcome → State → Prop) (h : Heap) (locs : List Loc) (cells slots : Nat) (pc : Nat) (Ls : Array Slot) (st : List Value) : Prop :=
  ∀ T, Stand p l e R s m args below meth c T locs cells slots → T.heap = h →
    ∃ s₂ o, Steps p.tables e below (T.setTop (mkF m pc Ls st)) s₂ ∧ s₂.status = .running ∧ Ended s₂ below o ∧ Fn o s₂
/-- the end of a body that interned nothing -/
def own_F (s : State) (Q : Option Value → Heap → List Loc → Prop) (kk nn : Nat) (o : Outcome) (s₂ : State) : Prop := ∃ v L, o = .returned v ∧ Q v s₂.heap L ∧ FrameEnd s o s₂ L kk nn
/-- what is fixed while a body is walked -/
def own_Cx (p : Program) (s : State) (m : MethodId) (meth : Method) (c : Code) (Z : State) (own : String) (bytes : ByteArray) (mx : Nat) (rt : Option FieldType) (nm : String) : Prop :=
  p.tables.exec = Jvm.exec ∧ c.code = bytes ∧ c.maxLocals = mx ∧ s.vm.findClass own = some m.cls ∧ meth.sig.returnType = rt ∧ meth.locks = false ∧ Z.Warmed39 s.vm ∧ meth.name = nm
/-- the contract of a body -/
def own_Met (l : Launch) (Z : State) (y : MethodName) (bytes : ByteArray) (mx : Nat) (rt : Option FieldType) (ws : List Jvm.Cond) (rm : Room) (kk nn : Nat) (as' : Array Value) (h : Heap) (Q : Option Value → Heap → List Loc → Prop) : Prop :=
  MetFree l y (head1 (Jvm.Cond.code y bytes mx rt :: ws) rm) (fun a U => a = as' ∧ Z.Warmed39 U.vm ∧ U.heap = h) (fun _ _ _ _ _ => True) (fun _ U o U' => ∃ v L, o = .returned v ∧ Q v U'.heap L ∧ FrameEnd U o U' L kk nn)
/-- what a body returns (w), that it wrote nothing old, what its heap says (D) -/
def own_Q (w : Option Value) (n0 : Nat) (D : Heap → Prop) : Option Value → Heap → List Loc → Prop := fun v h L => v = w ∧ Fr n0 L ∧ D h
theorem own_mv {h' : Heap} {locs' : List Loc} (G : own_St p l e R s m args below meth c Fn h' locs' cells' slots' pc' Ls' st')
    (step : ∀ T, Stand p l e R s m args below meth c T locs cells slots → T.heap = h → ∃ T', Stand p l e R s m args below meth c T' locs' cells' slots' ∧ T'.heap = h' ∧ ∀ t, Steps p.tables e below (T'.setTop (mkF m pc' Ls' st')) t → Steps p.tables e below (T.setTop (mkF m pc Ls st)) t) :
    own_St p l e R s m args below meth c Fn h locs cells slots pc Ls st := by
  intro T X eT
  obtain ⟨T', X', e', k⟩ := step T X eT
  obtain ⟨s₂, o, h1, r⟩ := G T' X' e'
  exact ⟨s₂, o, k _ h1, r⟩
theorem own_pl (G : own_St p l e R s m args below meth c Fn h locs cells slots pc' Ls' st')
    (step : ∀ T, At T m c below → ∀ t, Steps p.tables e below (T.setTop (mkF m pc' Ls' st')) t → Steps p.tables e below (T.setTop (mkF m pc Ls st)) t) :
    own_St p l e R s m args below meth c Fn h locs cells slots pc Ls st := own_mv G fun T X eT => ⟨T, X, eT, step T X.here⟩
theorem own_enter {y : MethodName} {ws : List Jvm.Cond} {rm : Room} {as' : Array Value} (hy : plainName y.cls = true) (hef : ∀ m, entryFrame m as' mx = mkF m 0 Ls [])
    (body : ∀ p e s m below meth c, own_Cx p s m meth c Z y.cls bytes mx rt y.name → own_St p l e rm s m as' below meth c (own_F s Q kk nn) h [] 0 0 0 Ls []) : own_Met l Z y bytes mx rt ws rm kk nn as' h Q := by
  refine MetFree.of_bodySF (plainFor_of_name hy) hisR ?_
  intro p e s m args below meth c s₁ Bd hml0 hP hK
  obtain ⟨rfl, hZ, hh⟩ := hP
  have X0 : Stand p l e rm s m args below meth c s₁ [] 0 0 := Stand.of_body Bd
  have e0 : s₁.heap = h := by rw [← hh, Bd.state]; rfl
  obtain ⟨s₂, o, h1, h2⟩ := body p e s m below meth c ⟨Bd.exec, Bd.bytes, hml0, findClass_of_methodNamed Bd.named, Bd.returns, BodyLoose.notSynchronized Bd, hZ, (name_of_methodNamed Bd.named Bd.method).1⟩ s₁ X0 e0
  exact ⟨s₂, o, castTop (hef m) h1, h2⟩
/-! single steps -/
theorem own_iloadN (C : own_Cx p s m meth c Z own bytes mx rt nm) {k : Fin 4} {v : Int32} (hd : decode bytes pc = .ok (.iload_n k, 1)) (hl : Ls[k.val]? = some (.val (.int v))) (hp : pc + 1 = pc') (G : own_St p l e R s m args below meth c Fn h locs cells slots pc' Ls (.int v :: st)) : own_St p l e R s m args below meth c Fn h locs cells slots pc Ls st := by
  subst hp; exact own_pl G fun T H t k => XS.iloadN H C.1 rfl (hb C.2.1 hd) hl k
theorem own_iload (C : own_Cx p s m meth c Z own bytes mx rt nm) {k : Nat} {v : Int32} (hd : decode bytes pc = .ok (.iload k, 2)) (hl : Ls[k]? = some (.val (.int v))) (hp : pc + 2 = pc') (G : own_St p l e R s m args below meth c Fn h locs cells slots pc' Ls (.int v :: st)) : own_St p l e R s m args below meth c Fn h locs cells slots pc Ls st := by
  subst hp; exact own_pl G fun T H t k => XS.iload H C.1 rfl (hb C.2.1 hd) hl k
theorem own_aloadN (C : own_Cx p s m meth c Z own bytes mx rt nm) {k : Fin 4} {v : Value} (hd : decode bytes pc = .ok (.aload_n k, 1)) (hl : Ls[k.val]? = some (.val v)) (hv : v.isRef = true) (hp : pc + 1 = pc') (G : own_St p l e R s m args below meth c Fn h locs cells slots pc' Ls (v :: st)) : own_St p l e R s m args below meth c Fn h locs cells slots pc Ls st := by
  subst hp; exact own_pl G fun T H t k => XS.aloadN H C.1 rfl (hb C.2.1 hd) hl hv k
theorem own_istoreN (C : own_Cx p s m meth c Z own bytes mx rt nm) {k : Fin 4} {x : Int32} (hd : decode bytes pc = .ok (.istore_n k, 1)) (hl : storeLocals Ls k.val (.int x) = some Ls') (hp : pc + 1 = pc') (G : own_St p l e R s m args below meth c Fn h locs cells slots pc' Ls' st) : own_St p l e R s m args below meth c Fn h locs cells slots pc Ls (.int x :: st) := by
  subst hp; exact own_pl G fun T H t k => XS.istoreN H C.1 rfl (hb C.2.1 hd) rfl hl k
theorem own_istore (C : own_Cx p s m meth c Z own bytes mx rt nm) {k : Nat} {x : Int32} (hd : decode bytes pc = .ok (.istore k, 2)) (hl : storeLocals Ls k (.int x) = some Ls') (hp : pc + 2 = pc') (G : own_St p l e R s m args below meth c Fn h locs cells slots pc' Ls' st) : own_St p l e R s m args below meth c Fn h locs cells slots pc Ls (.int x :: st) := by
  subst hp; exact own_pl G fun T H t k => XS.istore H C.1 rfl (hb C.2.1 hd) rfl hl k
theorem own_astoreN (C : own_Cx p s m meth c Z own bytes mx rt nm) {k : Fin 4} {x : Value} (hd : decode bytes pc = .ok (.astore_n k, 1)) (hv : x.isRef = true) (hl : storeLocals Ls k.val x = some Ls') (hp : pc + 1 = pc') (G : own_St p l e R s m args below meth c Fn h locs cells slots pc' Ls' st) : own_St p l e R s m args below meth c Fn h locs cells slots pc Ls (x :: st) := by
  subst hp; exact own_pl G fun T H t k => XS.astoreN H C.1 rfl (hb C.2.1 hd) rfl hv hl k
theorem own_iconst (C : own_Cx p s m meth c Z own bytes mx rt nm) {i : Int} {v : Int32} (hd : decode bytes pc = .ok (.iconst i, 1)) (hv : Int32.ofInt i = v) (hp : pc + 1 = pc') (G : own_St p l e R s m args below meth c Fn h locs cells slots pc' Ls (.int v :: st)) : own_St p l e R s m args below meth c Fn h locs cells slots pc Ls st := by
  subst hp hv; exact own_pl G fun T H t k => XS.iconst H C.1 rfl (hb C.2.1 hd) k
theorem own_bipush (C : own_Cx p s m meth c Z own bytes mx rt nm) {i : Int} {v : Int32} (hd : decode bytes pc = .ok (.bipush i, 2)) (hv : (Int8.ofInt i).toInt32 = v) (hp : pc + 2 = pc') (G : own_St p l e R s m args below meth c Fn h locs cells slots pc' Ls (.int v :: st)) : own_St p l e R s m args below meth c Fn h locs cells slots pc Ls st := by
  subst hp hv; exact own_pl G fun T H t k => XS.bipush H C.1 rfl (hb C.2.1 hd) k
theorem own_iand (C : own_Cx p s m meth c Z own bytes mx rt nm) {x y z : Int32} (hd : decode bytes pc = .ok (.iand, 1)) (hz : x &&& y = z) (hp : pc + 1 = pc') (G : own_St p l e R s m args below meth c Fn h locs cells slots pc' Ls (.int z :: st)) : own_St p l e R s m args below meth c Fn h locs cells slots pc Ls (.int y :: .int x :: st) := by
  subst hp hz; exact own_pl G fun T H t k => XS.iand H C.1 rfl (hb C.2.1 hd) rfl k
theorem own_irem (C : own_Cx p s m meth c Z own bytes mx rt nm) {x y z : Int32} (hd : decode bytes pc = .ok (.irem, 1)) (hy : y ≠ 0) (hz : x % y = z) (hp : pc + 1 = pc') (G : own_St p l e R s m args below meth c Fn h locs cells slots pc' Ls (.int z :: st)) : own_St p l e R s m args below meth c Fn h locs cells slots pc Ls (.int y :: .int x :: st) := by
  subst hp hz; exact own_mv G fun T X eT => ⟨T, X, eT, fun t k => iremM X C.1 rfl (hb C.2.1 hd) rfl hy k⟩
theorem own_dup (C : own_Cx p s m meth c Z own bytes mx rt nm) {x : Value} (hd : decode bytes pc = .ok (.dup, 1)) (hc : x.category = 1) (hp : pc + 1 = pc') (G : own_St p l e R s m args below meth c Fn h locs cells slots pc' Ls (x :: x :: st)) : own_St p l e R s m args below meth c Fn h locs cells slots pc Ls (x :: st) := by
  subst hp; exact own_pl G fun T H t k => XS.dup H C.1 rfl (hb C.2.1 hd) rfl hc k
theorem own_goto (C : own_Cx p s m meth c Z own bytes mx rt nm) {o : Int} (hd : decode bytes pc = .ok (.goto o, 3)) (ho : 0 ≤ (pc : Int) + o) (hp : ((pc : Int) + o).toNat = pc') (G : own_St p l e R s m args below meth c Fn h locs cells slots pc' Ls st) : own_St p l e R s m args below meth c Fn h locs cells slots pc Ls st :=
  own_pl G fun T H t k => XS.goto H C.1 rfl rfl (hb C.2.1 hd) ho hp k
theorem own_ifY (C : own_Cx p s m meth c Z own bytes mx rt nm) {cd : ClassFile.Cond} {x : Int32} {o : Int} (hd : decode bytes pc = .ok (.ifCond cd o, 3)) (hc : ifCond.holds cd x = true) (ho : 0 ≤ (pc : Int) + o) (hp : ((pc : Int) + o).toNat = pc') (G : own_St p l e R s m args below meth c Fn h locs cells slots pc' Ls st) : own_St p l e R s m args below meth c Fn h locs cells slots pc Ls (.int x :: st) :=
  own_pl G fun T H t k => XS.ifYes H C.1 rfl rfl (hb C.2.1 hd) rfl hc ho hp k
theorem own_ifN (C : own_Cx p s m meth c Z own bytes mx rt nm) {cd : ClassFile.Cond} {x : Int32} {o : Int} (hd : decode bytes pc = .ok (.ifCond cd o, 3)) (hc : ifCond.holds cd x = false) (hp : pc + 3 = pc') (G : own_St p l e R s m args below meth c Fn h locs cells slots pc' Ls st) : own_St p l e R s m args below meth c Fn h locs cells slots pc Ls (.int x :: st) := by
  subst hp; exact own_pl G fun T H t k => XS.ifNo H C.1 rfl (hb C.2.1 hd) rfl hc k
theorem own_icmpY (C : own_Cx p s m meth c Z own bytes mx rt nm) {cd : ClassFile.Cond} {x y : Int32} {o : Int} (hd : decode bytes pc = .ok (.if_icmp cd o, 3)) (hc : if_icmp.holds cd x y = true) (ho : 0 ≤ (pc : Int) + o) (hp : ((pc : Int) + o).toNat = pc') (G : own_St p l e R s m args below meth c Fn h locs cells slots pc' Ls st) : own_St p l e R s m args below meth c Fn h locs cells slots pc Ls (.int y :: .int x :: st) :=
  own_pl G fun T H t k => XS.icmpYes H C.1 rfl rfl (hb C.2.1 hd) rfl hc ho hp k
theorem own_icmpN (C : own_Cx p s m meth c Z own bytes mx rt nm) {cd : ClassFile.Cond} {x y : Int32} {o : Int} (hd : decode bytes pc = .ok (.if_icmp cd o, 3)) (hc : if_icmp.holds cd x y = false) (hp : pc + 3 = pc') (G : own_St p l e R s m args below meth c Fn h locs cells slots pc' Ls st) : own_St p l e R s m args below meth c Fn h locs cells slots pc Ls (.int y :: .int x :: st) := by
  subst hp; exact own_pl G fun T H t k => XS.icmpNo H C.1 rfl (hb C.2.1 hd) rfl hc k
theorem own_acmp (C : own_Cx p s m meth c Z own bytes mx rt nm) {cd : ACond} {x y : Value} {o : Int} {same : Bool} (hd : decode bytes pc = .ok (.if_acmp cd o, 3)) (h1 : x.isRef = true) (h2 : y.isRef = true) (hq : decide (x = y) = same) (ho : 0 ≤ (pc : Int) + o) (hp : pc' = if acV cd same = true then ((pc : Int) + o).toNat else pc + 3) (G : own_St p l e R s m args below meth c Fn h locs cells slots pc' Ls st) : own_St p l e R s m args below meth c Fn h locs cells slots pc Ls (y :: x :: st) :=
  own_mv G fun T X eT => ⟨T, X, eT, fun t k => Jvm.RoadKit.acmp X C.1 rfl h1 h2 rfl (hb C.2.1 hd) rfl hq ho hp k⟩
/-! steps that read the tables or the heap -/
theorem own_ldc (C : own_Cx p s m meth c Z own bytes mx rt nm) {index : Nat} {v : Int32} (w : (Jvm.Cond.constant own index v).before a0 Z = true) (hd : decode bytes pc = .ok (.ldc index, 2)) (hp : pc + 2 = pc') (G : own_St p l e R s m args below meth c Fn h locs cells slots pc' Ls (.int v :: st)) : own_St p l e R s m args below meth c Fn h locs cells slots pc Ls st := by
  subst hp; exact own_mv G fun T X eT => ⟨T, X, eT, fun t k => X.ldcInt C.1 C.2.2.2.1 (mvT C.2.2.2.2.2.2.1 w) (g := mkF m pc Ls st) rfl (hb C.2.1 hd) t k⟩
theorem own_getS (C : own_Cx p s m meth c Z own bytes mx rt nm) {O n d : String} {index : Nat} {v : Value} (w : (Jvm.Cond.fieldLink own index O n d).before a0 Z = true) (F : Sta Z h O n d v) (hd : decode bytes pc = .ok (.getstatic index, 3)) (hp : pc + 3 = pc') (G : own_St p l e R s m args below meth c Fn h locs cells slots pc' Ls (v :: st)) : own_St p l e R s m args below meth c Fn h locs cells slots pc Ls st := by
  subst hp; exact own_mv G fun T X eT => getS (host := "") X C.1 C.2.2.2.2.2.2.1 C.2.2.2.1 w Via.refl eT F (g := mkF m pc Ls st) rfl (hb C.2.1 hd)
theorem own_getF (C : own_Cx p s m meth c Z own bytes mx rt nm) {O n d host : String} {index : Nat} {a : Addr} {v : Value} (w : (Jvm.Cond.fieldLink own index O n d).before a0 Z = true ∨ (Jvm.Cond.fieldLinkNest own index O n d host).before a0 Z = true) (F : Fld Z h a O n d v) (hd : decode bytes pc = .ok (.getfield index, 3)) (hp : pc + 3 = pc') (G : own_St p l e R s m args below meth c Fn h locs cells slots pc' Ls (v :: st)) : own_St p l e R s m args below meth c Fn h locs cells slots pc Ls (.ref a :: st) := by
  subst hp; exact own_mv G fun T X eT => getF X C.1 C.2.2.2.2.2.2.1 C.2.2.2.1 w Via.refl eT F (g := mkF m pc Ls (.ref a :: st)) rfl rfl (hb C.2.1 hd)
theorem own_newR (C : own_Cx p s m meth c Z own bytes mx rt nm) {K : String} {index : Nat} {n : Int32} {cap : Nat} {vs : List Value} (w1 : (Jvm.Cond.classLink own index K).before a0 Z = true) (w2 : (Jvm.Cond.arrayOver (.object K)).before a0 Z = true) (hd : decode bytes pc = .ok (.anewarray index, 3)) (hp : pc + 3 = pc') (hn : ¬ n < 0) (hcap : n.toNatClampNeg ≤ cap) (hb' : cap * 8 ≤ 536870912) (hc : cells + 1 ≤ R.cells) (hl : slots + cap ≤ R.slots) (hc' : cells + 1 = cells') (hl' : slots + cap = slots') (hvs : List.replicate cap .null = vs)
    (G : ∀ h' b k, b = h.size → Ext h h' → Arv Z h' b k (.object K) n vs .null → Ovr Z k K → own_St p l e R s m args below meth c Fn h' locs cells' slots' pc' Ls (.ref b :: st)) : own_St p l e R s m args below meth c Fn h locs cells slots pc Ls (.int n :: st) := by
  subst hp hc' hl' hvs
  intro T X eT
  obtain ⟨T', h', cA, X', e', E, A, Ov, k⟩ := newR X C.1 C.2.2.2.2.2.2.1 C.2.2.2.1 w1 w2 eT (g := mkF m pc Ls (.int n :: st)) rfl (hb C.2.1 hd) rfl hn hcap hb' hc hl
  obtain ⟨s₂, o, h1, r⟩ := G h' _ cA rfl E ((Arv.new A hn).pad (by have := pad_rep [] (defaultValue (.object K)) cap; simpa [defaultValue] using this)) Ov T' X' e'
  exact ⟨s₂, o, k _ h1, r⟩
theorem own_stR (C : own_Cx p s m meth c Z own bytes mx rt nm) {a : Addr} {k : ClassId} {K : String} {z j : Int32} {v : Value} {vs vs' : List Value} {dv : Value} {i : Nat} (V : Arv Z h a k (.object K) z vs dv) (Ov : Ovr Z k K) (hin : ¬ j < 0 ∧ j < z) (hj : j.toNatClampNeg = i) (hi : i < vs.length) (hvs : vs.set i v = vs') (I : v = .null ∨ ∃ y, v = .ref y ∧ Ins Z h y K true) (hd : decode bytes pc = .ok (.aastore, 1)) (hp : pc + 1 = pc') (N : Fr n0 locs) (ge : n0 ≤ a)
    (G : ∀ h' locs', Wr h h' a i v → Arv Z h' a k (.object K) z vs' dv → Fr n0 locs' → own_St p l e R s m args below meth c Fn h' locs' cells slots pc' Ls st) : own_St p l e R s m args below meth c Fn h locs cells slots pc Ls (v :: .int j :: .ref a :: st) := by
  subst hp hvs
  intro T X eT
  obtain ⟨cl, A, q1, S, q3, H, F⟩ := V
  have hS : Sto Z h a v := by
    rcases I with rfl | ⟨y, rfl, I⟩
    · exact Or.inl rfl
    · exact Sto.ofV A q1 Ov I
  have hf : fits (.object K) v = true := by rcases I with rfl | ⟨y, rfl, I⟩ <;> rfl
  obtain ⟨T', h', X', e', W, kk⟩ := stR X C.1 C.2.2.2.2.2.2.1 eT A (inb_of S hin) rfl hS (g := mkF m pc Ls (v :: .int j :: .ref a :: st)) rfl rfl (hb C.2.1 hd)
  obtain ⟨s₂, o, h1, r⟩ := G h' _ (hj ▸ W) (Arv.set A q1 S q3 H F hf W i hj hi) (Fr.snoc X' N ge) T' X' e'
  exact ⟨s₂, o, kk _ h1, r⟩
theorem own_aaload (C : own_Cx p s m meth c Z own bytes mx rt nm) {a : Addr} {k : ClassId} {ty : FieldType} {z j : Int32} {v : Value} {vs : List Value} {dv : Value} (V : Arv Z h a k ty z vs dv) (hty : ty.isReference = true) (hin : ¬ j < 0 ∧ j < z) (hv : vs.getD j.toNatClampNeg dv = v) (hd : decode bytes pc = .ok (.aaload, 1)) (hp : pc + 1 = pc') (G : own_St p l e R s m args below meth c Fn h locs cells slots pc' Ls (v :: st)) : own_St p l e R s m args below meth c Fn h locs cells slots pc Ls (.int j :: .ref a :: st) := by
  subst hp
  obtain ⟨cl, A, q1, S, q3, H, F⟩ := V
  exact own_mv G fun T X eT => ⟨T, X, eT, fun t k => X.aaload C.1 (by rw [eT]; exact A.1) (State.isArrayOf_alike C.2.2.2.2.2.2.1.alike A.2.1) hty A.2.2 (inb_of S hin) (H.at (inb_of S hin) hv) (g := mkF m pc Ls (.int j :: .ref a :: st)) rfl rfl (hb C.2.1 hd) t k⟩
/-! calls -/
section Calls
variable {y z : MethodName} {index W maxL : Nat} {bytes' : ByteArray} {ret' : Option FieldType} {rm : Room} {argsL : List Value} {w : Option Value} {D : Heap → Prop}
theorem own_callV (C : own_Cx p s m meth c Z own bytes mx rt nm) {K : String} {b : Addr} (w1 : (Jvm.Cond.methodLink own index y).before a0 Z = true) (w2 : (Jvm.Cond.declares y).before a0 Z = true) (w3 : (Jvm.Cond.selects K y y).before a0 Z = true) (w4 : (Jvm.Cond.instanceMethod y).before a0 Z = true) (wz : (Jvm.Cond.initialized y.cls).before a0 Z = true) (wc : (Jvm.Cond.code y bytes' maxL ret').before a0 Z = true) (hy : y.cls ≠ "java/lang/invoke/MethodHandle" ∧ y.cls ≠ "java/lang/invoke/VarHandle") (E : Exa Z h b K)
    (M : own_Met l Z y bytes' maxL ret' [] rm rm.cells rm.slots (.ref b :: argsL).toArray h (own_Q w n0 D)) (hf : rm.frames + 1 ≤ R.frames) (hl : W + (maxL + 11) + rm.locals ≤ R.locals) (hlen : ∀ sig, parseMethodDescriptor y.desc = some sig → argsL.length = sig.parameters.length) (hst : st = argsL.reverse ++ .ref b :: rest) (hW : 2 * 0 + (rest.map fun v => v.category).sum ≤ W) (hsz : Ls.size = mx) (hd : decode bytes pc = .ok (.invokevirtual index, 3)) (hp : pc + 3 = pc')
    (hc : cells + rm.cells ≤ R.cells) (hs : slots + rm.slots ≤ R.slots) (hc' : cells + rm.cells = cells') (hs' : slots + rm.slots = slots') (hst' : w.toList ++ rest = st') (N : Fr n0 locs)
    (G : ∀ h' locs', D h' → Fr n0 locs' → own_St p l e R s m args below meth c Fn h' locs' cells' slots' pc' Ls st') : own_St p l e R s m args below meth c Fn h locs cells slots pc Ls st := by
  subst hp hc' hs' hst'
  intro T X eT
  obtain ⟨cq, kq, q1, q2, q3⟩ := isOf C.2.2.2.2.2.2.1 eT E
  obtain ⟨_, _, ⟨T', L', k', n'⟩, -, X', ⟨Lc, hQ, l', y', z'⟩, k⟩ := X.virtualBack C.1 C.2.2.2.1 (mvT C.2.2.2.2.2.2.1 w1) (mvT C.2.2.2.2.2.2.1 w2) (notFace_of_selects (args := #[]) (mvT C.2.2.2.2.2.2.1 w3)) (mvT C.2.2.2.2.2.2.1 w3) (mvT C.2.2.2.2.2.2.1 w4) hy (backOf (W := W) M C.2.2.2.2.2.2.1 wc wz hf hl) q1 q3 (g := mkF m pc Ls st) rfl (hsz.trans C.2.2.1.symm) (Steps.refl _) hlen hst hW (hb C.2.1 hd) (fun _ _ => ⟨rfl, eT, hc, hs⟩)
  dsimp only [Pt.U, Pt.locs, Pt.cells, Pt.slots] at X' l' y' z' k hQ
  subst l' y' z'
  obtain ⟨rfl, N', hD⟩ := hQ
  obtain ⟨s₂, o, h1, r⟩ := G _ _ hD (N.app N') T' X' rfl
  exact ⟨s₂, o, k.trans h1, r⟩
end Calls
/-! the ends -/
theorem own_ret {i : Instr} {v : Value} {t : FieldType} {w : Option Value} {D : Heap → Prop} (C : own_Cx p s m meth c Z own bytes mx (some t) nm) (hd : decode bytes pc = .ok (i, 1)) (hn : narrow t v = v)
    (hi : (i = .ireturn ∧ (t = .int ∨ t = .boolean ∨ t = .byte ∨ t = .char ∨ t = .short) ∧ ∃ z, v = .int z) ∨ (i = .lreturn ∧ t = .long ∧ ∃ z, v = .long z) ∨ (i = .dreturn ∧ t = .double ∧ ∃ z, v = .double z) ∨ (i = .freturn ∧ t = .float ∧ ∃ z, v = .float z) ∨ (i = .areturn ∧ t.isReference = true ∧ v.isRef = true))
    (hw : some v = w) (N : Fr n0 locs) (hD : D h) (hk : cells ≤ kk) (hs : slots ≤ nn) : own_St p l e R s m args below meth c (own_F s (own_Q w n0 D) kk nn) h locs cells slots pc Ls (v :: st) := by
  subst hw
  intro T X eT
  obtain ⟨fs, hr, hrun, hended, hW, hsame⟩ := X.leave (v := some v) (fun q => by rw [C.2.2.2.2.1] at q; cases q) C.2.2.2.2.2.1
  exact ⟨_, _, retOut X C.1 C.2.2.2.2.1 hn hi (hb C.2.1 hd) hr, hrun, hended, _, locs, rfl, ⟨rfl, N, by show D T.heap; rw [eT]; exact hD⟩, ⟨_, rfl⟩, hW, hsame.mono hk hs⟩
/-! small facts -/
theorem own_ge (O : Old Z n0 h) : n0 ≤ h.size := O.1 ▸ O.2.1
theorem own_pure (G : ∀ locs', Fr n0 locs' → own_St p l e R s m args below meth c Fn h locs' cells slots pc Ls st) : ∀ h' locs', h' = h → Fr n0 locs' → own_St p l e R s m args below meth c Fn h' locs' cells slots pc Ls st := fun h' locs' q N => q ▸ G locs' N
theorem own_eqI {t : Term} {k : Int32} (q : (Jvm.Cond.eq t (.int k)).value a0 s none s [] = some true) : t.eval a0 s none [] s = some (.int k) := by
  simp only [Cond.value, Term.eval] at q
  cases ht : t.eval a0 s none [] s with
  | none => simp [ht] at q
  | some x => cases x <;> simp [ht] at q ⊢; exact q
end Own
theorem d1_0 : decode prog_48_method_13_code 0 = .ok (.aload_n 0, 1) := by decide +kernel
theorem d1_1 : decode prog_48_method_13_code 1 = .ok (.getstatic 13, 3) := by decide +kernel
theorem d1_4 : decode prog_48_method_13_code 4 = .ok (.if_acmp .eq 10, 3) := by decide +kernel
theorem d1_7 : decode prog_48_method_13_code 7 = .ok (.aload_n 0, 1) := by decide +kernel
theorem d1_8 : decode prog_48_method_13_code 8 = .ok (.getstatic 16, 3) := by decide +kernel
theorem d1_11 : decode prog_48_method_13_code 11 = .ok (.if_acmp .ne 7, 3) := by decide +kernel
theorem d1_14 : decode prog_48_method_13_code 14 = .ok (.iconst 1, 1) := by decide +kernel
theorem d1_15 : decode prog_48_method_13_code 15 = .ok (.goto 4, 3) := by decide +kernel
theorem d1_18 : decode prog_48_method_13_code 18 = .ok (.iconst 0, 1) := by decide +kernel
theorem d1_19 : decode prog_48_method_13_code 19 = .ok (.ireturn, 1) := by decide +kernel
theorem d2_0 : decode prog_48_method_14_code 0 = .ok (.aload_n 0, 1) := by decide +kernel
theorem d2_1 : decode prog_48_method_14_code 1 = .ok (.getfield 47, 3) := by decide +kernel
theorem d2_4 : decode prog_48_method_14_code 4 = .ok (.ireturn, 1) := by decide +kernel
theorem own_pd0 : parseMethodDescriptor "()Z" = some ⟨[], some .boolean⟩ := by decide +kernel
theorem own_pd1 : parseMethodDescriptor "()I" = some ⟨[], some .int⟩ := by decide +kernel
theorem own_pn0 : plainName "com/example/colunata/colunata/layout/FieldType" = true := by first | (simp [plainName, overriddenIn]; done) | decide +kernel
theorem own_pn1 : plainName "com/example/colunata/colunata/layout/FieldTypeCanBeSummedPinLaw" = true := by first | (simp [plainName, overriddenIn]; done) | decide +kernel
theorem own_ef0 (m : MethodId) (x0 : Addr) : entryFrame m #[(.ref x0)] 1 = mkF m 0 #[.val (.ref x0)] [] := by first | (simp [entryFrame, mkF, argsToLocals, Value.category]; done) | rfl
theorem own_ef1 (m : MethodId) (x0 : Int32) : entryFrame m #[(.int x0)] 6 = mkF m 0 #[.val (.int x0), .unset, .unset, .unset, .unset, .unset] [] := by first | (simp [entryFrame, mkF, argsToLocals, Value.category]; done) | rfl
theorem own_w0 {Z : State} {a0 : Array Value} (hw : ∀ d ∈ tables_1, d.before a0 Z = true) : (Jvm.Cond.constant "com/example/colunata/colunata/layout/FieldTypeCanBeSummedPinLaw" (7 : Nat) (2147483647 : Int32)).before a0 Z = true := hw _ (List.mem_of_getElem? (i := 0) rfl)
theorem own_w1 {Z : State} {a0 : Array Value} (hw : ∀ d ∈ tables_1, d.before a0 Z = true) : (Jvm.Cond.classLink "com/example/colunata/colunata/layout/FieldTypeCanBeSummedPinLaw" (8 : Nat) "com/example/colunata/colunata/layout/FieldType").before a0 Z = true := hw _ (List.mem_of_getElem? (i := 1) rfl)
theorem own_w2 {Z : State} {a0 : Array Value} (hw : ∀ d ∈ tables_1, d.before a0 Z = true) : (Jvm.Cond.arrayOver (Jvm.ClassFile.FieldType.object "com/example/colunata/colunata/layout/FieldType")).before a0 Z = true := hw _ (List.mem_of_getElem? (i := 2) rfl)
theorem own_w3 {Z : State} {a0 : Array Value} (hw : ∀ d ∈ tables_1, d.before a0 Z = true) : (Jvm.Cond.fieldLink "com/example/colunata/colunata/layout/FieldTypeCanBeSummedPinLaw" (10 : Nat) "com/example/colunata/colunata/layout/FieldType" "A" "Lcom/example/colunata/colunata/layout/FieldType;").before a0 Z = true := hw _ (List.mem_of_getElem? (i := 3) rfl)
theorem own_w4 {Z : State} {a0 : Array Value} (hw : ∀ d ∈ tables_1, d.before a0 Z = true) : (Jvm.Cond.initialized "com/example/colunata/colunata/layout/FieldType").before a0 Z = true := hw _ (List.mem_of_getElem? (i := 4) rfl)
theorem own_w5 {Z : State} {a0 : Array Value} (hw : ∀ d ∈ tables_1, d.before a0 Z = true) : (Jvm.Cond.laysStatic "com/example/colunata/colunata/layout/FieldType" "A" "Lcom/example/colunata/colunata/layout/FieldType;").before a0 Z = true := hw _ (List.mem_of_getElem? (i := 5) rfl)
theorem own_w7 {Z : State} {a0 : Array Value} (hw : ∀ d ∈ tables_1, d.before a0 Z = true) : (Jvm.Cond.fieldLink "com/example/colunata/colunata/layout/FieldTypeCanBeSummedPinLaw" (14 : Nat) "com/example/colunata/colunata/layout/FieldType" "N" "Lcom/example/colunata/colunata/layout/FieldType;").before a0 Z = true := hw _ (List.mem_of_getElem? (i := 7) rfl)
theorem own_w8 {Z : State} {a0 : Array Value} (hw : ∀ d ∈ tables_1, d.before a0 Z = true) : (Jvm.Cond.laysStatic "com/example/colunata/colunata/layout/FieldType" "N" "Lcom/example/colunata/colunata/layout/FieldType;").before a0 Z = true := hw _ (List.mem_of_getElem? (i := 8) rfl)
theorem own_w9 {Z : State} {a0 : Array Value} (hw : ∀ d ∈ tables_1, d.before a0 Z = true) : (Jvm.Cond.fieldLink "com/example/colunata/colunata/layout/FieldTypeCanBeSummedPinLaw" (17 : Nat) "com/example/colunata/colunata/layout/FieldType" "N1" "Lcom/example/colunata/colunata/layout/FieldType;").before a0 Z = true := hw _ (List.mem_of_getElem? (i := 9) rfl)
theorem own_w10 {Z : State} {a0 : Array Value} (hw : ∀ d ∈ tables_1, d.before a0 Z = true) : (Jvm.Cond.laysStatic "com/example/colunata/colunata/layout/FieldType" "N1" "Lcom/example/colunata/colunata/layout/FieldType;").before a0 Z = true := hw _ (List.mem_of_getElem? (i := 10) rfl)
theorem own_w11 {Z : State} {a0 : Array Value} (hw : ∀ d ∈ tables_1, d.before a0 Z = true) : (Jvm.Cond.fieldLink "com/example/colunata/colunata/layout/FieldTypeCanBeSummedPinLaw" (20 : Nat) "com/example/colunata/colunata/layout/FieldType" "N2" "Lcom/example/colunata/colunata/layout/FieldType;").before a0 Z = true := hw _ (List.mem_of_getElem? (i := 11) rfl)
theorem own_w12 {Z : State} {a0 : Array Value} (hw : ∀ d ∈ tables_1, d.before a0 Z = true) : (Jvm.Cond.laysStatic "com/example/colunata/colunata/layout/FieldType" "N2" "Lcom/example/colunata/colunata/layout/FieldType;").before a0 Z = true := hw _ (List.mem_of_getElem? (i := 12) rfl)
theorem own_w13 {Z : State} {a0 : Array Value} (hw : ∀ d ∈ tables_1, d.before a0 Z = true) : (Jvm.Cond.fieldLink "com/example/colunata/colunata/layout/FieldTypeCanBeSummedPinLaw" (23 : Nat) "com/example/colunata/colunata/layout/FieldType" "N5" "Lcom/example/colunata/colunata/layout/FieldType;").before a0 Z = true := hw _ (List.mem_of_getElem? (i := 13) rfl)
theorem own_w14 {Z : State} {a0 : Array Value} (hw : ∀ d ∈ tables_1, d.before a0 Z = true) : (Jvm.Cond.laysStatic "com/example/colunata/colunata/layout/FieldType" "N5" "Lcom/example/colunata/colunata/layout/FieldType;").before a0 Z = true := hw _ (List.mem_of_getElem? (i := 14) rfl)
theorem own_w15 {Z : State} {a0 : Array Value} (hw : ∀ d ∈ tables_1, d.before a0 Z = true) : (Jvm.Cond.fieldLink "com/example/colunata/colunata/layout/FieldTypeCanBeSummedPinLaw" (26 : Nat) "com/example/colunata/colunata/layout/FieldType" "D" "Lcom/example/colunata/colunata/layout/FieldType;").before a0 Z = true := hw _ (List.mem_of_getElem? (i := 15) rfl)
theorem own_w16 {Z : State} {a0 : Array Value} (hw : ∀ d ∈ tables_1, d.before a0 Z = true) : (Jvm.Cond.laysStatic "com/example/colunata/colunata/layout/FieldType" "D" "Lcom/example/colunata/colunata/layout/FieldType;").before a0 Z = true := hw _ (List.mem_of_getElem? (i := 16) rfl)
theorem own_w17 {Z : State} {a0 : Array Value} (hw : ∀ d ∈ tables_1, d.before a0 Z = true) : (Jvm.Cond.fieldLink "com/example/colunata/colunata/layout/FieldTypeCanBeSummedPinLaw" (29 : Nat) "com/example/colunata/colunata/layout/FieldType" "D6" "Lcom/example/colunata/colunata/layout/FieldType;").before a0 Z = true := hw _ (List.mem_of_getElem? (i := 17) rfl)
theorem own_w18 {Z : State} {a0 : Array Value} (hw : ∀ d ∈ tables_1, d.before a0 Z = true) : (Jvm.Cond.laysStatic "com/example/colunata/colunata/layout/FieldType" "D6" "Lcom/example/colunata/colunata/layout/FieldType;").before a0 Z = true := hw _ (List.mem_of_getElem? (i := 18) rfl)
theorem own_w19 {Z : State} {a0 : Array Value} (hw : ∀ d ∈ tables_1, d.before a0 Z = true) : (Jvm.Cond.methodLink "com/example/colunata/colunata/layout/FieldTypeCanBeSummedPinLaw" (32 : Nat) ({ cls := "com/example/colunata/colunata/layout/FieldType", name := "canBeSummed", desc := "()Z" } : Jvm.MethodName)).before a0 Z = true := hw _ (List.mem_of_getElem? (i := 19) rfl)
theorem own_w20 {Z : State} {a0 : Array Value} (hw : ∀ d ∈ tables_1, d.before a0 Z = true) : (Jvm.Cond.declares ({ cls := "com/example/colunata/colunata/layout/FieldType", name := "canBeSummed", desc := "()Z" } : Jvm.MethodName)).before a0 Z = true := hw _ (List.mem_of_getElem? (i := 20) rfl)
theorem own_w21 {Z : State} {a0 : Array Value} (hw : ∀ d ∈ tables_1, d.before a0 Z = true) : (Jvm.Cond.instanceMethod ({ cls := "com/example/colunata/colunata/layout/FieldType", name := "canBeSummed", desc := "()Z" } : Jvm.MethodName)).before a0 Z = true := hw _ (List.mem_of_getElem? (i := 21) rfl)
theorem own_w22 {Z : State} {a0 : Array Value} (hw : ∀ d ∈ tables_1, d.before a0 Z = true) : (Jvm.Cond.selects "com/example/colunata/colunata/layout/FieldType" ({ cls := "com/example/colunata/colunata/layout/FieldType", name := "canBeSummed", desc := "()Z" } : Jvm.MethodName) ({ cls := "com/example/colunata/colunata/layout/FieldType", name := "canBeSummed", desc := "()Z" } : Jvm.MethodName)).before a0 Z = true := hw _ (List.mem_of_getElem? (i := 22) rfl)
theorem own_w23 {Z : State} {a0 : Array Value} (hw : ∀ d ∈ tables_1, d.before a0 Z = true) : (Jvm.Cond.code ({ cls := "com/example/colunata/colunata/layout/FieldType", name := "canBeSummed", desc := "()Z" } : Jvm.MethodName) prog_48_method_13_code (1 : Nat) (Option.some Jvm.ClassFile.FieldType.boolean)).before a0 Z = true := hw _ (List.mem_of_getElem? (i := 23) rfl)
theorem own_w24 {Z : State} {a0 : Array Value} (hw : ∀ d ∈ tables_1, d.before a0 Z = true) : (Jvm.Cond.fieldLink "com/example/colunata/colunata/layout/FieldType" (13 : Nat) "com/example/colunata/colunata/layout/FieldType" "N2" "Lcom/example/colunata/colunata/layout/FieldType;").before a0 Z = true := hw _ (List.mem_of_getElem? (i := 24) rfl)
theorem own_w25 {Z : State} {a0 : Array Value} (hw : ∀ d ∈ tables_1, d.before a0 Z = true) : (Jvm.Cond.fieldLink "com/example/colunata/colunata/layout/FieldType" (16 : Nat) "com/example/colunata/colunata/layout/FieldType" "N5" "Lcom/example/colunata/colunata/layout/FieldType;").before a0 Z = true := hw _ (List.mem_of_getElem? (i := 25) rfl)
theorem own_w26 {Z : State} {a0 : Array Value} (hw : ∀ d ∈ tables_1, d.before a0 Z = true) : (Jvm.Cond.methodLink "com/example/colunata/colunata/layout/FieldTypeCanBeSummedPinLaw" (36 : Nat) ({ cls := "com/example/colunata/colunata/layout/FieldType", name := "decimals", desc := "()I" } : Jvm.MethodName)).before a0 Z = true := hw _ (List.mem_of_getElem? (i := 26) rfl)
theorem own_w27 {Z : State} {a0 : Array Value} (hw : ∀ d ∈ tables_1, d.before a0 Z = true) : (Jvm.Cond.declares ({ cls := "com/example/colunata/colunata/layout/FieldType", name := "decimals", desc := "()I" } : Jvm.MethodName)).before a0 Z = true := hw _ (List.mem_of_getElem? (i := 27) rfl)
theorem own_w28 {Z : State} {a0 : Array Value} (hw : ∀ d ∈ tables_1, d.before a0 Z = true) : (Jvm.Cond.instanceMethod ({ cls := "com/example/colunata/colunata/layout/FieldType", name := "decimals", desc := "()I" } : Jvm.MethodName)).before a0 Z = true := hw _ (List.mem_of_getElem? (i := 28) rfl)
theorem own_w29 {Z : State} {a0 : Array Value} (hw : ∀ d ∈ tables_1, d.before a0 Z = true) : (Jvm.Cond.selects "com/example/colunata/colunata/layout/FieldType" ({ cls := "com/example/colunata/colunata/layout/FieldType", name := "decimals", desc := "()I" } : Jvm.MethodName) ({ cls := "com/example/colunata/colunata/layout/FieldType", name := "decimals", desc := "()I" } : Jvm.MethodName)).before a0 Z = true := hw _ (List.mem_of_getElem? (i := 29) rfl)
theorem own_w30 {Z : State} {a0 : Array Value} (hw : ∀ d ∈ tables_1, d.before a0 Z = true) : (Jvm.Cond.code ({ cls := "com/example/colunata/colunata/layout/FieldType", name := "decimals", desc := "()I" } : Jvm.MethodName) prog_48_method_14_code (1 : Nat) (Option.some Jvm.ClassFile.FieldType.int)).before a0 Z = true := hw _ (List.mem_of_getElem? (i := 30) rfl)
theorem own_w31 {Z : State} {a0 : Array Value} (hw : ∀ d ∈ tables_1, d.before a0 Z = true) : (Jvm.Cond.fieldLink "com/example/colunata/colunata/layout/FieldType" (47 : Nat) "com/example/colunata/colunata/layout/FieldType" "decimals" "I").before a0 Z = true := hw _ (List.mem_of_getElem? (i := 31) rfl)
/-- what the case says of the statics: A k is the object that the k-th of them holds -/
def own_P (Z : State) (A : Nat → Addr) : Prop :=
  (Sta Z Z.heap "com/example/colunata/colunata/layout/FieldType" "A" "Lcom/example/colunata/colunata/layout/FieldType;" (.ref (A 0))) ∧
  (Exa Z Z.heap (A 0) "com/example/colunata/colunata/layout/FieldType") ∧
  (Fld Z Z.heap (A 0) "java/lang/Enum" "ordinal" "I" (.int (0 : Int32))) ∧
  (Fld Z Z.heap (A 0) "com/example/colunata/colunata/layout/FieldType" "decimals" "I" (.int (0 : Int32))) ∧
  (Sta Z Z.heap "com/example/colunata/colunata/layout/FieldType" "N" "Lcom/example/colunata/colunata/layout/FieldType;" (.ref (A 1))) ∧
  (Exa Z Z.heap (A 1) "com/example/colunata/colunata/layout/FieldType") ∧
  (Fld Z Z.heap (A 1) "java/lang/Enum" "ordinal" "I" (.int (1 : Int32))) ∧
  (Fld Z Z.heap (A 1) "com/example/colunata/colunata/layout/FieldType" "decimals" "I" (.int (0 : Int32))) ∧
  (Sta Z Z.heap "com/example/colunata/colunata/layout/FieldType" "N1" "Lcom/example/colunata/colunata/layout/FieldType;" (.ref (A 2))) ∧
  (Exa Z Z.heap (A 2) "com/example/colunata/colunata/layout/FieldType") ∧
  (Fld Z Z.heap (A 2) "java/lang/Enum" "ordinal" "I" (.int (2 : Int32))) ∧
  (Fld Z Z.heap (A 2) "com/example/colunata/colunata/layout/FieldType" "decimals" "I" (.int (1 : Int32))) ∧
  (Sta Z Z.heap "com/example/colunata/colunata/layout/FieldType" "N2" "Lcom/example/colunata/colunata/layout/FieldType;" (.ref (A 3))) ∧
  (Exa Z Z.heap (A 3) "com/example/colunata/colunata/layout/FieldType") ∧
  (Fld Z Z.heap (A 3) "java/lang/Enum" "ordinal" "I" (.int (3 : Int32))) ∧
  (Fld Z Z.heap (A 3) "com/example/colunata/colunata/layout/FieldType" "decimals" "I" (.int (2 : Int32))) ∧
  (Sta Z Z.heap "com/example/colunata/colunata/layout/FieldType" "N5" "Lcom/example/colunata/colunata/layout/FieldType;" (.ref (A 4))) ∧
  (Exa Z Z.heap (A 4) "com/example/colunata/colunata/layout/FieldType") ∧
  (Fld Z Z.heap (A 4) "java/lang/Enum" "ordinal" "I" (.int (4 : Int32))) ∧
  (Fld Z Z.heap (A 4) "com/example/colunata/colunata/layout/FieldType" "decimals" "I" (.int (5 : Int32))) ∧
  (Sta Z Z.heap "com/example/colunata/colunata/layout/FieldType" "D" "Lcom/example/colunata/colunata/layout/FieldType;" (.ref (A 5))) ∧
  (Exa Z Z.heap (A 5) "com/example/colunata/colunata/layout/FieldType") ∧
  (Fld Z Z.heap (A 5) "java/lang/Enum" "ordinal" "I" (.int (5 : Int32))) ∧
  (Fld Z Z.heap (A 5) "com/example/colunata/colunata/layout/FieldType" "decimals" "I" (.int (0 : Int32))) ∧
  (Sta Z Z.heap "com/example/colunata/colunata/layout/FieldType" "D6" "Lcom/example/colunata/colunata/layout/FieldType;" (.ref (A 6))) ∧
  (Exa Z Z.heap (A 6) "com/example/colunata/colunata/layout/FieldType") ∧
  (Fld Z Z.heap (A 6) "java/lang/Enum" "ordinal" "I" (.int (6 : Int32))) ∧
  (Fld Z Z.heap (A 6) "com/example/colunata/colunata/layout/FieldType" "decimals" "I" (.int (0 : Int32)))
theorem own_p0 {Z : State} {A : Nat → Addr} (B : own_P Z A) : Sta Z Z.heap "com/example/colunata/colunata/layout/FieldType" "A" "Lcom/example/colunata/colunata/layout/FieldType;" (.ref (A 0)) := B.1
theorem own_p1 {Z : State} {A : Nat → Addr} (B : own_P Z A) : Exa Z Z.heap (A 0) "com/example/colunata/colunata/layout/FieldType" := B.2.1
theorem own_p2 {Z : State} {A : Nat → Addr} (B : own_P Z A) : Fld Z Z.heap (A 0) "java/lang/Enum" "ordinal" "I" (.int (0 : Int32)) := B.2.2.1
theorem own_p3 {Z : State} {A : Nat → Addr} (B : own_P Z A) : Fld Z Z.heap (A 0) "com/example/colunata/colunata/layout/FieldType" "decimals" "I" (.int (0 : Int32)) := B.2.2.2.1
theorem own_p4 {Z : State} {A : Nat → Addr} (B : own_P Z A) : Sta Z Z.heap "com/example/colunata/colunata/layout/FieldType" "N" "Lcom/example/colunata/colunata/layout/FieldType;" (.ref (A 1)) := B.2.2.2.2.1
theorem own_p5 {Z : State} {A : Nat → Addr} (B : own_P Z A) : Exa Z Z.heap (A 1) "com/example/colunata/colunata/layout/FieldType" := B.2.2.2.2.2.1
theorem own_p6 {Z : State} {A : Nat → Addr} (B : own_P Z A) : Fld Z Z.heap (A 1) "java/lang/Enum" "ordinal" "I" (.int (1 : Int32)) := B.2.2.2.2.2.2.1
theorem own_p7 {Z : State} {A : Nat → Addr} (B : own_P Z A) : Fld Z Z.heap (A 1) "com/example/colunata/colunata/layout/FieldType" "decimals" "I" (.int (0 : Int32)) := B.2.2.2.2.2.2.2.1
theorem own_p8 {Z : State} {A : Nat → Addr} (B : own_P Z A) : Sta Z Z.heap "com/example/colunata/colunata/layout/FieldType" "N1" "Lcom/example/colunata/colunata/layout/FieldType;" (.ref (A 2)) := B.2.2.2.2.2.2.2.2.1
theorem own_p9 {Z : State} {A : Nat → Addr} (B : own_P Z A) : Exa Z Z.heap (A 2) "com/example/colunata/colunata/layout/FieldType" := B.2.2.2.2.2.2.2.2.2.1
theorem own_p10 {Z : State} {A : Nat → Addr} (B : own_P Z A) : Fld Z Z.heap (A 2) "java/lang/Enum" "ordinal" "I" (.int (2 : Int32)) := B.2.2.2.2.2.2.2.2.2.2.1
theorem own_p11 {Z : State} {A : Nat → Addr} (B : own_P Z A) : Fld Z Z.heap (A 2) "com/example/colunata/colunata/layout/FieldType" "decimals" "I" (.int (1 : Int32)) := B.2.2.2.2.2.2.2.2.2.2.2.1
theorem own_p12 {Z : State} {A : Nat → Addr} (B : own_P Z A) : Sta Z Z.heap "com/example/colunata/colunata/layout/FieldType" "N2" "Lcom/example/colunata/colunata/layout/FieldType;" (.ref (A 3)) := B.2.2.2.2.2.2.2.2.2.2.2.2.1
theorem own_p13 {Z : State} {A : Nat → Addr} (B : own_P Z A) : Exa Z Z.heap (A 3) "com/example/colunata/colunata/layout/FieldType" := B.2.2.2.2.2.2.2.2.2.2.2.2.2.1
theorem own_p14 {Z : State} {A : Nat → Addr} (B : own_P Z A) : Fld Z Z.heap (A 3) "java/lang/Enum" "ordinal" "I" (.int (3 : Int32)) := B.2.2.2.2.2.2.2.2.2.2.2.2.2.2.1
theorem own_p15 {Z : State} {A : Nat → Addr} (B : own_P Z A) : Fld Z Z.heap (A 3) "com/example/colunata/colunata/layout/FieldType" "decimals" "I" (.int (2 : Int32)) := B.2.2.2.2.2.2.2.2.2.2.2.2.2.2.2.1
theorem own_p16 {Z : State} {A : Nat → Addr} (B : own_P Z A) : Sta Z Z.heap "com/example/colunata/colunata/layout/FieldType" "N5" "Lcom/example/colunata/colunata/layout/FieldType;" (.ref (A 4)) := B.2.2.2.2.2.2.2.2.2.2.2.2.2.2.2.2.1
theorem own_p17 {Z : State} {A : Nat → Addr} (B : own_P Z A) : Exa Z Z.heap (A 4) "com/example/colunata/colunata/layout/FieldType" := B.2.2.2.2.2.2.2.2.2.2.2.2.2.2.2.2.2.1
theorem own_p18 {Z : State} {A : Nat → Addr} (B : own_P Z A) : Fld Z Z.heap (A 4) "java/lang/Enum" "ordinal" "I" (.int (4 : Int32)) := B.2.2.2.2.2.2.2.2.2.2.2.2.2.2.2.2.2.2.1
theorem own_p19 {Z : State} {A : Nat → Addr} (B : own_P Z A) : Fld Z Z.heap (A 4) "com/example/colunata/colunata/layout/FieldType" "decimals" "I" (.int (5 : Int32)) := B.2.2.2.2.2.2.2.2.2.2.2.2.2.2.2.2.2.2.2.1
theorem own_p20 {Z : State} {A : Nat → Addr} (B : own_P Z A) : Sta Z Z.heap "com/example/colunata/colunata/layout/FieldType" "D" "Lcom/example/colunata/colunata/layout/FieldType;" (.ref (A 5)) := B.2.2.2.2.2.2.2.2.2.2.2.2.2.2.2.2.2.2.2.2.1
theorem own_p21 {Z : State} {A : Nat → Addr} (B : own_P Z A) : Exa Z Z.heap (A 5) "com/example/colunata/colunata/layout/FieldType" := B.2.2.2.2.2.2.2.2.2.2.2.2.2.2.2.2.2.2.2.2.2.1
theorem own_p22 {Z : State} {A : Nat → Addr} (B : own_P Z A) : Fld Z Z.heap (A 5) "java/lang/Enum" "ordinal" "I" (.int (5 : Int32)) := B.2.2.2.2.2.2.2.2.2.2.2.2.2.2.2.2.2.2.2.2.2.2.1
theorem own_p23 {Z : State} {A : Nat → Addr} (B : own_P Z A) : Fld Z Z.heap (A 5) "com/example/colunata/colunata/layout/FieldType" "decimals" "I" (.int (0 : Int32)) := B.2.2.2.2.2.2.2.2.2.2.2.2.2.2.2.2.2.2.2.2.2.2.2.1
theorem own_p24 {Z : State} {A : Nat → Addr} (B : own_P Z A) : Sta Z Z.heap "com/example/colunata/colunata/layout/FieldType" "D6" "Lcom/example/colunata/colunata/layout/FieldType;" (.ref (A 6)) := B.2.2.2.2.2.2.2.2.2.2.2.2.2.2.2.2.2.2.2.2.2.2.2.2.1
theorem own_p25 {Z : State} {A : Nat → Addr} (B : own_P Z A) : Exa Z Z.heap (A 6) "com/example/colunata/colunata/layout/FieldType" := B.2.2.2.2.2.2.2.2.2.2.2.2.2.2.2.2.2.2.2.2.2.2.2.2.2.1
theorem own_p26 {Z : State} {A : Nat → Addr} (B : own_P Z A) : Fld Z Z.heap (A 6) "java/lang/Enum" "ordinal" "I" (.int (6 : Int32)) := B.2.2.2.2.2.2.2.2.2.2.2.2.2.2.2.2.2.2.2.2.2.2.2.2.2.2.1
theorem own_p27 {Z : State} {A : Nat → Addr} (B : own_P Z A) : Fld Z Z.heap (A 6) "com/example/colunata/colunata/layout/FieldType" "decimals" "I" (.int (0 : Int32)) := B.2.2.2.2.2.2.2.2.2.2.2.2.2.2.2.2.2.2.2.2.2.2.2.2.2.2.2
theorem own_ne_0_3 {Z : State} {A : Nat → Addr} (B : own_P Z A) : ¬ ((Value.ref (A 0)) = .ref (A 3)) := fun q => Fld.ne (own_p2 B) (own_p14 B) (fun r => absurd (Value.int.inj r) (by decide)) (Value.ref.inj q)
theorem own_ne_0_4 {Z : State} {A : Nat → Addr} (B : own_P Z A) : ¬ ((Value.ref (A 0)) = .ref (A 4)) := fun q => Fld.ne (own_p2 B) (own_p18 B) (fun r => absurd (Value.int.inj r) (by decide)) (Value.ref.inj q)
theorem own_ne_1_3 {Z : State} {A : Nat → Addr} (B : own_P Z A) : ¬ ((Value.ref (A 1)) = .ref (A 3)) := fun q => Fld.ne (own_p6 B) (own_p14 B) (fun r => absurd (Value.int.inj r) (by decide)) (Value.ref.inj q)
theorem own_ne_1_4 {Z : State} {A : Nat → Addr} (B : own_P Z A) : ¬ ((Value.ref (A 1)) = .ref (A 4)) := fun q => Fld.ne (own_p6 B) (own_p18 B) (fun r => absurd (Value.int.inj r) (by decide)) (Value.ref.inj q)
theorem own_ne_2_3 {Z : State} {A : Nat → Addr} (B : own_P Z A) : ¬ ((Value.ref (A 2)) = .ref (A 3)) := fun q => Fld.ne (own_p10 B) (own_p14 B) (fun r => absurd (Value.int.inj r) (by decide)) (Value.ref.inj q)
theorem own_ne_2_4 {Z : State} {A : Nat → Addr} (B : own_P Z A) : ¬ ((Value.ref (A 2)) = .ref (A 4)) := fun q => Fld.ne (own_p10 B) (own_p18 B) (fun r => absurd (Value.int.inj r) (by decide)) (Value.ref.inj q)
theorem own_ne_4_3 {Z : State} {A : Nat → Addr} (B : own_P Z A) : ¬ ((Value.ref (A 4)) = .ref (A 3)) := fun q => Fld.ne (own_p18 B) (own_p14 B) (fun r => absurd (Value.int.inj r) (by decide)) (Value.ref.inj q)
theorem own_ne_5_3 {Z : State} {A : Nat → Addr} (B : own_P Z A) : ¬ ((Value.ref (A 5)) = .ref (A 3)) := fun q => Fld.ne (own_p22 B) (own_p14 B) (fun r => absurd (Value.int.inj r) (by decide)) (Value.ref.inj q)
theorem own_ne_5_4 {Z : State} {A : Nat → Addr} (B : own_P Z A) : ¬ ((Value.ref (A 5)) = .ref (A 4)) := fun q => Fld.ne (own_p22 B) (own_p18 B) (fun r => absurd (Value.int.inj r) (by decide)) (Value.ref.inj q)
theorem own_ne_6_3 {Z : State} {A : Nat → Addr} (B : own_P Z A) : ¬ ((Value.ref (A 6)) = .ref (A 3)) := fun q => Fld.ne (own_p26 B) (own_p14 B) (fun r => absurd (Value.int.inj r) (by decide)) (Value.ref.inj q)
theorem own_ne_6_4 {Z : State} {A : Nat → Addr} (B : own_P Z A) : ¬ ((Value.ref (A 6)) = .ref (A 4)) := fun q => Fld.ne (own_p26 B) (own_p18 B) (fun r => absurd (Value.int.inj r) (by decide)) (Value.ref.inj q)
set_option maxRecDepth 65536 in
theorem own_start {s : State} {a0 : Array Value} (hw : ∀ d ∈ tables_1, d.before a0 s = true) (hF : Fit s) (hn : narrow_1.value a0 s none s [] = some true) : ∃ A, own_P s A := by
  obtain ⟨n1, n2⟩ := and_e hn
  obtain ⟨n3, n4⟩ := and_e n2
  obtain ⟨n5, n6⟩ := and_e n4
  obtain ⟨n7, n8⟩ := and_e n6
  obtain ⟨n9, n10⟩ := and_e n8
  obtain ⟨n11, n12⟩ := and_e n10
  obtain ⟨n13, n14⟩ := and_e n12
  obtain ⟨n15, n16⟩ := and_e n14
  obtain ⟨n17, n18⟩ := and_e n16
  obtain ⟨n19, n20⟩ := and_e n18
  obtain ⟨n21, n22⟩ := and_e n20
  obtain ⟨n23, n24⟩ := and_e n22
  obtain ⟨n25, n26⟩ := and_e n24
  obtain ⟨n27, n28⟩ := and_e n26
  obtain ⟨n29, n30⟩ := and_e n28
  obtain ⟨n31, n32⟩ := and_e n30
  obtain ⟨n33, n34⟩ := and_e n32
  obtain ⟨n35, n36⟩ := and_e n34
  obtain ⟨n37, n38⟩ := and_e n36
  obtain ⟨n39, n40⟩ := and_e n38
  obtain ⟨a0, e0⟩ := exa_v n1
  obtain ⟨a1, e1⟩ := exa_v n3
  obtain ⟨a2, e2⟩ := exa_v n5
  obtain ⟨a3, e3⟩ := exa_v n7
  obtain ⟨a4, e4⟩ := exa_v n9
  obtain ⟨a5, e5⟩ := exa_v n11
  obtain ⟨a6, e6⟩ := exa_v n13
  exact ⟨fun i => [a0, a1, a2, a3, a4, a5, a6].getD i 0, Sta.start e0 (Or.inr ⟨(own_w4 hw), (own_w5 hw)⟩),
    Exa.start e0 n1,
    Fld.start ((fld_at e0).symm.trans (own_eqI n15)),
    Fld.start ((fld_at e0).symm.trans (own_eqI n33)),
    Sta.start e1 (Or.inr ⟨(own_w4 hw), (own_w8 hw)⟩),
    Exa.start e1 n3,
    Fld.start ((fld_at e1).symm.trans (own_eqI n31)),
    Fld.start ((fld_at e1).symm.trans (own_eqI n35)),
    Sta.start e2 (Or.inr ⟨(own_w4 hw), (own_w10 hw)⟩),
    Exa.start e2 n5,
    Fld.start ((fld_at e2).symm.trans (own_eqI n29)),
    Fld.start ((fld_at e2).symm.trans (own_eqI n37)),
    Sta.start e3 (Or.inr ⟨(own_w4 hw), (own_w12 hw)⟩),
    Exa.start e3 n7,
    Fld.start ((fld_at e3).symm.trans (own_eqI n17)),
    Fld.start ((fld_at e3).symm.trans (own_eqI n21)),
    Sta.start e4 (Or.inr ⟨(own_w4 hw), (own_w14 hw)⟩),
    Exa.start e4 n9,
    Fld.start ((fld_at e4).symm.trans (own_eqI n19)),
    Fld.start ((fld_at e4).symm.trans (own_eqI n27)),
    Sta.start e5 (Or.inr ⟨(own_w4 hw), (own_w16 hw)⟩),
    Exa.start e5 n11,
    Fld.start ((fld_at e5).symm.trans (own_eqI n23)),
    Fld.start ((fld_at e5).symm.trans (own_eqI n39)),
    Sta.start e6 (Or.inr ⟨(own_w4 hw), (own_w18 hw)⟩),
    Exa.start e6 n13,
    Fld.start ((fld_at e6).symm.trans (own_eqI n25)),
    Fld.start ((fld_at e6).symm.trans (own_eqI n40))⟩
theorem own_and (x : Int32) (k : Nat) (hk : k < 31) : ∃ i : Nat, i < 2 ^ k ∧ x &&& Int32.ofNat (2 ^ k - 1) = Int32.ofNat i := by
  have hp : (2 : Nat) ^ k ≤ 2 ^ 30 := Nat.pow_le_pow_right (by decide) (by omega)
  have hpos : 0 < (2 : Nat) ^ k := Nat.pow_pos (by decide)
  have e1 : (x &&& Int32.ofNat (2 ^ k - 1)).toInt = x.toInt % 2 ^ k := Jvm.Kit.i32_mask x _ (by omega) (by
    show (BitVec.ofNat 32 (2 ^ k - 1)).toNat = _
    rw [BitVec.toNat_ofNat, Nat.mod_eq_of_lt (by omega)])
  have hz : (0 : Int) < 2 ^ k := by exact_mod_cast hpos
  have h1 := Int.emod_nonneg x.toInt (Int.ne_of_gt hz)
  have h2 := Int.emod_lt_of_pos x.toInt hz
  have h3 : ((2 ^ k : Nat) : Int) = 2 ^ k := by simp
  refine ⟨(x.toInt % 2 ^ k).toNat, by omega, ?_⟩
  rw [← Int32.toInt_inj, e1, Int32.toInt_ofNat_small (by omega)]
  omega
theorem own_rem (x : Int32) (n : Nat) (hn : 0 < n) (hn' : n < 2 ^ 31) : ∃ i : Nat, i < n ∧ (x &&& 2147483647) % Int32.ofNat n = Int32.ofNat i := by
  have e1 : (x &&& 2147483647).toInt = x.toInt % 2 ^ 31 := Jvm.Kit.i32_mask x 2147483647 (k := 31) (by decide) (by decide)
  have e2 : (Int32.ofNat n).toInt = n := Int32.toInt_ofNat_small hn'
  have h1 : 0 ≤ x.toInt % 2 ^ 31 := Int.emod_nonneg _ (by decide)
  have hz : (0 : Int) < n := by omega
  have h4 := Int.emod_nonneg (x.toInt % 2 ^ 31) (Int.ne_of_gt hz)
  have h5 := Int.emod_lt_of_pos (x.toInt % 2 ^ 31) hz
  refine ⟨(x.toInt % 2 ^ 31 % n).toNat, by omega, ?_⟩
  rw [← Int32.toInt_inj, Jvm.Kit.i32_rem_nonneg (by omega), e1, e2, Int32.toInt_ofNat_small (by omega)]
  omega
theorem own_rem7 (x : Int32) : (x &&& (2147483647 : Int32)) % (7 : Int32) = (0 : Int32) ∨ (x &&& (2147483647 : Int32)) % (7 : Int32) = (1 : Int32) ∨ (x &&& (2147483647 : Int32)) % (7 : Int32) = (2 : Int32) ∨ (x &&& (2147483647 : Int32)) % (7 : Int32) = (3 : Int32) ∨ (x &&& (2147483647 : Int32)) % (7 : Int32) = (4 : Int32) ∨ (x &&& (2147483647 : Int32)) % (7 : Int32) = (5 : Int32) ∨ (x &&& (2147483647 : Int32)) % (7 : Int32) = (6 : Int32) := by
  obtain ⟨i, hi, q⟩ := own_rem x 7 (by decide) (by decide)
  have hc : i = 0 ∨ i = 1 ∨ i = 2 ∨ i = 3 ∨ i = 4 ∨ i = 5 ∨ i = 6 := by omega
  rcases hc with rfl | rfl | rfl | rfl | rfl | rfl | rfl
  · exact Or.inl q
  · exact Or.inr (Or.inl q)
  · exact Or.inr (Or.inr (Or.inl q))
  · exact Or.inr (Or.inr (Or.inr (Or.inl q)))
  · exact Or.inr (Or.inr (Or.inr (Or.inr (Or.inl q))))
  · exact Or.inr (Or.inr (Or.inr (Or.inr (Or.inr (Or.inl q)))))
  · exact Or.inr (Or.inr (Or.inr (Or.inr (Or.inr (Or.inr (q))))))
set_option maxRecDepth 65536 in
set_option maxHeartbeats 40000000 in
theorem own_c0 (l : Launch) (Z : State) (a0 : Array Value) (hw : ∀ d ∈ tables_1, d.before a0 Z = true) (A : Nat → Addr) (B : own_P Z A) (h0 : Heap) (n0 : Nat) (O : Old Z n0 h0) (a0r : Addr) (hq0 : ¬ (((.ref a0r) : Value) = (.ref (A 3)))) (hq1 : ¬ (((.ref a0r) : Value) = (.ref (A 4)))) : own_Met l Z (⟨"com/example/colunata/colunata/layout/FieldType", "canBeSummed", "()Z"⟩ : MethodName) prog_48_method_13_code 1 (some FieldType.boolean) [] ({ frames := 0, cells := 0, slots := 0, locals := 0 } : Room) 0 0 #[(.ref a0r)] h0 (own_Q (some (.int (0 : Int32))) n0 fun h => h = h0) := by
  refine own_enter own_pn0 (fun m => own_ef0 m a0r) ?_
  intro p e s m below meth c C
  have N := Fr.nil n0
  refine own_aloadN C (pc' := 1) (v := (.ref a0r)) d1_0 rfl rfl rfl ?_
  refine own_getS C (pc' := 4) (own_w24 hw) (Sta.ext O.2 (own_p12 B)) d1_1 rfl ?_
  refine own_acmp C (pc' := 7) (same := false) d1_4 rfl rfl (decide_eq_false hq0) (by decide) (by decide) ?_
  refine own_aloadN C (pc' := 8) (v := (.ref a0r)) d1_7 rfl rfl rfl ?_
  refine own_getS C (pc' := 11) (own_w25 hw) (Sta.ext O.2 (own_p16 B)) d1_8 rfl ?_
  refine own_acmp C (pc' := 18) (same := false) d1_11 rfl rfl (decide_eq_false hq1) (by decide) (by decide) ?_
  refine own_iconst C (pc' := 19) (v := (0 : Int32)) d1_18 rfl rfl ?_
  exact own_ret C d1_19 rfl (Or.inl ⟨rfl, Or.inr (Or.inl rfl), _, rfl⟩) rfl N (rfl) (by decide) (by decide)
set_option maxRecDepth 65536 in
set_option maxHeartbeats 40000000 in
theorem own_c1 (l : Launch) (Z : State) (a0 : Array Value) (hw : ∀ d ∈ tables_1, d.before a0 Z = true) (A : Nat → Addr) (B : own_P Z A) (h0 : Heap) (n0 : Nat) (O : Old Z n0 h0) (a0r : Addr) (hq0 : ((.ref a0r) : Value) = (.ref (A 3))) : own_Met l Z (⟨"com/example/colunata/colunata/layout/FieldType", "canBeSummed", "()Z"⟩ : MethodName) prog_48_method_13_code 1 (some FieldType.boolean) [] ({ frames := 0, cells := 0, slots := 0, locals := 0 } : Room) 0 0 #[(.ref a0r)] h0 (own_Q (some (.int (1 : Int32))) n0 fun h => h = h0) := by
  refine own_enter own_pn0 (fun m => own_ef0 m a0r) ?_
  intro p e s m below meth c C
  have N := Fr.nil n0
  refine own_aloadN C (pc' := 1) (v := (.ref a0r)) d1_0 rfl rfl rfl ?_
  refine own_getS C (pc' := 4) (own_w24 hw) (Sta.ext O.2 (own_p12 B)) d1_1 rfl ?_
  refine own_acmp C (pc' := 14) (same := true) d1_4 rfl rfl (decide_eq_true hq0) (by decide) (by decide) ?_
  refine own_iconst C (pc' := 15) (v := (1 : Int32)) d1_14 rfl rfl ?_
  refine own_goto C (pc' := 19) d1_15 (by decide) (by decide) ?_
  exact own_ret C d1_19 rfl (Or.inl ⟨rfl, Or.inr (Or.inl rfl), _, rfl⟩) rfl N (rfl) (by decide) (by decide)
set_option maxRecDepth 65536 in
set_option maxHeartbeats 40000000 in
theorem own_c2 (l : Launch) (Z : State) (a0 : Array Value) (hw : ∀ d ∈ tables_1, d.before a0 Z = true) (A : Nat → Addr) (B : own_P Z A) (h0 : Heap) (n0 : Nat) (O : Old Z n0 h0) (a0r : Addr) (F_a0r_decimals : Fld Z h0 a0r "com/example/colunata/colunata/layout/FieldType" "decimals" "I" (.int (2 : Int32))) : own_Met l Z (⟨"com/example/colunata/colunata/layout/FieldType", "decimals", "()I"⟩ : MethodName) prog_48_method_14_code 1 (some FieldType.int) [] ({ frames := 0, cells := 0, slots := 0, locals := 0 } : Room) 0 0 #[(.ref a0r)] h0 (own_Q (some (.int (2 : Int32))) n0 fun h => h = h0) := by
  refine own_enter own_pn0 (fun m => own_ef0 m a0r) ?_
  intro p e s m below meth c C
  have N := Fr.nil n0
  refine own_aloadN C (pc' := 1) (v := (.ref a0r)) d2_0 rfl rfl rfl ?_
  refine own_getF C (pc' := 4) (host := "") (Or.inl (own_w31 hw)) F_a0r_decimals d2_1 rfl ?_
  exact own_ret C d2_4 rfl (Or.inl ⟨rfl, Or.inl rfl, _, rfl⟩) rfl N (rfl) (by decide) (by decide)
set_option maxRecDepth 65536 in
set_option maxHeartbeats 40000000 in
theorem own_c3 (l : Launch) (Z : State) (a0 : Array Value) (hw : ∀ d ∈ tables_1, d.before a0 Z = true) (A : Nat → Addr) (B : own_P Z A) (h0 : Heap) (n0 : Nat) (O : Old Z n0 h0) (a0r : Addr) (hq0 : ¬ (((.ref a0r) : Value) = (.ref (A 3)))) (hq1 : ((.ref a0r) : Value) = (.ref (A 4))) : own_Met l Z (⟨"com/example/colunata/colunata/layout/FieldType", "canBeSummed", "()Z"⟩ : MethodName) prog_48_method_13_code 1 (some FieldType.boolean) [] ({ frames := 0, cells := 0, slots := 0, locals := 0 } : Room) 0 0 #[(.ref a0r)] h0 (own_Q (some (.int (1 : Int32))) n0 fun h => h = h0) := by
  refine own_enter own_pn0 (fun m => own_ef0 m a0r) ?_
  intro p e s m below meth c C
  have N := Fr.nil n0
  refine own_aloadN C (pc' := 1) (v := (.ref a0r)) d1_0 rfl rfl rfl ?_
  refine own_getS C (pc' := 4) (own_w24 hw) (Sta.ext O.2 (own_p12 B)) d1_1 rfl ?_
  refine own_acmp C (pc' := 7) (same := false) d1_4 rfl rfl (decide_eq_false hq0) (by decide) (by decide) ?_
  refine own_aloadN C (pc' := 8) (v := (.ref a0r)) d1_7 rfl rfl rfl ?_
  refine own_getS C (pc' := 11) (own_w25 hw) (Sta.ext O.2 (own_p16 B)) d1_8 rfl ?_
  refine own_acmp C (pc' := 14) (same := true) d1_11 rfl rfl (decide_eq_true hq1) (by decide) (by decide) ?_
  refine own_iconst C (pc' := 15) (v := (1 : Int32)) d1_14 rfl rfl ?_
  refine own_goto C (pc' := 19) d1_15 (by decide) (by decide) ?_
  exact own_ret C d1_19 rfl (Or.inl ⟨rfl, Or.inr (Or.inl rfl), _, rfl⟩) rfl N (rfl) (by decide) (by decide)
set_option maxRecDepth 65536 in
set_option maxHeartbeats 40000000 in
theorem own_c4 (l : Launch) (Z : State) (a0 : Array Value) (hw : ∀ d ∈ tables_1, d.before a0 Z = true) (A : Nat → Addr) (B : own_P Z A) (h0 : Heap) (n0 : Nat) (O : Old Z n0 h0) (a0r : Addr) (F_a0r_decimals : Fld Z h0 a0r "com/example/colunata/colunata/layout/FieldType" "decimals" "I" (.int (5 : Int32))) : own_Met l Z (⟨"com/example/colunata/colunata/layout/FieldType", "decimals", "()I"⟩ : MethodName) prog_48_method_14_code 1 (some FieldType.int) [] ({ frames := 0, cells := 0, slots := 0, locals := 0 } : Room) 0 0 #[(.ref a0r)] h0 (own_Q (some (.int (5 : Int32))) n0 fun h => h = h0) := by
  refine own_enter own_pn0 (fun m => own_ef0 m a0r) ?_
  intro p e s m below meth c C
  have N := Fr.nil n0
  refine own_aloadN C (pc' := 1) (v := (.ref a0r)) d2_0 rfl rfl rfl ?_
  refine own_getF C (pc' := 4) (host := "") (Or.inl (own_w31 hw)) F_a0r_decimals d2_1 rfl ?_
  exact own_ret C d2_4 rfl (Or.inl ⟨rfl, Or.inl rfl, _, rfl⟩) rfl N (rfl) (by decide) (by decide)
set_option maxRecDepth 65536 in
set_option maxHeartbeats 400000000 in
theorem own_law (l : Launch) (Z : State) (a0 : Array Value) (hw : ∀ d ∈ tables_1, d.before a0 Z = true) (A : Nat → Addr) (B : own_P Z A) (h0 : Heap) (n0 : Nat) (O : Old Z n0 h0) (p0 : Int32) : own_Met l Z x code maxLocals ret tables_1 room_1 16 128 #[(.int p0)] h0 (own_Q (some (.int (1 : Int32))) n0 fun _ => True) := by
  refine own_enter (y := x) own_pn1 (fun m => own_ef1 m p0) ?_
  intro p e s m below meth c C
  have N := Fr.nil n0
  replace C : own_Cx p s m meth c Z "com/example/colunata/colunata/layout/FieldTypeCanBeSummedPinLaw" code 6 (some FieldType.boolean) "law" := C
  refine own_iloadN C (pc' := 1) (v := p0) at_0 rfl rfl ?_
  refine own_ldc C (pc' := 3) (own_w0 hw) at_1 rfl ?_
  refine own_iand C (pc' := 4) (z := (p0 &&& (2147483647 : Int32))) at_3 rfl rfl ?_
  refine own_bipush C (pc' := 6) (v := (7 : Int32)) at_4 rfl rfl ?_
  refine own_irem C (pc' := 7) (z := ((p0 &&& (2147483647 : Int32)) % (7 : Int32))) at_6 (by decide) rfl rfl ?_
  rcases own_rem7 p0 with es1 | es1 | es1 | es1 | es1 | es1 | es1
  · rw [es1]
    refine own_istoreN C (pc' := 8) (Ls' := #[.val (.int p0), .val (.int (0 : Int32)), .unset, .unset, .unset, .unset]) at_7 rfl rfl ?_
    refine own_bipush C (pc' := 10) (v := (7 : Int32)) at_8 rfl rfl ?_
    refine own_newR C (pc' := 13) (cap := 7) (vs := [.null, .null, .null, .null, .null, .null, .null]) (own_w1 hw) (own_w2 hw) at_10 rfl (by decide) (by decide) (by decide) (by decide) (by decide) rfl rfl rfl ?_
    intro h2 b2 k_b2 qb2 Eb2 V_b2 Ov_b2
    have g_b2 : n0 ≤ b2 := by rw [qb2]; exact own_ge O
    have O := O.ext Eb2
    refine own_dup C (pc' := 14) at_13 rfl rfl ?_
    refine own_iconst C (pc' := 15) (v := (0 : Int32)) at_14 rfl rfl ?_
    refine own_getS C (pc' := 18) (own_w3 hw) (Sta.ext O.2 (own_p0 B)) at_15 rfl ?_
    refine own_stR C (pc' := 19) (vs' := [(.ref (A 0)), .null, .null, .null, .null, .null, .null]) V_b2 Ov_b2 ⟨by decide, by decide⟩ (i := 0) rfl (Nat.le_of_ble_eq_true rfl) rfl (Or.inr ⟨_, rfl, Ins.self (Exa.ext O.2 (own_p1 B))⟩) at_18 rfl N g_b2 ?_
    intro h3 locs Wh3 V1 N
    have O := O.wr Wh3 g_b2
    have V_b2 := V1
    refine own_dup C (pc' := 20) at_19 rfl rfl ?_
    refine own_iconst C (pc' := 21) (v := (1 : Int32)) at_20 rfl rfl ?_
    refine own_getS C (pc' := 24) (own_w7 hw) (Sta.ext O.2 (own_p4 B)) at_21 rfl ?_
    refine own_stR C (pc' := 25) (vs' := [(.ref (A 0)), (.ref (A 1)), .null, .null, .null, .null, .null]) V_b2 Ov_b2 ⟨by decide, by decide⟩ (i := 1) rfl (Nat.le_of_ble_eq_true rfl) rfl (Or.inr ⟨_, rfl, Ins.self (Exa.ext O.2 (own_p5 B))⟩) at_24 rfl N g_b2 ?_
    intro h4 locs Wh4 V1 N
    have O := O.wr Wh4 g_b2
    have V_b2 := V1
    refine own_dup C (pc' := 26) at_25 rfl rfl ?_
    refine own_iconst C (pc' := 27) (v := (2 : Int32)) at_26 rfl rfl ?_
    refine own_getS C (pc' := 30) (own_w9 hw) (Sta.ext O.2 (own_p8 B)) at_27 rfl ?_
    refine own_stR C (pc' := 31) (vs' := [(.ref (A 0)), (.ref (A 1)), (.ref (A 2)), .null, .null, .null, .null]) V_b2 Ov_b2 ⟨by decide, by decide⟩ (i := 2) rfl (Nat.le_of_ble_eq_true rfl) rfl (Or.inr ⟨_, rfl, Ins.self (Exa.ext O.2 (own_p9 B))⟩) at_30 rfl N g_b2 ?_
    intro h5 locs Wh5 V1 N
    have O := O.wr Wh5 g_b2
    have V_b2 := V1
    refine own_dup C (pc' := 32) at_31 rfl rfl ?_
    refine own_iconst C (pc' := 33) (v := (3 : Int32)) at_32 rfl rfl ?_
    refine own_getS C (pc' := 36) (own_w11 hw) (Sta.ext O.2 (own_p12 B)) at_33 rfl ?_
    refine own_stR C (pc' := 37) (vs' := [(.ref (A 0)), (.ref (A 1)), (.ref (A 2)), (.ref (A 3)), .null, .null, .null]) V_b2 Ov_b2 ⟨by decide, by decide⟩ (i := 3) rfl (Nat.le_of_ble_eq_true rfl) rfl (Or.inr ⟨_, rfl, Ins.self (Exa.ext O.2 (own_p13 B))⟩) at_36 rfl N g_b2 ?_
    intro h6 locs Wh6 V1 N
    have O := O.wr Wh6 g_b2
    have V_b2 := V1
    refine own_dup C (pc' := 38) at_37 rfl rfl ?_
    refine own_iconst C (pc' := 39) (v := (4 : Int32)) at_38 rfl rfl ?_
    refine own_getS C (pc' := 42) (own_w13 hw) (Sta.ext O.2 (own_p16 B)) at_39 rfl ?_
    refine own_stR C (pc' := 43) (vs' := [(.ref (A 0)), (.ref (A 1)), (.ref (A 2)), (.ref (A 3)), (.ref (A 4)), .null, .null]) V_b2 Ov_b2 ⟨by decide, by decide⟩ (i := 4) rfl (Nat.le_of_ble_eq_true rfl) rfl (Or.inr ⟨_, rfl, Ins.self (Exa.ext O.2 (own_p17 B))⟩) at_42 rfl N g_b2 ?_
    intro h7 locs Wh7 V1 N
    have O := O.wr Wh7 g_b2
    have V_b2 := V1
    refine own_dup C (pc' := 44) at_43 rfl rfl ?_
    refine own_iconst C (pc' := 45) (v := (5 : Int32)) at_44 rfl rfl ?_
    refine own_getS C (pc' := 48) (own_w15 hw) (Sta.ext O.2 (own_p20 B)) at_45 rfl ?_
    refine own_stR C (pc' := 49) (vs' := [(.ref (A 0)), (.ref (A 1)), (.ref (A 2)), (.ref (A 3)), (.ref (A 4)), (.ref (A 5)), .null]) V_b2 Ov_b2 ⟨by decide, by decide⟩ (i := 5) rfl (Nat.le_of_ble_eq_true rfl) rfl (Or.inr ⟨_, rfl, Ins.self (Exa.ext O.2 (own_p21 B))⟩) at_48 rfl N g_b2 ?_
    intro h8 locs Wh8 V1 N
    have O := O.wr Wh8 g_b2
    have V_b2 := V1
    refine own_dup C (pc' := 50) at_49 rfl rfl ?_
    refine own_bipush C (pc' := 52) (v := (6 : Int32)) at_50 rfl rfl ?_
    refine own_getS C (pc' := 55) (own_w17 hw) (Sta.ext O.2 (own_p24 B)) at_52 rfl ?_
    refine own_stR C (pc' := 56) (vs' := [(.ref (A 0)), (.ref (A 1)), (.ref (A 2)), (.ref (A 3)), (.ref (A 4)), (.ref (A 5)), (.ref (A 6))]) V_b2 Ov_b2 ⟨by decide, by decide⟩ (i := 6) rfl (Nat.le_of_ble_eq_true rfl) rfl (Or.inr ⟨_, rfl, Ins.self (Exa.ext O.2 (own_p25 B))⟩) at_55 rfl N g_b2 ?_
    intro h9 locs Wh9 V1 N
    have O := O.wr Wh9 g_b2
    have V_b2 := V1
    refine own_astoreN C (pc' := 57) (Ls' := #[.val (.int p0), .val (.int (0 : Int32)), .val (.ref b2), .unset, .unset, .unset]) at_56 rfl rfl rfl ?_
    refine own_aloadN C (pc' := 58) (v := (.ref b2)) at_57 rfl rfl rfl ?_
    refine own_iloadN C (pc' := 59) (v := (0 : Int32)) at_58 rfl rfl ?_
    refine own_aaload C (pc' := 60) (v := (.ref (A 0))) V_b2 rfl ⟨by decide, by decide⟩ rfl at_59 rfl ?_
    refine own_astoreN C (pc' := 61) (Ls' := #[.val (.int p0), .val (.int (0 : Int32)), .val (.ref b2), .val (.ref (A 0)), .unset, .unset]) at_60 rfl rfl rfl ?_
    refine own_iloadN C (pc' := 62) (v := (0 : Int32)) at_61 rfl rfl ?_
    refine own_iconst C (pc' := 63) (v := (3 : Int32)) at_62 rfl rfl ?_
    refine own_icmpN C (pc' := 66) at_63 (XT.ii_eq_f (by decide)) rfl ?_
    refine own_iloadN C (pc' := 67) (v := (0 : Int32)) at_66 rfl rfl ?_
    refine own_iconst C (pc' := 68) (v := (4 : Int32)) at_67 rfl rfl ?_
    refine own_icmpY C (pc' := 75) at_68 (XT.ii_ne_t (by decide)) (by decide) (by decide) ?_
    refine own_iconst C (pc' := 76) (v := (0 : Int32)) at_75 rfl rfl ?_
    refine own_istore C (pc' := 78) (Ls' := #[.val (.int p0), .val (.int (0 : Int32)), .val (.ref b2), .val (.ref (A 0)), .val (.int (0 : Int32)), .unset]) at_76 rfl rfl ?_
    refine own_aloadN C (pc' := 79) (v := (.ref (A 0))) at_78 rfl rfl rfl ?_
    refine own_callV C (pc' := 82) (W := 0) (argsL := []) (rest := []) (st' := [(.int (0 : Int32))]) (cells' := 1) (slots' := 7) (own_w19 hw) (own_w20 hw) (own_w22 hw) (own_w21 hw) (own_w4 hw) (own_w23 hw) (by decide) (Exa.ext O.2 (own_p1 B)) (own_c0 l Z a0 hw A B h9 n0 O (A 0) (own_ne_0_3 B) (own_ne_0_4 B)) (by decide) (by decide) (lenOf own_pd0 rfl) rfl (Nat.le_of_eq rfl) rfl at_79 rfl (by decide) (by decide) rfl rfl rfl N (own_pure fun locs N => ?_)
    refine own_istore C (pc' := 84) (Ls' := #[.val (.int p0), .val (.int (0 : Int32)), .val (.ref b2), .val (.ref (A 0)), .val (.int (0 : Int32)), .val (.int (0 : Int32))]) at_82 rfl rfl ?_
    refine own_iload C (pc' := 86) (v := (0 : Int32)) at_84 rfl rfl ?_
    refine own_iload C (pc' := 88) (v := (0 : Int32)) at_86 rfl rfl ?_
    refine own_icmpN C (pc' := 91) at_88 (XT.ii_ne_f (by decide)) rfl ?_
    refine own_iload C (pc' := 93) (v := (0 : Int32)) at_91 rfl rfl ?_
    refine own_ifY C (pc' := 104) at_93 (XT.i0_eq_t (by decide)) (by decide) (by decide) ?_
    refine own_iconst C (pc' := 105) (v := (1 : Int32)) at_104 rfl rfl ?_
    refine own_goto C (pc' := 109) at_105 (by decide) (by decide) ?_
    exact own_ret C at_109 rfl (Or.inl ⟨rfl, Or.inr (Or.inl rfl), _, rfl⟩) rfl N (trivial) (by decide) (by decide)
  · rw [es1]
    refine own_istoreN C (pc' := 8) (Ls' := #[.val (.int p0), .val (.int (1 : Int32)), .unset, .unset, .unset, .unset]) at_7 rfl rfl ?_
    refine own_bipush C (pc' := 10) (v := (7 : Int32)) at_8 rfl rfl ?_
    refine own_newR C (pc' := 13) (cap := 7) (vs := [.null, .null, .null, .null, .null, .null, .null]) (own_w1 hw) (own_w2 hw) at_10 rfl (by decide) (by decide) (by decide) (by decide) (by decide) rfl rfl rfl ?_
    intro h2 b2 k_b2 qb2 Eb2 V_b2 Ov_b2
    have g_b2 : n0 ≤ b2 := by rw [qb2]; exact own_ge O
    have O := O.ext Eb2
    refine own_dup C (pc' := 14) at_13 rfl rfl ?_
    refine own_iconst C (pc' := 15) (v := (0 : Int32)) at_14 rfl rfl ?_
    refine own_getS C (pc' := 18) (own_w3 hw) (Sta.ext O.2 (own_p0 B)) at_15 rfl ?_
    refine own_stR C (pc' := 19) (vs' := [(.ref (A 0)), .null, .null, .null, .null, .null, .null]) V_b2 Ov_b2 ⟨by decide, by decide⟩ (i := 0) rfl (Nat.le_of_ble_eq_true rfl) rfl (Or.inr ⟨_, rfl, Ins.self (Exa.ext O.2 (own_p1 B))⟩) at_18 rfl N g_b2 ?_
    intro h3 locs Wh3 V1 N
    have O := O.wr Wh3 g_b2
    have V_b2 := V1
    refine own_dup C (pc' := 20) at_19 rfl rfl ?_
    refine own_iconst C (pc' := 21) (v := (1 : Int32)) at_20 rfl rfl ?_
    refine own_getS C (pc' := 24) (own_w7 hw) (Sta.ext O.2 (own_p4 B)) at_21 rfl ?_
    refine own_stR C (pc' := 25) (vs' := [(.ref (A 0)), (.ref (A 1)), .null, .null, .null, .null, .null]) V_b2 Ov_b2 ⟨by decide, by decide⟩ (i := 1) rfl (Nat.le_of_ble_eq_true rfl) rfl (Or.inr ⟨_, rfl, Ins.self (Exa.ext O.2 (own_p5 B))⟩) at_24 rfl N g_b2 ?_
    intro h4 locs Wh4 V1 N
    have O := O.wr Wh4 g_b2
    have V_b2 := V1
    refine own_dup C (pc' := 26) at_25 rfl rfl ?_
    refine own_iconst C (pc' := 27) (v := (2 : Int32)) at_26 rfl rfl ?_
    refine own_getS C (pc' := 30) (own_w9 hw) (Sta.ext O.2 (own_p8 B)) at_27 rfl ?_
    refine own_stR C (pc' := 31) (vs' := [(.ref (A 0)), (.ref (A 1)), (.ref (A 2)), .null, .null, .null, .null]) V_b2 Ov_b2 ⟨by decide, by decide⟩ (i := 2) rfl (Nat.le_of_ble_eq_true rfl) rfl (Or.inr ⟨_, rfl, Ins.self (Exa.ext O.2 (own_p9 B))⟩) at_30 rfl N g_b2 ?_
    intro h5 locs Wh5 V1 N
    have O := O.wr Wh5 g_b2
    have V_b2 := V1
    refine own_dup C (pc' := 32) at_31 rfl rfl ?_
    refine own_iconst C (pc' := 33) (v := (3 : Int32)) at_32 rfl rfl ?_
    refine own_getS C (pc' := 36) (own_w11 hw) (Sta.ext O.2 (own_p12 B)) at_33 rfl ?_
    refine own_stR C (pc' := 37) (vs' := [(.ref (A 0)), (.ref (A 1)), (.ref (A 2)), (.ref (A 3)), .null, .null, .null]) V_b2 Ov_b2 ⟨by decide, by decide⟩ (i := 3) rfl (Nat.le_of_ble_eq_true rfl) rfl (Or.inr ⟨_, rfl, Ins.self (Exa.ext O.2 (own_p13 B))⟩) at_36 rfl N g_b2 ?_
    intro h6 locs Wh6 V1 N
    have O := O.wr Wh6 g_b2
    have V_b2 := V1
    refine own_dup C (pc' := 38) at_37 rfl rfl ?_
    refine own_iconst C (pc' := 39) (v := (4 : Int32)) at_38 rfl rfl ?_
    refine own_getS C (pc' := 42) (own_w13 hw) (Sta.ext O.2 (own_p16 B)) at_39 rfl ?_
    refine own_stR C (pc' := 43) (vs' := [(.ref (A 0)), (.ref (A 1)), (.ref (A 2)), (.ref (A 3)), (.ref (A 4)), .null, .null]) V_b2 Ov_b2 ⟨by decide, by decide⟩ (i := 4) rfl (Nat.le_of_ble_eq_true rfl) rfl (Or.inr ⟨_, rfl, Ins.self (Exa.ext O.2 (own_p17 B))⟩) at_42 rfl N g_b2 ?_
    intro h7 locs Wh7 V1 N
    have O := O.wr Wh7 g_b2
    have V_b2 := V1
    refine own_dup C (pc' := 44) at_43 rfl rfl ?_
    refine own_iconst C (pc' := 45) (v := (5 : Int32)) at_44 rfl rfl ?_
    refine own_getS C (pc' := 48) (own_w15 hw) (Sta.ext O.2 (own_p20 B)) at_45 rfl ?_
    refine own_stR C (pc' := 49) (vs' := [(.ref (A 0)), (.ref (A 1)), (.ref (A 2)), (.ref (A 3)), (.ref (A 4)), (.ref (A 5)), .null]) V_b2 Ov_b2 ⟨by decide, by decide⟩ (i := 5) rfl (Nat.le_of_ble_eq_true rfl) rfl (Or.inr ⟨_, rfl, Ins.self (Exa.ext O.2 (own_p21 B))⟩) at_48 rfl N g_b2 ?_
    intro h8 locs Wh8 V1 N
    have O := O.wr Wh8 g_b2
    have V_b2 := V1
    refine own_dup C (pc' := 50) at_49 rfl rfl ?_
    refine own_bipush C (pc' := 52) (v := (6 : Int32)) at_50 rfl rfl ?_
    refine own_getS C (pc' := 55) (own_w17 hw) (Sta.ext O.2 (own_p24 B)) at_52 rfl ?_
    refine own_stR C (pc' := 56) (vs' := [(.ref (A 0)), (.ref (A 1)), (.ref (A 2)), (.ref (A 3)), (.ref (A 4)), (.ref (A 5)), (.ref (A 6))]) V_b2 Ov_b2 ⟨by decide, by decide⟩ (i := 6) rfl (Nat.le_of_ble_eq_true rfl) rfl (Or.inr ⟨_, rfl, Ins.self (Exa.ext O.2 (own_p25 B))⟩) at_55 rfl N g_b2 ?_
    intro h9 locs Wh9 V1 N
    have O := O.wr Wh9 g_b2
    have V_b2 := V1
    refine own_astoreN C (pc' := 57) (Ls' := #[.val (.int p0), .val (.int (1 : Int32)), .val (.ref b2), .unset, .unset, .unset]) at_56 rfl rfl rfl ?_
    refine own_aloadN C (pc' := 58) (v := (.ref b2)) at_57 rfl rfl rfl ?_
    refine own_iloadN C (pc' := 59) (v := (1 : Int32)) at_58 rfl rfl ?_
    refine own_aaload C (pc' := 60) (v := (.ref (A 1))) V_b2 rfl ⟨by decide, by decide⟩ rfl at_59 rfl ?_
    refine own_astoreN C (pc' := 61) (Ls' := #[.val (.int p0), .val (.int (1 : Int32)), .val (.ref b2), .val (.ref (A 1)), .unset, .unset]) at_60 rfl rfl rfl ?_
    refine own_iloadN C (pc' := 62) (v := (1 : Int32)) at_61 rfl rfl ?_
    refine own_iconst C (pc' := 63) (v := (3 : Int32)) at_62 rfl rfl ?_
    refine own_icmpN C (pc' := 66) at_63 (XT.ii_eq_f (by decide)) rfl ?_
    refine own_iloadN C (pc' := 67) (v := (1 : Int32)) at_66 rfl rfl ?_
    refine own_iconst C (pc' := 68) (v := (4 : Int32)) at_67 rfl rfl ?_
    refine own_icmpY C (pc' := 75) at_68 (XT.ii_ne_t (by decide)) (by decide) (by decide) ?_
    refine own_iconst C (pc' := 76) (v := (0 : Int32)) at_75 rfl rfl ?_
    refine own_istore C (pc' := 78) (Ls' := #[.val (.int p0), .val (.int (1 : Int32)), .val (.ref b2), .val (.ref (A 1)), .val (.int (0 : Int32)), .unset]) at_76 rfl rfl ?_
    refine own_aloadN C (pc' := 79) (v := (.ref (A 1))) at_78 rfl rfl rfl ?_
    refine own_callV C (pc' := 82) (W := 0) (argsL := []) (rest := []) (st' := [(.int (0 : Int32))]) (cells' := 1) (slots' := 7) (own_w19 hw) (own_w20 hw) (own_w22 hw) (own_w21 hw) (own_w4 hw) (own_w23 hw) (by decide) (Exa.ext O.2 (own_p5 B)) (own_c0 l Z a0 hw A B h9 n0 O (A 1) (own_ne_1_3 B) (own_ne_1_4 B)) (by decide) (by decide) (lenOf own_pd0 rfl) rfl (Nat.le_of_eq rfl) rfl at_79 rfl (by decide) (by decide) rfl rfl rfl N (own_pure fun locs N => ?_)
    refine own_istore C (pc' := 84) (Ls' := #[.val (.int p0), .val (.int (1 : Int32)), .val (.ref b2), .val (.ref (A 1)), .val (.int (0 : Int32)), .val (.int (0 : Int32))]) at_82 rfl rfl ?_
    refine own_iload C (pc' := 86) (v := (0 : Int32)) at_84 rfl rfl ?_
    refine own_iload C (pc' := 88) (v := (0 : Int32)) at_86 rfl rfl ?_
    refine own_icmpN C (pc' := 91) at_88 (XT.ii_ne_f (by decide)) rfl ?_
    refine own_iload C (pc' := 93) (v := (0 : Int32)) at_91 rfl rfl ?_
    refine own_ifY C (pc' := 104) at_93 (XT.i0_eq_t (by decide)) (by decide) (by decide) ?_
    refine own_iconst C (pc' := 105) (v := (1 : Int32)) at_104 rfl rfl ?_
    refine own_goto C (pc' := 109) at_105 (by decide) (by decide) ?_
    exact own_ret C at_109 rfl (Or.inl ⟨rfl, Or.inr (Or.inl rfl), _, rfl⟩) rfl N (trivial) (by decide) (by decide)
  · rw [es1]
    refine own_istoreN C (pc' := 8) (Ls' := #[.val (.int p0), .val (.int (2 : Int32)), .unset, .unset, .unset, .unset]) at_7 rfl rfl ?_
    refine own_bipush C (pc' := 10) (v := (7 : Int32)) at_8 rfl rfl ?_
    refine own_newR C (pc' := 13) (cap := 7) (vs := [.null, .null, .null, .null, .null, .null, .null]) (own_w1 hw) (own_w2 hw) at_10 rfl (by decide) (by decide) (by decide) (by decide) (by decide) rfl rfl rfl ?_
    intro h2 b2 k_b2 qb2 Eb2 V_b2 Ov_b2
    have g_b2 : n0 ≤ b2 := by rw [qb2]; exact own_ge O
    have O := O.ext Eb2
    refine own_dup C (pc' := 14) at_13 rfl rfl ?_
    refine own_iconst C (pc' := 15) (v := (0 : Int32)) at_14 rfl rfl ?_
    refine own_getS C (pc' := 18) (own_w3 hw) (Sta.ext O.2 (own_p0 B)) at_15 rfl ?_
    refine own_stR C (pc' := 19) (vs' := [(.ref (A 0)), .null, .null, .null, .null, .null, .null]) V_b2 Ov_b2 ⟨by decide, by decide⟩ (i := 0) rfl (Nat.le_of_ble_eq_true rfl) rfl (Or.inr ⟨_, rfl, Ins.self (Exa.ext O.2 (own_p1 B))⟩) at_18 rfl N g_b2 ?_
    intro h3 locs Wh3 V1 N
    have O := O.wr Wh3 g_b2
    have V_b2 := V1
    refine own_dup C (pc' := 20) at_19 rfl rfl ?_
    refine own_iconst C (pc' := 21) (v := (1 : Int32)) at_20 rfl rfl ?_
    refine own_getS C (pc' := 24) (own_w7 hw) (Sta.ext O.2 (own_p4 B)) at_21 rfl ?_
    refine own_stR C (pc' := 25) (vs' := [(.ref (A 0)), (.ref (A 1)), .null, .null, .null, .null, .null]) V_b2 Ov_b2 ⟨by decide, by decide⟩ (i := 1) rfl (Nat.le_of_ble_eq_true rfl) rfl (Or.inr ⟨_, rfl, Ins.self (Exa.ext O.2 (own_p5 B))⟩) at_24 rfl N g_b2 ?_
    intro h4 locs Wh4 V1 N
    have O := O.wr Wh4 g_b2
    have V_b2 := V1
    refine own_dup C (pc' := 26) at_25 rfl rfl ?_
    refine own_iconst C (pc' := 27) (v := (2 : Int32)) at_26 rfl rfl ?_
    refine own_getS C (pc' := 30) (own_w9 hw) (Sta.ext O.2 (own_p8 B)) at_27 rfl ?_
    refine own_stR C (pc' := 31) (vs' := [(.ref (A 0)), (.ref (A 1)), (.ref (A 2)), .null, .null, .null, .null]) V_b2 Ov_b2 ⟨by decide, by decide⟩ (i := 2) rfl (Nat.le_of_ble_eq_true rfl) rfl (Or.inr ⟨_, rfl, Ins.self (Exa.ext O.2 (own_p9 B))⟩) at_30 rfl N g_b2 ?_
    intro h5 locs Wh5 V1 N
    have O := O.wr Wh5 g_b2
    have V_b2 := V1
    refine own_dup C (pc' := 32) at_31 rfl rfl ?_
    refine own_iconst C (pc' := 33) (v := (3 : Int32)) at_32 rfl rfl ?_
    refine own_getS C (pc' := 36) (own_w11 hw) (Sta.ext O.2 (own_p12 B)) at_33 rfl ?_
    refine own_stR C (pc' := 37) (vs' := [(.ref (A 0)), (.ref (A 1)), (.ref (A 2)), (.ref (A 3)), .null, .null, .null]) V_b2 Ov_b2 ⟨by decide, by decide⟩ (i := 3) rfl (Nat.le_of_ble_eq_true rfl) rfl (Or.inr ⟨_, rfl, Ins.self (Exa.ext O.2 (own_p13 B))⟩) at_36 rfl N g_b2 ?_
    intro h6 locs Wh6 V1 N
    have O := O.wr Wh6 g_b2
    have V_b2 := V1
    refine own_dup C (pc' := 38) at_37 rfl rfl ?_
    refine own_iconst C (pc' := 39) (v := (4 : Int32)) at_38 rfl rfl ?_
    refine own_getS C (pc' := 42) (own_w13 hw) (Sta.ext O.2 (own_p16 B)) at_39 rfl ?_
    refine own_stR C (pc' := 43) (vs' := [(.ref (A 0)), (.ref (A 1)), (.ref (A 2)), (.ref (A 3)), (.ref (A 4)), .null, .null]) V_b2 Ov_b2 ⟨by decide, by decide⟩ (i := 4) rfl (Nat.le_of_ble_eq_true rfl) rfl (Or.inr ⟨_, rfl, Ins.self (Exa.ext O.2 (own_p17 B))⟩) at_42 rfl N g_b2 ?_
    intro h7 locs Wh7 V1 N
    have O := O.wr Wh7 g_b2
    have V_b2 := V1
    refine own_dup C (pc' := 44) at_43 rfl rfl ?_
    refine own_iconst C (pc' := 45) (v := (5 : Int32)) at_44 rfl rfl ?_
    refine own_getS C (pc' := 48) (own_w15 hw) (Sta.ext O.2 (own_p20 B)) at_45 rfl ?_
    refine own_stR C (pc' := 49) (vs' := [(.ref (A 0)), (.ref (A 1)), (.ref (A 2)), (.ref (A 3)), (.ref (A 4)), (.ref (A 5)), .null]) V_b2 Ov_b2 ⟨by decide, by decide⟩ (i := 5) rfl (Nat.le_of_ble_eq_true rfl) rfl (Or.inr ⟨_, rfl, Ins.self (Exa.ext O.2 (own_p21 B))⟩) at_48 rfl N g_b2 ?_
    intro h8 locs Wh8 V1 N
    have O := O.wr Wh8 g_b2
    have V_b2 := V1
    refine own_dup C (pc' := 50) at_49 rfl rfl ?_
    refine own_bipush C (pc' := 52) (v := (6 : Int32)) at_50 rfl rfl ?_
    refine own_getS C (pc' := 55) (own_w17 hw) (Sta.ext O.2 (own_p24 B)) at_52 rfl ?_
    refine own_stR C (pc' := 56) (vs' := [(.ref (A 0)), (.ref (A 1)), (.ref (A 2)), (.ref (A 3)), (.ref (A 4)), (.ref (A 5)), (.ref (A 6))]) V_b2 Ov_b2 ⟨by decide, by decide⟩ (i := 6) rfl (Nat.le_of_ble_eq_true rfl) rfl (Or.inr ⟨_, rfl, Ins.self (Exa.ext O.2 (own_p25 B))⟩) at_55 rfl N g_b2 ?_
    intro h9 locs Wh9 V1 N
    have O := O.wr Wh9 g_b2
    have V_b2 := V1
    refine own_astoreN C (pc' := 57) (Ls' := #[.val (.int p0), .val (.int (2 : Int32)), .val (.ref b2), .unset, .unset, .unset]) at_56 rfl rfl rfl ?_
    refine own_aloadN C (pc' := 58) (v := (.ref b2)) at_57 rfl rfl rfl ?_
    refine own_iloadN C (pc' := 59) (v := (2 : Int32)) at_58 rfl rfl ?_
    refine own_aaload C (pc' := 60) (v := (.ref (A 2))) V_b2 rfl ⟨by decide, by decide⟩ rfl at_59 rfl ?_
    refine own_astoreN C (pc' := 61) (Ls' := #[.val (.int p0), .val (.int (2 : Int32)), .val (.ref b2), .val (.ref (A 2)), .unset, .unset]) at_60 rfl rfl rfl ?_
    refine own_iloadN C (pc' := 62) (v := (2 : Int32)) at_61 rfl rfl ?_
    refine own_iconst C (pc' := 63) (v := (3 : Int32)) at_62 rfl rfl ?_
    refine own_icmpN C (pc' := 66) at_63 (XT.ii_eq_f (by decide)) rfl ?_
    refine own_iloadN C (pc' := 67) (v := (2 : Int32)) at_66 rfl rfl ?_
    refine own_iconst C (pc' := 68) (v := (4 : Int32)) at_67 rfl rfl ?_
    refine own_icmpY C (pc' := 75) at_68 (XT.ii_ne_t (by decide)) (by decide) (by decide) ?_
    refine own_iconst C (pc' := 76) (v := (0 : Int32)) at_75 rfl rfl ?_
    refine own_istore C (pc' := 78) (Ls' := #[.val (.int p0), .val (.int (2 : Int32)), .val (.ref b2), .val (.ref (A 2)), .val (.int (0 : Int32)), .unset]) at_76 rfl rfl ?_
    refine own_aloadN C (pc' := 79) (v := (.ref (A 2))) at_78 rfl rfl rfl ?_
    refine own_callV C (pc' := 82) (W := 0) (argsL := []) (rest := []) (st' := [(.int (0 : Int32))]) (cells' := 1) (slots' := 7) (own_w19 hw) (own_w20 hw) (own_w22 hw) (own_w21 hw) (own_w4 hw) (own_w23 hw) (by decide) (Exa.ext O.2 (own_p9 B)) (own_c0 l Z a0 hw A B h9 n0 O (A 2) (own_ne_2_3 B) (own_ne_2_4 B)) (by decide) (by decide) (lenOf own_pd0 rfl) rfl (Nat.le_of_eq rfl) rfl at_79 rfl (by decide) (by decide) rfl rfl rfl N (own_pure fun locs N => ?_)
    refine own_istore C (pc' := 84) (Ls' := #[.val (.int p0), .val (.int (2 : Int32)), .val (.ref b2), .val (.ref (A 2)), .val (.int (0 : Int32)), .val (.int (0 : Int32))]) at_82 rfl rfl ?_
    refine own_iload C (pc' := 86) (v := (0 : Int32)) at_84 rfl rfl ?_
    refine own_iload C (pc' := 88) (v := (0 : Int32)) at_86 rfl rfl ?_
    refine own_icmpN C (pc' := 91) at_88 (XT.ii_ne_f (by decide)) rfl ?_
    refine own_iload C (pc' := 93) (v := (0 : Int32)) at_91 rfl rfl ?_
    refine own_ifY C (pc' := 104) at_93 (XT.i0_eq_t (by decide)) (by decide) (by decide) ?_
    refine own_iconst C (pc' := 105) (v := (1 : Int32)) at_104 rfl rfl ?_
    refine own_goto C (pc' := 109) at_105 (by decide) (by decide) ?_
    exact own_ret C at_109 rfl (Or.inl ⟨rfl, Or.inr (Or.inl rfl), _, rfl⟩) rfl N (trivial) (by decide) (by decide)
  · rw [es1]
    refine own_istoreN C (pc' := 8) (Ls' := #[.val (.int p0), .val (.int (3 : Int32)), .unset, .unset, .unset, .unset]) at_7 rfl rfl ?_
    refine own_bipush C (pc' := 10) (v := (7 : Int32)) at_8 rfl rfl ?_
    refine own_newR C (pc' := 13) (cap := 7) (vs := [.null, .null, .null, .null, .null, .null, .null]) (own_w1 hw) (own_w2 hw) at_10 rfl (by decide) (by decide) (by decide) (by decide) (by decide) rfl rfl rfl ?_
    intro h2 b2 k_b2 qb2 Eb2 V_b2 Ov_b2
    have g_b2 : n0 ≤ b2 := by rw [qb2]; exact own_ge O
    have O := O.ext Eb2
    refine own_dup C (pc' := 14) at_13 rfl rfl ?_
    refine own_iconst C (pc' := 15) (v := (0 : Int32)) at_14 rfl rfl ?_
    refine own_getS C (pc' := 18) (own_w3 hw) (Sta.ext O.2 (own_p0 B)) at_15 rfl ?_
    refine own_stR C (pc' := 19) (vs' := [(.ref (A 0)), .null, .null, .null, .null, .null, .null]) V_b2 Ov_b2 ⟨by decide, by decide⟩ (i := 0) rfl (Nat.le_of_ble_eq_true rfl) rfl (Or.inr ⟨_, rfl, Ins.self (Exa.ext O.2 (own_p1 B))⟩) at_18 rfl N g_b2 ?_
    intro h3 locs Wh3 V1 N
    have O := O.wr Wh3 g_b2
    have V_b2 := V1
    refine own_dup C (pc' := 20) at_19 rfl rfl ?_
    refine own_iconst C (pc' := 21) (v := (1 : Int32)) at_20 rfl rfl ?_
    refine own_getS C (pc' := 24) (own_w7 hw) (Sta.ext O.2 (own_p4 B)) at_21 rfl ?_
    refine own_stR C (pc' := 25) (vs' := [(.ref (A 0)), (.ref (A 1)), .null, .null, .null, .null, .null]) V_b2 Ov_b2 ⟨by decide, by decide⟩ (i := 1) rfl (Nat.le_of_ble_eq_true rfl) rfl (Or.inr ⟨_, rfl, Ins.self (Exa.ext O.2 (own_p5 B))⟩) at_24 rfl N g_b2 ?_
    intro h4 locs Wh4 V1 N
    have O := O.wr Wh4 g_b2
    have V_b2 := V1
    refine own_dup C (pc' := 26) at_25 rfl rfl ?_
    refine own_iconst C (pc' := 27) (v := (2 : Int32)) at_26 rfl rfl ?_
    refine own_getS C (pc' := 30) (own_w9 hw) (Sta.ext O.2 (own_p8 B)) at_27 rfl ?_
    refine own_stR C (pc' := 31) (vs' := [(.ref (A 0)), (.ref (A 1)), (.ref (A 2)), .null, .null, .null, .null]) V_b2 Ov_b2 ⟨by decide, by decide⟩ (i := 2) rfl (Nat.le_of_ble_eq_true rfl) rfl (Or.inr ⟨_, rfl, Ins.self (Exa.ext O.2 (own_p9 B))⟩) at_30 rfl N g_b2 ?_
    intro h5 locs Wh5 V1 N
    have O := O.wr Wh5 g_b2
    have V_b2 := V1
    refine own_dup C (pc' := 32) at_31 rfl rfl ?_
    refine own_iconst C (pc' := 33) (v := (3 : Int32)) at_32 rfl rfl ?_
    refine own_getS C (pc' := 36) (own_w11 hw) (Sta.ext O.2 (own_p12 B)) at_33 rfl ?_
    refine own_stR C (pc' := 37) (vs' := [(.ref (A 0)), (.ref (A 1)), (.ref (A 2)), (.ref (A 3)), .null, .null, .null]) V_b2 Ov_b2 ⟨by decide, by decide⟩ (i := 3) rfl (Nat.le_of_ble_eq_true rfl) rfl (Or.inr ⟨_, rfl, Ins.self (Exa.ext O.2 (own_p13 B))⟩) at_36 rfl N g_b2 ?_
    intro h6 locs Wh6 V1 N
    have O := O.wr Wh6 g_b2
    have V_b2 := V1
    refine own_dup C (pc' := 38) at_37 rfl rfl ?_
    refine own_iconst C (pc' := 39) (v := (4 : Int32)) at_38 rfl rfl ?_
    refine own_getS C (pc' := 42) (own_w13 hw) (Sta.ext O.2 (own_p16 B)) at_39 rfl ?_
    refine own_stR C (pc' := 43) (vs' := [(.ref (A 0)), (.ref (A 1)), (.ref (A 2)), (.ref (A 3)), (.ref (A 4)), .null, .null]) V_b2 Ov_b2 ⟨by decide, by decide⟩ (i := 4) rfl (Nat.le_of_ble_eq_true rfl) rfl (Or.inr ⟨_, rfl, Ins.self (Exa.ext O.2 (own_p17 B))⟩) at_42 rfl N g_b2 ?_
    intro h7 locs Wh7 V1 N
    have O := O.wr Wh7 g_b2
    have V_b2 := V1
    refine own_dup C (pc' := 44) at_43 rfl rfl ?_
    refine own_iconst C (pc' := 45) (v := (5 : Int32)) at_44 rfl rfl ?_
    refine own_getS C (pc' := 48) (own_w15 hw) (Sta.ext O.2 (own_p20 B)) at_45 rfl ?_
    refine own_stR C (pc' := 49) (vs' := [(.ref (A 0)), (.ref (A 1)), (.ref (A 2)), (.ref (A 3)), (.ref (A 4)), (.ref (A 5)), .null]) V_b2 Ov_b2 ⟨by decide, by decide⟩ (i := 5) rfl (Nat.le_of_ble_eq_true rfl) rfl (Or.inr ⟨_, rfl, Ins.self (Exa.ext O.2 (own_p21 B))⟩) at_48 rfl N g_b2 ?_
    intro h8 locs Wh8 V1 N
    have O := O.wr Wh8 g_b2
    have V_b2 := V1
    refine own_dup C (pc' := 50) at_49 rfl rfl ?_
    refine own_bipush C (pc' := 52) (v := (6 : Int32)) at_50 rfl rfl ?_
    refine own_getS C (pc' := 55) (own_w17 hw) (Sta.ext O.2 (own_p24 B)) at_52 rfl ?_
    refine own_stR C (pc' := 56) (vs' := [(.ref (A 0)), (.ref (A 1)), (.ref (A 2)), (.ref (A 3)), (.ref (A 4)), (.ref (A 5)), (.ref (A 6))]) V_b2 Ov_b2 ⟨by decide, by decide⟩ (i := 6) rfl (Nat.le_of_ble_eq_true rfl) rfl (Or.inr ⟨_, rfl, Ins.self (Exa.ext O.2 (own_p25 B))⟩) at_55 rfl N g_b2 ?_
    intro h9 locs Wh9 V1 N
    have O := O.wr Wh9 g_b2
    have V_b2 := V1
    refine own_astoreN C (pc' := 57) (Ls' := #[.val (.int p0), .val (.int (3 : Int32)), .val (.ref b2), .unset, .unset, .unset]) at_56 rfl rfl rfl ?_
    refine own_aloadN C (pc' := 58) (v := (.ref b2)) at_57 rfl rfl rfl ?_
    refine own_iloadN C (pc' := 59) (v := (3 : Int32)) at_58 rfl rfl ?_
    refine own_aaload C (pc' := 60) (v := (.ref (A 3))) V_b2 rfl ⟨by decide, by decide⟩ rfl at_59 rfl ?_
    refine own_astoreN C (pc' := 61) (Ls' := #[.val (.int p0), .val (.int (3 : Int32)), .val (.ref b2), .val (.ref (A 3)), .unset, .unset]) at_60 rfl rfl rfl ?_
    refine own_iloadN C (pc' := 62) (v := (3 : Int32)) at_61 rfl rfl ?_
    refine own_iconst C (pc' := 63) (v := (3 : Int32)) at_62 rfl rfl ?_
    refine own_icmpY C (pc' := 71) at_63 (XT.ii_eq_t (by decide)) (by decide) (by decide) ?_
    refine own_iconst C (pc' := 72) (v := (1 : Int32)) at_71 rfl rfl ?_
    refine own_goto C (pc' := 76) at_72 (by decide) (by decide) ?_
    refine own_istore C (pc' := 78) (Ls' := #[.val (.int p0), .val (.int (3 : Int32)), .val (.ref b2), .val (.ref (A 3)), .val (.int (1 : Int32)), .unset]) at_76 rfl rfl ?_
    refine own_aloadN C (pc' := 79) (v := (.ref (A 3))) at_78 rfl rfl rfl ?_
    refine own_callV C (pc' := 82) (W := 0) (argsL := []) (rest := []) (st' := [(.int (1 : Int32))]) (cells' := 1) (slots' := 7) (own_w19 hw) (own_w20 hw) (own_w22 hw) (own_w21 hw) (own_w4 hw) (own_w23 hw) (by decide) (Exa.ext O.2 (own_p13 B)) (own_c1 l Z a0 hw A B h9 n0 O (A 3) rfl) (by decide) (by decide) (lenOf own_pd0 rfl) rfl (Nat.le_of_eq rfl) rfl at_79 rfl (by decide) (by decide) rfl rfl rfl N (own_pure fun locs N => ?_)
    refine own_istore C (pc' := 84) (Ls' := #[.val (.int p0), .val (.int (3 : Int32)), .val (.ref b2), .val (.ref (A 3)), .val (.int (1 : Int32)), .val (.int (1 : Int32))]) at_82 rfl rfl ?_
    refine own_iload C (pc' := 86) (v := (1 : Int32)) at_84 rfl rfl ?_
    refine own_iload C (pc' := 88) (v := (1 : Int32)) at_86 rfl rfl ?_
    refine own_icmpN C (pc' := 91) at_88 (XT.ii_ne_f (by decide)) rfl ?_
    refine own_iload C (pc' := 93) (v := (1 : Int32)) at_91 rfl rfl ?_
    refine own_ifN C (pc' := 96) at_93 (XT.i0_eq_f (by decide)) rfl ?_
    refine own_aloadN C (pc' := 97) (v := (.ref (A 3))) at_96 rfl rfl rfl ?_
    refine own_callV C (pc' := 100) (W := 0) (argsL := []) (rest := []) (st' := [(.int (2 : Int32))]) (cells' := 1) (slots' := 7) (own_w26 hw) (own_w27 hw) (own_w29 hw) (own_w28 hw) (own_w4 hw) (own_w30 hw) (by decide) (Exa.ext O.2 (own_p13 B)) (own_c2 l Z a0 hw A B h9 n0 O (A 3) (Fld.ext O.2 (own_p15 B))) (by decide) (by decide) (lenOf own_pd1 rfl) rfl (Nat.le_of_eq rfl) rfl at_97 rfl (by decide) (by decide) rfl rfl rfl N (own_pure fun locs N => ?_)
    refine own_iconst C (pc' := 101) (v := (2 : Int32)) at_100 rfl rfl ?_
    refine own_icmpN C (pc' := 104) at_101 (XT.ii_lt_f (by decide)) rfl ?_
    refine own_iconst C (pc' := 105) (v := (1 : Int32)) at_104 rfl rfl ?_
    refine own_goto C (pc' := 109) at_105 (by decide) (by decide) ?_
    exact own_ret C at_109 rfl (Or.inl ⟨rfl, Or.inr (Or.inl rfl), _, rfl⟩) rfl N (trivial) (by decide) (by decide)
  · rw [es1]
    refine own_istoreN C (pc' := 8) (Ls' := #[.val (.int p0), .val (.int (4 : Int32)), .unset, .unset, .unset, .unset]) at_7 rfl rfl ?_
    refine own_bipush C (pc' := 10) (v := (7 : Int32)) at_8 rfl rfl ?_
    refine own_newR C (pc' := 13) (cap := 7) (vs := [.null, .null, .null, .null, .null, .null, .null]) (own_w1 hw) (own_w2 hw) at_10 rfl (by decide) (by decide) (by decide) (by decide) (by decide) rfl rfl rfl ?_
    intro h2 b2 k_b2 qb2 Eb2 V_b2 Ov_b2
    have g_b2 : n0 ≤ b2 := by rw [qb2]; exact own_ge O
    have O := O.ext Eb2
    refine own_dup C (pc' := 14) at_13 rfl rfl ?_
    refine own_iconst C (pc' := 15) (v := (0 : Int32)) at_14 rfl rfl ?_
    refine own_getS C (pc' := 18) (own_w3 hw) (Sta.ext O.2 (own_p0 B)) at_15 rfl ?_
    refine own_stR C (pc' := 19) (vs' := [(.ref (A 0)), .null, .null, .null, .null, .null, .null]) V_b2 Ov_b2 ⟨by decide, by decide⟩ (i := 0) rfl (Nat.le_of_ble_eq_true rfl) rfl (Or.inr ⟨_, rfl, Ins.self (Exa.ext O.2 (own_p1 B))⟩) at_18 rfl N g_b2 ?_
    intro h3 locs Wh3 V1 N
    have O := O.wr Wh3 g_b2
    have V_b2 := V1
    refine own_dup C (pc' := 20) at_19 rfl rfl ?_
    refine own_iconst C (pc' := 21) (v := (1 : Int32)) at_20 rfl rfl ?_
    refine own_getS C (pc' := 24) (own_w7 hw) (Sta.ext O.2 (own_p4 B)) at_21 rfl ?_
    refine own_stR C (pc' := 25) (vs' := [(.ref (A 0)), (.ref (A 1)), .null, .null, .null, .null, .null]) V_b2 Ov_b2 ⟨by decide, by decide⟩ (i := 1) rfl (Nat.le_of_ble_eq_true rfl) rfl (Or.inr ⟨_, rfl, Ins.self (Exa.ext O.2 (own_p5 B))⟩) at_24 rfl N g_b2 ?_
    intro h4 locs Wh4 V1 N
    have O := O.wr Wh4 g_b2
    have V_b2 := V1
    refine own_dup C (pc' := 26) at_25 rfl rfl ?_
    refine own_iconst C (pc' := 27) (v := (2 : Int32)) at_26 rfl rfl ?_
    refine own_getS C (pc' := 30) (own_w9 hw) (Sta.ext O.2 (own_p8 B)) at_27 rfl ?_
    refine own_stR C (pc' := 31) (vs' := [(.ref (A 0)), (.ref (A 1)), (.ref (A 2)), .null, .null, .null, .null]) V_b2 Ov_b2 ⟨by decide, by decide⟩ (i := 2) rfl (Nat.le_of_ble_eq_true rfl) rfl (Or.inr ⟨_, rfl, Ins.self (Exa.ext O.2 (own_p9 B))⟩) at_30 rfl N g_b2 ?_
    intro h5 locs Wh5 V1 N
    have O := O.wr Wh5 g_b2
    have V_b2 := V1
    refine own_dup C (pc' := 32) at_31 rfl rfl ?_
    refine own_iconst C (pc' := 33) (v := (3 : Int32)) at_32 rfl rfl ?_
    refine own_getS C (pc' := 36) (own_w11 hw) (Sta.ext O.2 (own_p12 B)) at_33 rfl ?_
    refine own_stR C (pc' := 37) (vs' := [(.ref (A 0)), (.ref (A 1)), (.ref (A 2)), (.ref (A 3)), .null, .null, .null]) V_b2 Ov_b2 ⟨by decide, by decide⟩ (i := 3) rfl (Nat.le_of_ble_eq_true rfl) rfl (Or.inr ⟨_, rfl, Ins.self (Exa.ext O.2 (own_p13 B))⟩) at_36 rfl N g_b2 ?_
    intro h6 locs Wh6 V1 N
    have O := O.wr Wh6 g_b2
    have V_b2 := V1
    refine own_dup C (pc' := 38) at_37 rfl rfl ?_
    refine own_iconst C (pc' := 39) (v := (4 : Int32)) at_38 rfl rfl ?_
    refine own_getS C (pc' := 42) (own_w13 hw) (Sta.ext O.2 (own_p16 B)) at_39 rfl ?_
    refine own_stR C (pc' := 43) (vs' := [(.ref (A 0)), (.ref (A 1)), (.ref (A 2)), (.ref (A 3)), (.ref (A 4)), .null, .null]) V_b2 Ov_b2 ⟨by decide, by decide⟩ (i := 4) rfl (Nat.le_of_ble_eq_true rfl) rfl (Or.inr ⟨_, rfl, Ins.self (Exa.ext O.2 (own_p17 B))⟩) at_42 rfl N g_b2 ?_
    intro h7 locs Wh7 V1 N
    have O := O.wr Wh7 g_b2
    have V_b2 := V1
    refine own_dup C (pc' := 44) at_43 rfl rfl ?_
    refine own_iconst C (pc' := 45) (v := (5 : Int32)) at_44 rfl rfl ?_
    refine own_getS C (pc' := 48) (own_w15 hw) (Sta.ext O.2 (own_p20 B)) at_45 rfl ?_
    refine own_stR C (pc' := 49) (vs' := [(.ref (A 0)), (.ref (A 1)), (.ref (A 2)), (.ref (A 3)), (.ref (A 4)), (.ref (A 5)), .null]) V_b2 Ov_b2 ⟨by decide, by decide⟩ (i := 5) rfl (Nat.le_of_ble_eq_true rfl) rfl (Or.inr ⟨_, rfl, Ins.self (Exa.ext O.2 (own_p21 B))⟩) at_48 rfl N g_b2 ?_
    intro h8 locs Wh8 V1 N
    have O := O.wr Wh8 g_b2
    have V_b2 := V1
    refine own_dup C (pc' := 50) at_49 rfl rfl ?_
    refine own_bipush C (pc' := 52) (v := (6 : Int32)) at_50 rfl rfl ?_
    refine own_getS C (pc' := 55) (own_w17 hw) (Sta.ext O.2 (own_p24 B)) at_52 rfl ?_
    refine own_stR C (pc' := 56) (vs' := [(.ref (A 0)), (.ref (A 1)), (.ref (A 2)), (.ref (A 3)), (.ref (A 4)), (.ref (A 5)), (.ref (A 6))]) V_b2 Ov_b2 ⟨by decide, by decide⟩ (i := 6) rfl (Nat.le_of_ble_eq_true rfl) rfl (Or.inr ⟨_, rfl, Ins.self (Exa.ext O.2 (own_p25 B))⟩) at_55 rfl N g_b2 ?_
    intro h9 locs Wh9 V1 N
    have O := O.wr Wh9 g_b2
    have V_b2 := V1
    refine own_astoreN C (pc' := 57) (Ls' := #[.val (.int p0), .val (.int (4 : Int32)), .val (.ref b2), .unset, .unset, .unset]) at_56 rfl rfl rfl ?_
    refine own_aloadN C (pc' := 58) (v := (.ref b2)) at_57 rfl rfl rfl ?_
    refine own_iloadN C (pc' := 59) (v := (4 : Int32)) at_58 rfl rfl ?_
    refine own_aaload C (pc' := 60) (v := (.ref (A 4))) V_b2 rfl ⟨by decide, by decide⟩ rfl at_59 rfl ?_
    refine own_astoreN C (pc' := 61) (Ls' := #[.val (.int p0), .val (.int (4 : Int32)), .val (.ref b2), .val (.ref (A 4)), .unset, .unset]) at_60 rfl rfl rfl ?_
    refine own_iloadN C (pc' := 62) (v := (4 : Int32)) at_61 rfl rfl ?_
    refine own_iconst C (pc' := 63) (v := (3 : Int32)) at_62 rfl rfl ?_
    refine own_icmpN C (pc' := 66) at_63 (XT.ii_eq_f (by decide)) rfl ?_
    refine own_iloadN C (pc' := 67) (v := (4 : Int32)) at_66 rfl rfl ?_
    refine own_iconst C (pc' := 68) (v := (4 : Int32)) at_67 rfl rfl ?_
    refine own_icmpN C (pc' := 71) at_68 (XT.ii_ne_f (by decide)) rfl ?_
    refine own_iconst C (pc' := 72) (v := (1 : Int32)) at_71 rfl rfl ?_
    refine own_goto C (pc' := 76) at_72 (by decide) (by decide) ?_
    refine own_istore C (pc' := 78) (Ls' := #[.val (.int p0), .val (.int (4 : Int32)), .val (.ref b2), .val (.ref (A 4)), .val (.int (1 : Int32)), .unset]) at_76 rfl rfl ?_
    refine own_aloadN C (pc' := 79) (v := (.ref (A 4))) at_78 rfl rfl rfl ?_
    refine own_callV C (pc' := 82) (W := 0) (argsL := []) (rest := []) (st' := [(.int (1 : Int32))]) (cells' := 1) (slots' := 7) (own_w19 hw) (own_w20 hw) (own_w22 hw) (own_w21 hw) (own_w4 hw) (own_w23 hw) (by decide) (Exa.ext O.2 (own_p17 B)) (own_c3 l Z a0 hw A B h9 n0 O (A 4) (own_ne_4_3 B) rfl) (by decide) (by decide) (lenOf own_pd0 rfl) rfl (Nat.le_of_eq rfl) rfl at_79 rfl (by decide) (by decide) rfl rfl rfl N (own_pure fun locs N => ?_)
    refine own_istore C (pc' := 84) (Ls' := #[.val (.int p0), .val (.int (4 : Int32)), .val (.ref b2), .val (.ref (A 4)), .val (.int (1 : Int32)), .val (.int (1 : Int32))]) at_82 rfl rfl ?_
    refine own_iload C (pc' := 86) (v := (1 : Int32)) at_84 rfl rfl ?_
    refine own_iload C (pc' := 88) (v := (1 : Int32)) at_86 rfl rfl ?_
    refine own_icmpN C (pc' := 91) at_88 (XT.ii_ne_f (by decide)) rfl ?_
    refine own_iload C (pc' := 93) (v := (1 : Int32)) at_91 rfl rfl ?_
    refine own_ifN C (pc' := 96) at_93 (XT.i0_eq_f (by decide)) rfl ?_
    refine own_aloadN C (pc' := 97) (v := (.ref (A 4))) at_96 rfl rfl rfl ?_
    refine own_callV C (pc' := 100) (W := 0) (argsL := []) (rest := []) (st' := [(.int (5 : Int32))]) (cells' := 1) (slots' := 7) (own_w26 hw) (own_w27 hw) (own_w29 hw) (own_w28 hw) (own_w4 hw) (own_w30 hw) (by decide) (Exa.ext O.2 (own_p17 B)) (own_c4 l Z a0 hw A B h9 n0 O (A 4) (Fld.ext O.2 (own_p19 B))) (by decide) (by decide) (lenOf own_pd1 rfl) rfl (Nat.le_of_eq rfl) rfl at_97 rfl (by decide) (by decide) rfl rfl rfl N (own_pure fun locs N => ?_)
    refine own_iconst C (pc' := 101) (v := (2 : Int32)) at_100 rfl rfl ?_
    refine own_icmpN C (pc' := 104) at_101 (XT.ii_lt_f (by decide)) rfl ?_
    refine own_iconst C (pc' := 105) (v := (1 : Int32)) at_104 rfl rfl ?_
    refine own_goto C (pc' := 109) at_105 (by decide) (by decide) ?_
    exact own_ret C at_109 rfl (Or.inl ⟨rfl, Or.inr (Or.inl rfl), _, rfl⟩) rfl N (trivial) (by decide) (by decide)
  · rw [es1]
    refine own_istoreN C (pc' := 8) (Ls' := #[.val (.int p0), .val (.int (5 : Int32)), .unset, .unset, .unset, .unset]) at_7 rfl rfl ?_
    refine own_bipush C (pc' := 10) (v := (7 : Int32)) at_8 rfl rfl ?_
    refine own_newR C (pc' := 13) (cap := 7) (vs := [.null, .null, .null, .null, .null, .null, .null]) (own_w1 hw) (own_w2 hw) at_10 rfl (by decide) (by decide) (by decide) (by decide) (by decide) rfl rfl rfl ?_
    intro h2 b2 k_b2 qb2 Eb2 V_b2 Ov_b2
    have g_b2 : n0 ≤ b2 := by rw [qb2]; exact own_ge O
    have O := O.ext Eb2
    refine own_dup C (pc' := 14) at_13 rfl rfl ?_
    refine own_iconst C (pc' := 15) (v := (0 : Int32)) at_14 rfl rfl ?_
    refine own_getS C (pc' := 18) (own_w3 hw) (Sta.ext O.2 (own_p0 B)) at_15 rfl ?_
    refine own_stR C (pc' := 19) (vs' := [(.ref (A 0)), .null, .null, .null, .null, .null, .null]) V_b2 Ov_b2 ⟨by decide, by decide⟩ (i := 0) rfl (Nat.le_of_ble_eq_true rfl) rfl (Or.inr ⟨_, rfl, Ins.self (Exa.ext O.2 (own_p1 B))⟩) at_18 rfl N g_b2 ?_
    intro h3 locs Wh3 V1 N
    have O := O.wr Wh3 g_b2
    have V_b2 := V1
    refine own_dup C (pc' := 20) at_19 rfl rfl ?_
    refine own_iconst C (pc' := 21) (v := (1 : Int32)) at_20 rfl rfl ?_
    refine own_getS C (pc' := 24) (own_w7 hw) (Sta.ext O.2 (own_p4 B)) at_21 rfl ?_
    refine own_stR C (pc' := 25) (vs' := [(.ref (A 0)), (.ref (A 1)), .null, .null, .null, .null, .null]) V_b2 Ov_b2 ⟨by decide, by decide⟩ (i := 1) rfl (Nat.le_of_ble_eq_true rfl) rfl (Or.inr ⟨_, rfl, Ins.self (Exa.ext O.2 (own_p5 B))⟩) at_24 rfl N g_b2 ?_
    intro h4 locs Wh4 V1 N
    have O := O.wr Wh4 g_b2
    have V_b2 := V1
    refine own_dup C (pc' := 26) at_25 rfl rfl ?_
    refine own_iconst C (pc' := 27) (v := (2 : Int32)) at_26 rfl rfl ?_
    refine own_getS C (pc' := 30) (own_w9 hw) (Sta.ext O.2 (own_p8 B)) at_27 rfl ?_
    refine own_stR C (pc' := 31) (vs' := [(.ref (A 0)), (.ref (A 1)), (.ref (A 2)), .null, .null, .null, .null]) V_b2 Ov_b2 ⟨by decide, by decide⟩ (i := 2) rfl (Nat.le_of_ble_eq_true rfl) rfl (Or.inr ⟨_, rfl, Ins.self (Exa.ext O.2 (own_p9 B))⟩) at_30 rfl N g_b2 ?_
    intro h5 locs Wh5 V1 N
    have O := O.wr Wh5 g_b2
    have V_b2 := V1
    refine own_dup C (pc' := 32) at_31 rfl rfl ?_
    refine own_iconst C (pc' := 33) (v := (3 : Int32)) at_32 rfl rfl ?_
    refine own_getS C (pc' := 36) (own_w11 hw) (Sta.ext O.2 (own_p12 B)) at_33 rfl ?_
    refine own_stR C (pc' := 37) (vs' := [(.ref (A 0)), (.ref (A 1)), (.ref (A 2)), (.ref (A 3)), .null, .null, .null]) V_b2 Ov_b2 ⟨by decide, by decide⟩ (i := 3) rfl (Nat.le_of_ble_eq_true rfl) rfl (Or.inr ⟨_, rfl, Ins.self (Exa.ext O.2 (own_p13 B))⟩) at_36 rfl N g_b2 ?_
    intro h6 locs Wh6 V1 N
    have O := O.wr Wh6 g_b2
    have V_b2 := V1
    refine own_dup C (pc' := 38) at_37 rfl rfl ?_
    refine own_iconst C (pc' := 39) (v := (4 : Int32)) at_38 rfl rfl ?_
    refine own_getS C (pc' := 42) (own_w13 hw) (Sta.ext O.2 (own_p16 B)) at_39 rfl ?_
    refine own_stR C (pc' := 43) (vs' := [(.ref (A 0)), (.ref (A 1)), (.ref (A 2)), (.ref (A 3)), (.ref (A 4)), .null, .null]) V_b2 Ov_b2 ⟨by decide, by decide⟩ (i := 4) rfl (Nat.le_of_ble_eq_true rfl) rfl (Or.inr ⟨_, rfl, Ins.self (Exa.ext O.2 (own_p17 B))⟩) at_42 rfl N g_b2 ?_
    intro h7 locs Wh7 V1 N
    have O := O.wr Wh7 g_b2
    have V_b2 := V1
    refine own_dup C (pc' := 44) at_43 rfl rfl ?_
    refine own_iconst C (pc' := 45) (v := (5 : Int32)) at_44 rfl rfl ?_
    refine own_getS C (pc' := 48) (own_w15 hw) (Sta.ext O.2 (own_p20 B)) at_45 rfl ?_
    refine own_stR C (pc' := 49) (vs' := [(.ref (A 0)), (.ref (A 1)), (.ref (A 2)), (.ref (A 3)), (.ref (A 4)), (.ref (A 5)), .null]) V_b2 Ov_b2 ⟨by decide, by decide⟩ (i := 5) rfl (Nat.le_of_ble_eq_true rfl) rfl (Or.inr ⟨_, rfl, Ins.self (Exa.ext O.2 (own_p21 B))⟩) at_48 rfl N g_b2 ?_
    intro h8 locs Wh8 V1 N
    have O := O.wr Wh8 g_b2
    have V_b2 := V1
    refine own_dup C (pc' := 50) at_49 rfl rfl ?_
    refine own_bipush C (pc' := 52) (v := (6 : Int32)) at_50 rfl rfl ?_
    refine own_getS C (pc' := 55) (own_w17 hw) (Sta.ext O.2 (own_p24 B)) at_52 rfl ?_
    refine own_stR C (pc' := 56) (vs' := [(.ref (A 0)), (.ref (A 1)), (.ref (A 2)), (.ref (A 3)), (.ref (A 4)), (.ref (A 5)), (.ref (A 6))]) V_b2 Ov_b2 ⟨by decide, by decide⟩ (i := 6) rfl (Nat.le_of_ble_eq_true rfl) rfl (Or.inr ⟨_, rfl, Ins.self (Exa.ext O.2 (own_p25 B))⟩) at_55 rfl N g_b2 ?_
    intro h9 locs Wh9 V1 N
    have O := O.wr Wh9 g_b2
    have V_b2 := V1
    refine own_astoreN C (pc' := 57) (Ls' := #[.val (.int p0), .val (.int (5 : Int32)), .val (.ref b2), .unset, .unset, .unset]) at_56 rfl rfl rfl ?_
    refine own_aloadN C (pc' := 58) (v := (.ref b2)) at_57 rfl rfl rfl ?_
    refine own_iloadN C (pc' := 59) (v := (5 : Int32)) at_58 rfl rfl ?_
    refine own_aaload C (pc' := 60) (v := (.ref (A 5))) V_b2 rfl ⟨by decide, by decide⟩ rfl at_59 rfl ?_
    refine own_astoreN C (pc' := 61) (Ls' := #[.val (.int p0), .val (.int (5 : Int32)), .val (.ref b2), .val (.ref (A 5)), .unset, .unset]) at_60 rfl rfl rfl ?_
    refine own_iloadN C (pc' := 62) (v := (5 : Int32)) at_61 rfl rfl ?_
    refine own_iconst C (pc' := 63) (v := (3 : Int32)) at_62 rfl rfl ?_
    refine own_icmpN C (pc' := 66) at_63 (XT.ii_eq_f (by decide)) rfl ?_
    refine own_iloadN C (pc' := 67) (v := (5 : Int32)) at_66 rfl rfl ?_
    refine own_iconst C (pc' := 68) (v := (4 : Int32)) at_67 rfl rfl ?_
    refine own_icmpY C (pc' := 75) at_68 (XT.ii_ne_t (by decide)) (by decide) (by decide) ?_
    refine own_iconst C (pc' := 76) (v := (0 : Int32)) at_75 rfl rfl ?_
    refine own_istore C (pc' := 78) (Ls' := #[.val (.int p0), .val (.int (5 : Int32)), .val (.ref b2), .val (.ref (A 5)), .val (.int (0 : Int32)), .unset]) at_76 rfl rfl ?_
    refine own_aloadN C (pc' := 79) (v := (.ref (A 5))) at_78 rfl rfl rfl ?_
    refine own_callV C (pc' := 82) (W := 0) (argsL := []) (rest := []) (st' := [(.int (0 : Int32))]) (cells' := 1) (slots' := 7) (own_w19 hw) (own_w20 hw) (own_w22 hw) (own_w21 hw) (own_w4 hw) (own_w23 hw) (by decide) (Exa.ext O.2 (own_p21 B)) (own_c0 l Z a0 hw A B h9 n0 O (A 5) (own_ne_5_3 B) (own_ne_5_4 B)) (by decide) (by decide) (lenOf own_pd0 rfl) rfl (Nat.le_of_eq rfl) rfl at_79 rfl (by decide) (by decide) rfl rfl rfl N (own_pure fun locs N => ?_)
    refine own_istore C (pc' := 84) (Ls' := #[.val (.int p0), .val (.int (5 : Int32)), .val (.ref b2), .val (.ref (A 5)), .val (.int (0 : Int32)), .val (.int (0 : Int32))]) at_82 rfl rfl ?_
    refine own_iload C (pc' := 86) (v := (0 : Int32)) at_84 rfl rfl ?_
    refine own_iload C (pc' := 88) (v := (0 : Int32)) at_86 rfl rfl ?_
    refine own_icmpN C (pc' := 91) at_88 (XT.ii_ne_f (by decide)) rfl ?_
    refine own_iload C (pc' := 93) (v := (0 : Int32)) at_91 rfl rfl ?_
    refine own_ifY C (pc' := 104) at_93 (XT.i0_eq_t (by decide)) (by decide) (by decide) ?_
    refine own_iconst C (pc' := 105) (v := (1 : Int32)) at_104 rfl rfl ?_
    refine own_goto C (pc' := 109) at_105 (by decide) (by decide) ?_
    exact own_ret C at_109 rfl (Or.inl ⟨rfl, Or.inr (Or.inl rfl), _, rfl⟩) rfl N (trivial) (by decide) (by decide)
  · rw [es1]
    refine own_istoreN C (pc' := 8) (Ls' := #[.val (.int p0), .val (.int (6 : Int32)), .unset, .unset, .unset, .unset]) at_7 rfl rfl ?_
    refine own_bipush C (pc' := 10) (v := (7 : Int32)) at_8 rfl rfl ?_
    refine own_newR C (pc' := 13) (cap := 7) (vs := [.null, .null, .null, .null, .null, .null, .null]) (own_w1 hw) (own_w2 hw) at_10 rfl (by decide) (by decide) (by decide) (by decide) (by decide) rfl rfl rfl ?_
    intro h2 b2 k_b2 qb2 Eb2 V_b2 Ov_b2
    have g_b2 : n0 ≤ b2 := by rw [qb2]; exact own_ge O
    have O := O.ext Eb2
    refine own_dup C (pc' := 14) at_13 rfl rfl ?_
    refine own_iconst C (pc' := 15) (v := (0 : Int32)) at_14 rfl rfl ?_
    refine own_getS C (pc' := 18) (own_w3 hw) (Sta.ext O.2 (own_p0 B)) at_15 rfl ?_
    refine own_stR C (pc' := 19) (vs' := [(.ref (A 0)), .null, .null, .null, .null, .null, .null]) V_b2 Ov_b2 ⟨by decide, by decide⟩ (i := 0) rfl (Nat.le_of_ble_eq_true rfl) rfl (Or.inr ⟨_, rfl, Ins.self (Exa.ext O.2 (own_p1 B))⟩) at_18 rfl N g_b2 ?_
    intro h3 locs Wh3 V1 N
    have O := O.wr Wh3 g_b2
    have V_b2 := V1
    refine own_dup C (pc' := 20) at_19 rfl rfl ?_
    refine own_iconst C (pc' := 21) (v := (1 : Int32)) at_20 rfl rfl ?_
    refine own_getS C (pc' := 24) (own_w7 hw) (Sta.ext O.2 (own_p4 B)) at_21 rfl ?_
    refine own_stR C (pc' := 25) (vs' := [(.ref (A 0)), (.ref (A 1)), .null, .null, .null, .null, .null]) V_b2 Ov_b2 ⟨by decide, by decide⟩ (i := 1) rfl (Nat.le_of_ble_eq_true rfl) rfl (Or.inr ⟨_, rfl, Ins.self (Exa.ext O.2 (own_p5 B))⟩) at_24 rfl N g_b2 ?_
    intro h4 locs Wh4 V1 N
    have O := O.wr Wh4 g_b2
    have V_b2 := V1
    refine own_dup C (pc' := 26) at_25 rfl rfl ?_
    refine own_iconst C (pc' := 27) (v := (2 : Int32)) at_26 rfl rfl ?_
    refine own_getS C (pc' := 30) (own_w9 hw) (Sta.ext O.2 (own_p8 B)) at_27 rfl ?_
    refine own_stR C (pc' := 31) (vs' := [(.ref (A 0)), (.ref (A 1)), (.ref (A 2)), .null, .null, .null, .null]) V_b2 Ov_b2 ⟨by decide, by decide⟩ (i := 2) rfl (Nat.le_of_ble_eq_true rfl) rfl (Or.inr ⟨_, rfl, Ins.self (Exa.ext O.2 (own_p9 B))⟩) at_30 rfl N g_b2 ?_
    intro h5 locs Wh5 V1 N
    have O := O.wr Wh5 g_b2
    have V_b2 := V1
    refine own_dup C (pc' := 32) at_31 rfl rfl ?_
    refine own_iconst C (pc' := 33) (v := (3 : Int32)) at_32 rfl rfl ?_
    refine own_getS C (pc' := 36) (own_w11 hw) (Sta.ext O.2 (own_p12 B)) at_33 rfl ?_
    refine own_stR C (pc' := 37) (vs' := [(.ref (A 0)), (.ref (A 1)), (.ref (A 2)), (.ref (A 3)), .null, .null, .null]) V_b2 Ov_b2 ⟨by decide, by decide⟩ (i := 3) rfl (Nat.le_of_ble_eq_true rfl) rfl (Or.inr ⟨_, rfl, Ins.self (Exa.ext O.2 (own_p13 B))⟩) at_36 rfl N g_b2 ?_
    intro h6 locs Wh6 V1 N
    have O := O.wr Wh6 g_b2
    have V_b2 := V1
    refine own_dup C (pc' := 38) at_37 rfl rfl ?_
    refine own_iconst C (pc' := 39) (v := (4 : Int32)) at_38 rfl rfl ?_
    refine own_getS C (pc' := 42) (own_w13 hw) (Sta.ext O.2 (own_p16 B)) at_39 rfl ?_
    refine own_stR C (pc' := 43) (vs' := [(.ref (A 0)), (.ref (A 1)), (.ref (A 2)), (.ref (A 3)), (.ref (A 4)), .null, .null]) V_b2 Ov_b2 ⟨by decide, by decide⟩ (i := 4) rfl (Nat.le_of_ble_eq_true rfl) rfl (Or.inr ⟨_, rfl, Ins.self (Exa.ext O.2 (own_p17 B))⟩) at_42 rfl N g_b2 ?_
    intro h7 locs Wh7 V1 N
    have O := O.wr Wh7 g_b2
    have V_b2 := V1
    refine own_dup C (pc' := 44) at_43 rfl rfl ?_
    refine own_iconst C (pc' := 45) (v := (5 : Int32)) at_44 rfl rfl ?_
    refine own_getS C (pc' := 48) (own_w15 hw) (Sta.ext O.2 (own_p20 B)) at_45 rfl ?_
    refine own_stR C (pc' := 49) (vs' := [(.ref (A 0)), (.ref (A 1)), (.ref (A 2)), (.ref (A 3)), (.ref (A 4)), (.ref (A 5)), .null]) V_b2 Ov_b2 ⟨by decide, by decide⟩ (i := 5) rfl (Nat.le_of_ble_eq_true rfl) rfl (Or.inr ⟨_, rfl, Ins.self (Exa.ext O.2 (own_p21 B))⟩) at_48 rfl N g_b2 ?_
    intro h8 locs Wh8 V1 N
    have O := O.wr Wh8 g_b2
    have V_b2 := V1
    refine own_dup C (pc' := 50) at_49 rfl rfl ?_
    refine own_bipush C (pc' := 52) (v := (6 : Int32)) at_50 rfl rfl ?_
    refine own_getS C (pc' := 55) (own_w17 hw) (Sta.ext O.2 (own_p24 B)) at_52 rfl ?_
    refine own_stR C (pc' := 56) (vs' := [(.ref (A 0)), (.ref (A 1)), (.ref (A 2)), (.ref (A 3)), (.ref (A 4)), (.ref (A 5)), (.ref (A 6))]) V_b2 Ov_b2 ⟨by decide, by decide⟩ (i := 6) rfl (Nat.le_of_ble_eq_true rfl) rfl (Or.inr ⟨_, rfl, Ins.self (Exa.ext O.2 (own_p25 B))⟩) at_55 rfl N g_b2 ?_
    intro h9 locs Wh9 V1 N
    have O := O.wr Wh9 g_b2
    have V_b2 := V1
    refine own_astoreN C (pc' := 57) (Ls' := #[.val (.int p0), .val (.int (6 : Int32)), .val (.ref b2), .unset, .unset, .unset]) at_56 rfl rfl rfl ?_
    refine own_aloadN C (pc' := 58) (v := (.ref b2)) at_57 rfl rfl rfl ?_
    refine own_iloadN C (pc' := 59) (v := (6 : Int32)) at_58 rfl rfl ?_
    refine own_aaload C (pc' := 60) (v := (.ref (A 6))) V_b2 rfl ⟨by decide, by decide⟩ rfl at_59 rfl ?_
    refine own_astoreN C (pc' := 61) (Ls' := #[.val (.int p0), .val (.int (6 : Int32)), .val (.ref b2), .val (.ref (A 6)), .unset, .unset]) at_60 rfl rfl rfl ?_
    refine own_iloadN C (pc' := 62) (v := (6 : Int32)) at_61 rfl rfl ?_
    refine own_iconst C (pc' := 63) (v := (3 : Int32)) at_62 rfl rfl ?_
    refine own_icmpN C (pc' := 66) at_63 (XT.ii_eq_f (by decide)) rfl ?_
    refine own_iloadN C (pc' := 67) (v := (6 : Int32)) at_66 rfl rfl ?_
    refine own_iconst C (pc' := 68) (v := (4 : Int32)) at_67 rfl rfl ?_
    refine own_icmpY C (pc' := 75) at_68 (XT.ii_ne_t (by decide)) (by decide) (by decide) ?_
    refine own_iconst C (pc' := 76) (v := (0 : Int32)) at_75 rfl rfl ?_
    refine own_istore C (pc' := 78) (Ls' := #[.val (.int p0), .val (.int (6 : Int32)), .val (.ref b2), .val (.ref (A 6)), .val (.int (0 : Int32)), .unset]) at_76 rfl rfl ?_
    refine own_aloadN C (pc' := 79) (v := (.ref (A 6))) at_78 rfl rfl rfl ?_
    refine own_callV C (pc' := 82) (W := 0) (argsL := []) (rest := []) (st' := [(.int (0 : Int32))]) (cells' := 1) (slots' := 7) (own_w19 hw) (own_w20 hw) (own_w22 hw) (own_w21 hw) (own_w4 hw) (own_w23 hw) (by decide) (Exa.ext O.2 (own_p25 B)) (own_c0 l Z a0 hw A B h9 n0 O (A 6) (own_ne_6_3 B) (own_ne_6_4 B)) (by decide) (by decide) (lenOf own_pd0 rfl) rfl (Nat.le_of_eq rfl) rfl at_79 rfl (by decide) (by decide) rfl rfl rfl N (own_pure fun locs N => ?_)
    refine own_istore C (pc' := 84) (Ls' := #[.val (.int p0), .val (.int (6 : Int32)), .val (.ref b2), .val (.ref (A 6)), .val (.int (0 : Int32)), .val (.int (0 : Int32))]) at_82 rfl rfl ?_
    refine own_iload C (pc' := 86) (v := (0 : Int32)) at_84 rfl rfl ?_
    refine own_iload C (pc' := 88) (v := (0 : Int32)) at_86 rfl rfl ?_
    refine own_icmpN C (pc' := 91) at_88 (XT.ii_ne_f (by decide)) rfl ?_
    refine own_iload C (pc' := 93) (v := (0 : Int32)) at_91 rfl rfl ?_
    refine own_ifY C (pc' := 104) at_93 (XT.i0_eq_t (by decide)) (by decide) (by decide) ?_
    refine own_iconst C (pc' := 105) (v := (1 : Int32)) at_104 rfl rfl ?_
    refine own_goto C (pc' := 109) at_105 (by decide) (by decide) ?_
    exact own_ret C at_109 rfl (Or.inl ⟨rfl, Or.inr (Or.inl rfl), _, rfl⟩) rfl N (trivial) (by decide) (by decide)
set_option maxRecDepth 65536 in
set_option maxHeartbeats 40000000 in
theorem comes_1 {Post : Tables → Env → Array Value → State → Outcome → State → Prop} (hpost : ∀ tb e args s v u, (limb_1_1.after args s (.returned v) u = true ∧ limb_1_2.after args s (.returned v) u = true ∧ True) → FrameEnd s (.returned v) u (Jvm.fieldLocs frame_1_writes args s ++ Jvm.arrayLocs frame_1_arrays args s ++ Jvm.staticLocs frame_1_statics s) 16 128 → Post tb e args s (.returned v) u) :
    ArmFor flags0 classFile x code maxLocals ret World_1 tables_1 room_1 Calls_1 rest_1 Pre_1 Post := by
  intro l hfl _ _ p e ha hc hk s m args below hf hA hF happ hP
  obtain ⟨hcalls, hrest, hpre⟩ := hP
  obtain ⟨-, -, -, hnamed, -, -, -, hat⟩ := (Spec.applies_iff hf).mp happ
  obtain ⟨hg, hn⟩ := and_e (Cond.before_iff.mp (show (Jvm.Cond.and given_1 narrow_1).before args s = true from hpre))
  obtain ⟨h1, h2⟩ := and_e hg
  have hg0 := h2
  obtain ⟨w0, rfl⟩ : ∃ w0 : Value, args = #[w0] := by
    have hs : args.size = 1 := by simpa [Cond.value, given_1] using h1
    obtain ⟨L⟩ := args
    match L, hs with
    | [w0], _ => exact ⟨w0, rfl⟩
  have hw := fun d (hd : d ∈ tables_1) => atoms_spec (ws := Jvm.Cond.code x code maxLocals ret :: tables_1) hat d (List.mem_cons_of_mem _ hd)
  have hfit : Fit s := fun {y c} hc i hi => by
    obtain ⟨ha, rfl⟩ := Array.getElem?_eq_some_iff.mp hc
    have q := List.all_eq_true.mp ((Array.all_eq_true_iff_forall_mem.mp hF) _ (Array.getElem_mem ha)) i (List.mem_range.mpr hi)
    simpa [Array.getElem?_eq_getElem hi] using q
  obtain ⟨A, B⟩ := own_start hw hfit hn
  obtain ⟨i0, e0⟩ := is_v hg0
  obtain rfl : w0 = (.int i0) := Option.some.inj e0
  have M := own_law l s _ hw A B s.heap s.heap.size (Old.start s) i0
  obtain ⟨n, o, h1, h2, h3, _, L, rfl, ⟨rfl, N, -⟩, hq⟩ := M p e ha hc hk s m _ below hf ((Spec.applies_iff_loose hf).mp happ).1 ⟨rfl, State.Warmed39.refl s, rfl⟩ trivial
  refine ⟨n, _, h1, h2, h3, hpost _ _ _ _ _ _ ⟨Cond.after_iff.mpr rfl, Cond.after_iff.mpr (eq_i res_at (Term.int_eval (1)) rfl), trivial⟩ ⟨hq.1, hq.2.1, (hq.2.2.sift fun y hy => Or.inr (N y hy)).mono (by decide) (by decide)⟩⟩
theorem main_1_1 : Claimed_1_1 := comes_1 fun _ _ _ _ _ _ h hF => ⟨h.1, hF⟩
theorem main_1_2 : Claimed_1_2 := comes_1 fun _ _ _ _ _ _ h hF => ⟨h.2.1, hF⟩
end Jvm.Pilot.@@N@@
namespace Jvm.Pilot.@@N@@
open Jvm Jvm.ClassFile Sem Op Lib Jvm.Free Jvm.Stand Jvm.Pilot.@@N@@.Jvm.D
/-! MADE BY PROGRAM (witnessworld.py) out of the Statement's table words and the real class files: 13 classes; the members and pool entries that the words name. The judged class is class 1, her method 1. -/
namespace start1
open Jvm.ClassFile
def u (s : String) : CpInfo := .utf8 (stringToUtf16 s)
/-- a pool by its gaps: so many unusable entries, then the entry; so many at the end -/
def gap : Nat → List CpInfo → List CpInfo
  | 0, r => r
  | n + 1, r => .unusable :: gap n r
def poolList (es : List (Nat × CpInfo)) (last : Nat) : List CpInfo := es.foldr (fun e r => gap e.1 (e.2 :: r)) (gap last [])
def pool (es : List (Nat × CpInfo)) (last : Nat) : Array CpInfo := ⟨poolList es last⟩
def fileOf (pool : Array CpInfo) (this : Nat) (attrs : Array Attribute := #[]) (ms : Array MethodInfo := #[]) (fl : Nat := 33) (sup : Nat := 0) (ifs : Array Nat := #[]) (fds : Array FieldInfo := #[]) : ClassFile where
  minorVersion := 0
  majorVersion := 65
  constantPool := pool
  accessFlags := fl
  thisClass := this
  superClass := sup
  interfaces := ifs
  fields := fds
  methods := ms
  attributes := attrs
def plain (name : String) (sup : Option ClassId) : Class where
  name := name
  kind := .ordinary
  loader := none
  accessFlags := 33
  super := sup
  interfaces := #[]
  cf := none
  fields := #[]
  methods := #[]
  instanceTypes := #[]
  staticTypes := #[]
  resolved := #[]
  callSites := []
  init := .initialized
  statics := none
  mirror := none

def pool0 : Array CpInfo := pool [(5, u "<init>"), (0, u "()V"), (1, .class_ 10), (1, u "java/lang/Object")] 113

def k0m0 : Method := { name := "<init>", desc := "()V", sig := { parameters := [], returnType := none }, accessFlags := 1, code := none }
/-- java/lang/Object -/
def k0 : Class := { plain "java/lang/Object" none with
  accessFlags := 33
  interfaces := #[]
  cf := some (fileOf pool0 8 #[] #[{ accessFlags := 1, nameIndex := 5, descriptorIndex := 6, attributes := #[] }] 33 0 #[] #[])
  fields := #[]
  methods := #[k0m0]
  instanceTypes := #[]
  staticTypes := #[]
  resolved := Array.replicate 124 none
  statics := none }

def pool1 : Array CpInfo := pool [(2, .class_ 4), (1, u "java/lang/Object"), (0, u "<init>"), (0, u "()V"), (0, .integer 2147483647), (0, .class_ 9), (0, u "com/example/colunata/colunata/layout/FieldType"), (0, .fieldref 8 11), (0, .nameAndType 12 13), (0, u "A"), (0, u "Lcom/example/colunata/colunata/layout/FieldType;"), (0, .fieldref 8 15), (0, .nameAndType 16 13), (0, u "N"), (0, .fieldref 8 18), (0, .nameAndType 19 13), (0, u "N1"), (0, .fieldref 8 21), (0, .nameAndType 22 13), (0, u "N2"), (0, .fieldref 8 24), (0, .nameAndType 25 13), (0, u "N5"), (0, .fieldref 8 27), (0, .nameAndType 28 13), (0, u "D"), (0, .fieldref 8 30), (0, .nameAndType 31 13), (0, u "D6"), (0, .methodref 8 33), (0, .nameAndType 34 35), (0, u "canBeSummed"), (0, u "()Z"), (0, .methodref 8 37), (0, .nameAndType 38 39), (0, u "decimals"), (0, u "()I"), (0, .class_ 41), (0, u "com/example/colunata/colunata/layout/FieldTypeCanBeSummedPinLaw"), (2, u "law"), (0, u "(I)Z")] 5

def k1m0 : Method := { name := "<init>", desc := "()V", sig := { parameters := [], returnType := none }, accessFlags := 1, code := none }
def k1c1 : Code := { maxStack := 4, maxLocals := 6, code := code, exceptionTable := #[], attributes := #[] }
def k1m1 : Method := { name := "law", desc := "(I)Z", sig := { parameters := [.int], returnType := some .boolean }, accessFlags := 9, code := some k1c1 }
/-- com/example/colunata/colunata/layout/FieldTypeCanBeSummedPinLaw -/
def k1 : Class := { plain "com/example/colunata/colunata/layout/FieldTypeCanBeSummedPinLaw" (some 0) with
  accessFlags := 49
  interfaces := #[]
  cf := some (fileOf pool1 40 #[] #[{ accessFlags := 1, nameIndex := 5, descriptorIndex := 6, attributes := #[] }, { accessFlags := 9, nameIndex := 44, descriptorIndex := 45, attributes := #[] }] 49 2 #[] #[])
  fields := #[]
  methods := #[k1m0, k1m1]
  instanceTypes := #[]
  staticTypes := #[]
  resolved := Array.replicate 51 none
  statics := none }

def pool2 : Array CpInfo := pool [(1, .class_ 2), (0, u "java/lang/constant/Constable"), (0, .class_ 4), (0, u "java/lang/Object")] 6

/-- java/lang/constant/Constable -/
def k2 : Class := { plain "java/lang/constant/Constable" (some 0) with
  accessFlags := 1537
  interfaces := #[]
  cf := some (fileOf pool2 1 #[] #[] 1537 3 #[] #[])
  fields := #[]
  methods := #[]
  instanceTypes := #[]
  staticTypes := #[]
  resolved := Array.replicate 11 none
  statics := none }

def pool3 : Array CpInfo := pool [(1, .class_ 2), (0, u "java/lang/Comparable"), (0, .class_ 4), (0, u "java/lang/Object")] 7

/-- java/lang/Comparable -/
def k3 : Class := { plain "java/lang/Comparable" (some 0) with
  accessFlags := 1537
  interfaces := #[]
  cf := some (fileOf pool3 1 #[] #[] 1537 3 #[] #[])
  fields := #[]
  methods := #[]
  instanceTypes := #[]
  staticTypes := #[]
  resolved := Array.replicate 12 none
  statics := none }

def pool4 : Array CpInfo := pool [(1, .class_ 2), (0, u "java/io/Serializable"), (0, .class_ 4), (0, u "java/lang/Object")] 2

/-- java/io/Serializable -/
def k4 : Class := { plain "java/io/Serializable" (some 0) with
  accessFlags := 1537
  interfaces := #[]
  cf := some (fileOf pool4 1 #[] #[] 1537 3 #[] #[])
  fields := #[]
  methods := #[]
  instanceTypes := #[]
  staticTypes := #[]
  resolved := Array.replicate 7 none
  statics := none }

def pool5 : Array CpInfo := pool [(2, .class_ 4), (1, u "java/lang/Enum"), (0, u "name"), (0, u "Ljava/lang/String;"), (2, u "ordinal"), (0, u "I"), (1, .class_ 14), (1, u "java/lang/Object"), (4, u "hash"), (86, .class_ 108), (1, u "java/lang/Enum$EnumDesc"), (2, .class_ 112), (0, u "java/lang/constant/Constable"), (0, .class_ 114), (0, u "java/lang/Comparable"), (0, .class_ 116), (0, u "java/io/Serializable")] 87

/-- java/lang/Enum -/
def k5 : Class := { plain "java/lang/Enum" (some 0) with
  accessFlags := 1057
  interfaces := #[2, 3, 4]
  cf := some (fileOf pool5 2 #[.nestMembers #[106]] #[] 1057 12 #[111, 113, 115] #[{ accessFlags := 18, nameIndex := 5, descriptorIndex := 6, attributes := #[] }, { accessFlags := 18, nameIndex := 9, descriptorIndex := 10, attributes := #[] }, { accessFlags := 2, nameIndex := 19, descriptorIndex := 10, attributes := #[] }])
  fields := #[{ name := "name", type := (.object "java/lang/String"), accessFlags := 18, slot := 0, constantValue := 0 }, { name := "ordinal", type := .int, accessFlags := 18, slot := 1, constantValue := 0 }, { name := "hash", type := .int, accessFlags := 2, slot := 2, constantValue := 0 }]
  methods := #[]
  instanceTypes := #[(.object "java/lang/String"), .int, .int]
  staticTypes := #[]
  resolved := Array.replicate 204 none
  statics := none }

def pool6 : Array CpInfo := pool [(1, .class_ 2), (0, u "com/example/colunata/colunata/layout/FieldType"), (2, u "A"), (0, u "Lcom/example/colunata/colunata/layout/FieldType;"), (2, u "N"), (2, u "N1"), (0, .fieldref 1 14), (0, .nameAndType 15 6), (0, u "N2"), (0, .fieldref 1 17), (0, .nameAndType 18 6), (0, u "N5"), (2, u "D"), (2, u "D6"), (2, u "$VALUES"), (0, u "[Lcom/example/colunata/colunata/layout/FieldType;"), (6, .class_ 37), (1, u "java/lang/Enum"), (9, .fieldref 1 48), (0, .nameAndType 49 50), (0, u "decimals"), (0, u "I"), (2, u "decimalsWords"), (0, u "Ljava/lang/String;"), (5, u "()I"), (104, u "()Z"), (135, u "FIRST_YEAR"), (2, u "LAST_YEAR"), (1, u "FIRST_YEAR_D6"), (1, u "LAST_YEAR_D6"), (1, u "MOST_LONG_DIGITS"), (16, u "canBeSummed")] 36

def k6c0 : Code := { maxStack := 2, maxLocals := 1, code := prog_48_method_13_code, exceptionTable := #[], attributes := #[] }
def k6m0 : Method := { name := "canBeSummed", desc := "()Z", sig := { parameters := [], returnType := some .boolean }, accessFlags := 0, code := some k6c0 }
def k6c1 : Code := { maxStack := 1, maxLocals := 1, code := prog_48_method_14_code, exceptionTable := #[], attributes := #[] }
def k6m1 : Method := { name := "decimals", desc := "()I", sig := { parameters := [], returnType := some .int }, accessFlags := 0, code := some k6c1 }
/-- com/example/colunata/colunata/layout/FieldType -/
def k6 : Class := { plain "com/example/colunata/colunata/layout/FieldType" (some 5) with
  accessFlags := 16433
  interfaces := #[]
  cf := some (fileOf pool6 1 #[] #[{ accessFlags := 0, nameIndex := 327, descriptorIndex := 165, attributes := #[] }, { accessFlags := 0, nameIndex := 49, descriptorIndex := 60, attributes := #[] }] 16433 35 #[] #[{ accessFlags := 16409, nameIndex := 5, descriptorIndex := 6, attributes := #[] }, { accessFlags := 16409, nameIndex := 9, descriptorIndex := 6, attributes := #[] }, { accessFlags := 16409, nameIndex := 12, descriptorIndex := 6, attributes := #[] }, { accessFlags := 16409, nameIndex := 15, descriptorIndex := 6, attributes := #[] }, { accessFlags := 16409, nameIndex := 18, descriptorIndex := 6, attributes := #[] }, { accessFlags := 16409, nameIndex := 21, descriptorIndex := 6, attributes := #[] }, { accessFlags := 16409, nameIndex := 24, descriptorIndex := 6, attributes := #[] }, { accessFlags := 26, nameIndex := 301, descriptorIndex := 50, attributes := #[] }, { accessFlags := 26, nameIndex := 304, descriptorIndex := 50, attributes := #[] }, { accessFlags := 26, nameIndex := 306, descriptorIndex := 50, attributes := #[] }, { accessFlags := 26, nameIndex := 308, descriptorIndex := 50, attributes := #[] }, { accessFlags := 26, nameIndex := 310, descriptorIndex := 50, attributes := #[] }, { accessFlags := 18, nameIndex := 49, descriptorIndex := 50, attributes := #[] }, { accessFlags := 18, nameIndex := 53, descriptorIndex := 54, attributes := #[] }, { accessFlags := 4122, nameIndex := 27, descriptorIndex := 28, attributes := #[] }])
  fields := #[{ name := "A", type := (.object "com/example/colunata/colunata/layout/FieldType"), accessFlags := 16409, slot := 0, constantValue := 0 }, { name := "N", type := (.object "com/example/colunata/colunata/layout/FieldType"), accessFlags := 16409, slot := 1, constantValue := 0 }, { name := "N1", type := (.object "com/example/colunata/colunata/layout/FieldType"), accessFlags := 16409, slot := 2, constantValue := 0 }, { name := "N2", type := (.object "com/example/colunata/colunata/layout/FieldType"), accessFlags := 16409, slot := 3, constantValue := 0 }, { name := "N5", type := (.object "com/example/colunata/colunata/layout/FieldType"), accessFlags := 16409, slot := 4, constantValue := 0 }, { name := "D", type := (.object "com/example/colunata/colunata/layout/FieldType"), accessFlags := 16409, slot := 5, constantValue := 0 }, { name := "D6", type := (.object "com/example/colunata/colunata/layout/FieldType"), accessFlags := 16409, slot := 6, constantValue := 0 }, { name := "FIRST_YEAR", type := .int, accessFlags := 26, slot := 7, constantValue := 0 }, { name := "LAST_YEAR", type := .int, accessFlags := 26, slot := 8, constantValue := 0 }, { name := "FIRST_YEAR_D6", type := .int, accessFlags := 26, slot := 9, constantValue := 0 }, { name := "LAST_YEAR_D6", type := .int, accessFlags := 26, slot := 10, constantValue := 0 }, { name := "MOST_LONG_DIGITS", type := .int, accessFlags := 26, slot := 11, constantValue := 0 }, { name := "decimals", type := .int, accessFlags := 18, slot := 3, constantValue := 0 }, { name := "decimalsWords", type := (.object "java/lang/String"), accessFlags := 18, slot := 4, constantValue := 0 }, { name := "$VALUES", type := (.array (.object "com/example/colunata/colunata/layout/FieldType")), accessFlags := 4122, slot := 12, constantValue := 0 }]
  methods := #[k6m0, k6m1]
  instanceTypes := #[(.object "java/lang/String"), .int, .int, .int, (.object "java/lang/String")]
  staticTypes := #[(.object "com/example/colunata/colunata/layout/FieldType"), (.object "com/example/colunata/colunata/layout/FieldType"), (.object "com/example/colunata/colunata/layout/FieldType"), (.object "com/example/colunata/colunata/layout/FieldType"), (.object "com/example/colunata/colunata/layout/FieldType"), (.object "com/example/colunata/colunata/layout/FieldType"), (.object "com/example/colunata/colunata/layout/FieldType"), .int, .int, .int, .int, .int, (.array (.object "com/example/colunata/colunata/layout/FieldType"))]
  resolved := Array.replicate 364 none
  statics := some 0 }

def pool7 : Array CpInfo := pool [(1, u "java/lang/Cloneable"), (0, .class_ 1), (0, u "java/lang/Object"), (0, .class_ 3)] 3

/-- java/lang/Cloneable -/
def k7 : Class := { plain "java/lang/Cloneable" (some 0) with
  accessFlags := 1537
  interfaces := #[]
  cf := some (fileOf pool7 2 #[] #[] 1537 4 #[] #[])
  fields := #[]
  methods := #[]
  instanceTypes := #[]
  staticTypes := #[]
  resolved := Array.replicate 8 none
  statics := none }

/-- the primitive byte -/
def k8 : Class := { plain "byte" none with kind := .primitive 'B', accessFlags := 0x411 }
/-- [B -/
def k9 : Class := { plain "[B" (some 0) with kind := .array 8 .byte, interfaces := #[7, 4], accessFlags := 1041 }

/-- the primitive int -/
def k10 : Class := { plain "int" none with kind := .primitive 'I', accessFlags := 0x411 }
/-- [I -/
def k11 : Class := { plain "[I" (some 0) with kind := .array 10 .int, interfaces := #[7, 4], accessFlags := 1041 }

/-- [Lcom/example/colunata/colunata/layout/FieldType; -/
def k12 : Class := { plain "[Lcom/example/colunata/colunata/layout/FieldType;" (some 0) with kind := .array 6 (.object "com/example/colunata/colunata/layout/FieldType"), interfaces := #[7, 4], accessFlags := 1041 }

def heap : Heap := #[{ cls := 6, slots := #[.ref 1, .ref 2, .ref 3, .ref 4, .ref 5, .ref 6, .ref 7, .int 0, .int 0, .int 0, .int 0, .int 0, .null], vm := .statics 6 },
  { cls := 6, slots := #[.null, .int 0, .int 0, .int 0, .null], vm := .none },
  { cls := 6, slots := #[.null, .int 1, .int 0, .int 0, .null], vm := .none },
  { cls := 6, slots := #[.null, .int 2, .int 0, .int 1, .null], vm := .none },
  { cls := 6, slots := #[.null, .int 3, .int 0, .int 2, .null], vm := .none },
  { cls := 6, slots := #[.null, .int 4, .int 0, .int 5, .null], vm := .none },
  { cls := 6, slots := #[.null, .int 5, .int 0, .int 0, .null], vm := .none },
  { cls := 6, slots := #[.null, .int 6, .int 0, .int 0, .null], vm := .none }]
def classes : Array Class := #[k0, k1, k2, k3, k4, k5, k6, k7, k8, k9, k10, k11, k12]
def interned : List (Array UInt16 × Addr) := []
def slotsUsed : Nat := 48
def theMethod : MethodId := ⟨1, 1⟩
def args0 : Array Value := #[.int 5]
def aboutOver (below : List Frame) : State where
  vm := { classes := classes, interned := interned.toArray }
  heap := heap
  slotsUsed := slotsUsed
  threads := #[{ frames := .invoking theMethod args0 :: below }]
def below0 : List Frame := [.native { method := ⟨0, 0⟩, args := #[] }]
def about1 : State := aboutOver below0
def p0 : Program := .bare "" "" ""
def e0 : Env := launch0.env 0 0 0
theorem w_frames : about1.frames = Frame.invoking theMethod args0 :: below0 := rfl
set_option maxRecDepth 65536 in
theorem w_args : argsFit about1.vm theMethod args0 = true := by decide +kernel
set_option maxRecDepth 65536 in
theorem w_heap : heapFits about1 = true := by decide +kernel
set_option maxRecDepth 65536 in
theorem w_runnable : about1.curStatus? = some .runnable := by decide +kernel
set_option maxRecDepth 65536 in
theorem w_alone : about1.alone = true := by decide +kernel
set_option maxRecDepth 65536 in
theorem w_named : about1.methodNamed? x = some theMethod := by decide +kernel
set_option maxRecDepth 65536 in
theorem w_hears : about1.hears theMethod below0 = true := by decide +kernel
set_option maxRecDepth 65536 in
theorem w_ripe : about1.ripe theMethod args0 below0 = true := by decide +kernel
theorem w_running : about1.status = .running := rfl
set_option maxRecDepth 65536 in
theorem w_room : about1.hasRoom e0.platform room_1 = true :=
  launch0.hasRoom_least _ room_1 (by decide +kernel) (by decide +kernel) (by decide +kernel) (by decide +kernel) (by decide +kernel) (by decide +kernel)
theorem allAtoms_all (ts : List Jvm.Cond) (a : Array Jvm.Value) (st : Jvm.State) : (allAtoms ts).before a st = ts.all (fun c => c.before a st) := by
  induction ts with
  | nil => rfl
  | cons c t ih =>
    show (Jvm.Cond.and c (allAtoms t)).before a st = _
    rw [Jvm.Cond.before_and, ih, List.all_cons]
def words1 : List Jvm.Cond := Jvm.Cond.code x code maxLocals ret :: tables_1
/-- a 'code' word, met by the world's own term for the bytes: nothing is compared byte by byte -/
theorem code_word {y : MethodName} {bytes : ByteArray} {mx : Nat} {rt : Option FieldType} {a : Array Value} {s : State} {m : MethodId} {meth : Method} {c : Code} (h1 : s.methodNamed? y = some m) (h2 : s.vm.method? m = some meth) (h3 : meth.code = some c) (h4 : c.code = bytes)
    (h5 : (c.maxLocals == mx && c.exceptionTable.isEmpty && decide (c.maxStack ≤ mostOperands) && decide (meth.sig.returnType = rt) && !meth.locks && decide (parseMethodDescriptor y.desc = some meth.sig)) = true) : (Jvm.Cond.code y bytes mx rt).before a s = true := by
  simp only [Bool.and_eq_true, beq_iff_eq, Bool.not_eq_true', decide_eq_true_eq] at h5
  obtain ⟨⟨⟨⟨⟨g1, g2⟩, g3⟩, g4⟩, g5⟩, g6⟩ := h5
  simp [Cond.before, Cond.holds, Cond.value, h1, h2, h3, h4, g1, g2, g3, g4, g5, g6]
def isCode : Jvm.Cond → Bool
  | .code _ _ _ _ => true
  | _ => false
theorem all_split {L : List Jvm.Cond} {P : Jvm.Cond → Bool} (h1 : L.all (fun c => isCode c || P c) = true) (h2 : ∀ c ∈ L.filter isCode, P c = true) : L.all P = true := by
  refine List.all_eq_true.mpr fun c hc => ?_
  have h := List.all_eq_true.mp h1 c hc
  rcases Bool.eq_false_or_eq_true (isCode c) with hi | hi
  · exact h2 c (List.mem_filter.mpr ⟨hc, hi⟩)
  · simpa [hi] using h
set_option maxRecDepth 65536 in
theorem w_c0 : (Jvm.Cond.code x code maxLocals ret).before args0 about1 = true := code_word (m := ⟨1, 1⟩) (meth := k1m1) (c := k1c1) (by decide +kernel) rfl rfl rfl (by decide +kernel)
set_option maxRecDepth 65536 in
theorem w_c1 : (Jvm.Cond.code ({ cls := "com/example/colunata/colunata/layout/FieldType", name := "canBeSummed", desc := "()Z" } : Jvm.MethodName) prog_48_method_13_code (1 : Nat) (Option.some Jvm.ClassFile.FieldType.boolean)).before args0 about1 = true := code_word (m := ⟨6, 0⟩) (meth := k6m0) (c := k6c0) (by decide +kernel) rfl rfl rfl (by decide +kernel)
set_option maxRecDepth 65536 in
theorem w_c2 : (Jvm.Cond.code ({ cls := "com/example/colunata/colunata/layout/FieldType", name := "decimals", desc := "()I" } : Jvm.MethodName) prog_48_method_14_code (1 : Nat) (Option.some Jvm.ClassFile.FieldType.int)).before args0 about1 = true := code_word (m := ⟨6, 1⟩) (meth := k6m1) (c := k6c1) (by decide +kernel) rfl rfl rfl (by decide +kernel)
def codes1 : List Jvm.Cond := [Jvm.Cond.code x code maxLocals ret, Jvm.Cond.code ({ cls := "com/example/colunata/colunata/layout/FieldType", name := "canBeSummed", desc := "()Z" } : Jvm.MethodName) prog_48_method_13_code (1 : Nat) (Option.some Jvm.ClassFile.FieldType.boolean), Jvm.Cond.code ({ cls := "com/example/colunata/colunata/layout/FieldType", name := "decimals", desc := "()I" } : Jvm.MethodName) prog_48_method_14_code (1 : Nat) (Option.some Jvm.ClassFile.FieldType.int)]
set_option maxRecDepth 65536 in
theorem codes_eq : words1.filter isCode = codes1 := rfl
theorem w_codes : ∀ c ∈ words1.filter isCode, c.before args0 about1 = true := by
  rw [codes_eq]
  intro c hc
  simp only [codes1, List.mem_cons, List.not_mem_nil, or_false] at hc
  rcases hc with rfl | rfl | rfl
  · exact w_c0
  · exact w_c1
  · exact w_c2
set_option maxRecDepth 65536 in
theorem w_t1 : (words1.take 24).all (fun c => isCode c || c.before args0 about1) = true := by decide +kernel
set_option maxRecDepth 65536 in
theorem w_t2 : (words1.drop 24).all (fun c => isCode c || c.before args0 about1) = true := by decide +kernel
theorem w_tables : (allAtoms (Jvm.Cond.code x code maxLocals ret :: tables_1)).before args0 about1 = true := by
  rw [allAtoms_all]
  show words1.all (fun c => c.before args0 about1) = true
  refine all_split ?_ w_codes
  rw [← List.take_append_drop 24 words1, List.all_append, w_t1, w_t2]
  rfl
set_option maxRecDepth 65536 in
theorem w_case : (Jvm.Cond.and given_1 narrow_1).before args0 about1 = true := by decide +kernel
theorem w_applies : (headSpec (Jvm.Cond.code x code maxLocals ret :: tables_1) room_1).applies x e0.platform about1 = true :=
  (Spec.applies_iff w_frames).mpr ⟨w_running, w_runnable, w_alone, w_named, w_hears, w_ripe, w_room, w_tables⟩
theorem atStart : AtStart classFile x code maxLocals ret World_1 tables_1 room_1 Calls_1 rest_1 Pre_1 launch0 p0 e0 about1 theMethod args0 below0 :=
  ⟨lists_1, trivial, launch0.admits_env _ _ _, launch0.least_env, fairChoices_fair.cas, fairChoices_fair.clock, w_frames, w_args, w_heap, w_applies, trivial, trivial, w_case⟩
end start1
theorem witness_1 : WitnessClaimed_1 := ⟨start1.p0, start1.e0, start1.about1, start1.theMethod, start1.args0, start1.below0, start1.atStart⟩
end Jvm.Pilot.@@N@@
