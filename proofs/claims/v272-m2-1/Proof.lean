import JvmDerived
import JvmDerived.Pilot.@@N@@Statement
import JvmDerived.Pilot.@@N@@Code
set_option linter.unusedVariables false
set_option linter.unusedSimpArgs false
@@BLOCK:NumsL.lean.txt@@
namespace Jvm.Pilot.@@N@@
open Jvm Jvm.ClassFile Sem Op Lib Jvm.Free Jvm.Stand Jvm.LawKit Jvm.RoadKit Bundle Jvm.Pilot.@@N@@.Jvm.D
section Own
variable {p : Program} {l : Launch} {e : Env} {R : Room} {s : State} {m : MethodId} {args : Array Value} {below : List Frame} {meth : Method} {c : Code} {Z : State} {a0 : Array Value} {Q : Option Value → Heap → List Loc → Prop} {Fn : Outcome → State → Prop} {kk nn : Nat} {h h0 : Heap} {locs : List Loc} {cells slots cells' slots' n0 pc pc' : Nat} {Ls Ls' : Array Slot} {st st' rest : List Value} {own nm : String} {bytes : ByteArray} {mx : Nat} {rt : Option FieldType}
/-- the walk stands at pc with these locals and this stack over the heap h: from there the body comes to its end as Q says -/
def own_St (p : Program) (l : Launch) (e : Env) (R : Room) (s : State) (m : MethodId) (args : Array Value) (below : List Frame) (meth : Method) (c : Code) (Fn : Outcome → State → Prop) (h : Heap) (locs : List Loc) (cells slots : Nat) (pc : Nat) (Ls : Array Slot) (st : List Value) : Prop :=
  ∀ T, Stand p l e R s m args below meth c T locs cells slots → T.heap = h →
    ∃ s₂ o, Steps p.tables e below (T.setTop (mkF m pc Ls st)) s₂ ∧ s₂.status = .running ∧ Ended s₂ below o ∧ Fn o s₂
/-- the end of a body that interned nothing -/
def own_F (s : State) (Q : Option Value → Heap → List Loc → Prop) (kk nn : Nat) (o : Outcome) (s₂ : State) : Prop := ∃ v L, o = .returned v ∧ Q v s₂.heap L ∧ FrameEnd s o s₂ L kk nn
/-- what is fixed while a body is walked -/
def own_Cx (p : Program) (s : State) (m : MethodId) (meth : Method) (c : Code) (Z : State) (own : String) (bytes : ByteArray) (mx : Nat) (rt : Option FieldType) (nm : String) : Prop :=
  p.tables.exec = Jvm.exec ∧ c.code = bytes ∧ c.maxLocals = mx ∧ s.vm.findClass own = some m.cls ∧ meth.sig.returnType = rt ∧ meth.locks = false ∧ Z.Warmed39 s.vm ∧ meth.name = nm
/-- the contract of a body -/
def own_Met (l : Launch) (Z : State) (y : MethodName) (bytes : ByteArray) (mx : Nat) (rt : Option FieldType) (ws : List Jvm.Cond) (rm : Room) (kk nn : Nat) (as' : Array Value) (h : Heap) (Q : Option Value → Heap → List Loc → Prop) : Prop :=
  MetFree l y (head1 (Jvm.Cond.code y bytes mx rt :: ws) rm) (fun a U => a = as' ∧ Z.Warmed39 U.vm ∧ U.heap = h) (fun _ _ _ _ _ => True) (fun _ U o U' => ∃ v L, o = .returned v ∧ Q v U'.heap L ∧ FrameEnd U o U' L kk nn)
/-- what a body returns (w), that it wrote nothing old, what its heap says (D) -/
def own_Q (w : Option Value) (n0 : Nat) (D : Heap → Prop) : Option Value → Heap → List Loc → Prop := fun v h L => v = w ∧ Fr n0 L ∧ D h
theorem own_mv {h' : Heap} {locs' : List Loc} (G : own_St p l e R s m args below meth c Fn h' locs' cells' slots' pc' Ls' st')
    (step : ∀ T, Stand p l e R s m args below meth c T locs cells slots → T.heap = h → ∃ T', Stand p l e R s m args below meth c T' locs' cells' slots' ∧ T'.heap = h' ∧ ∀ t, Steps p.tables e below (T'.setTop (mkF m pc' Ls' st')) t → Steps p.tables e below (T.setTop (mkF m pc Ls st)) t) :
    own_St p l e R s m args below meth c Fn h locs cells slots pc Ls st := by
  intro T X eT
  obtain ⟨T', X', e', k⟩ := step T X eT
  obtain ⟨s₂, o, h1, r⟩ := G T' X' e'
  exact ⟨s₂, o, k _ h1, r⟩
theorem own_pl (G : own_St p l e R s m args below meth c Fn h locs cells slots pc' Ls' st')
    (step : ∀ T, At T m c below → ∀ t, Steps p.tables e below (T.setTop (mkF m pc' Ls' st')) t → Steps p.tables e below (T.setTop (mkF m pc Ls st)) t) :
    own_St p l e R s m args below meth c Fn h locs cells slots pc Ls st := own_mv G fun T X eT => ⟨T, X, eT, step T X.here⟩
theorem own_enter {y : MethodName} {ws : List Jvm.Cond} {rm : Room} {as' : Array Value} (hy : plainName y.cls = true) (hef : ∀ m, entryFrame m as' mx = mkF m 0 Ls [])
    (body : ∀ p e s m below meth c, own_Cx p s m meth c Z y.cls bytes mx rt y.name → own_St p l e rm s m as' below meth c (own_F s Q kk nn) h [] 0 0 0 Ls []) : own_Met l Z y bytes mx rt ws rm kk nn as' h Q := by
  refine MetFree.of_bodySF (plainFor_of_name hy) hisR ?_
  intro p e s m args below meth c s₁ Bd hml0 hP hK
  obtain ⟨rfl, hZ, hh⟩ := hP
  have X0 : Stand p l e rm s m args below meth c s₁ [] 0 0 := Stand.of_body Bd
  have e0 : s₁.heap = h := by rw [← hh, Bd.state]; rfl
  obtain ⟨s₂, o, h1, h2⟩ := body p e s m below meth c ⟨Bd.exec, Bd.bytes, hml0, findClass_of_methodNamed Bd.named, Bd.returns, BodyLoose.notSynchronized Bd, hZ, (name_of_methodNamed Bd.named Bd.method).1⟩ s₁ X0 e0
  exact ⟨s₂, o, castTop (hef m) h1, h2⟩
/-! single steps -/
theorem own_iloadN (C : own_Cx p s m meth c Z own bytes mx rt nm) {k : Fin 4} {v : Int32} (hd : decode bytes pc = .ok (.iload_n k, 1)) (hl : Ls[k.val]? = some (.val (.int v))) (hp : pc + 1 = pc') (G : own_St p l e R s m args below meth c Fn h locs cells slots pc' Ls (.int v :: st)) : own_St p l e R s m args below meth c Fn h locs cells slots pc Ls st := by
  subst hp; exact own_pl G fun T H t k => XS.iloadN H C.1 rfl (hb C.2.1 hd) hl k
theorem own_iload (C : own_Cx p s m meth c Z own bytes mx rt nm) {k : Nat} {v : Int32} (hd : decode bytes pc = .ok (.iload k, 2)) (hl : Ls[k]? = some (.val (.int v))) (hp : pc + 2 = pc') (G : own_St p l e R s m args below meth c Fn h locs cells slots pc' Ls (.int v :: st)) : own_St p l e R s m args below meth c Fn h locs cells slots pc Ls st := by
  subst hp; exact own_pl G fun T H t k => XS.iload H C.1 rfl (hb C.2.1 hd) hl k
theorem own_aloadN (C : own_Cx p s m meth c Z own bytes mx rt nm) {k : Fin 4} {v : Value} (hd : decode bytes pc = .ok (.aload_n k, 1)) (hl : Ls[k.val]? = some (.val v)) (hv : v.isRef = true) (hp : pc + 1 = pc') (G : own_St p l e R s m args below meth c Fn h locs cells slots pc' Ls (v :: st)) : own_St p l e R s m args below meth c Fn h locs cells slots pc Ls st := by
  subst hp; exact own_pl G fun T H t k => XS.aloadN H C.1 rfl (hb C.2.1 hd) hl hv k
theorem own_istoreN (C : own_Cx p s m meth c Z own bytes mx rt nm) {k : Fin 4} {x : Int32} (hd : decode bytes pc = .ok (.istore_n k, 1)) (hl : storeLocals Ls k.val (.int x) = some Ls') (hp : pc + 1 = pc') (G : own_St p l e R s m args below meth c Fn h locs cells slots pc' Ls' st) : own_St p l e R s m args below meth c Fn h locs cells slots pc Ls (.int x :: st) := by
  subst hp; exact own_pl G fun T H t k => XS.istoreN H C.1 rfl (hb C.2.1 hd) rfl hl k
theorem own_istore (C : own_Cx p s m meth c Z own bytes mx rt nm) {k : Nat} {x : Int32} (hd : decode bytes pc = .ok (.istore k, 2)) (hl : storeLocals Ls k (.int x) = some Ls') (hp : pc + 2 = pc') (G : own_St p l e R s m args below meth c Fn h locs cells slots pc' Ls' st) : own_St p l e R s m args below meth c Fn h locs cells slots pc Ls (.int x :: st) := by
  subst hp; exact own_pl G fun T H t k => XS.istore H C.1 rfl (hb C.2.1 hd) rfl hl k
theorem own_astoreN (C : own_Cx p s m meth c Z own bytes mx rt nm) {k : Fin 4} {x : Value} (hd : decode bytes pc = .ok (.astore_n k, 1)) (hv : x.isRef = true) (hl : storeLocals Ls k.val x = some Ls') (hp : pc + 1 = pc') (G : own_St p l e R s m args below meth c Fn h locs cells slots pc' Ls' st) : own_St p l e R s m args below meth c Fn h locs cells slots pc Ls (x :: st) := by
  subst hp; exact own_pl G fun T H t k => XS.astoreN H C.1 rfl (hb C.2.1 hd) rfl hv hl k
theorem own_iconst (C : own_Cx p s m meth c Z own bytes mx rt nm) {i : Int} {v : Int32} (hd : decode bytes pc = .ok (.iconst i, 1)) (hv : Int32.ofInt i = v) (hp : pc + 1 = pc') (G : own_St p l e R s m args below meth c Fn h locs cells slots pc' Ls (.int v :: st)) : own_St p l e R s m args below meth c Fn h locs cells slots pc Ls st := by
  subst hp hv; exact own_pl G fun T H t k => XS.iconst H C.1 rfl (hb C.2.1 hd) k
theorem own_bipush (C : own_Cx p s m meth c Z own bytes mx rt nm) {i : Int} {v : Int32} (hd : decode bytes pc = .ok (.bipush i, 2)) (hv : (Int8.ofInt i).toInt32 = v) (hp : pc + 2 = pc') (G : own_St p l e R s m args below meth c Fn h locs cells slots pc' Ls (.int v :: st)) : own_St p l e R s m args below meth c Fn h locs cells slots pc Ls st := by
  subst hp hv; exact own_pl G fun T H t k => XS.bipush H C.1 rfl (hb C.2.1 hd) k
theorem own_iand (C : own_Cx p s m meth c Z own bytes mx rt nm) {x y z : Int32} (hd : decode bytes pc = .ok (.iand, 1)) (hz : x &&& y = z) (hp : pc + 1 = pc') (G : own_St p l e R s m args below meth c Fn h locs cells slots pc' Ls (.int z :: st)) : own_St p l e R s m args below meth c Fn h locs cells slots pc Ls (.int y :: .int x :: st) := by
  subst hp hz; exact own_pl G fun T H t k => XS.iand H C.1 rfl (hb C.2.1 hd) rfl k
theorem own_goto (C : own_Cx p s m meth c Z own bytes mx rt nm) {o : Int} (hd : decode bytes pc = .ok (.goto o, 3)) (ho : 0 ≤ (pc : Int) + o) (hp : ((pc : Int) + o).toNat = pc') (G : own_St p l e R s m args below meth c Fn h locs cells slots pc' Ls st) : own_St p l e R s m args below meth c Fn h locs cells slots pc Ls st :=
  own_pl G fun T H t k => XS.goto H C.1 rfl rfl (hb C.2.1 hd) ho hp k
theorem own_ifY (C : own_Cx p s m meth c Z own bytes mx rt nm) {cd : ClassFile.Cond} {x : Int32} {o : Int} (hd : decode bytes pc = .ok (.ifCond cd o, 3)) (hc : ifCond.holds cd x = true) (ho : 0 ≤ (pc : Int) + o) (hp : ((pc : Int) + o).toNat = pc') (G : own_St p l e R s m args below meth c Fn h locs cells slots pc' Ls st) : own_St p l e R s m args below meth c Fn h locs cells slots pc Ls (.int x :: st) :=
  own_pl G fun T H t k => XS.ifYes H C.1 rfl rfl (hb C.2.1 hd) rfl hc ho hp k
theorem own_ifN (C : own_Cx p s m meth c Z own bytes mx rt nm) {cd : ClassFile.Cond} {x : Int32} {o : Int} (hd : decode bytes pc = .ok (.ifCond cd o, 3)) (hc : ifCond.holds cd x = false) (hp : pc + 3 = pc') (G : own_St p l e R s m args below meth c Fn h locs cells slots pc' Ls st) : own_St p l e R s m args below meth c Fn h locs cells slots pc Ls (.int x :: st) := by
  subst hp; exact own_pl G fun T H t k => XS.ifNo H C.1 rfl (hb C.2.1 hd) rfl hc k
theorem own_icmpY (C : own_Cx p s m meth c Z own bytes mx rt nm) {cd : ClassFile.Cond} {x y : Int32} {o : Int} (hd : decode bytes pc = .ok (.if_icmp cd o, 3)) (hc : if_icmp.holds cd x y = true) (ho : 0 ≤ (pc : Int) + o) (hp : ((pc : Int) + o).toNat = pc') (G : own_St p l e R s m args below meth c Fn h locs cells slots pc' Ls st) : own_St p l e R s m args below meth c Fn h locs cells slots pc Ls (.int y :: .int x :: st) :=
  own_pl G fun T H t k => XS.icmpYes H C.1 rfl rfl (hb C.2.1 hd) rfl hc ho hp k
theorem own_icmpN (C : own_Cx p s m meth c Z own bytes mx rt nm) {cd : ClassFile.Cond} {x y : Int32} {o : Int} (hd : decode bytes pc = .ok (.if_icmp cd o, 3)) (hc : if_icmp.holds cd x y = false) (hp : pc + 3 = pc') (G : own_St p l e R s m args below meth c Fn h locs cells slots pc' Ls st) : own_St p l e R s m args below meth c Fn h locs cells slots pc Ls (.int y :: .int x :: st) := by
  subst hp; exact own_pl G fun T H t k => XS.icmpNo H C.1 rfl (hb C.2.1 hd) rfl hc k
theorem own_acmp (C : own_Cx p s m meth c Z own bytes mx rt nm) {cd : ACond} {x y : Value} {o : Int} {same : Bool} (hd : decode bytes pc = .ok (.if_acmp cd o, 3)) (h1 : x.isRef = true) (h2 : y.isRef = true) (hq : decide (x = y) = same) (ho : 0 ≤ (pc : Int) + o) (hp : pc' = if acV cd same = true then ((pc : Int) + o).toNat else pc + 3) (G : own_St p l e R s m args below meth c Fn h locs cells slots pc' Ls st) : own_St p l e R s m args below meth c Fn h locs cells slots pc Ls (y :: x :: st) :=
  own_mv G fun T X eT => ⟨T, X, eT, fun t k => Jvm.RoadKit.acmp X C.1 rfl h1 h2 rfl (hb C.2.1 hd) rfl hq ho hp k⟩
theorem own_tsw (C : own_Cx p s m meth c Z own bytes mx rt nm) {dflt low high : Int} {offs : Array Int} {len : Nat} {o : Int} {i : Int32} (hd : decode bytes pc = .ok (.tableswitch dflt low high offs, len)) (hin : ¬ (i.toInt < low ∨ i.toInt > high)) (hoff : offs[(i.toInt - low).toNat]? = some o) (ho : 0 ≤ (pc : Int) + o) (hp : ((pc : Int) + o).toNat = pc') (G : own_St p l e R s m args below meth c Fn h locs cells slots pc' Ls st) : own_St p l e R s m args below meth c Fn h locs cells slots pc Ls (.int i :: st) :=
  own_pl G fun T H t k => XS.tswIn H C.1 rfl rfl (hb C.2.1 hd) rfl hin hoff ho hp k
/-! steps that read the tables or the heap -/
theorem own_getS (C : own_Cx p s m meth c Z own bytes mx rt nm) {O n d : String} {index : Nat} {v : Value} (w : (Jvm.Cond.fieldLink own index O n d).before a0 Z = true) (F : Sta Z h O n d v) (hd : decode bytes pc = .ok (.getstatic index, 3)) (hp : pc + 3 = pc') (G : own_St p l e R s m args below meth c Fn h locs cells slots pc' Ls (v :: st)) : own_St p l e R s m args below meth c Fn h locs cells slots pc Ls st := by
  subst hp; exact own_mv G fun T X eT => getS (host := "") X C.1 C.2.2.2.2.2.2.1 C.2.2.2.1 w Via.refl eT F (g := mkF m pc Ls st) rfl (hb C.2.1 hd)
theorem own_getF (C : own_Cx p s m meth c Z own bytes mx rt nm) {O n d host : String} {index : Nat} {a : Addr} {v : Value} (w : (Jvm.Cond.fieldLink own index O n d).before a0 Z = true ∨ (Jvm.Cond.fieldLinkNest own index O n d host).before a0 Z = true) (F : Fld Z h a O n d v) (hd : decode bytes pc = .ok (.getfield index, 3)) (hp : pc + 3 = pc') (G : own_St p l e R s m args below meth c Fn h locs cells slots pc' Ls (v :: st)) : own_St p l e R s m args below meth c Fn h locs cells slots pc Ls (.ref a :: st) := by
  subst hp; exact own_mv G fun T X eT => getF X C.1 C.2.2.2.2.2.2.1 C.2.2.2.1 w Via.refl eT F (g := mkF m pc Ls (.ref a :: st)) rfl rfl (hb C.2.1 hd)
/-! calls -/
section Calls
variable {y z : MethodName} {index W maxL : Nat} {bytes' : ByteArray} {ret' : Option FieldType} {rm : Room} {argsL : List Value} {w : Option Value} {D : Heap → Prop}
theorem own_callS (C : own_Cx p s m meth c Z own bytes mx rt nm) (w1 : (Jvm.Cond.methodLink own index y).before a0 Z = true) (w2 : (Jvm.Cond.static y).before a0 Z = true) (wz : (Jvm.Cond.initialized y.cls).before a0 Z = true) (wc : (Jvm.Cond.code y bytes' maxL ret').before a0 Z = true) (hy : y.cls ≠ "java/lang/invoke/MethodHandle" ∧ y.cls ≠ "java/lang/invoke/VarHandle")
    (M : own_Met l Z y bytes' maxL ret' [] rm rm.cells rm.slots argsL.toArray h (own_Q w n0 D)) (hf : rm.frames + 1 ≤ R.frames) (hl : W + (maxL + 11) + rm.locals ≤ R.locals) (hlen : ∀ sig, parseMethodDescriptor y.desc = some sig → argsL.length = sig.parameters.length) (hst : st = argsL.reverse ++ rest) (hW : 2 * 0 + (rest.map fun v => v.category).sum ≤ W) (hsz : Ls.size = mx) (hd : decode bytes pc = .ok (.invokestatic index, 3)) (hp : pc + 3 = pc')
    (hc : cells + rm.cells ≤ R.cells) (hs : slots + rm.slots ≤ R.slots) (hc' : cells + rm.cells = cells') (hs' : slots + rm.slots = slots') (hst' : w.toList ++ rest = st') (N : Fr n0 locs)
    (G : ∀ h' locs', D h' → Fr n0 locs' → own_St p l e R s m args below meth c Fn h' locs' cells' slots' pc' Ls st') : own_St p l e R s m args below meth c Fn h locs cells slots pc Ls st := by
  subst hp hc' hs' hst'
  intro T X eT
  obtain ⟨_, _, ⟨T', L', k', n'⟩, -, X', ⟨Lc, hQ, l', y', z'⟩, k⟩ := Jvm.LawKit.callS X C.1 C.2.2.2.1 (mvT C.2.2.2.2.2.2.1 w1) (mvT C.2.2.2.2.2.2.1 w2) (mvT C.2.2.2.2.2.2.1 wz) (mvT C.2.2.2.2.2.2.1 wc) hy (backOf (W := W) M C.2.2.2.2.2.2.1 wc wz hf hl) (g := mkF m pc Ls st) rfl (hsz.trans C.2.2.1.symm) hlen hst hW (hb C.2.1 hd) (fun _ _ => ⟨rfl, eT, hc, hs⟩)
  dsimp only [Pt.U, Pt.locs, Pt.cells, Pt.slots] at X' l' y' z' k hQ
  subst l' y' z'
  obtain ⟨rfl, N', hD⟩ := hQ
  obtain ⟨s₂, o, h1, r⟩ := G _ _ hD (N.app N') T' X' rfl
  exact ⟨s₂, o, k _ h1, r⟩
theorem own_callV (C : own_Cx p s m meth c Z own bytes mx rt nm) {K : String} {b : Addr} (w1 : (Jvm.Cond.methodLink own index y).before a0 Z = true) (w2 : (Jvm.Cond.declares y).before a0 Z = true) (w3 : (Jvm.Cond.selects K y y).before a0 Z = true) (w4 : (Jvm.Cond.instanceMethod y).before a0 Z = true) (wz : (Jvm.Cond.initialized y.cls).before a0 Z = true) (wc : (Jvm.Cond.code y bytes' maxL ret').before a0 Z = true) (hy : y.cls ≠ "java/lang/invoke/MethodHandle" ∧ y.cls ≠ "java/lang/invoke/VarHandle") (E : Exa Z h b K)
    (M : own_Met l Z y bytes' maxL ret' [] rm rm.cells rm.slots (.ref b :: argsL).toArray h (own_Q w n0 D)) (hf : rm.frames + 1 ≤ R.frames) (hl : W + (maxL + 11) + rm.locals ≤ R.locals) (hlen : ∀ sig, parseMethodDescriptor y.desc = some sig → argsL.length = sig.parameters.length) (hst : st = argsL.reverse ++ .ref b :: rest) (hW : 2 * 0 + (rest.map fun v => v.category).sum ≤ W) (hsz : Ls.size = mx) (hd : decode bytes pc = .ok (.invokevirtual index, 3)) (hp : pc + 3 = pc')
    (hc : cells + rm.cells ≤ R.cells) (hs : slots + rm.slots ≤ R.slots) (hc' : cells + rm.cells = cells') (hs' : slots + rm.slots = slots') (hst' : w.toList ++ rest = st') (N : Fr n0 locs)
    (G : ∀ h' locs', D h' → Fr n0 locs' → own_St p l e R s m args below meth c Fn h' locs' cells' slots' pc' Ls st') : own_St p l e R s m args below meth c Fn h locs cells slots pc Ls st := by
  subst hp hc' hs' hst'
  intro T X eT
  obtain ⟨cq, kq, q1, q2, q3⟩ := isOf C.2.2.2.2.2.2.1 eT E
  obtain ⟨_, _, ⟨T', L', k', n'⟩, -, X', ⟨Lc, hQ, l', y', z'⟩, k⟩ := X.virtualBack C.1 C.2.2.2.1 (mvT C.2.2.2.2.2.2.1 w1) (mvT C.2.2.2.2.2.2.1 w2) (notFace_of_selects (args := #[]) (mvT C.2.2.2.2.2.2.1 w3)) (mvT C.2.2.2.2.2.2.1 w3) (mvT C.2.2.2.2.2.2.1 w4) hy (backOf (W := W) M C.2.2.2.2.2.2.1 wc wz hf hl) q1 q3 (g := mkF m pc Ls st) rfl (hsz.trans C.2.2.1.symm) (Steps.refl _) hlen hst hW (hb C.2.1 hd) (fun _ _ => ⟨rfl, eT, hc, hs⟩)
  dsimp only [Pt.U, Pt.locs, Pt.cells, Pt.slots] at X' l' y' z' k hQ
  subst l' y' z'
  obtain ⟨rfl, N', hD⟩ := hQ
  obtain ⟨s₂, o, h1, r⟩ := G _ _ hD (N.app N') T' X' rfl
  exact ⟨s₂, o, k.trans h1, r⟩
/-- the method is declared further up (Enum.ordinal, named through the enum's own class) -/
theorem own_callU (C : own_Cx p s m meth c Z own bytes mx rt nm) {K owner : String} {b : Addr} {x : MethodName} (w1 : (Jvm.Cond.methodLink own index x).before a0 Z = true) (w2 : (Jvm.Cond.sameMethod x.cls owner x.name x.desc).before a0 Z = true) (w3 : (Jvm.Cond.declares ⟨owner, x.name, x.desc⟩).before a0 Z = true) (w4 : (Jvm.Cond.selects K x y).before a0 Z = true) (w5 : (Jvm.Cond.instanceMethod y).before a0 Z = true) (wz : (Jvm.Cond.initialized y.cls).before a0 Z = true) (wc : (Jvm.Cond.code y bytes' maxL ret').before a0 Z = true) (hy : owner ≠ "java/lang/invoke/MethodHandle" ∧ owner ≠ "java/lang/invoke/VarHandle") (E : Exa Z h b K)
    (M : own_Met l Z y bytes' maxL ret' [] rm rm.cells rm.slots (.ref b :: argsL).toArray h (own_Q w n0 D)) (hf : rm.frames + 1 ≤ R.frames) (hl : W + (maxL + 11) + rm.locals ≤ R.locals) (hlen : ∀ sig, parseMethodDescriptor x.desc = some sig → argsL.length = sig.parameters.length) (hst : st = argsL.reverse ++ .ref b :: rest) (hW : 2 * 0 + (rest.map fun v => v.category).sum ≤ W) (hsz : Ls.size = mx) (hd : decode bytes pc = .ok (.invokevirtual index, 3)) (hp : pc + 3 = pc')
    (hc : cells + rm.cells ≤ R.cells) (hs : slots + rm.slots ≤ R.slots) (hc' : cells + rm.cells = cells') (hs' : slots + rm.slots = slots') (hst' : w.toList ++ rest = st') (N : Fr n0 locs)
    (G : ∀ h' locs', D h' → Fr n0 locs' → own_St p l e R s m args below meth c Fn h' locs' cells' slots' pc' Ls st') : own_St p l e R s m args below meth c Fn h locs cells slots pc Ls st := by
  subst hp hc' hs' hst'
  intro T X eT
  obtain ⟨cq, kq, q1, q2, q3⟩ := isOf C.2.2.2.2.2.2.1 eT E
  obtain ⟨_, _, ⟨T', L', k', n'⟩, -, X', ⟨Lc, hQ, l', y', z'⟩, k⟩ := X.virtualBackUp C.1 C.2.2.2.1 (mvT C.2.2.2.2.2.2.1 w1) (mvT C.2.2.2.2.2.2.1 w2) (mvT C.2.2.2.2.2.2.1 w3) hy (mvT C.2.2.2.2.2.2.1 w4) (mvT C.2.2.2.2.2.2.1 w5) (backOf (W := W) M C.2.2.2.2.2.2.1 wc wz hf hl) q1 q3 (g := mkF m pc Ls st) rfl (hsz.trans C.2.2.1.symm) (Steps.refl _) hlen hst hW (hb C.2.1 hd) (fun _ _ => ⟨rfl, eT, hc, hs⟩)
  dsimp only [Pt.U, Pt.locs, Pt.cells, Pt.slots] at X' l' y' z' k hQ
  subst l' y' z'
  obtain ⟨rfl, N', hD⟩ := hQ
  obtain ⟨s₂, o, h1, r⟩ := G _ _ hD (N.app N') T' X' rfl
  exact ⟨s₂, o, k.trans h1, r⟩
end Calls
/-! the ends -/
theorem own_ret {i : Instr} {v : Value} {t : FieldType} {w : Option Value} {D : Heap → Prop} (C : own_Cx p s m meth c Z own bytes mx (some t) nm) (hd : decode bytes pc = .ok (i, 1)) (hn : narrow t v = v)
    (hi : (i = .ireturn ∧ (t = .int ∨ t = .boolean ∨ t = .byte ∨ t = .char ∨ t = .short) ∧ ∃ z, v = .int z) ∨ (i = .lreturn ∧ t = .long ∧ ∃ z, v = .long z) ∨ (i = .dreturn ∧ t = .double ∧ ∃ z, v = .double z) ∨ (i = .freturn ∧ t = .float ∧ ∃ z, v = .float z) ∨ (i = .areturn ∧ t.isReference = true ∧ v.isRef = true))
    (hw : some v = w) (N : Fr n0 locs) (hD : D h) (hk : cells ≤ kk) (hs : slots ≤ nn) : own_St p l e R s m args below meth c (own_F s (own_Q w n0 D) kk nn) h locs cells slots pc Ls (v :: st) := by
  subst hw
  intro T X eT
  obtain ⟨fs, hr, hrun, hended, hW, hsame⟩ := X.leave (v := some v) (fun q => by rw [C.2.2.2.2.1] at q; cases q) C.2.2.2.2.2.1
  exact ⟨_, _, retOut X C.1 C.2.2.2.2.1 hn hi (hb C.2.1 hd) hr, hrun, hended, _, locs, rfl, ⟨rfl, N, by show D T.heap; rw [eT]; exact hD⟩, ⟨_, rfl⟩, hW, hsame.mono hk hs⟩
/-! small facts -/
theorem own_pure (G : ∀ locs', Fr n0 locs' → own_St p l e R s m args below meth c Fn h locs' cells slots pc Ls st) : ∀ h' locs', h' = h → Fr n0 locs' → own_St p l e R s m args below meth c Fn h' locs' cells slots pc Ls st := fun h' locs' q N => q ▸ G locs' N
theorem own_eqI {t : Term} {k : Int32} (q : (Jvm.Cond.eq t (.int k)).value a0 s none s [] = some true) : t.eval a0 s none [] s = some (.int k) := by
  simp only [Cond.value, Term.eval] at q
  cases ht : t.eval a0 s none [] s with
  | none => simp [ht] at q
  | some x => cases x <;> simp [ht] at q ⊢; exact q
end Own
theorem d1_0 : decode method_2_code 0 = .ok (.iload_n 0, 1) := by decide +kernel
theorem d1_1 : decode method_2_code 1 = .ok (.ifCond .ne 7, 3) := by decide +kernel
theorem d1_4 : decode method_2_code 4 = .ok (.getstatic 7, 3) := by decide +kernel
theorem d1_7 : decode method_2_code 7 = .ok (.areturn, 1) := by decide +kernel
theorem d1_8 : decode method_2_code 8 = .ok (.iload_n 0, 1) := by decide +kernel
theorem d1_9 : decode method_2_code 9 = .ok (.iconst 1, 1) := by decide +kernel
theorem d1_10 : decode method_2_code 10 = .ok (.if_icmp .ne 7, 3) := by decide +kernel
theorem d1_13 : decode method_2_code 13 = .ok (.getstatic 13, 3) := by decide +kernel
theorem d1_16 : decode method_2_code 16 = .ok (.areturn, 1) := by decide +kernel
theorem d1_17 : decode method_2_code 17 = .ok (.iload_n 0, 1) := by decide +kernel
theorem d1_18 : decode method_2_code 18 = .ok (.iconst 2, 1) := by decide +kernel
theorem d1_19 : decode method_2_code 19 = .ok (.if_icmp .ne 7, 3) := by decide +kernel
theorem d1_22 : decode method_2_code 22 = .ok (.getstatic 16, 3) := by decide +kernel
theorem d1_25 : decode method_2_code 25 = .ok (.areturn, 1) := by decide +kernel
theorem d1_26 : decode method_2_code 26 = .ok (.iload_n 0, 1) := by decide +kernel
theorem d1_27 : decode method_2_code 27 = .ok (.iconst 3, 1) := by decide +kernel
theorem d1_28 : decode method_2_code 28 = .ok (.if_icmp .ne 7, 3) := by decide +kernel
theorem d1_31 : decode method_2_code 31 = .ok (.getstatic 19, 3) := by decide +kernel
theorem d1_34 : decode method_2_code 34 = .ok (.areturn, 1) := by decide +kernel
theorem d1_35 : decode method_2_code 35 = .ok (.iload_n 0, 1) := by decide +kernel
theorem d1_36 : decode method_2_code 36 = .ok (.iconst 4, 1) := by decide +kernel
theorem d1_37 : decode method_2_code 37 = .ok (.if_icmp .ne 7, 3) := by decide +kernel
theorem d1_40 : decode method_2_code 40 = .ok (.getstatic 22, 3) := by decide +kernel
theorem d1_43 : decode method_2_code 43 = .ok (.areturn, 1) := by decide +kernel
theorem d1_44 : decode method_2_code 44 = .ok (.iload_n 0, 1) := by decide +kernel
theorem d1_45 : decode method_2_code 45 = .ok (.iconst 5, 1) := by decide +kernel
theorem d1_46 : decode method_2_code 46 = .ok (.if_icmp .ne 7, 3) := by decide +kernel
theorem d1_49 : decode method_2_code 49 = .ok (.getstatic 25, 3) := by decide +kernel
theorem d1_52 : decode method_2_code 52 = .ok (.areturn, 1) := by decide +kernel
theorem d1_53 : decode method_2_code 53 = .ok (.iload_n 0, 1) := by decide +kernel
theorem d1_54 : decode method_2_code 54 = .ok (.bipush 6, 2) := by decide +kernel
theorem d1_56 : decode method_2_code 56 = .ok (.if_icmp .ne 7, 3) := by decide +kernel
theorem d1_59 : decode method_2_code 59 = .ok (.getstatic 28, 3) := by decide +kernel
theorem d1_62 : decode method_2_code 62 = .ok (.areturn, 1) := by decide +kernel
theorem d1_63 : decode method_2_code 63 = .ok (.getstatic 31, 3) := by decide +kernel
theorem d1_66 : decode method_2_code 66 = .ok (.areturn, 1) := by decide +kernel
theorem d2_0 : decode prog_15_method_5_code 0 = .ok (.aload_n 0, 1) := by decide +kernel
theorem d2_1 : decode prog_15_method_5_code 1 = .ok (.getstatic 3, 3) := by decide +kernel
theorem d2_4 : decode prog_15_method_5_code 4 = .ok (.if_acmp .eq 14, 3) := by decide +kernel
theorem d2_7 : decode prog_15_method_5_code 7 = .ok (.aload_n 0, 1) := by decide +kernel
theorem d2_8 : decode prog_15_method_5_code 8 = .ok (.getstatic 7, 3) := by decide +kernel
theorem d2_11 : decode prog_15_method_5_code 11 = .ok (.if_acmp .eq 7, 3) := by decide +kernel
theorem d2_14 : decode prog_15_method_5_code 14 = .ok (.iconst 1, 1) := by decide +kernel
theorem d2_15 : decode prog_15_method_5_code 15 = .ok (.goto 4, 3) := by decide +kernel
theorem d2_18 : decode prog_15_method_5_code 18 = .ok (.iconst 0, 1) := by decide +kernel
theorem d2_19 : decode prog_15_method_5_code 19 = .ok (.ireturn, 1) := by decide +kernel
theorem d3_0 : decode prog_15_method_6_code 0 = .ok (.aload_n 0, 1) := by decide +kernel
theorem d3_1 : decode prog_15_method_6_code 1 = .ok (.invokevirtual 51, 3) := by decide +kernel
theorem d3_4 : decode prog_15_method_6_code 4 = .ok (.tableswitch 48 0 7 #[58, 62, 66, 78, 90, 102, 114, 126], 48) := by decide +kernel
theorem d3_62 : decode prog_15_method_6_code 62 = .ok (.iconst 0, 1) := by decide +kernel
theorem d3_63 : decode prog_15_method_6_code 63 = .ok (.goto 76, 3) := by decide +kernel
theorem d3_66 : decode prog_15_method_6_code 66 = .ok (.iconst 1, 1) := by decide +kernel
theorem d3_67 : decode prog_15_method_6_code 67 = .ok (.goto 72, 3) := by decide +kernel
theorem d3_70 : decode prog_15_method_6_code 70 = .ok (.iload_n 1, 1) := by decide +kernel
theorem d3_71 : decode prog_15_method_6_code 71 = .ok (.ifCond .ge 7, 3) := by decide +kernel
theorem d3_74 : decode prog_15_method_6_code 74 = .ok (.iconst 1, 1) := by decide +kernel
theorem d3_75 : decode prog_15_method_6_code 75 = .ok (.goto 64, 3) := by decide +kernel
theorem d3_78 : decode prog_15_method_6_code 78 = .ok (.iconst 0, 1) := by decide +kernel
theorem d3_79 : decode prog_15_method_6_code 79 = .ok (.goto 60, 3) := by decide +kernel
theorem d3_82 : decode prog_15_method_6_code 82 = .ok (.iload_n 1, 1) := by decide +kernel
theorem d3_83 : decode prog_15_method_6_code 83 = .ok (.ifCond .gt 7, 3) := by decide +kernel
theorem d3_86 : decode prog_15_method_6_code 86 = .ok (.iconst 1, 1) := by decide +kernel
theorem d3_87 : decode prog_15_method_6_code 87 = .ok (.goto 52, 3) := by decide +kernel
theorem d3_90 : decode prog_15_method_6_code 90 = .ok (.iconst 0, 1) := by decide +kernel
theorem d3_91 : decode prog_15_method_6_code 91 = .ok (.goto 48, 3) := by decide +kernel
theorem d3_94 : decode prog_15_method_6_code 94 = .ok (.iload_n 1, 1) := by decide +kernel
theorem d3_95 : decode prog_15_method_6_code 95 = .ok (.ifCond .le 7, 3) := by decide +kernel
theorem d3_98 : decode prog_15_method_6_code 98 = .ok (.iconst 1, 1) := by decide +kernel
theorem d3_99 : decode prog_15_method_6_code 99 = .ok (.goto 40, 3) := by decide +kernel
theorem d3_102 : decode prog_15_method_6_code 102 = .ok (.iconst 0, 1) := by decide +kernel
theorem d3_103 : decode prog_15_method_6_code 103 = .ok (.goto 36, 3) := by decide +kernel
theorem d3_106 : decode prog_15_method_6_code 106 = .ok (.iload_n 1, 1) := by decide +kernel
theorem d3_107 : decode prog_15_method_6_code 107 = .ok (.ifCond .lt 7, 3) := by decide +kernel
theorem d3_110 : decode prog_15_method_6_code 110 = .ok (.iconst 1, 1) := by decide +kernel
theorem d3_111 : decode prog_15_method_6_code 111 = .ok (.goto 28, 3) := by decide +kernel
theorem d3_114 : decode prog_15_method_6_code 114 = .ok (.iconst 0, 1) := by decide +kernel
theorem d3_115 : decode prog_15_method_6_code 115 = .ok (.goto 24, 3) := by decide +kernel
theorem d3_118 : decode prog_15_method_6_code 118 = .ok (.iload_n 1, 1) := by decide +kernel
theorem d3_119 : decode prog_15_method_6_code 119 = .ok (.ifCond .ne 7, 3) := by decide +kernel
theorem d3_122 : decode prog_15_method_6_code 122 = .ok (.iconst 1, 1) := by decide +kernel
theorem d3_123 : decode prog_15_method_6_code 123 = .ok (.goto 16, 3) := by decide +kernel
theorem d3_126 : decode prog_15_method_6_code 126 = .ok (.iconst 0, 1) := by decide +kernel
theorem d3_127 : decode prog_15_method_6_code 127 = .ok (.goto 12, 3) := by decide +kernel
theorem d3_130 : decode prog_15_method_6_code 130 = .ok (.iload_n 1, 1) := by decide +kernel
theorem d3_131 : decode prog_15_method_6_code 131 = .ok (.ifCond .eq 7, 3) := by decide +kernel
theorem d3_134 : decode prog_15_method_6_code 134 = .ok (.iconst 1, 1) := by decide +kernel
theorem d3_135 : decode prog_15_method_6_code 135 = .ok (.goto 4, 3) := by decide +kernel
theorem d3_138 : decode prog_15_method_6_code 138 = .ok (.iconst 0, 1) := by decide +kernel
theorem d3_139 : decode prog_15_method_6_code 139 = .ok (.ireturn, 1) := by decide +kernel
theorem d4_0 : decode jdk_37_method_2_code 0 = .ok (.aload_n 0, 1) := by decide +kernel
theorem d4_1 : decode jdk_37_method_2_code 1 = .ok (.getfield 7, 3) := by decide +kernel
theorem d4_4 : decode jdk_37_method_2_code 4 = .ok (.ireturn, 1) := by decide +kernel
theorem d5_0 : decode prog_15_method_4_code 0 = .ok (.aload_n 0, 1) := by decide +kernel
theorem d5_1 : decode prog_15_method_4_code 1 = .ok (.invokevirtual 51, 3) := by decide +kernel
theorem d5_4 : decode prog_15_method_4_code 4 = .ok (.tableswitch 48 0 7 #[58, 64, 70, 76, 82, 88, 94, 100], 48) := by decide +kernel
theorem d5_62 : decode prog_15_method_4_code 62 = .ok (.getstatic 7, 3) := by decide +kernel
theorem d5_65 : decode prog_15_method_4_code 65 = .ok (.goto 42, 3) := by decide +kernel
theorem d5_68 : decode prog_15_method_4_code 68 = .ok (.getstatic 3, 3) := by decide +kernel
theorem d5_71 : decode prog_15_method_4_code 71 = .ok (.goto 36, 3) := by decide +kernel
theorem d5_74 : decode prog_15_method_4_code 74 = .ok (.getstatic 19, 3) := by decide +kernel
theorem d5_77 : decode prog_15_method_4_code 77 = .ok (.goto 30, 3) := by decide +kernel
theorem d5_80 : decode prog_15_method_4_code 80 = .ok (.getstatic 16, 3) := by decide +kernel
theorem d5_83 : decode prog_15_method_4_code 83 = .ok (.goto 24, 3) := by decide +kernel
theorem d5_86 : decode prog_15_method_4_code 86 = .ok (.getstatic 13, 3) := by decide +kernel
theorem d5_89 : decode prog_15_method_4_code 89 = .ok (.goto 18, 3) := by decide +kernel
theorem d5_92 : decode prog_15_method_4_code 92 = .ok (.getstatic 10, 3) := by decide +kernel
theorem d5_95 : decode prog_15_method_4_code 95 = .ok (.goto 12, 3) := by decide +kernel
theorem d5_98 : decode prog_15_method_4_code 98 = .ok (.getstatic 25, 3) := by decide +kernel
theorem d5_101 : decode prog_15_method_4_code 101 = .ok (.goto 6, 3) := by decide +kernel
theorem d5_104 : decode prog_15_method_4_code 104 = .ok (.getstatic 22, 3) := by decide +kernel
theorem d5_107 : decode prog_15_method_4_code 107 = .ok (.areturn, 1) := by decide +kernel
theorem own_pd0 : parseMethodDescriptor "(I)Lcom/example/floe/floe/Expression$Operator;" = some ⟨[.int], some (.object "com/example/floe/floe/Expression$Operator")⟩ := by decide +kernel
theorem own_pd1 : parseMethodDescriptor "()Z" = some ⟨[], some .boolean⟩ := by decide +kernel
theorem own_pd2 : parseMethodDescriptor "()I" = some ⟨[], some .int⟩ := by decide +kernel
theorem own_pd3 : parseMethodDescriptor "(I)Z" = some ⟨[.int], some .boolean⟩ := by decide +kernel
theorem own_pd4 : parseMethodDescriptor "()Lcom/example/floe/floe/Expression$Operator;" = some ⟨[], some (.object "com/example/floe/floe/Expression$Operator")⟩ := by decide +kernel
theorem own_pn0 : plainName "com/example/floe/floe/OperatorComparesWithLiteralPinLaw" = true := by first | (simp [plainName, overriddenIn]; done) | decide +kernel
theorem own_pn1 : plainName "com/example/floe/floe/Expression$Operator" = true := by first | (simp [plainName, overriddenIn]; done) | decide +kernel
theorem own_pn2 : plainName "java/lang/Enum" = true := by first | (simp [plainName, overriddenIn]; done) | decide +kernel
theorem own_ef0 (m : MethodId) (x0 : Int32) : entryFrame m #[(.int x0)] 1 = mkF m 0 #[.val (.int x0)] [] := by first | (simp [entryFrame, mkF, argsToLocals, Value.category]; done) | rfl
theorem own_ef1 (m : MethodId) (x0 : Addr) : entryFrame m #[(.ref x0)] 1 = mkF m 0 #[.val (.ref x0)] [] := by first | (simp [entryFrame, mkF, argsToLocals, Value.category]; done) | rfl
theorem own_ef2 (m : MethodId) (x0 : Addr) (x1 : Int32) : entryFrame m #[(.ref x0), (.int x1)] 2 = mkF m 0 #[.val (.ref x0), .val (.int x1)] [] := by first | (simp [entryFrame, mkF, argsToLocals, Value.category]; done) | rfl
theorem own_ef3 (m : MethodId) (x0 : Int32) : entryFrame m #[(.int x0)] 8 = mkF m 0 #[.val (.int x0), .unset, .unset, .unset, .unset, .unset, .unset, .unset] [] := by first | (simp [entryFrame, mkF, argsToLocals, Value.category]; done) | rfl
theorem own_w0 {Z : State} {a0 : Array Value} (hw : ∀ d ∈ tables_1, d.before a0 Z = true) : (Jvm.Cond.methodLink "com/example/floe/floe/OperatorComparesWithLiteralPinLaw" (34 : Nat) ({ cls := "com/example/floe/floe/OperatorComparesWithLiteralPinLaw", name := "pick", desc := "(I)Lcom/example/floe/floe/Expression$Operator;" } : Jvm.MethodName)).before a0 Z = true := hw _ (List.mem_of_getElem? (i := 0) rfl)
theorem own_w1 {Z : State} {a0 : Array Value} (hw : ∀ d ∈ tables_1, d.before a0 Z = true) : (Jvm.Cond.static ({ cls := "com/example/floe/floe/OperatorComparesWithLiteralPinLaw", name := "pick", desc := "(I)Lcom/example/floe/floe/Expression$Operator;" } : Jvm.MethodName)).before a0 Z = true := hw _ (List.mem_of_getElem? (i := 1) rfl)
theorem own_w2 {Z : State} {a0 : Array Value} (hw : ∀ d ∈ tables_1, d.before a0 Z = true) : (Jvm.Cond.initialized "com/example/floe/floe/OperatorComparesWithLiteralPinLaw").before a0 Z = true := hw _ (List.mem_of_getElem? (i := 2) rfl)
theorem own_w3 {Z : State} {a0 : Array Value} (hw : ∀ d ∈ tables_1, d.before a0 Z = true) : (Jvm.Cond.code ({ cls := "com/example/floe/floe/OperatorComparesWithLiteralPinLaw", name := "pick", desc := "(I)Lcom/example/floe/floe/Expression$Operator;" } : Jvm.MethodName) method_2_code (1 : Nat) (Option.some (Jvm.ClassFile.FieldType.object "com/example/floe/floe/Expression$Operator"))).before a0 Z = true := hw _ (List.mem_of_getElem? (i := 3) rfl)
theorem own_w4 {Z : State} {a0 : Array Value} (hw : ∀ d ∈ tables_1, d.before a0 Z = true) : (Jvm.Cond.fieldLink "com/example/floe/floe/OperatorComparesWithLiteralPinLaw" (7 : Nat) "com/example/floe/floe/Expression$Operator" "IS_NULL" "Lcom/example/floe/floe/Expression$Operator;").before a0 Z = true := hw _ (List.mem_of_getElem? (i := 4) rfl)
theorem own_w5 {Z : State} {a0 : Array Value} (hw : ∀ d ∈ tables_1, d.before a0 Z = true) : (Jvm.Cond.initialized "com/example/floe/floe/Expression$Operator").before a0 Z = true := hw _ (List.mem_of_getElem? (i := 5) rfl)
theorem own_w6 {Z : State} {a0 : Array Value} (hw : ∀ d ∈ tables_1, d.before a0 Z = true) : (Jvm.Cond.laysStatic "com/example/floe/floe/Expression$Operator" "IS_NULL" "Lcom/example/floe/floe/Expression$Operator;").before a0 Z = true := hw _ (List.mem_of_getElem? (i := 6) rfl)
theorem own_w7 {Z : State} {a0 : Array Value} (hw : ∀ d ∈ tables_1, d.before a0 Z = true) : (Jvm.Cond.methodLink "com/example/floe/floe/OperatorComparesWithLiteralPinLaw" (40 : Nat) ({ cls := "com/example/floe/floe/Expression$Operator", name := "comparesWithLiteral", desc := "()Z" } : Jvm.MethodName)).before a0 Z = true := hw _ (List.mem_of_getElem? (i := 7) rfl)
theorem own_w8 {Z : State} {a0 : Array Value} (hw : ∀ d ∈ tables_1, d.before a0 Z = true) : (Jvm.Cond.declares ({ cls := "com/example/floe/floe/Expression$Operator", name := "comparesWithLiteral", desc := "()Z" } : Jvm.MethodName)).before a0 Z = true := hw _ (List.mem_of_getElem? (i := 8) rfl)
theorem own_w9 {Z : State} {a0 : Array Value} (hw : ∀ d ∈ tables_1, d.before a0 Z = true) : (Jvm.Cond.instanceMethod ({ cls := "com/example/floe/floe/Expression$Operator", name := "comparesWithLiteral", desc := "()Z" } : Jvm.MethodName)).before a0 Z = true := hw _ (List.mem_of_getElem? (i := 9) rfl)
theorem own_w10 {Z : State} {a0 : Array Value} (hw : ∀ d ∈ tables_1, d.before a0 Z = true) : (Jvm.Cond.selects "com/example/floe/floe/Expression$Operator" ({ cls := "com/example/floe/floe/Expression$Operator", name := "comparesWithLiteral", desc := "()Z" } : Jvm.MethodName) ({ cls := "com/example/floe/floe/Expression$Operator", name := "comparesWithLiteral", desc := "()Z" } : Jvm.MethodName)).before a0 Z = true := hw _ (List.mem_of_getElem? (i := 10) rfl)
theorem own_w11 {Z : State} {a0 : Array Value} (hw : ∀ d ∈ tables_1, d.before a0 Z = true) : (Jvm.Cond.code ({ cls := "com/example/floe/floe/Expression$Operator", name := "comparesWithLiteral", desc := "()Z" } : Jvm.MethodName) prog_15_method_5_code (1 : Nat) (Option.some Jvm.ClassFile.FieldType.boolean)).before a0 Z = true := hw _ (List.mem_of_getElem? (i := 11) rfl)
theorem own_w12 {Z : State} {a0 : Array Value} (hw : ∀ d ∈ tables_1, d.before a0 Z = true) : (Jvm.Cond.fieldLink "com/example/floe/floe/Expression$Operator" (3 : Nat) "com/example/floe/floe/Expression$Operator" "IS_NULL" "Lcom/example/floe/floe/Expression$Operator;").before a0 Z = true := hw _ (List.mem_of_getElem? (i := 12) rfl)
theorem own_w13 {Z : State} {a0 : Array Value} (hw : ∀ d ∈ tables_1, d.before a0 Z = true) : (Jvm.Cond.methodLink "com/example/floe/floe/OperatorComparesWithLiteralPinLaw" (44 : Nat) ({ cls := "com/example/floe/floe/Expression$Operator", name := "holds", desc := "(I)Z" } : Jvm.MethodName)).before a0 Z = true := hw _ (List.mem_of_getElem? (i := 13) rfl)
theorem own_w14 {Z : State} {a0 : Array Value} (hw : ∀ d ∈ tables_1, d.before a0 Z = true) : (Jvm.Cond.declares ({ cls := "com/example/floe/floe/Expression$Operator", name := "holds", desc := "(I)Z" } : Jvm.MethodName)).before a0 Z = true := hw _ (List.mem_of_getElem? (i := 14) rfl)
theorem own_w15 {Z : State} {a0 : Array Value} (hw : ∀ d ∈ tables_1, d.before a0 Z = true) : (Jvm.Cond.instanceMethod ({ cls := "com/example/floe/floe/Expression$Operator", name := "holds", desc := "(I)Z" } : Jvm.MethodName)).before a0 Z = true := hw _ (List.mem_of_getElem? (i := 15) rfl)
theorem own_w16 {Z : State} {a0 : Array Value} (hw : ∀ d ∈ tables_1, d.before a0 Z = true) : (Jvm.Cond.selects "com/example/floe/floe/Expression$Operator" ({ cls := "com/example/floe/floe/Expression$Operator", name := "holds", desc := "(I)Z" } : Jvm.MethodName) ({ cls := "com/example/floe/floe/Expression$Operator", name := "holds", desc := "(I)Z" } : Jvm.MethodName)).before a0 Z = true := hw _ (List.mem_of_getElem? (i := 16) rfl)
theorem own_w17 {Z : State} {a0 : Array Value} (hw : ∀ d ∈ tables_1, d.before a0 Z = true) : (Jvm.Cond.code ({ cls := "com/example/floe/floe/Expression$Operator", name := "holds", desc := "(I)Z" } : Jvm.MethodName) prog_15_method_6_code (2 : Nat) (Option.some Jvm.ClassFile.FieldType.boolean)).before a0 Z = true := hw _ (List.mem_of_getElem? (i := 17) rfl)
theorem own_w18 {Z : State} {a0 : Array Value} (hw : ∀ d ∈ tables_1, d.before a0 Z = true) : (Jvm.Cond.methodLink "com/example/floe/floe/Expression$Operator" (51 : Nat) ({ cls := "com/example/floe/floe/Expression$Operator", name := "ordinal", desc := "()I" } : Jvm.MethodName)).before a0 Z = true := hw _ (List.mem_of_getElem? (i := 18) rfl)
theorem own_w19 {Z : State} {a0 : Array Value} (hw : ∀ d ∈ tables_1, d.before a0 Z = true) : (Jvm.Cond.sameMethod "com/example/floe/floe/Expression$Operator" "java/lang/Enum" "ordinal" "()I").before a0 Z = true := hw _ (List.mem_of_getElem? (i := 19) rfl)
theorem own_w20 {Z : State} {a0 : Array Value} (hw : ∀ d ∈ tables_1, d.before a0 Z = true) : (Jvm.Cond.declares ({ cls := "java/lang/Enum", name := "ordinal", desc := "()I" } : Jvm.MethodName)).before a0 Z = true := hw _ (List.mem_of_getElem? (i := 20) rfl)
theorem own_w21 {Z : State} {a0 : Array Value} (hw : ∀ d ∈ tables_1, d.before a0 Z = true) : (Jvm.Cond.instanceMethod ({ cls := "java/lang/Enum", name := "ordinal", desc := "()I" } : Jvm.MethodName)).before a0 Z = true := hw _ (List.mem_of_getElem? (i := 21) rfl)
theorem own_w22 {Z : State} {a0 : Array Value} (hw : ∀ d ∈ tables_1, d.before a0 Z = true) : (Jvm.Cond.selects "com/example/floe/floe/Expression$Operator" ({ cls := "com/example/floe/floe/Expression$Operator", name := "ordinal", desc := "()I" } : Jvm.MethodName) ({ cls := "java/lang/Enum", name := "ordinal", desc := "()I" } : Jvm.MethodName)).before a0 Z = true := hw _ (List.mem_of_getElem? (i := 22) rfl)
theorem own_w23 {Z : State} {a0 : Array Value} (hw : ∀ d ∈ tables_1, d.before a0 Z = true) : (Jvm.Cond.initialized "java/lang/Enum").before a0 Z = true := hw _ (List.mem_of_getElem? (i := 23) rfl)
theorem own_w24 {Z : State} {a0 : Array Value} (hw : ∀ d ∈ tables_1, d.before a0 Z = true) : (Jvm.Cond.code ({ cls := "java/lang/Enum", name := "ordinal", desc := "()I" } : Jvm.MethodName) jdk_37_method_2_code (1 : Nat) (Option.some Jvm.ClassFile.FieldType.int)).before a0 Z = true := hw _ (List.mem_of_getElem? (i := 24) rfl)
theorem own_w25 {Z : State} {a0 : Array Value} (hw : ∀ d ∈ tables_1, d.before a0 Z = true) : (Jvm.Cond.fieldLink "java/lang/Enum" (7 : Nat) "java/lang/Enum" "ordinal" "I").before a0 Z = true := hw _ (List.mem_of_getElem? (i := 25) rfl)
theorem own_w27 {Z : State} {a0 : Array Value} (hw : ∀ d ∈ tables_1, d.before a0 Z = true) : (Jvm.Cond.methodLink "com/example/floe/floe/OperatorComparesWithLiteralPinLaw" (48 : Nat) ({ cls := "com/example/floe/floe/Expression$Operator", name := "negate", desc := "()Lcom/example/floe/floe/Expression$Operator;" } : Jvm.MethodName)).before a0 Z = true := hw _ (List.mem_of_getElem? (i := 27) rfl)
theorem own_w28 {Z : State} {a0 : Array Value} (hw : ∀ d ∈ tables_1, d.before a0 Z = true) : (Jvm.Cond.declares ({ cls := "com/example/floe/floe/Expression$Operator", name := "negate", desc := "()Lcom/example/floe/floe/Expression$Operator;" } : Jvm.MethodName)).before a0 Z = true := hw _ (List.mem_of_getElem? (i := 28) rfl)
theorem own_w29 {Z : State} {a0 : Array Value} (hw : ∀ d ∈ tables_1, d.before a0 Z = true) : (Jvm.Cond.instanceMethod ({ cls := "com/example/floe/floe/Expression$Operator", name := "negate", desc := "()Lcom/example/floe/floe/Expression$Operator;" } : Jvm.MethodName)).before a0 Z = true := hw _ (List.mem_of_getElem? (i := 29) rfl)
theorem own_w30 {Z : State} {a0 : Array Value} (hw : ∀ d ∈ tables_1, d.before a0 Z = true) : (Jvm.Cond.selects "com/example/floe/floe/Expression$Operator" ({ cls := "com/example/floe/floe/Expression$Operator", name := "negate", desc := "()Lcom/example/floe/floe/Expression$Operator;" } : Jvm.MethodName) ({ cls := "com/example/floe/floe/Expression$Operator", name := "negate", desc := "()Lcom/example/floe/floe/Expression$Operator;" } : Jvm.MethodName)).before a0 Z = true := hw _ (List.mem_of_getElem? (i := 30) rfl)
theorem own_w31 {Z : State} {a0 : Array Value} (hw : ∀ d ∈ tables_1, d.before a0 Z = true) : (Jvm.Cond.code ({ cls := "com/example/floe/floe/Expression$Operator", name := "negate", desc := "()Lcom/example/floe/floe/Expression$Operator;" } : Jvm.MethodName) prog_15_method_4_code (1 : Nat) (Option.some (Jvm.ClassFile.FieldType.object "com/example/floe/floe/Expression$Operator"))).before a0 Z = true := hw _ (List.mem_of_getElem? (i := 31) rfl)
theorem own_w32 {Z : State} {a0 : Array Value} (hw : ∀ d ∈ tables_1, d.before a0 Z = true) : (Jvm.Cond.fieldLink "com/example/floe/floe/Expression$Operator" (7 : Nat) "com/example/floe/floe/Expression$Operator" "NOT_NULL" "Lcom/example/floe/floe/Expression$Operator;").before a0 Z = true := hw _ (List.mem_of_getElem? (i := 32) rfl)
theorem own_w33 {Z : State} {a0 : Array Value} (hw : ∀ d ∈ tables_1, d.before a0 Z = true) : (Jvm.Cond.laysStatic "com/example/floe/floe/Expression$Operator" "NOT_NULL" "Lcom/example/floe/floe/Expression$Operator;").before a0 Z = true := hw _ (List.mem_of_getElem? (i := 33) rfl)
theorem own_w34 {Z : State} {a0 : Array Value} (hw : ∀ d ∈ tables_1, d.before a0 Z = true) : (Jvm.Cond.fieldLink "com/example/floe/floe/OperatorComparesWithLiteralPinLaw" (19 : Nat) "com/example/floe/floe/Expression$Operator" "LESS_THAN_OR_EQUAL" "Lcom/example/floe/floe/Expression$Operator;").before a0 Z = true := hw _ (List.mem_of_getElem? (i := 34) rfl)
theorem own_w35 {Z : State} {a0 : Array Value} (hw : ∀ d ∈ tables_1, d.before a0 Z = true) : (Jvm.Cond.laysStatic "com/example/floe/floe/Expression$Operator" "LESS_THAN_OR_EQUAL" "Lcom/example/floe/floe/Expression$Operator;").before a0 Z = true := hw _ (List.mem_of_getElem? (i := 35) rfl)
theorem own_w36 {Z : State} {a0 : Array Value} (hw : ∀ d ∈ tables_1, d.before a0 Z = true) : (Jvm.Cond.fieldLink "com/example/floe/floe/Expression$Operator" (16 : Nat) "com/example/floe/floe/Expression$Operator" "GREATER_THAN" "Lcom/example/floe/floe/Expression$Operator;").before a0 Z = true := hw _ (List.mem_of_getElem? (i := 36) rfl)
theorem own_w37 {Z : State} {a0 : Array Value} (hw : ∀ d ∈ tables_1, d.before a0 Z = true) : (Jvm.Cond.laysStatic "com/example/floe/floe/Expression$Operator" "GREATER_THAN" "Lcom/example/floe/floe/Expression$Operator;").before a0 Z = true := hw _ (List.mem_of_getElem? (i := 37) rfl)
theorem own_w38 {Z : State} {a0 : Array Value} (hw : ∀ d ∈ tables_1, d.before a0 Z = true) : (Jvm.Cond.fieldLink "com/example/floe/floe/OperatorComparesWithLiteralPinLaw" (28 : Nat) "com/example/floe/floe/Expression$Operator" "EQUAL" "Lcom/example/floe/floe/Expression$Operator;").before a0 Z = true := hw _ (List.mem_of_getElem? (i := 38) rfl)
theorem own_w39 {Z : State} {a0 : Array Value} (hw : ∀ d ∈ tables_1, d.before a0 Z = true) : (Jvm.Cond.laysStatic "com/example/floe/floe/Expression$Operator" "EQUAL" "Lcom/example/floe/floe/Expression$Operator;").before a0 Z = true := hw _ (List.mem_of_getElem? (i := 39) rfl)
theorem own_w40 {Z : State} {a0 : Array Value} (hw : ∀ d ∈ tables_1, d.before a0 Z = true) : (Jvm.Cond.fieldLink "com/example/floe/floe/Expression$Operator" (25 : Nat) "com/example/floe/floe/Expression$Operator" "NOT_EQUAL" "Lcom/example/floe/floe/Expression$Operator;").before a0 Z = true := hw _ (List.mem_of_getElem? (i := 40) rfl)
theorem own_w41 {Z : State} {a0 : Array Value} (hw : ∀ d ∈ tables_1, d.before a0 Z = true) : (Jvm.Cond.laysStatic "com/example/floe/floe/Expression$Operator" "NOT_EQUAL" "Lcom/example/floe/floe/Expression$Operator;").before a0 Z = true := hw _ (List.mem_of_getElem? (i := 41) rfl)
theorem own_w42 {Z : State} {a0 : Array Value} (hw : ∀ d ∈ tables_1, d.before a0 Z = true) : (Jvm.Cond.fieldLink "com/example/floe/floe/OperatorComparesWithLiteralPinLaw" (31 : Nat) "com/example/floe/floe/Expression$Operator" "NOT_EQUAL" "Lcom/example/floe/floe/Expression$Operator;").before a0 Z = true := hw _ (List.mem_of_getElem? (i := 42) rfl)
theorem own_w43 {Z : State} {a0 : Array Value} (hw : ∀ d ∈ tables_1, d.before a0 Z = true) : (Jvm.Cond.fieldLink "com/example/floe/floe/Expression$Operator" (22 : Nat) "com/example/floe/floe/Expression$Operator" "EQUAL" "Lcom/example/floe/floe/Expression$Operator;").before a0 Z = true := hw _ (List.mem_of_getElem? (i := 43) rfl)
theorem own_w44 {Z : State} {a0 : Array Value} (hw : ∀ d ∈ tables_1, d.before a0 Z = true) : (Jvm.Cond.fieldLink "com/example/floe/floe/OperatorComparesWithLiteralPinLaw" (16 : Nat) "com/example/floe/floe/Expression$Operator" "LESS_THAN" "Lcom/example/floe/floe/Expression$Operator;").before a0 Z = true := hw _ (List.mem_of_getElem? (i := 44) rfl)
theorem own_w45 {Z : State} {a0 : Array Value} (hw : ∀ d ∈ tables_1, d.before a0 Z = true) : (Jvm.Cond.laysStatic "com/example/floe/floe/Expression$Operator" "LESS_THAN" "Lcom/example/floe/floe/Expression$Operator;").before a0 Z = true := hw _ (List.mem_of_getElem? (i := 45) rfl)
theorem own_w46 {Z : State} {a0 : Array Value} (hw : ∀ d ∈ tables_1, d.before a0 Z = true) : (Jvm.Cond.fieldLink "com/example/floe/floe/Expression$Operator" (19 : Nat) "com/example/floe/floe/Expression$Operator" "GREATER_THAN_OR_EQUAL" "Lcom/example/floe/floe/Expression$Operator;").before a0 Z = true := hw _ (List.mem_of_getElem? (i := 46) rfl)
theorem own_w47 {Z : State} {a0 : Array Value} (hw : ∀ d ∈ tables_1, d.before a0 Z = true) : (Jvm.Cond.laysStatic "com/example/floe/floe/Expression$Operator" "GREATER_THAN_OR_EQUAL" "Lcom/example/floe/floe/Expression$Operator;").before a0 Z = true := hw _ (List.mem_of_getElem? (i := 47) rfl)
theorem own_w48 {Z : State} {a0 : Array Value} (hw : ∀ d ∈ tables_1, d.before a0 Z = true) : (Jvm.Cond.fieldLink "com/example/floe/floe/OperatorComparesWithLiteralPinLaw" (13 : Nat) "com/example/floe/floe/Expression$Operator" "NOT_NULL" "Lcom/example/floe/floe/Expression$Operator;").before a0 Z = true := hw _ (List.mem_of_getElem? (i := 48) rfl)
theorem own_w49 {Z : State} {a0 : Array Value} (hw : ∀ d ∈ tables_1, d.before a0 Z = true) : (Jvm.Cond.fieldLink "com/example/floe/floe/OperatorComparesWithLiteralPinLaw" (22 : Nat) "com/example/floe/floe/Expression$Operator" "GREATER_THAN" "Lcom/example/floe/floe/Expression$Operator;").before a0 Z = true := hw _ (List.mem_of_getElem? (i := 49) rfl)
theorem own_w50 {Z : State} {a0 : Array Value} (hw : ∀ d ∈ tables_1, d.before a0 Z = true) : (Jvm.Cond.fieldLink "com/example/floe/floe/Expression$Operator" (13 : Nat) "com/example/floe/floe/Expression$Operator" "LESS_THAN_OR_EQUAL" "Lcom/example/floe/floe/Expression$Operator;").before a0 Z = true := hw _ (List.mem_of_getElem? (i := 50) rfl)
theorem own_w51 {Z : State} {a0 : Array Value} (hw : ∀ d ∈ tables_1, d.before a0 Z = true) : (Jvm.Cond.fieldLink "com/example/floe/floe/OperatorComparesWithLiteralPinLaw" (25 : Nat) "com/example/floe/floe/Expression$Operator" "GREATER_THAN_OR_EQUAL" "Lcom/example/floe/floe/Expression$Operator;").before a0 Z = true := hw _ (List.mem_of_getElem? (i := 51) rfl)
theorem own_w52 {Z : State} {a0 : Array Value} (hw : ∀ d ∈ tables_1, d.before a0 Z = true) : (Jvm.Cond.fieldLink "com/example/floe/floe/Expression$Operator" (10 : Nat) "com/example/floe/floe/Expression$Operator" "LESS_THAN" "Lcom/example/floe/floe/Expression$Operator;").before a0 Z = true := hw _ (List.mem_of_getElem? (i := 52) rfl)
/-- what the case says of the statics: A k is the object that the k-th of them holds -/
def own_P (Z : State) (A : Nat → Addr) : Prop :=
  (Sta Z Z.heap "com/example/floe/floe/Expression$Operator" "IS_NULL" "Lcom/example/floe/floe/Expression$Operator;" (.ref (A 0))) ∧
  (Exa Z Z.heap (A 0) "com/example/floe/floe/Expression$Operator") ∧
  (Fld Z Z.heap (A 0) "java/lang/Enum" "ordinal" "I" (.int (0 : Int32))) ∧
  (Sta Z Z.heap "com/example/floe/floe/Expression$Operator" "NOT_NULL" "Lcom/example/floe/floe/Expression$Operator;" (.ref (A 1))) ∧
  (Exa Z Z.heap (A 1) "com/example/floe/floe/Expression$Operator") ∧
  (Fld Z Z.heap (A 1) "java/lang/Enum" "ordinal" "I" (.int (1 : Int32))) ∧
  (Sta Z Z.heap "com/example/floe/floe/Expression$Operator" "LESS_THAN_OR_EQUAL" "Lcom/example/floe/floe/Expression$Operator;" (.ref (A 2))) ∧
  (Exa Z Z.heap (A 2) "com/example/floe/floe/Expression$Operator") ∧
  (Fld Z Z.heap (A 2) "java/lang/Enum" "ordinal" "I" (.int (3 : Int32))) ∧
  (Sta Z Z.heap "com/example/floe/floe/Expression$Operator" "GREATER_THAN" "Lcom/example/floe/floe/Expression$Operator;" (.ref (A 3))) ∧
  (Exa Z Z.heap (A 3) "com/example/floe/floe/Expression$Operator") ∧
  (Fld Z Z.heap (A 3) "java/lang/Enum" "ordinal" "I" (.int (4 : Int32))) ∧
  (Sta Z Z.heap "com/example/floe/floe/Expression$Operator" "EQUAL" "Lcom/example/floe/floe/Expression$Operator;" (.ref (A 4))) ∧
  (Exa Z Z.heap (A 4) "com/example/floe/floe/Expression$Operator") ∧
  (Fld Z Z.heap (A 4) "java/lang/Enum" "ordinal" "I" (.int (6 : Int32))) ∧
  (Sta Z Z.heap "com/example/floe/floe/Expression$Operator" "NOT_EQUAL" "Lcom/example/floe/floe/Expression$Operator;" (.ref (A 5))) ∧
  (Exa Z Z.heap (A 5) "com/example/floe/floe/Expression$Operator") ∧
  (Fld Z Z.heap (A 5) "java/lang/Enum" "ordinal" "I" (.int (7 : Int32))) ∧
  (Sta Z Z.heap "com/example/floe/floe/Expression$Operator" "LESS_THAN" "Lcom/example/floe/floe/Expression$Operator;" (.ref (A 6))) ∧
  (Exa Z Z.heap (A 6) "com/example/floe/floe/Expression$Operator") ∧
  (Fld Z Z.heap (A 6) "java/lang/Enum" "ordinal" "I" (.int (2 : Int32))) ∧
  (Sta Z Z.heap "com/example/floe/floe/Expression$Operator" "GREATER_THAN_OR_EQUAL" "Lcom/example/floe/floe/Expression$Operator;" (.ref (A 7))) ∧
  (Exa Z Z.heap (A 7) "com/example/floe/floe/Expression$Operator") ∧
  (Fld Z Z.heap (A 7) "java/lang/Enum" "ordinal" "I" (.int (5 : Int32)))
theorem own_p0 {Z : State} {A : Nat → Addr} (B : own_P Z A) : Sta Z Z.heap "com/example/floe/floe/Expression$Operator" "IS_NULL" "Lcom/example/floe/floe/Expression$Operator;" (.ref (A 0)) := B.1
theorem own_p1 {Z : State} {A : Nat → Addr} (B : own_P Z A) : Exa Z Z.heap (A 0) "com/example/floe/floe/Expression$Operator" := B.2.1
theorem own_p2 {Z : State} {A : Nat → Addr} (B : own_P Z A) : Fld Z Z.heap (A 0) "java/lang/Enum" "ordinal" "I" (.int (0 : Int32)) := B.2.2.1
theorem own_p3 {Z : State} {A : Nat → Addr} (B : own_P Z A) : Sta Z Z.heap "com/example/floe/floe/Expression$Operator" "NOT_NULL" "Lcom/example/floe/floe/Expression$Operator;" (.ref (A 1)) := B.2.2.2.1
theorem own_p4 {Z : State} {A : Nat → Addr} (B : own_P Z A) : Exa Z Z.heap (A 1) "com/example/floe/floe/Expression$Operator" := B.2.2.2.2.1
theorem own_p5 {Z : State} {A : Nat → Addr} (B : own_P Z A) : Fld Z Z.heap (A 1) "java/lang/Enum" "ordinal" "I" (.int (1 : Int32)) := B.2.2.2.2.2.1
theorem own_p6 {Z : State} {A : Nat → Addr} (B : own_P Z A) : Sta Z Z.heap "com/example/floe/floe/Expression$Operator" "LESS_THAN_OR_EQUAL" "Lcom/example/floe/floe/Expression$Operator;" (.ref (A 2)) := B.2.2.2.2.2.2.1
theorem own_p7 {Z : State} {A : Nat → Addr} (B : own_P Z A) : Exa Z Z.heap (A 2) "com/example/floe/floe/Expression$Operator" := B.2.2.2.2.2.2.2.1
theorem own_p8 {Z : State} {A : Nat → Addr} (B : own_P Z A) : Fld Z Z.heap (A 2) "java/lang/Enum" "ordinal" "I" (.int (3 : Int32)) := B.2.2.2.2.2.2.2.2.1
theorem own_p9 {Z : State} {A : Nat → Addr} (B : own_P Z A) : Sta Z Z.heap "com/example/floe/floe/Expression$Operator" "GREATER_THAN" "Lcom/example/floe/floe/Expression$Operator;" (.ref (A 3)) := B.2.2.2.2.2.2.2.2.2.1
theorem own_p10 {Z : State} {A : Nat → Addr} (B : own_P Z A) : Exa Z Z.heap (A 3) "com/example/floe/floe/Expression$Operator" := B.2.2.2.2.2.2.2.2.2.2.1
theorem own_p11 {Z : State} {A : Nat → Addr} (B : own_P Z A) : Fld Z Z.heap (A 3) "java/lang/Enum" "ordinal" "I" (.int (4 : Int32)) := B.2.2.2.2.2.2.2.2.2.2.2.1
theorem own_p12 {Z : State} {A : Nat → Addr} (B : own_P Z A) : Sta Z Z.heap "com/example/floe/floe/Expression$Operator" "EQUAL" "Lcom/example/floe/floe/Expression$Operator;" (.ref (A 4)) := B.2.2.2.2.2.2.2.2.2.2.2.2.1
theorem own_p13 {Z : State} {A : Nat → Addr} (B : own_P Z A) : Exa Z Z.heap (A 4) "com/example/floe/floe/Expression$Operator" := B.2.2.2.2.2.2.2.2.2.2.2.2.2.1
theorem own_p14 {Z : State} {A : Nat → Addr} (B : own_P Z A) : Fld Z Z.heap (A 4) "java/lang/Enum" "ordinal" "I" (.int (6 : Int32)) := B.2.2.2.2.2.2.2.2.2.2.2.2.2.2.1
theorem own_p15 {Z : State} {A : Nat → Addr} (B : own_P Z A) : Sta Z Z.heap "com/example/floe/floe/Expression$Operator" "NOT_EQUAL" "Lcom/example/floe/floe/Expression$Operator;" (.ref (A 5)) := B.2.2.2.2.2.2.2.2.2.2.2.2.2.2.2.1
theorem own_p16 {Z : State} {A : Nat → Addr} (B : own_P Z A) : Exa Z Z.heap (A 5) "com/example/floe/floe/Expression$Operator" := B.2.2.2.2.2.2.2.2.2.2.2.2.2.2.2.2.1
theorem own_p17 {Z : State} {A : Nat → Addr} (B : own_P Z A) : Fld Z Z.heap (A 5) "java/lang/Enum" "ordinal" "I" (.int (7 : Int32)) := B.2.2.2.2.2.2.2.2.2.2.2.2.2.2.2.2.2.1
theorem own_p18 {Z : State} {A : Nat → Addr} (B : own_P Z A) : Sta Z Z.heap "com/example/floe/floe/Expression$Operator" "LESS_THAN" "Lcom/example/floe/floe/Expression$Operator;" (.ref (A 6)) := B.2.2.2.2.2.2.2.2.2.2.2.2.2.2.2.2.2.2.1
theorem own_p19 {Z : State} {A : Nat → Addr} (B : own_P Z A) : Exa Z Z.heap (A 6) "com/example/floe/floe/Expression$Operator" := B.2.2.2.2.2.2.2.2.2.2.2.2.2.2.2.2.2.2.2.1
theorem own_p20 {Z : State} {A : Nat → Addr} (B : own_P Z A) : Fld Z Z.heap (A 6) "java/lang/Enum" "ordinal" "I" (.int (2 : Int32)) := B.2.2.2.2.2.2.2.2.2.2.2.2.2.2.2.2.2.2.2.2.1
theorem own_p21 {Z : State} {A : Nat → Addr} (B : own_P Z A) : Sta Z Z.heap "com/example/floe/floe/Expression$Operator" "GREATER_THAN_OR_EQUAL" "Lcom/example/floe/floe/Expression$Operator;" (.ref (A 7)) := B.2.2.2.2.2.2.2.2.2.2.2.2.2.2.2.2.2.2.2.2.2.1
theorem own_p22 {Z : State} {A : Nat → Addr} (B : own_P Z A) : Exa Z Z.heap (A 7) "com/example/floe/floe/Expression$Operator" := B.2.2.2.2.2.2.2.2.2.2.2.2.2.2.2.2.2.2.2.2.2.2.1
theorem own_p23 {Z : State} {A : Nat → Addr} (B : own_P Z A) : Fld Z Z.heap (A 7) "java/lang/Enum" "ordinal" "I" (.int (5 : Int32)) := B.2.2.2.2.2.2.2.2.2.2.2.2.2.2.2.2.2.2.2.2.2.2.2
theorem own_ne_1_0 {Z : State} {A : Nat → Addr} (B : own_P Z A) : ¬ ((Value.ref (A 1)) = .ref (A 0)) := fun q => Fld.ne (own_p5 B) (own_p2 B) (fun r => absurd (Value.int.inj r) (by decide)) (Value.ref.inj q)
theorem own_ne_2_0 {Z : State} {A : Nat → Addr} (B : own_P Z A) : ¬ ((Value.ref (A 2)) = .ref (A 0)) := fun q => Fld.ne (own_p8 B) (own_p2 B) (fun r => absurd (Value.int.inj r) (by decide)) (Value.ref.inj q)
theorem own_ne_2_1 {Z : State} {A : Nat → Addr} (B : own_P Z A) : ¬ ((Value.ref (A 2)) = .ref (A 1)) := fun q => Fld.ne (own_p8 B) (own_p5 B) (fun r => absurd (Value.int.inj r) (by decide)) (Value.ref.inj q)
theorem own_ne_3_0 {Z : State} {A : Nat → Addr} (B : own_P Z A) : ¬ ((Value.ref (A 3)) = .ref (A 0)) := fun q => Fld.ne (own_p11 B) (own_p2 B) (fun r => absurd (Value.int.inj r) (by decide)) (Value.ref.inj q)
theorem own_ne_3_1 {Z : State} {A : Nat → Addr} (B : own_P Z A) : ¬ ((Value.ref (A 3)) = .ref (A 1)) := fun q => Fld.ne (own_p11 B) (own_p5 B) (fun r => absurd (Value.int.inj r) (by decide)) (Value.ref.inj q)
theorem own_ne_4_0 {Z : State} {A : Nat → Addr} (B : own_P Z A) : ¬ ((Value.ref (A 4)) = .ref (A 0)) := fun q => Fld.ne (own_p14 B) (own_p2 B) (fun r => absurd (Value.int.inj r) (by decide)) (Value.ref.inj q)
theorem own_ne_4_1 {Z : State} {A : Nat → Addr} (B : own_P Z A) : ¬ ((Value.ref (A 4)) = .ref (A 1)) := fun q => Fld.ne (own_p14 B) (own_p5 B) (fun r => absurd (Value.int.inj r) (by decide)) (Value.ref.inj q)
theorem own_ne_5_0 {Z : State} {A : Nat → Addr} (B : own_P Z A) : ¬ ((Value.ref (A 5)) = .ref (A 0)) := fun q => Fld.ne (own_p17 B) (own_p2 B) (fun r => absurd (Value.int.inj r) (by decide)) (Value.ref.inj q)
theorem own_ne_5_1 {Z : State} {A : Nat → Addr} (B : own_P Z A) : ¬ ((Value.ref (A 5)) = .ref (A 1)) := fun q => Fld.ne (own_p17 B) (own_p5 B) (fun r => absurd (Value.int.inj r) (by decide)) (Value.ref.inj q)
theorem own_ne_6_0 {Z : State} {A : Nat → Addr} (B : own_P Z A) : ¬ ((Value.ref (A 6)) = .ref (A 0)) := fun q => Fld.ne (own_p20 B) (own_p2 B) (fun r => absurd (Value.int.inj r) (by decide)) (Value.ref.inj q)
theorem own_ne_6_1 {Z : State} {A : Nat → Addr} (B : own_P Z A) : ¬ ((Value.ref (A 6)) = .ref (A 1)) := fun q => Fld.ne (own_p20 B) (own_p5 B) (fun r => absurd (Value.int.inj r) (by decide)) (Value.ref.inj q)
theorem own_ne_7_0 {Z : State} {A : Nat → Addr} (B : own_P Z A) : ¬ ((Value.ref (A 7)) = .ref (A 0)) := fun q => Fld.ne (own_p23 B) (own_p2 B) (fun r => absurd (Value.int.inj r) (by decide)) (Value.ref.inj q)
theorem own_ne_7_1 {Z : State} {A : Nat → Addr} (B : own_P Z A) : ¬ ((Value.ref (A 7)) = .ref (A 1)) := fun q => Fld.ne (own_p23 B) (own_p5 B) (fun r => absurd (Value.int.inj r) (by decide)) (Value.ref.inj q)
set_option maxRecDepth 65536 in
theorem own_start {s : State} {a0 : Array Value} (hw : ∀ d ∈ tables_1, d.before a0 s = true) (hF : Fit s) (hn : narrow_1.value a0 s none s [] = some true) : ∃ A, own_P s A := by
  obtain ⟨n1, n2⟩ := and_e hn
  obtain ⟨n3, n4⟩ := and_e n2
  obtain ⟨n5, n6⟩ := and_e n4
  obtain ⟨n7, n8⟩ := and_e n6
  obtain ⟨n9, n10⟩ := and_e n8
  obtain ⟨n11, n12⟩ := and_e n10
  obtain ⟨n13, n14⟩ := and_e n12
  obtain ⟨n15, n16⟩ := and_e n14
  obtain ⟨n17, n18⟩ := and_e n16
  obtain ⟨n19, n20⟩ := and_e n18
  obtain ⟨n21, n22⟩ := and_e n20
  obtain ⟨n23, n24⟩ := and_e n22
  obtain ⟨n25, n26⟩ := and_e n24
  obtain ⟨n27, n28⟩ := and_e n26
  obtain ⟨n29, n30⟩ := and_e n28
  obtain ⟨a0, e0⟩ := exa_v n1
  obtain ⟨a1, e1⟩ := exa_v n5
  obtain ⟨a2, e2⟩ := exa_v n9
  obtain ⟨a3, e3⟩ := exa_v n13
  obtain ⟨a4, e4⟩ := exa_v n17
  obtain ⟨a5, e5⟩ := exa_v n21
  obtain ⟨a6, e6⟩ := exa_v n25
  obtain ⟨a7, e7⟩ := exa_v n29
  exact ⟨fun i => [a0, a1, a2, a3, a4, a5, a6, a7].getD i 0, Sta.start e0 (Or.inr ⟨(own_w5 hw), (own_w6 hw)⟩),
    Exa.start e0 n1,
    Fld.start ((fld_at e0).symm.trans (own_eqI n3)),
    Sta.start e1 (Or.inr ⟨(own_w5 hw), (own_w33 hw)⟩),
    Exa.start e1 n5,
    Fld.start ((fld_at e1).symm.trans (own_eqI n7)),
    Sta.start e2 (Or.inr ⟨(own_w5 hw), (own_w35 hw)⟩),
    Exa.start e2 n9,
    Fld.start ((fld_at e2).symm.trans (own_eqI n11)),
    Sta.start e3 (Or.inr ⟨(own_w5 hw), (own_w37 hw)⟩),
    Exa.start e3 n13,
    Fld.start ((fld_at e3).symm.trans (own_eqI n15)),
    Sta.start e4 (Or.inr ⟨(own_w5 hw), (own_w39 hw)⟩),
    Exa.start e4 n17,
    Fld.start ((fld_at e4).symm.trans (own_eqI n19)),
    Sta.start e5 (Or.inr ⟨(own_w5 hw), (own_w41 hw)⟩),
    Exa.start e5 n21,
    Fld.start ((fld_at e5).symm.trans (own_eqI n23)),
    Sta.start e6 (Or.inr ⟨(own_w5 hw), (own_w45 hw)⟩),
    Exa.start e6 n25,
    Fld.start ((fld_at e6).symm.trans (own_eqI n27)),
    Sta.start e7 (Or.inr ⟨(own_w5 hw), (own_w47 hw)⟩),
    Exa.start e7 n29,
    Fld.start ((fld_at e7).symm.trans (own_eqI n30))⟩
theorem own_and (x : Int32) (k : Nat) (hk : k < 31) : ∃ i : Nat, i < 2 ^ k ∧ x &&& Int32.ofNat (2 ^ k - 1) = Int32.ofNat i := by
  have hp : (2 : Nat) ^ k ≤ 2 ^ 30 := Nat.pow_le_pow_right (by decide) (by omega)
  have hpos : 0 < (2 : Nat) ^ k := Nat.pow_pos (by decide)
  have e1 : (x &&& Int32.ofNat (2 ^ k - 1)).toInt = x.toInt % 2 ^ k := Jvm.Kit.i32_mask x _ (by omega) (by
    show (BitVec.ofNat 32 (2 ^ k - 1)).toNat = _
    rw [BitVec.toNat_ofNat, Nat.mod_eq_of_lt (by omega)])
  have hz : (0 : Int) < 2 ^ k := by exact_mod_cast hpos
  have h1 := Int.emod_nonneg x.toInt (Int.ne_of_gt hz)
  have h2 := Int.emod_lt_of_pos x.toInt hz
  have h3 : ((2 ^ k : Nat) : Int) = 2 ^ k := by simp
  refine ⟨(x.toInt % 2 ^ k).toNat, by omega, ?_⟩
  rw [← Int32.toInt_inj, e1, Int32.toInt_ofNat_small (by omega)]
  omega
theorem own_rem (x : Int32) (n : Nat) (hn : 0 < n) (hn' : n < 2 ^ 31) : ∃ i : Nat, i < n ∧ (x &&& 2147483647) % Int32.ofNat n = Int32.ofNat i := by
  have e1 : (x &&& 2147483647).toInt = x.toInt % 2 ^ 31 := Jvm.Kit.i32_mask x 2147483647 (k := 31) (by decide) (by decide)
  have e2 : (Int32.ofNat n).toInt = n := Int32.toInt_ofNat_small hn'
  have h1 : 0 ≤ x.toInt % 2 ^ 31 := Int.emod_nonneg _ (by decide)
  have hz : (0 : Int) < n := by omega
  have h4 := Int.emod_nonneg (x.toInt % 2 ^ 31) (Int.ne_of_gt hz)
  have h5 := Int.emod_lt_of_pos (x.toInt % 2 ^ 31) hz
  refine ⟨(x.toInt % 2 ^ 31 % n).toNat, by omega, ?_⟩
  rw [← Int32.toInt_inj, Jvm.Kit.i32_rem_nonneg (by omega), e1, e2, Int32.toInt_ofNat_small (by omega)]
  omega
theorem own_and7 (x : Int32) : x &&& (7 : Int32) = (0 : Int32) ∨ x &&& (7 : Int32) = (1 : Int32) ∨ x &&& (7 : Int32) = (2 : Int32) ∨ x &&& (7 : Int32) = (3 : Int32) ∨ x &&& (7 : Int32) = (4 : Int32) ∨ x &&& (7 : Int32) = (5 : Int32) ∨ x &&& (7 : Int32) = (6 : Int32) ∨ x &&& (7 : Int32) = (7 : Int32) := by
  obtain ⟨i, hi, q⟩ := own_and x 3 (by decide)
  have hc : i = 0 ∨ i = 1 ∨ i = 2 ∨ i = 3 ∨ i = 4 ∨ i = 5 ∨ i = 6 ∨ i = 7 := by omega
  rcases hc with rfl | rfl | rfl | rfl | rfl | rfl | rfl | rfl
  · exact Or.inl q
  · exact Or.inr (Or.inl q)
  · exact Or.inr (Or.inr (Or.inl q))
  · exact Or.inr (Or.inr (Or.inr (Or.inl q)))
  · exact Or.inr (Or.inr (Or.inr (Or.inr (Or.inl q))))
  · exact Or.inr (Or.inr (Or.inr (Or.inr (Or.inr (Or.inl q)))))
  · exact Or.inr (Or.inr (Or.inr (Or.inr (Or.inr (Or.inr (Or.inl q))))))
  · exact Or.inr (Or.inr (Or.inr (Or.inr (Or.inr (Or.inr (Or.inr (q)))))))
set_option maxRecDepth 65536 in
set_option maxHeartbeats 40000000 in
theorem own_c0 (l : Launch) (Z : State) (a0 : Array Value) (hw : ∀ d ∈ tables_1, d.before a0 Z = true) (A : Nat → Addr) (B : own_P Z A) (h0 : Heap) (n0 : Nat) (O : Old Z n0 h0) (p0 : Int32) (hq0 : p0 = (0 : Int32)) : own_Met l Z (⟨"com/example/floe/floe/OperatorComparesWithLiteralPinLaw", "pick", "(I)Lcom/example/floe/floe/Expression$Operator;"⟩ : MethodName) method_2_code 1 (some (FieldType.object "com/example/floe/floe/Expression$Operator")) [] ({ frames := 0, cells := 0, slots := 0, locals := 0 } : Room) 0 0 #[(.int p0)] h0 (own_Q (some (.ref (A 0))) n0 fun h => h = h0) := by
  refine own_enter own_pn0 (fun m => own_ef0 m p0) ?_
  intro p e s m below meth c C
  have N := Fr.nil n0
  refine own_iloadN C (pc' := 1) (v := p0) d1_0 rfl rfl ?_
  refine own_ifN C (pc' := 4) d1_1 (XT.i0_ne_f hq0) rfl ?_
  refine own_getS C (pc' := 7) (own_w4 hw) (Sta.ext O.2 (own_p0 B)) d1_4 rfl ?_
  exact own_ret C d1_7 rfl (Or.inr (Or.inr (Or.inr (Or.inr ⟨rfl, rfl, rfl⟩)))) rfl N (rfl) (by decide) (by decide)
set_option maxRecDepth 65536 in
set_option maxHeartbeats 40000000 in
theorem own_c1 (l : Launch) (Z : State) (a0 : Array Value) (hw : ∀ d ∈ tables_1, d.before a0 Z = true) (A : Nat → Addr) (B : own_P Z A) (h0 : Heap) (n0 : Nat) (O : Old Z n0 h0) (a0r : Addr) (hq0 : ((.ref a0r) : Value) = (.ref (A 0))) : own_Met l Z (⟨"com/example/floe/floe/Expression$Operator", "comparesWithLiteral", "()Z"⟩ : MethodName) prog_15_method_5_code 1 (some FieldType.boolean) [] ({ frames := 0, cells := 0, slots := 0, locals := 0 } : Room) 0 0 #[(.ref a0r)] h0 (own_Q (some (.int (0 : Int32))) n0 fun h => h = h0) := by
  refine own_enter own_pn1 (fun m => own_ef1 m a0r) ?_
  intro p e s m below meth c C
  have N := Fr.nil n0
  refine own_aloadN C (pc' := 1) (v := (.ref a0r)) d2_0 rfl rfl rfl ?_
  refine own_getS C (pc' := 4) (own_w12 hw) (Sta.ext O.2 (own_p0 B)) d2_1 rfl ?_
  refine own_acmp C (pc' := 18) (same := true) d2_4 rfl rfl (decide_eq_true hq0) (by decide) (by decide) ?_
  refine own_iconst C (pc' := 19) (v := (0 : Int32)) d2_18 rfl rfl ?_
  exact own_ret C d2_19 rfl (Or.inl ⟨rfl, Or.inr (Or.inl rfl), _, rfl⟩) rfl N (rfl) (by decide) (by decide)
set_option maxRecDepth 65536 in
set_option maxHeartbeats 40000000 in
theorem own_c2 (l : Launch) (Z : State) (a0 : Array Value) (hw : ∀ d ∈ tables_1, d.before a0 Z = true) (A : Nat → Addr) (B : own_P Z A) (h0 : Heap) (n0 : Nat) (O : Old Z n0 h0) (a0r : Addr) (F_a0r_ordinal : Fld Z h0 a0r "java/lang/Enum" "ordinal" "I" (.int (0 : Int32))) : own_Met l Z (⟨"java/lang/Enum", "ordinal", "()I"⟩ : MethodName) jdk_37_method_2_code 1 (some FieldType.int) [] ({ frames := 0, cells := 0, slots := 0, locals := 0 } : Room) 0 0 #[(.ref a0r)] h0 (own_Q (some (.int (0 : Int32))) n0 fun h => h = h0) := by
  refine own_enter own_pn2 (fun m => own_ef1 m a0r) ?_
  intro p e s m below meth c C
  have N := Fr.nil n0
  refine own_aloadN C (pc' := 1) (v := (.ref a0r)) d4_0 rfl rfl rfl ?_
  refine own_getF C (pc' := 4) (host := "") (Or.inl (own_w25 hw)) F_a0r_ordinal d4_1 rfl ?_
  exact own_ret C d4_4 rfl (Or.inl ⟨rfl, Or.inl rfl, _, rfl⟩) rfl N (rfl) (by decide) (by decide)
set_option maxRecDepth 65536 in
set_option maxHeartbeats 40000000 in
theorem own_c3 (l : Launch) (Z : State) (a0 : Array Value) (hw : ∀ d ∈ tables_1, d.before a0 Z = true) (A : Nat → Addr) (B : own_P Z A) (h0 : Heap) (n0 : Nat) (O : Old Z n0 h0) (a0r : Addr) (p0 : Int32) (E_a0r : Exa Z h0 a0r "com/example/floe/floe/Expression$Operator") (F_a0r_ordinal : Fld Z h0 a0r "java/lang/Enum" "ordinal" "I" (.int (0 : Int32))) : own_Met l Z (⟨"com/example/floe/floe/Expression$Operator", "holds", "(I)Z"⟩ : MethodName) prog_15_method_6_code 2 (some FieldType.boolean) [] ({ frames := 1, cells := 0, slots := 0, locals := 12 } : Room) 0 0 #[(.ref a0r), (.int p0)] h0 (own_Q (some (.int (0 : Int32))) n0 fun h => h = h0) := by
  refine own_enter own_pn1 (fun m => own_ef2 m a0r p0) ?_
  intro p e s m below meth c C
  have N := Fr.nil n0
  refine own_aloadN C (pc' := 1) (v := (.ref a0r)) d3_0 rfl rfl rfl ?_
  refine own_callU C (owner := "java/lang/Enum") (pc' := 4) (W := 0) (argsL := []) (rest := []) (st' := [(.int (0 : Int32))]) (cells' := 0) (slots' := 0) (own_w18 hw) (own_w19 hw) (own_w20 hw) (own_w22 hw) (own_w21 hw) (own_w23 hw) (own_w24 hw) (by decide) E_a0r (own_c2 l Z a0 hw A B h0 n0 O a0r F_a0r_ordinal) (by decide) (by decide) (lenOf own_pd2 rfl) rfl (Nat.le_of_eq rfl) rfl d3_1 rfl (by decide) (by decide) rfl rfl rfl N (own_pure fun locs N => ?_)
  refine own_tsw C (pc' := 62) (o := 58) d3_4 (by decide) rfl (by decide) (by decide) ?_
  refine own_iconst C (pc' := 63) (v := (0 : Int32)) d3_62 rfl rfl ?_
  refine own_goto C (pc' := 139) d3_63 (by decide) (by decide) ?_
  exact own_ret C d3_139 rfl (Or.inl ⟨rfl, Or.inr (Or.inl rfl), _, rfl⟩) rfl N (rfl) (by decide) (by decide)
set_option maxRecDepth 65536 in
set_option maxHeartbeats 40000000 in
theorem own_c4 (l : Launch) (Z : State) (a0 : Array Value) (hw : ∀ d ∈ tables_1, d.before a0 Z = true) (A : Nat → Addr) (B : own_P Z A) (h0 : Heap) (n0 : Nat) (O : Old Z n0 h0) (a0r : Addr) (E_a0r : Exa Z h0 a0r "com/example/floe/floe/Expression$Operator") (F_a0r_ordinal : Fld Z h0 a0r "java/lang/Enum" "ordinal" "I" (.int (0 : Int32))) : own_Met l Z (⟨"com/example/floe/floe/Expression$Operator", "negate", "()Lcom/example/floe/floe/Expression$Operator;"⟩ : MethodName) prog_15_method_4_code 1 (some (FieldType.object "com/example/floe/floe/Expression$Operator")) [] ({ frames := 1, cells := 0, slots := 0, locals := 12 } : Room) 0 0 #[(.ref a0r)] h0 (own_Q (some (.ref (A 1))) n0 fun h => h = h0) := by
  refine own_enter own_pn1 (fun m => own_ef1 m a0r) ?_
  intro p e s m below meth c C
  have N := Fr.nil n0
  refine own_aloadN C (pc' := 1) (v := (.ref a0r)) d5_0 rfl rfl rfl ?_
  refine own_callU C (owner := "java/lang/Enum") (pc' := 4) (W := 0) (argsL := []) (rest := []) (st' := [(.int (0 : Int32))]) (cells' := 0) (slots' := 0) (own_w18 hw) (own_w19 hw) (own_w20 hw) (own_w22 hw) (own_w21 hw) (own_w23 hw) (own_w24 hw) (by decide) E_a0r (own_c2 l Z a0 hw A B h0 n0 O a0r F_a0r_ordinal) (by decide) (by decide) (lenOf own_pd2 rfl) rfl (Nat.le_of_eq rfl) rfl d5_1 rfl (by decide) (by decide) rfl rfl rfl N (own_pure fun locs N => ?_)
  refine own_tsw C (pc' := 62) (o := 58) d5_4 (by decide) rfl (by decide) (by decide) ?_
  refine own_getS C (pc' := 65) (own_w32 hw) (Sta.ext O.2 (own_p3 B)) d5_62 rfl ?_
  refine own_goto C (pc' := 107) d5_65 (by decide) (by decide) ?_
  exact own_ret C d5_107 rfl (Or.inr (Or.inr (Or.inr (Or.inr ⟨rfl, rfl, rfl⟩)))) rfl N (rfl) (by decide) (by decide)
set_option maxRecDepth 65536 in
set_option maxHeartbeats 40000000 in
theorem own_c5 (l : Launch) (Z : State) (a0 : Array Value) (hw : ∀ d ∈ tables_1, d.before a0 Z = true) (A : Nat → Addr) (B : own_P Z A) (h0 : Heap) (n0 : Nat) (O : Old Z n0 h0) (a0r : Addr) (hq0 : ¬ (((.ref a0r) : Value) = (.ref (A 0)))) (hq1 : ((.ref a0r) : Value) = (.ref (A 1))) : own_Met l Z (⟨"com/example/floe/floe/Expression$Operator", "comparesWithLiteral", "()Z"⟩ : MethodName) prog_15_method_5_code 1 (some FieldType.boolean) [] ({ frames := 0, cells := 0, slots := 0, locals := 0 } : Room) 0 0 #[(.ref a0r)] h0 (own_Q (some (.int (0 : Int32))) n0 fun h => h = h0) := by
  refine own_enter own_pn1 (fun m => own_ef1 m a0r) ?_
  intro p e s m below meth c C
  have N := Fr.nil n0
  refine own_aloadN C (pc' := 1) (v := (.ref a0r)) d2_0 rfl rfl rfl ?_
  refine own_getS C (pc' := 4) (own_w12 hw) (Sta.ext O.2 (own_p0 B)) d2_1 rfl ?_
  refine own_acmp C (pc' := 7) (same := false) d2_4 rfl rfl (decide_eq_false hq0) (by decide) (by decide) ?_
  refine own_aloadN C (pc' := 8) (v := (.ref a0r)) d2_7 rfl rfl rfl ?_
  refine own_getS C (pc' := 11) (own_w32 hw) (Sta.ext O.2 (own_p3 B)) d2_8 rfl ?_
  refine own_acmp C (pc' := 18) (same := true) d2_11 rfl rfl (decide_eq_true hq1) (by decide) (by decide) ?_
  refine own_iconst C (pc' := 19) (v := (0 : Int32)) d2_18 rfl rfl ?_
  exact own_ret C d2_19 rfl (Or.inl ⟨rfl, Or.inr (Or.inl rfl), _, rfl⟩) rfl N (rfl) (by decide) (by decide)
set_option maxRecDepth 65536 in
set_option maxHeartbeats 40000000 in
theorem own_c6 (l : Launch) (Z : State) (a0 : Array Value) (hw : ∀ d ∈ tables_1, d.before a0 Z = true) (A : Nat → Addr) (B : own_P Z A) (h0 : Heap) (n0 : Nat) (O : Old Z n0 h0) (p0 : Int32) (hq0 : ¬ (p0 = (0 : Int32))) (hq1 : p0 = (1 : Int32)) : own_Met l Z (⟨"com/example/floe/floe/OperatorComparesWithLiteralPinLaw", "pick", "(I)Lcom/example/floe/floe/Expression$Operator;"⟩ : MethodName) method_2_code 1 (some (FieldType.object "com/example/floe/floe/Expression$Operator")) [] ({ frames := 0, cells := 0, slots := 0, locals := 0 } : Room) 0 0 #[(.int p0)] h0 (own_Q (some (.ref (A 1))) n0 fun h => h = h0) := by
  refine own_enter own_pn0 (fun m => own_ef0 m p0) ?_
  intro p e s m below meth c C
  have N := Fr.nil n0
  refine own_iloadN C (pc' := 1) (v := p0) d1_0 rfl rfl ?_
  refine own_ifY C (pc' := 8) d1_1 (XT.i0_ne_t hq0) (by decide) (by decide) ?_
  refine own_iloadN C (pc' := 9) (v := p0) d1_8 rfl rfl ?_
  refine own_iconst C (pc' := 10) (v := (1 : Int32)) d1_9 rfl rfl ?_
  refine own_icmpN C (pc' := 13) d1_10 (XT.ii_ne_f hq1) rfl ?_
  refine own_getS C (pc' := 16) (own_w48 hw) (Sta.ext O.2 (own_p3 B)) d1_13 rfl ?_
  exact own_ret C d1_16 rfl (Or.inr (Or.inr (Or.inr (Or.inr ⟨rfl, rfl, rfl⟩)))) rfl N (rfl) (by decide) (by decide)
set_option maxRecDepth 65536 in
set_option maxHeartbeats 40000000 in
theorem own_c7 (l : Launch) (Z : State) (a0 : Array Value) (hw : ∀ d ∈ tables_1, d.before a0 Z = true) (A : Nat → Addr) (B : own_P Z A) (h0 : Heap) (n0 : Nat) (O : Old Z n0 h0) (a0r : Addr) (F_a0r_ordinal : Fld Z h0 a0r "java/lang/Enum" "ordinal" "I" (.int (1 : Int32))) : own_Met l Z (⟨"java/lang/Enum", "ordinal", "()I"⟩ : MethodName) jdk_37_method_2_code 1 (some FieldType.int) [] ({ frames := 0, cells := 0, slots := 0, locals := 0 } : Room) 0 0 #[(.ref a0r)] h0 (own_Q (some (.int (1 : Int32))) n0 fun h => h = h0) := by
  refine own_enter own_pn2 (fun m => own_ef1 m a0r) ?_
  intro p e s m below meth c C
  have N := Fr.nil n0
  refine own_aloadN C (pc' := 1) (v := (.ref a0r)) d4_0 rfl rfl rfl ?_
  refine own_getF C (pc' := 4) (host := "") (Or.inl (own_w25 hw)) F_a0r_ordinal d4_1 rfl ?_
  exact own_ret C d4_4 rfl (Or.inl ⟨rfl, Or.inl rfl, _, rfl⟩) rfl N (rfl) (by decide) (by decide)
set_option maxRecDepth 65536 in
set_option maxHeartbeats 40000000 in
theorem own_c8 (l : Launch) (Z : State) (a0 : Array Value) (hw : ∀ d ∈ tables_1, d.before a0 Z = true) (A : Nat → Addr) (B : own_P Z A) (h0 : Heap) (n0 : Nat) (O : Old Z n0 h0) (a0r : Addr) (p0 : Int32) (E_a0r : Exa Z h0 a0r "com/example/floe/floe/Expression$Operator") (F_a0r_ordinal : Fld Z h0 a0r "java/lang/Enum" "ordinal" "I" (.int (1 : Int32))) : own_Met l Z (⟨"com/example/floe/floe/Expression$Operator", "holds", "(I)Z"⟩ : MethodName) prog_15_method_6_code 2 (some FieldType.boolean) [] ({ frames := 1, cells := 0, slots := 0, locals := 12 } : Room) 0 0 #[(.ref a0r), (.int p0)] h0 (own_Q (some (.int (1 : Int32))) n0 fun h => h = h0) := by
  refine own_enter own_pn1 (fun m => own_ef2 m a0r p0) ?_
  intro p e s m below meth c C
  have N := Fr.nil n0
  refine own_aloadN C (pc' := 1) (v := (.ref a0r)) d3_0 rfl rfl rfl ?_
  refine own_callU C (owner := "java/lang/Enum") (pc' := 4) (W := 0) (argsL := []) (rest := []) (st' := [(.int (1 : Int32))]) (cells' := 0) (slots' := 0) (own_w18 hw) (own_w19 hw) (own_w20 hw) (own_w22 hw) (own_w21 hw) (own_w23 hw) (own_w24 hw) (by decide) E_a0r (own_c7 l Z a0 hw A B h0 n0 O a0r F_a0r_ordinal) (by decide) (by decide) (lenOf own_pd2 rfl) rfl (Nat.le_of_eq rfl) rfl d3_1 rfl (by decide) (by decide) rfl rfl rfl N (own_pure fun locs N => ?_)
  refine own_tsw C (pc' := 66) (o := 62) d3_4 (by decide) rfl (by decide) (by decide) ?_
  refine own_iconst C (pc' := 67) (v := (1 : Int32)) d3_66 rfl rfl ?_
  refine own_goto C (pc' := 139) d3_67 (by decide) (by decide) ?_
  exact own_ret C d3_139 rfl (Or.inl ⟨rfl, Or.inr (Or.inl rfl), _, rfl⟩) rfl N (rfl) (by decide) (by decide)
set_option maxRecDepth 65536 in
set_option maxHeartbeats 40000000 in
theorem own_c9 (l : Launch) (Z : State) (a0 : Array Value) (hw : ∀ d ∈ tables_1, d.before a0 Z = true) (A : Nat → Addr) (B : own_P Z A) (h0 : Heap) (n0 : Nat) (O : Old Z n0 h0) (a0r : Addr) (E_a0r : Exa Z h0 a0r "com/example/floe/floe/Expression$Operator") (F_a0r_ordinal : Fld Z h0 a0r "java/lang/Enum" "ordinal" "I" (.int (1 : Int32))) : own_Met l Z (⟨"com/example/floe/floe/Expression$Operator", "negate", "()Lcom/example/floe/floe/Expression$Operator;"⟩ : MethodName) prog_15_method_4_code 1 (some (FieldType.object "com/example/floe/floe/Expression$Operator")) [] ({ frames := 1, cells := 0, slots := 0, locals := 12 } : Room) 0 0 #[(.ref a0r)] h0 (own_Q (some (.ref (A 0))) n0 fun h => h = h0) := by
  refine own_enter own_pn1 (fun m => own_ef1 m a0r) ?_
  intro p e s m below meth c C
  have N := Fr.nil n0
  refine own_aloadN C (pc' := 1) (v := (.ref a0r)) d5_0 rfl rfl rfl ?_
  refine own_callU C (owner := "java/lang/Enum") (pc' := 4) (W := 0) (argsL := []) (rest := []) (st' := [(.int (1 : Int32))]) (cells' := 0) (slots' := 0) (own_w18 hw) (own_w19 hw) (own_w20 hw) (own_w22 hw) (own_w21 hw) (own_w23 hw) (own_w24 hw) (by decide) E_a0r (own_c7 l Z a0 hw A B h0 n0 O a0r F_a0r_ordinal) (by decide) (by decide) (lenOf own_pd2 rfl) rfl (Nat.le_of_eq rfl) rfl d5_1 rfl (by decide) (by decide) rfl rfl rfl N (own_pure fun locs N => ?_)
  refine own_tsw C (pc' := 68) (o := 64) d5_4 (by decide) rfl (by decide) (by decide) ?_
  refine own_getS C (pc' := 71) (own_w12 hw) (Sta.ext O.2 (own_p0 B)) d5_68 rfl ?_
  refine own_goto C (pc' := 107) d5_71 (by decide) (by decide) ?_
  exact own_ret C d5_107 rfl (Or.inr (Or.inr (Or.inr (Or.inr ⟨rfl, rfl, rfl⟩)))) rfl N (rfl) (by decide) (by decide)
set_option maxRecDepth 65536 in
set_option maxHeartbeats 40000000 in
theorem own_c10 (l : Launch) (Z : State) (a0 : Array Value) (hw : ∀ d ∈ tables_1, d.before a0 Z = true) (A : Nat → Addr) (B : own_P Z A) (h0 : Heap) (n0 : Nat) (O : Old Z n0 h0) (p0 : Int32) (hq0 : ¬ (p0 = (0 : Int32))) (hq1 : ¬ (p0 = (1 : Int32))) (hq2 : p0 = (2 : Int32)) : own_Met l Z (⟨"com/example/floe/floe/OperatorComparesWithLiteralPinLaw", "pick", "(I)Lcom/example/floe/floe/Expression$Operator;"⟩ : MethodName) method_2_code 1 (some (FieldType.object "com/example/floe/floe/Expression$Operator")) [] ({ frames := 0, cells := 0, slots := 0, locals := 0 } : Room) 0 0 #[(.int p0)] h0 (own_Q (some (.ref (A 6))) n0 fun h => h = h0) := by
  refine own_enter own_pn0 (fun m => own_ef0 m p0) ?_
  intro p e s m below meth c C
  have N := Fr.nil n0
  refine own_iloadN C (pc' := 1) (v := p0) d1_0 rfl rfl ?_
  refine own_ifY C (pc' := 8) d1_1 (XT.i0_ne_t hq0) (by decide) (by decide) ?_
  refine own_iloadN C (pc' := 9) (v := p0) d1_8 rfl rfl ?_
  refine own_iconst C (pc' := 10) (v := (1 : Int32)) d1_9 rfl rfl ?_
  refine own_icmpY C (pc' := 17) d1_10 (XT.ii_ne_t hq1) (by decide) (by decide) ?_
  refine own_iloadN C (pc' := 18) (v := p0) d1_17 rfl rfl ?_
  refine own_iconst C (pc' := 19) (v := (2 : Int32)) d1_18 rfl rfl ?_
  refine own_icmpN C (pc' := 22) d1_19 (XT.ii_ne_f hq2) rfl ?_
  refine own_getS C (pc' := 25) (own_w44 hw) (Sta.ext O.2 (own_p18 B)) d1_22 rfl ?_
  exact own_ret C d1_25 rfl (Or.inr (Or.inr (Or.inr (Or.inr ⟨rfl, rfl, rfl⟩)))) rfl N (rfl) (by decide) (by decide)
set_option maxRecDepth 65536 in
set_option maxHeartbeats 40000000 in
theorem own_c11 (l : Launch) (Z : State) (a0 : Array Value) (hw : ∀ d ∈ tables_1, d.before a0 Z = true) (A : Nat → Addr) (B : own_P Z A) (h0 : Heap) (n0 : Nat) (O : Old Z n0 h0) (a0r : Addr) (hq0 : ¬ (((.ref a0r) : Value) = (.ref (A 0)))) (hq1 : ¬ (((.ref a0r) : Value) = (.ref (A 1)))) : own_Met l Z (⟨"com/example/floe/floe/Expression$Operator", "comparesWithLiteral", "()Z"⟩ : MethodName) prog_15_method_5_code 1 (some FieldType.boolean) [] ({ frames := 0, cells := 0, slots := 0, locals := 0 } : Room) 0 0 #[(.ref a0r)] h0 (own_Q (some (.int (1 : Int32))) n0 fun h => h = h0) := by
  refine own_enter own_pn1 (fun m => own_ef1 m a0r) ?_
  intro p e s m below meth c C
  have N := Fr.nil n0
  refine own_aloadN C (pc' := 1) (v := (.ref a0r)) d2_0 rfl rfl rfl ?_
  refine own_getS C (pc' := 4) (own_w12 hw) (Sta.ext O.2 (own_p0 B)) d2_1 rfl ?_
  refine own_acmp C (pc' := 7) (same := false) d2_4 rfl rfl (decide_eq_false hq0) (by decide) (by decide) ?_
  refine own_aloadN C (pc' := 8) (v := (.ref a0r)) d2_7 rfl rfl rfl ?_
  refine own_getS C (pc' := 11) (own_w32 hw) (Sta.ext O.2 (own_p3 B)) d2_8 rfl ?_
  refine own_acmp C (pc' := 14) (same := false) d2_11 rfl rfl (decide_eq_false hq1) (by decide) (by decide) ?_
  refine own_iconst C (pc' := 15) (v := (1 : Int32)) d2_14 rfl rfl ?_
  refine own_goto C (pc' := 19) d2_15 (by decide) (by decide) ?_
  exact own_ret C d2_19 rfl (Or.inl ⟨rfl, Or.inr (Or.inl rfl), _, rfl⟩) rfl N (rfl) (by decide) (by decide)
set_option maxRecDepth 65536 in
set_option maxHeartbeats 40000000 in
theorem own_c12 (l : Launch) (Z : State) (a0 : Array Value) (hw : ∀ d ∈ tables_1, d.before a0 Z = true) (A : Nat → Addr) (B : own_P Z A) (h0 : Heap) (n0 : Nat) (O : Old Z n0 h0) (a0r : Addr) (F_a0r_ordinal : Fld Z h0 a0r "java/lang/Enum" "ordinal" "I" (.int (2 : Int32))) : own_Met l Z (⟨"java/lang/Enum", "ordinal", "()I"⟩ : MethodName) jdk_37_method_2_code 1 (some FieldType.int) [] ({ frames := 0, cells := 0, slots := 0, locals := 0 } : Room) 0 0 #[(.ref a0r)] h0 (own_Q (some (.int (2 : Int32))) n0 fun h => h = h0) := by
  refine own_enter own_pn2 (fun m => own_ef1 m a0r) ?_
  intro p e s m below meth c C
  have N := Fr.nil n0
  refine own_aloadN C (pc' := 1) (v := (.ref a0r)) d4_0 rfl rfl rfl ?_
  refine own_getF C (pc' := 4) (host := "") (Or.inl (own_w25 hw)) F_a0r_ordinal d4_1 rfl ?_
  exact own_ret C d4_4 rfl (Or.inl ⟨rfl, Or.inl rfl, _, rfl⟩) rfl N (rfl) (by decide) (by decide)
set_option maxRecDepth 65536 in
set_option maxHeartbeats 40000000 in
theorem own_c13 (l : Launch) (Z : State) (a0 : Array Value) (hw : ∀ d ∈ tables_1, d.before a0 Z = true) (A : Nat → Addr) (B : own_P Z A) (h0 : Heap) (n0 : Nat) (O : Old Z n0 h0) (a0r : Addr) (p0 : Int32) (E_a0r : Exa Z h0 a0r "com/example/floe/floe/Expression$Operator") (F_a0r_ordinal : Fld Z h0 a0r "java/lang/Enum" "ordinal" "I" (.int (2 : Int32))) (hq2 : p0 < (0 : Int32)) : own_Met l Z (⟨"com/example/floe/floe/Expression$Operator", "holds", "(I)Z"⟩ : MethodName) prog_15_method_6_code 2 (some FieldType.boolean) [] ({ frames := 1, cells := 0, slots := 0, locals := 12 } : Room) 0 0 #[(.ref a0r), (.int p0)] h0 (own_Q (some (.int (1 : Int32))) n0 fun h => h = h0) := by
  refine own_enter own_pn1 (fun m => own_ef2 m a0r p0) ?_
  intro p e s m below meth c C
  have N := Fr.nil n0
  refine own_aloadN C (pc' := 1) (v := (.ref a0r)) d3_0 rfl rfl rfl ?_
  refine own_callU C (owner := "java/lang/Enum") (pc' := 4) (W := 0) (argsL := []) (rest := []) (st' := [(.int (2 : Int32))]) (cells' := 0) (slots' := 0) (own_w18 hw) (own_w19 hw) (own_w20 hw) (own_w22 hw) (own_w21 hw) (own_w23 hw) (own_w24 hw) (by decide) E_a0r (own_c12 l Z a0 hw A B h0 n0 O a0r F_a0r_ordinal) (by decide) (by decide) (lenOf own_pd2 rfl) rfl (Nat.le_of_eq rfl) rfl d3_1 rfl (by decide) (by decide) rfl rfl rfl N (own_pure fun locs N => ?_)
  refine own_tsw C (pc' := 70) (o := 66) d3_4 (by decide) rfl (by decide) (by decide) ?_
  refine own_iloadN C (pc' := 71) (v := p0) d3_70 rfl rfl ?_
  refine own_ifN C (pc' := 74) d3_71 (XT.i0_ge_f hq2) rfl ?_
  refine own_iconst C (pc' := 75) (v := (1 : Int32)) d3_74 rfl rfl ?_
  refine own_goto C (pc' := 139) d3_75 (by decide) (by decide) ?_
  exact own_ret C d3_139 rfl (Or.inl ⟨rfl, Or.inr (Or.inl rfl), _, rfl⟩) rfl N (rfl) (by decide) (by decide)
set_option maxRecDepth 65536 in
set_option maxHeartbeats 40000000 in
theorem own_c14 (l : Launch) (Z : State) (a0 : Array Value) (hw : ∀ d ∈ tables_1, d.before a0 Z = true) (A : Nat → Addr) (B : own_P Z A) (h0 : Heap) (n0 : Nat) (O : Old Z n0 h0) (a0r : Addr) (p0 : Int32) (E_a0r : Exa Z h0 a0r "com/example/floe/floe/Expression$Operator") (F_a0r_ordinal : Fld Z h0 a0r "java/lang/Enum" "ordinal" "I" (.int (2 : Int32))) (hq2 : ¬ (p0 < (0 : Int32))) : own_Met l Z (⟨"com/example/floe/floe/Expression$Operator", "holds", "(I)Z"⟩ : MethodName) prog_15_method_6_code 2 (some FieldType.boolean) [] ({ frames := 1, cells := 0, slots := 0, locals := 12 } : Room) 0 0 #[(.ref a0r), (.int p0)] h0 (own_Q (some (.int (0 : Int32))) n0 fun h => h = h0) := by
  refine own_enter own_pn1 (fun m => own_ef2 m a0r p0) ?_
  intro p e s m below meth c C
  have N := Fr.nil n0
  refine own_aloadN C (pc' := 1) (v := (.ref a0r)) d3_0 rfl rfl rfl ?_
  refine own_callU C (owner := "java/lang/Enum") (pc' := 4) (W := 0) (argsL := []) (rest := []) (st' := [(.int (2 : Int32))]) (cells' := 0) (slots' := 0) (own_w18 hw) (own_w19 hw) (own_w20 hw) (own_w22 hw) (own_w21 hw) (own_w23 hw) (own_w24 hw) (by decide) E_a0r (own_c12 l Z a0 hw A B h0 n0 O a0r F_a0r_ordinal) (by decide) (by decide) (lenOf own_pd2 rfl) rfl (Nat.le_of_eq rfl) rfl d3_1 rfl (by decide) (by decide) rfl rfl rfl N (own_pure fun locs N => ?_)
  refine own_tsw C (pc' := 70) (o := 66) d3_4 (by decide) rfl (by decide) (by decide) ?_
  refine own_iloadN C (pc' := 71) (v := p0) d3_70 rfl rfl ?_
  refine own_ifY C (pc' := 78) d3_71 (XT.i0_ge_t hq2) (by decide) (by decide) ?_
  refine own_iconst C (pc' := 79) (v := (0 : Int32)) d3_78 rfl rfl ?_
  refine own_goto C (pc' := 139) d3_79 (by decide) (by decide) ?_
  exact own_ret C d3_139 rfl (Or.inl ⟨rfl, Or.inr (Or.inl rfl), _, rfl⟩) rfl N (rfl) (by decide) (by decide)
set_option maxRecDepth 65536 in
set_option maxHeartbeats 40000000 in
theorem own_c15 (l : Launch) (Z : State) (a0 : Array Value) (hw : ∀ d ∈ tables_1, d.before a0 Z = true) (A : Nat → Addr) (B : own_P Z A) (h0 : Heap) (n0 : Nat) (O : Old Z n0 h0) (a0r : Addr) (E_a0r : Exa Z h0 a0r "com/example/floe/floe/Expression$Operator") (F_a0r_ordinal : Fld Z h0 a0r "java/lang/Enum" "ordinal" "I" (.int (2 : Int32))) : own_Met l Z (⟨"com/example/floe/floe/Expression$Operator", "negate", "()Lcom/example/floe/floe/Expression$Operator;"⟩ : MethodName) prog_15_method_4_code 1 (some (FieldType.object "com/example/floe/floe/Expression$Operator")) [] ({ frames := 1, cells := 0, slots := 0, locals := 12 } : Room) 0 0 #[(.ref a0r)] h0 (own_Q (some (.ref (A 7))) n0 fun h => h = h0) := by
  refine own_enter own_pn1 (fun m => own_ef1 m a0r) ?_
  intro p e s m below meth c C
  have N := Fr.nil n0
  refine own_aloadN C (pc' := 1) (v := (.ref a0r)) d5_0 rfl rfl rfl ?_
  refine own_callU C (owner := "java/lang/Enum") (pc' := 4) (W := 0) (argsL := []) (rest := []) (st' := [(.int (2 : Int32))]) (cells' := 0) (slots' := 0) (own_w18 hw) (own_w19 hw) (own_w20 hw) (own_w22 hw) (own_w21 hw) (own_w23 hw) (own_w24 hw) (by decide) E_a0r (own_c12 l Z a0 hw A B h0 n0 O a0r F_a0r_ordinal) (by decide) (by decide) (lenOf own_pd2 rfl) rfl (Nat.le_of_eq rfl) rfl d5_1 rfl (by decide) (by decide) rfl rfl rfl N (own_pure fun locs N => ?_)
  refine own_tsw C (pc' := 74) (o := 70) d5_4 (by decide) rfl (by decide) (by decide) ?_
  refine own_getS C (pc' := 77) (own_w46 hw) (Sta.ext O.2 (own_p21 B)) d5_74 rfl ?_
  refine own_goto C (pc' := 107) d5_77 (by decide) (by decide) ?_
  exact own_ret C d5_107 rfl (Or.inr (Or.inr (Or.inr (Or.inr ⟨rfl, rfl, rfl⟩)))) rfl N (rfl) (by decide) (by decide)
set_option maxRecDepth 65536 in
set_option maxHeartbeats 40000000 in
theorem own_c16 (l : Launch) (Z : State) (a0 : Array Value) (hw : ∀ d ∈ tables_1, d.before a0 Z = true) (A : Nat → Addr) (B : own_P Z A) (h0 : Heap) (n0 : Nat) (O : Old Z n0 h0) (p0 : Int32) (hq0 : ¬ (p0 = (0 : Int32))) (hq1 : ¬ (p0 = (1 : Int32))) (hq2 : ¬ (p0 = (2 : Int32))) (hq3 : p0 = (3 : Int32)) : own_Met l Z (⟨"com/example/floe/floe/OperatorComparesWithLiteralPinLaw", "pick", "(I)Lcom/example/floe/floe/Expression$Operator;"⟩ : MethodName) method_2_code 1 (some (FieldType.object "com/example/floe/floe/Expression$Operator")) [] ({ frames := 0, cells := 0, slots := 0, locals := 0 } : Room) 0 0 #[(.int p0)] h0 (own_Q (some (.ref (A 2))) n0 fun h => h = h0) := by
  refine own_enter own_pn0 (fun m => own_ef0 m p0) ?_
  intro p e s m below meth c C
  have N := Fr.nil n0
  refine own_iloadN C (pc' := 1) (v := p0) d1_0 rfl rfl ?_
  refine own_ifY C (pc' := 8) d1_1 (XT.i0_ne_t hq0) (by decide) (by decide) ?_
  refine own_iloadN C (pc' := 9) (v := p0) d1_8 rfl rfl ?_
  refine own_iconst C (pc' := 10) (v := (1 : Int32)) d1_9 rfl rfl ?_
  refine own_icmpY C (pc' := 17) d1_10 (XT.ii_ne_t hq1) (by decide) (by decide) ?_
  refine own_iloadN C (pc' := 18) (v := p0) d1_17 rfl rfl ?_
  refine own_iconst C (pc' := 19) (v := (2 : Int32)) d1_18 rfl rfl ?_
  refine own_icmpY C (pc' := 26) d1_19 (XT.ii_ne_t hq2) (by decide) (by decide) ?_
  refine own_iloadN C (pc' := 27) (v := p0) d1_26 rfl rfl ?_
  refine own_iconst C (pc' := 28) (v := (3 : Int32)) d1_27 rfl rfl ?_
  refine own_icmpN C (pc' := 31) d1_28 (XT.ii_ne_f hq3) rfl ?_
  refine own_getS C (pc' := 34) (own_w34 hw) (Sta.ext O.2 (own_p6 B)) d1_31 rfl ?_
  exact own_ret C d1_34 rfl (Or.inr (Or.inr (Or.inr (Or.inr ⟨rfl, rfl, rfl⟩)))) rfl N (rfl) (by decide) (by decide)
set_option maxRecDepth 65536 in
set_option maxHeartbeats 40000000 in
theorem own_c17 (l : Launch) (Z : State) (a0 : Array Value) (hw : ∀ d ∈ tables_1, d.before a0 Z = true) (A : Nat → Addr) (B : own_P Z A) (h0 : Heap) (n0 : Nat) (O : Old Z n0 h0) (a0r : Addr) (F_a0r_ordinal : Fld Z h0 a0r "java/lang/Enum" "ordinal" "I" (.int (3 : Int32))) : own_Met l Z (⟨"java/lang/Enum", "ordinal", "()I"⟩ : MethodName) jdk_37_method_2_code 1 (some FieldType.int) [] ({ frames := 0, cells := 0, slots := 0, locals := 0 } : Room) 0 0 #[(.ref a0r)] h0 (own_Q (some (.int (3 : Int32))) n0 fun h => h = h0) := by
  refine own_enter own_pn2 (fun m => own_ef1 m a0r) ?_
  intro p e s m below meth c C
  have N := Fr.nil n0
  refine own_aloadN C (pc' := 1) (v := (.ref a0r)) d4_0 rfl rfl rfl ?_
  refine own_getF C (pc' := 4) (host := "") (Or.inl (own_w25 hw)) F_a0r_ordinal d4_1 rfl ?_
  exact own_ret C d4_4 rfl (Or.inl ⟨rfl, Or.inl rfl, _, rfl⟩) rfl N (rfl) (by decide) (by decide)
set_option maxRecDepth 65536 in
set_option maxHeartbeats 40000000 in
theorem own_c18 (l : Launch) (Z : State) (a0 : Array Value) (hw : ∀ d ∈ tables_1, d.before a0 Z = true) (A : Nat → Addr) (B : own_P Z A) (h0 : Heap) (n0 : Nat) (O : Old Z n0 h0) (a0r : Addr) (p0 : Int32) (E_a0r : Exa Z h0 a0r "com/example/floe/floe/Expression$Operator") (F_a0r_ordinal : Fld Z h0 a0r "java/lang/Enum" "ordinal" "I" (.int (3 : Int32))) (hq2 : ¬ ((0 : Int32) < p0)) : own_Met l Z (⟨"com/example/floe/floe/Expression$Operator", "holds", "(I)Z"⟩ : MethodName) prog_15_method_6_code 2 (some FieldType.boolean) [] ({ frames := 1, cells := 0, slots := 0, locals := 12 } : Room) 0 0 #[(.ref a0r), (.int p0)] h0 (own_Q (some (.int (1 : Int32))) n0 fun h => h = h0) := by
  refine own_enter own_pn1 (fun m => own_ef2 m a0r p0) ?_
  intro p e s m below meth c C
  have N := Fr.nil n0
  refine own_aloadN C (pc' := 1) (v := (.ref a0r)) d3_0 rfl rfl rfl ?_
  refine own_callU C (owner := "java/lang/Enum") (pc' := 4) (W := 0) (argsL := []) (rest := []) (st' := [(.int (3 : Int32))]) (cells' := 0) (slots' := 0) (own_w18 hw) (own_w19 hw) (own_w20 hw) (own_w22 hw) (own_w21 hw) (own_w23 hw) (own_w24 hw) (by decide) E_a0r (own_c17 l Z a0 hw A B h0 n0 O a0r F_a0r_ordinal) (by decide) (by decide) (lenOf own_pd2 rfl) rfl (Nat.le_of_eq rfl) rfl d3_1 rfl (by decide) (by decide) rfl rfl rfl N (own_pure fun locs N => ?_)
  refine own_tsw C (pc' := 82) (o := 78) d3_4 (by decide) rfl (by decide) (by decide) ?_
  refine own_iloadN C (pc' := 83) (v := p0) d3_82 rfl rfl ?_
  refine own_ifN C (pc' := 86) d3_83 (XT.i0_gt_f hq2) rfl ?_
  refine own_iconst C (pc' := 87) (v := (1 : Int32)) d3_86 rfl rfl ?_
  refine own_goto C (pc' := 139) d3_87 (by decide) (by decide) ?_
  exact own_ret C d3_139 rfl (Or.inl ⟨rfl, Or.inr (Or.inl rfl), _, rfl⟩) rfl N (rfl) (by decide) (by decide)
set_option maxRecDepth 65536 in
set_option maxHeartbeats 40000000 in
theorem own_c19 (l : Launch) (Z : State) (a0 : Array Value) (hw : ∀ d ∈ tables_1, d.before a0 Z = true) (A : Nat → Addr) (B : own_P Z A) (h0 : Heap) (n0 : Nat) (O : Old Z n0 h0) (a0r : Addr) (p0 : Int32) (E_a0r : Exa Z h0 a0r "com/example/floe/floe/Expression$Operator") (F_a0r_ordinal : Fld Z h0 a0r "java/lang/Enum" "ordinal" "I" (.int (3 : Int32))) (hq2 : (0 : Int32) < p0) : own_Met l Z (⟨"com/example/floe/floe/Expression$Operator", "holds", "(I)Z"⟩ : MethodName) prog_15_method_6_code 2 (some FieldType.boolean) [] ({ frames := 1, cells := 0, slots := 0, locals := 12 } : Room) 0 0 #[(.ref a0r), (.int p0)] h0 (own_Q (some (.int (0 : Int32))) n0 fun h => h = h0) := by
  refine own_enter own_pn1 (fun m => own_ef2 m a0r p0) ?_
  intro p e s m below meth c C
  have N := Fr.nil n0
  refine own_aloadN C (pc' := 1) (v := (.ref a0r)) d3_0 rfl rfl rfl ?_
  refine own_callU C (owner := "java/lang/Enum") (pc' := 4) (W := 0) (argsL := []) (rest := []) (st' := [(.int (3 : Int32))]) (cells' := 0) (slots' := 0) (own_w18 hw) (own_w19 hw) (own_w20 hw) (own_w22 hw) (own_w21 hw) (own_w23 hw) (own_w24 hw) (by decide) E_a0r (own_c17 l Z a0 hw A B h0 n0 O a0r F_a0r_ordinal) (by decide) (by decide) (lenOf own_pd2 rfl) rfl (Nat.le_of_eq rfl) rfl d3_1 rfl (by decide) (by decide) rfl rfl rfl N (own_pure fun locs N => ?_)
  refine own_tsw C (pc' := 82) (o := 78) d3_4 (by decide) rfl (by decide) (by decide) ?_
  refine own_iloadN C (pc' := 83) (v := p0) d3_82 rfl rfl ?_
  refine own_ifY C (pc' := 90) d3_83 (XT.i0_gt_t hq2) (by decide) (by decide) ?_
  refine own_iconst C (pc' := 91) (v := (0 : Int32)) d3_90 rfl rfl ?_
  refine own_goto C (pc' := 139) d3_91 (by decide) (by decide) ?_
  exact own_ret C d3_139 rfl (Or.inl ⟨rfl, Or.inr (Or.inl rfl), _, rfl⟩) rfl N (rfl) (by decide) (by decide)
set_option maxRecDepth 65536 in
set_option maxHeartbeats 40000000 in
theorem own_c20 (l : Launch) (Z : State) (a0 : Array Value) (hw : ∀ d ∈ tables_1, d.before a0 Z = true) (A : Nat → Addr) (B : own_P Z A) (h0 : Heap) (n0 : Nat) (O : Old Z n0 h0) (a0r : Addr) (E_a0r : Exa Z h0 a0r "com/example/floe/floe/Expression$Operator") (F_a0r_ordinal : Fld Z h0 a0r "java/lang/Enum" "ordinal" "I" (.int (3 : Int32))) : own_Met l Z (⟨"com/example/floe/floe/Expression$Operator", "negate", "()Lcom/example/floe/floe/Expression$Operator;"⟩ : MethodName) prog_15_method_4_code 1 (some (FieldType.object "com/example/floe/floe/Expression$Operator")) [] ({ frames := 1, cells := 0, slots := 0, locals := 12 } : Room) 0 0 #[(.ref a0r)] h0 (own_Q (some (.ref (A 3))) n0 fun h => h = h0) := by
  refine own_enter own_pn1 (fun m => own_ef1 m a0r) ?_
  intro p e s m below meth c C
  have N := Fr.nil n0
  refine own_aloadN C (pc' := 1) (v := (.ref a0r)) d5_0 rfl rfl rfl ?_
  refine own_callU C (owner := "java/lang/Enum") (pc' := 4) (W := 0) (argsL := []) (rest := []) (st' := [(.int (3 : Int32))]) (cells' := 0) (slots' := 0) (own_w18 hw) (own_w19 hw) (own_w20 hw) (own_w22 hw) (own_w21 hw) (own_w23 hw) (own_w24 hw) (by decide) E_a0r (own_c17 l Z a0 hw A B h0 n0 O a0r F_a0r_ordinal) (by decide) (by decide) (lenOf own_pd2 rfl) rfl (Nat.le_of_eq rfl) rfl d5_1 rfl (by decide) (by decide) rfl rfl rfl N (own_pure fun locs N => ?_)
  refine own_tsw C (pc' := 80) (o := 76) d5_4 (by decide) rfl (by decide) (by decide) ?_
  refine own_getS C (pc' := 83) (own_w36 hw) (Sta.ext O.2 (own_p9 B)) d5_80 rfl ?_
  refine own_goto C (pc' := 107) d5_83 (by decide) (by decide) ?_
  exact own_ret C d5_107 rfl (Or.inr (Or.inr (Or.inr (Or.inr ⟨rfl, rfl, rfl⟩)))) rfl N (rfl) (by decide) (by decide)
set_option maxRecDepth 65536 in
set_option maxHeartbeats 40000000 in
theorem own_c21 (l : Launch) (Z : State) (a0 : Array Value) (hw : ∀ d ∈ tables_1, d.before a0 Z = true) (A : Nat → Addr) (B : own_P Z A) (h0 : Heap) (n0 : Nat) (O : Old Z n0 h0) (p0 : Int32) (hq0 : ¬ (p0 = (0 : Int32))) (hq1 : ¬ (p0 = (1 : Int32))) (hq2 : ¬ (p0 = (2 : Int32))) (hq3 : ¬ (p0 = (3 : Int32))) (hq4 : p0 = (4 : Int32)) : own_Met l Z (⟨"com/example/floe/floe/OperatorComparesWithLiteralPinLaw", "pick", "(I)Lcom/example/floe/floe/Expression$Operator;"⟩ : MethodName) method_2_code 1 (some (FieldType.object "com/example/floe/floe/Expression$Operator")) [] ({ frames := 0, cells := 0, slots := 0, locals := 0 } : Room) 0 0 #[(.int p0)] h0 (own_Q (some (.ref (A 3))) n0 fun h => h = h0) := by
  refine own_enter own_pn0 (fun m => own_ef0 m p0) ?_
  intro p e s m below meth c C
  have N := Fr.nil n0
  refine own_iloadN C (pc' := 1) (v := p0) d1_0 rfl rfl ?_
  refine own_ifY C (pc' := 8) d1_1 (XT.i0_ne_t hq0) (by decide) (by decide) ?_
  refine own_iloadN C (pc' := 9) (v := p0) d1_8 rfl rfl ?_
  refine own_iconst C (pc' := 10) (v := (1 : Int32)) d1_9 rfl rfl ?_
  refine own_icmpY C (pc' := 17) d1_10 (XT.ii_ne_t hq1) (by decide) (by decide) ?_
  refine own_iloadN C (pc' := 18) (v := p0) d1_17 rfl rfl ?_
  refine own_iconst C (pc' := 19) (v := (2 : Int32)) d1_18 rfl rfl ?_
  refine own_icmpY C (pc' := 26) d1_19 (XT.ii_ne_t hq2) (by decide) (by decide) ?_
  refine own_iloadN C (pc' := 27) (v := p0) d1_26 rfl rfl ?_
  refine own_iconst C (pc' := 28) (v := (3 : Int32)) d1_27 rfl rfl ?_
  refine own_icmpY C (pc' := 35) d1_28 (XT.ii_ne_t hq3) (by decide) (by decide) ?_
  refine own_iloadN C (pc' := 36) (v := p0) d1_35 rfl rfl ?_
  refine own_iconst C (pc' := 37) (v := (4 : Int32)) d1_36 rfl rfl ?_
  refine own_icmpN C (pc' := 40) d1_37 (XT.ii_ne_f hq4) rfl ?_
  refine own_getS C (pc' := 43) (own_w49 hw) (Sta.ext O.2 (own_p9 B)) d1_40 rfl ?_
  exact own_ret C d1_43 rfl (Or.inr (Or.inr (Or.inr (Or.inr ⟨rfl, rfl, rfl⟩)))) rfl N (rfl) (by decide) (by decide)
set_option maxRecDepth 65536 in
set_option maxHeartbeats 40000000 in
theorem own_c22 (l : Launch) (Z : State) (a0 : Array Value) (hw : ∀ d ∈ tables_1, d.before a0 Z = true) (A : Nat → Addr) (B : own_P Z A) (h0 : Heap) (n0 : Nat) (O : Old Z n0 h0) (a0r : Addr) (F_a0r_ordinal : Fld Z h0 a0r "java/lang/Enum" "ordinal" "I" (.int (4 : Int32))) : own_Met l Z (⟨"java/lang/Enum", "ordinal", "()I"⟩ : MethodName) jdk_37_method_2_code 1 (some FieldType.int) [] ({ frames := 0, cells := 0, slots := 0, locals := 0 } : Room) 0 0 #[(.ref a0r)] h0 (own_Q (some (.int (4 : Int32))) n0 fun h => h = h0) := by
  refine own_enter own_pn2 (fun m => own_ef1 m a0r) ?_
  intro p e s m below meth c C
  have N := Fr.nil n0
  refine own_aloadN C (pc' := 1) (v := (.ref a0r)) d4_0 rfl rfl rfl ?_
  refine own_getF C (pc' := 4) (host := "") (Or.inl (own_w25 hw)) F_a0r_ordinal d4_1 rfl ?_
  exact own_ret C d4_4 rfl (Or.inl ⟨rfl, Or.inl rfl, _, rfl⟩) rfl N (rfl) (by decide) (by decide)
set_option maxRecDepth 65536 in
set_option maxHeartbeats 40000000 in
theorem own_c23 (l : Launch) (Z : State) (a0 : Array Value) (hw : ∀ d ∈ tables_1, d.before a0 Z = true) (A : Nat → Addr) (B : own_P Z A) (h0 : Heap) (n0 : Nat) (O : Old Z n0 h0) (a0r : Addr) (p0 : Int32) (E_a0r : Exa Z h0 a0r "com/example/floe/floe/Expression$Operator") (F_a0r_ordinal : Fld Z h0 a0r "java/lang/Enum" "ordinal" "I" (.int (4 : Int32))) (hq2 : ¬ ((0 : Int32) < p0)) : own_Met l Z (⟨"com/example/floe/floe/Expression$Operator", "holds", "(I)Z"⟩ : MethodName) prog_15_method_6_code 2 (some FieldType.boolean) [] ({ frames := 1, cells := 0, slots := 0, locals := 12 } : Room) 0 0 #[(.ref a0r), (.int p0)] h0 (own_Q (some (.int (0 : Int32))) n0 fun h => h = h0) := by
  refine own_enter own_pn1 (fun m => own_ef2 m a0r p0) ?_
  intro p e s m below meth c C
  have N := Fr.nil n0
  refine own_aloadN C (pc' := 1) (v := (.ref a0r)) d3_0 rfl rfl rfl ?_
  refine own_callU C (owner := "java/lang/Enum") (pc' := 4) (W := 0) (argsL := []) (rest := []) (st' := [(.int (4 : Int32))]) (cells' := 0) (slots' := 0) (own_w18 hw) (own_w19 hw) (own_w20 hw) (own_w22 hw) (own_w21 hw) (own_w23 hw) (own_w24 hw) (by decide) E_a0r (own_c22 l Z a0 hw A B h0 n0 O a0r F_a0r_ordinal) (by decide) (by decide) (lenOf own_pd2 rfl) rfl (Nat.le_of_eq rfl) rfl d3_1 rfl (by decide) (by decide) rfl rfl rfl N (own_pure fun locs N => ?_)
  refine own_tsw C (pc' := 94) (o := 90) d3_4 (by decide) rfl (by decide) (by decide) ?_
  refine own_iloadN C (pc' := 95) (v := p0) d3_94 rfl rfl ?_
  refine own_ifY C (pc' := 102) d3_95 (XT.i0_le_t hq2) (by decide) (by decide) ?_
  refine own_iconst C (pc' := 103) (v := (0 : Int32)) d3_102 rfl rfl ?_
  refine own_goto C (pc' := 139) d3_103 (by decide) (by decide) ?_
  exact own_ret C d3_139 rfl (Or.inl ⟨rfl, Or.inr (Or.inl rfl), _, rfl⟩) rfl N (rfl) (by decide) (by decide)
set_option maxRecDepth 65536 in
set_option maxHeartbeats 40000000 in
theorem own_c24 (l : Launch) (Z : State) (a0 : Array Value) (hw : ∀ d ∈ tables_1, d.before a0 Z = true) (A : Nat → Addr) (B : own_P Z A) (h0 : Heap) (n0 : Nat) (O : Old Z n0 h0) (a0r : Addr) (p0 : Int32) (E_a0r : Exa Z h0 a0r "com/example/floe/floe/Expression$Operator") (F_a0r_ordinal : Fld Z h0 a0r "java/lang/Enum" "ordinal" "I" (.int (4 : Int32))) (hq2 : (0 : Int32) < p0) : own_Met l Z (⟨"com/example/floe/floe/Expression$Operator", "holds", "(I)Z"⟩ : MethodName) prog_15_method_6_code 2 (some FieldType.boolean) [] ({ frames := 1, cells := 0, slots := 0, locals := 12 } : Room) 0 0 #[(.ref a0r), (.int p0)] h0 (own_Q (some (.int (1 : Int32))) n0 fun h => h = h0) := by
  refine own_enter own_pn1 (fun m => own_ef2 m a0r p0) ?_
  intro p e s m below meth c C
  have N := Fr.nil n0
  refine own_aloadN C (pc' := 1) (v := (.ref a0r)) d3_0 rfl rfl rfl ?_
  refine own_callU C (owner := "java/lang/Enum") (pc' := 4) (W := 0) (argsL := []) (rest := []) (st' := [(.int (4 : Int32))]) (cells' := 0) (slots' := 0) (own_w18 hw) (own_w19 hw) (own_w20 hw) (own_w22 hw) (own_w21 hw) (own_w23 hw) (own_w24 hw) (by decide) E_a0r (own_c22 l Z a0 hw A B h0 n0 O a0r F_a0r_ordinal) (by decide) (by decide) (lenOf own_pd2 rfl) rfl (Nat.le_of_eq rfl) rfl d3_1 rfl (by decide) (by decide) rfl rfl rfl N (own_pure fun locs N => ?_)
  refine own_tsw C (pc' := 94) (o := 90) d3_4 (by decide) rfl (by decide) (by decide) ?_
  refine own_iloadN C (pc' := 95) (v := p0) d3_94 rfl rfl ?_
  refine own_ifN C (pc' := 98) d3_95 (XT.i0_le_f hq2) rfl ?_
  refine own_iconst C (pc' := 99) (v := (1 : Int32)) d3_98 rfl rfl ?_
  refine own_goto C (pc' := 139) d3_99 (by decide) (by decide) ?_
  exact own_ret C d3_139 rfl (Or.inl ⟨rfl, Or.inr (Or.inl rfl), _, rfl⟩) rfl N (rfl) (by decide) (by decide)
set_option maxRecDepth 65536 in
set_option maxHeartbeats 40000000 in
theorem own_c25 (l : Launch) (Z : State) (a0 : Array Value) (hw : ∀ d ∈ tables_1, d.before a0 Z = true) (A : Nat → Addr) (B : own_P Z A) (h0 : Heap) (n0 : Nat) (O : Old Z n0 h0) (a0r : Addr) (E_a0r : Exa Z h0 a0r "com/example/floe/floe/Expression$Operator") (F_a0r_ordinal : Fld Z h0 a0r "java/lang/Enum" "ordinal" "I" (.int (4 : Int32))) : own_Met l Z (⟨"com/example/floe/floe/Expression$Operator", "negate", "()Lcom/example/floe/floe/Expression$Operator;"⟩ : MethodName) prog_15_method_4_code 1 (some (FieldType.object "com/example/floe/floe/Expression$Operator")) [] ({ frames := 1, cells := 0, slots := 0, locals := 12 } : Room) 0 0 #[(.ref a0r)] h0 (own_Q (some (.ref (A 2))) n0 fun h => h = h0) := by
  refine own_enter own_pn1 (fun m => own_ef1 m a0r) ?_
  intro p e s m below meth c C
  have N := Fr.nil n0
  refine own_aloadN C (pc' := 1) (v := (.ref a0r)) d5_0 rfl rfl rfl ?_
  refine own_callU C (owner := "java/lang/Enum") (pc' := 4) (W := 0) (argsL := []) (rest := []) (st' := [(.int (4 : Int32))]) (cells' := 0) (slots' := 0) (own_w18 hw) (own_w19 hw) (own_w20 hw) (own_w22 hw) (own_w21 hw) (own_w23 hw) (own_w24 hw) (by decide) E_a0r (own_c22 l Z a0 hw A B h0 n0 O a0r F_a0r_ordinal) (by decide) (by decide) (lenOf own_pd2 rfl) rfl (Nat.le_of_eq rfl) rfl d5_1 rfl (by decide) (by decide) rfl rfl rfl N (own_pure fun locs N => ?_)
  refine own_tsw C (pc' := 86) (o := 82) d5_4 (by decide) rfl (by decide) (by decide) ?_
  refine own_getS C (pc' := 89) (own_w50 hw) (Sta.ext O.2 (own_p6 B)) d5_86 rfl ?_
  refine own_goto C (pc' := 107) d5_89 (by decide) (by decide) ?_
  exact own_ret C d5_107 rfl (Or.inr (Or.inr (Or.inr (Or.inr ⟨rfl, rfl, rfl⟩)))) rfl N (rfl) (by decide) (by decide)
set_option maxRecDepth 65536 in
set_option maxHeartbeats 40000000 in
theorem own_c26 (l : Launch) (Z : State) (a0 : Array Value) (hw : ∀ d ∈ tables_1, d.before a0 Z = true) (A : Nat → Addr) (B : own_P Z A) (h0 : Heap) (n0 : Nat) (O : Old Z n0 h0) (p0 : Int32) (hq0 : ¬ (p0 = (0 : Int32))) (hq1 : ¬ (p0 = (1 : Int32))) (hq2 : ¬ (p0 = (2 : Int32))) (hq3 : ¬ (p0 = (3 : Int32))) (hq4 : ¬ (p0 = (4 : Int32))) (hq5 : p0 = (5 : Int32)) : own_Met l Z (⟨"com/example/floe/floe/OperatorComparesWithLiteralPinLaw", "pick", "(I)Lcom/example/floe/floe/Expression$Operator;"⟩ : MethodName) method_2_code 1 (some (FieldType.object "com/example/floe/floe/Expression$Operator")) [] ({ frames := 0, cells := 0, slots := 0, locals := 0 } : Room) 0 0 #[(.int p0)] h0 (own_Q (some (.ref (A 7))) n0 fun h => h = h0) := by
  refine own_enter own_pn0 (fun m => own_ef0 m p0) ?_
  intro p e s m below meth c C
  have N := Fr.nil n0
  refine own_iloadN C (pc' := 1) (v := p0) d1_0 rfl rfl ?_
  refine own_ifY C (pc' := 8) d1_1 (XT.i0_ne_t hq0) (by decide) (by decide) ?_
  refine own_iloadN C (pc' := 9) (v := p0) d1_8 rfl rfl ?_
  refine own_iconst C (pc' := 10) (v := (1 : Int32)) d1_9 rfl rfl ?_
  refine own_icmpY C (pc' := 17) d1_10 (XT.ii_ne_t hq1) (by decide) (by decide) ?_
  refine own_iloadN C (pc' := 18) (v := p0) d1_17 rfl rfl ?_
  refine own_iconst C (pc' := 19) (v := (2 : Int32)) d1_18 rfl rfl ?_
  refine own_icmpY C (pc' := 26) d1_19 (XT.ii_ne_t hq2) (by decide) (by decide) ?_
  refine own_iloadN C (pc' := 27) (v := p0) d1_26 rfl rfl ?_
  refine own_iconst C (pc' := 28) (v := (3 : Int32)) d1_27 rfl rfl ?_
  refine own_icmpY C (pc' := 35) d1_28 (XT.ii_ne_t hq3) (by decide) (by decide) ?_
  refine own_iloadN C (pc' := 36) (v := p0) d1_35 rfl rfl ?_
  refine own_iconst C (pc' := 37) (v := (4 : Int32)) d1_36 rfl rfl ?_
  refine own_icmpY C (pc' := 44) d1_37 (XT.ii_ne_t hq4) (by decide) (by decide) ?_
  refine own_iloadN C (pc' := 45) (v := p0) d1_44 rfl rfl ?_
  refine own_iconst C (pc' := 46) (v := (5 : Int32)) d1_45 rfl rfl ?_
  refine own_icmpN C (pc' := 49) d1_46 (XT.ii_ne_f hq5) rfl ?_
  refine own_getS C (pc' := 52) (own_w51 hw) (Sta.ext O.2 (own_p21 B)) d1_49 rfl ?_
  exact own_ret C d1_52 rfl (Or.inr (Or.inr (Or.inr (Or.inr ⟨rfl, rfl, rfl⟩)))) rfl N (rfl) (by decide) (by decide)
set_option maxRecDepth 65536 in
set_option maxHeartbeats 40000000 in
theorem own_c27 (l : Launch) (Z : State) (a0 : Array Value) (hw : ∀ d ∈ tables_1, d.before a0 Z = true) (A : Nat → Addr) (B : own_P Z A) (h0 : Heap) (n0 : Nat) (O : Old Z n0 h0) (a0r : Addr) (F_a0r_ordinal : Fld Z h0 a0r "java/lang/Enum" "ordinal" "I" (.int (5 : Int32))) : own_Met l Z (⟨"java/lang/Enum", "ordinal", "()I"⟩ : MethodName) jdk_37_method_2_code 1 (some FieldType.int) [] ({ frames := 0, cells := 0, slots := 0, locals := 0 } : Room) 0 0 #[(.ref a0r)] h0 (own_Q (some (.int (5 : Int32))) n0 fun h => h = h0) := by
  refine own_enter own_pn2 (fun m => own_ef1 m a0r) ?_
  intro p e s m below meth c C
  have N := Fr.nil n0
  refine own_aloadN C (pc' := 1) (v := (.ref a0r)) d4_0 rfl rfl rfl ?_
  refine own_getF C (pc' := 4) (host := "") (Or.inl (own_w25 hw)) F_a0r_ordinal d4_1 rfl ?_
  exact own_ret C d4_4 rfl (Or.inl ⟨rfl, Or.inl rfl, _, rfl⟩) rfl N (rfl) (by decide) (by decide)
set_option maxRecDepth 65536 in
set_option maxHeartbeats 40000000 in
theorem own_c28 (l : Launch) (Z : State) (a0 : Array Value) (hw : ∀ d ∈ tables_1, d.before a0 Z = true) (A : Nat → Addr) (B : own_P Z A) (h0 : Heap) (n0 : Nat) (O : Old Z n0 h0) (a0r : Addr) (p0 : Int32) (E_a0r : Exa Z h0 a0r "com/example/floe/floe/Expression$Operator") (F_a0r_ordinal : Fld Z h0 a0r "java/lang/Enum" "ordinal" "I" (.int (5 : Int32))) (hq2 : p0 < (0 : Int32)) : own_Met l Z (⟨"com/example/floe/floe/Expression$Operator", "holds", "(I)Z"⟩ : MethodName) prog_15_method_6_code 2 (some FieldType.boolean) [] ({ frames := 1, cells := 0, slots := 0, locals := 12 } : Room) 0 0 #[(.ref a0r), (.int p0)] h0 (own_Q (some (.int (0 : Int32))) n0 fun h => h = h0) := by
  refine own_enter own_pn1 (fun m => own_ef2 m a0r p0) ?_
  intro p e s m below meth c C
  have N := Fr.nil n0
  refine own_aloadN C (pc' := 1) (v := (.ref a0r)) d3_0 rfl rfl rfl ?_
  refine own_callU C (owner := "java/lang/Enum") (pc' := 4) (W := 0) (argsL := []) (rest := []) (st' := [(.int (5 : Int32))]) (cells' := 0) (slots' := 0) (own_w18 hw) (own_w19 hw) (own_w20 hw) (own_w22 hw) (own_w21 hw) (own_w23 hw) (own_w24 hw) (by decide) E_a0r (own_c27 l Z a0 hw A B h0 n0 O a0r F_a0r_ordinal) (by decide) (by decide) (lenOf own_pd2 rfl) rfl (Nat.le_of_eq rfl) rfl d3_1 rfl (by decide) (by decide) rfl rfl rfl N (own_pure fun locs N => ?_)
  refine own_tsw C (pc' := 106) (o := 102) d3_4 (by decide) rfl (by decide) (by decide) ?_
  refine own_iloadN C (pc' := 107) (v := p0) d3_106 rfl rfl ?_
  refine own_ifY C (pc' := 114) d3_107 (XT.i0_lt_t hq2) (by decide) (by decide) ?_
  refine own_iconst C (pc' := 115) (v := (0 : Int32)) d3_114 rfl rfl ?_
  refine own_goto C (pc' := 139) d3_115 (by decide) (by decide) ?_
  exact own_ret C d3_139 rfl (Or.inl ⟨rfl, Or.inr (Or.inl rfl), _, rfl⟩) rfl N (rfl) (by decide) (by decide)
set_option maxRecDepth 65536 in
set_option maxHeartbeats 40000000 in
theorem own_c29 (l : Launch) (Z : State) (a0 : Array Value) (hw : ∀ d ∈ tables_1, d.before a0 Z = true) (A : Nat → Addr) (B : own_P Z A) (h0 : Heap) (n0 : Nat) (O : Old Z n0 h0) (a0r : Addr) (p0 : Int32) (E_a0r : Exa Z h0 a0r "com/example/floe/floe/Expression$Operator") (F_a0r_ordinal : Fld Z h0 a0r "java/lang/Enum" "ordinal" "I" (.int (5 : Int32))) (hq2 : ¬ (p0 < (0 : Int32))) : own_Met l Z (⟨"com/example/floe/floe/Expression$Operator", "holds", "(I)Z"⟩ : MethodName) prog_15_method_6_code 2 (some FieldType.boolean) [] ({ frames := 1, cells := 0, slots := 0, locals := 12 } : Room) 0 0 #[(.ref a0r), (.int p0)] h0 (own_Q (some (.int (1 : Int32))) n0 fun h => h = h0) := by
  refine own_enter own_pn1 (fun m => own_ef2 m a0r p0) ?_
  intro p e s m below meth c C
  have N := Fr.nil n0
  refine own_aloadN C (pc' := 1) (v := (.ref a0r)) d3_0 rfl rfl rfl ?_
  refine own_callU C (owner := "java/lang/Enum") (pc' := 4) (W := 0) (argsL := []) (rest := []) (st' := [(.int (5 : Int32))]) (cells' := 0) (slots' := 0) (own_w18 hw) (own_w19 hw) (own_w20 hw) (own_w22 hw) (own_w21 hw) (own_w23 hw) (own_w24 hw) (by decide) E_a0r (own_c27 l Z a0 hw A B h0 n0 O a0r F_a0r_ordinal) (by decide) (by decide) (lenOf own_pd2 rfl) rfl (Nat.le_of_eq rfl) rfl d3_1 rfl (by decide) (by decide) rfl rfl rfl N (own_pure fun locs N => ?_)
  refine own_tsw C (pc' := 106) (o := 102) d3_4 (by decide) rfl (by decide) (by decide) ?_
  refine own_iloadN C (pc' := 107) (v := p0) d3_106 rfl rfl ?_
  refine own_ifN C (pc' := 110) d3_107 (XT.i0_lt_f hq2) rfl ?_
  refine own_iconst C (pc' := 111) (v := (1 : Int32)) d3_110 rfl rfl ?_
  refine own_goto C (pc' := 139) d3_111 (by decide) (by decide) ?_
  exact own_ret C d3_139 rfl (Or.inl ⟨rfl, Or.inr (Or.inl rfl), _, rfl⟩) rfl N (rfl) (by decide) (by decide)
set_option maxRecDepth 65536 in
set_option maxHeartbeats 40000000 in
theorem own_c30 (l : Launch) (Z : State) (a0 : Array Value) (hw : ∀ d ∈ tables_1, d.before a0 Z = true) (A : Nat → Addr) (B : own_P Z A) (h0 : Heap) (n0 : Nat) (O : Old Z n0 h0) (a0r : Addr) (E_a0r : Exa Z h0 a0r "com/example/floe/floe/Expression$Operator") (F_a0r_ordinal : Fld Z h0 a0r "java/lang/Enum" "ordinal" "I" (.int (5 : Int32))) : own_Met l Z (⟨"com/example/floe/floe/Expression$Operator", "negate", "()Lcom/example/floe/floe/Expression$Operator;"⟩ : MethodName) prog_15_method_4_code 1 (some (FieldType.object "com/example/floe/floe/Expression$Operator")) [] ({ frames := 1, cells := 0, slots := 0, locals := 12 } : Room) 0 0 #[(.ref a0r)] h0 (own_Q (some (.ref (A 6))) n0 fun h => h = h0) := by
  refine own_enter own_pn1 (fun m => own_ef1 m a0r) ?_
  intro p e s m below meth c C
  have N := Fr.nil n0
  refine own_aloadN C (pc' := 1) (v := (.ref a0r)) d5_0 rfl rfl rfl ?_
  refine own_callU C (owner := "java/lang/Enum") (pc' := 4) (W := 0) (argsL := []) (rest := []) (st' := [(.int (5 : Int32))]) (cells' := 0) (slots' := 0) (own_w18 hw) (own_w19 hw) (own_w20 hw) (own_w22 hw) (own_w21 hw) (own_w23 hw) (own_w24 hw) (by decide) E_a0r (own_c27 l Z a0 hw A B h0 n0 O a0r F_a0r_ordinal) (by decide) (by decide) (lenOf own_pd2 rfl) rfl (Nat.le_of_eq rfl) rfl d5_1 rfl (by decide) (by decide) rfl rfl rfl N (own_pure fun locs N => ?_)
  refine own_tsw C (pc' := 92) (o := 88) d5_4 (by decide) rfl (by decide) (by decide) ?_
  refine own_getS C (pc' := 95) (own_w52 hw) (Sta.ext O.2 (own_p18 B)) d5_92 rfl ?_
  refine own_goto C (pc' := 107) d5_95 (by decide) (by decide) ?_
  exact own_ret C d5_107 rfl (Or.inr (Or.inr (Or.inr (Or.inr ⟨rfl, rfl, rfl⟩)))) rfl N (rfl) (by decide) (by decide)
set_option maxRecDepth 65536 in
set_option maxHeartbeats 40000000 in
theorem own_c31 (l : Launch) (Z : State) (a0 : Array Value) (hw : ∀ d ∈ tables_1, d.before a0 Z = true) (A : Nat → Addr) (B : own_P Z A) (h0 : Heap) (n0 : Nat) (O : Old Z n0 h0) (p0 : Int32) (hq0 : ¬ (p0 = (0 : Int32))) (hq1 : ¬ (p0 = (1 : Int32))) (hq2 : ¬ (p0 = (2 : Int32))) (hq3 : ¬ (p0 = (3 : Int32))) (hq4 : ¬ (p0 = (4 : Int32))) (hq5 : ¬ (p0 = (5 : Int32))) (hq6 : p0 = (6 : Int32)) : own_Met l Z (⟨"com/example/floe/floe/OperatorComparesWithLiteralPinLaw", "pick", "(I)Lcom/example/floe/floe/Expression$Operator;"⟩ : MethodName) method_2_code 1 (some (FieldType.object "com/example/floe/floe/Expression$Operator")) [] ({ frames := 0, cells := 0, slots := 0, locals := 0 } : Room) 0 0 #[(.int p0)] h0 (own_Q (some (.ref (A 4))) n0 fun h => h = h0) := by
  refine own_enter own_pn0 (fun m => own_ef0 m p0) ?_
  intro p e s m below meth c C
  have N := Fr.nil n0
  refine own_iloadN C (pc' := 1) (v := p0) d1_0 rfl rfl ?_
  refine own_ifY C (pc' := 8) d1_1 (XT.i0_ne_t hq0) (by decide) (by decide) ?_
  refine own_iloadN C (pc' := 9) (v := p0) d1_8 rfl rfl ?_
  refine own_iconst C (pc' := 10) (v := (1 : Int32)) d1_9 rfl rfl ?_
  refine own_icmpY C (pc' := 17) d1_10 (XT.ii_ne_t hq1) (by decide) (by decide) ?_
  refine own_iloadN C (pc' := 18) (v := p0) d1_17 rfl rfl ?_
  refine own_iconst C (pc' := 19) (v := (2 : Int32)) d1_18 rfl rfl ?_
  refine own_icmpY C (pc' := 26) d1_19 (XT.ii_ne_t hq2) (by decide) (by decide) ?_
  refine own_iloadN C (pc' := 27) (v := p0) d1_26 rfl rfl ?_
  refine own_iconst C (pc' := 28) (v := (3 : Int32)) d1_27 rfl rfl ?_
  refine own_icmpY C (pc' := 35) d1_28 (XT.ii_ne_t hq3) (by decide) (by decide) ?_
  refine own_iloadN C (pc' := 36) (v := p0) d1_35 rfl rfl ?_
  refine own_iconst C (pc' := 37) (v := (4 : Int32)) d1_36 rfl rfl ?_
  refine own_icmpY C (pc' := 44) d1_37 (XT.ii_ne_t hq4) (by decide) (by decide) ?_
  refine own_iloadN C (pc' := 45) (v := p0) d1_44 rfl rfl ?_
  refine own_iconst C (pc' := 46) (v := (5 : Int32)) d1_45 rfl rfl ?_
  refine own_icmpY C (pc' := 53) d1_46 (XT.ii_ne_t hq5) (by decide) (by decide) ?_
  refine own_iloadN C (pc' := 54) (v := p0) d1_53 rfl rfl ?_
  refine own_bipush C (pc' := 56) (v := (6 : Int32)) d1_54 rfl rfl ?_
  refine own_icmpN C (pc' := 59) d1_56 (XT.ii_ne_f hq6) rfl ?_
  refine own_getS C (pc' := 62) (own_w38 hw) (Sta.ext O.2 (own_p12 B)) d1_59 rfl ?_
  exact own_ret C d1_62 rfl (Or.inr (Or.inr (Or.inr (Or.inr ⟨rfl, rfl, rfl⟩)))) rfl N (rfl) (by decide) (by decide)
set_option maxRecDepth 65536 in
set_option maxHeartbeats 40000000 in
theorem own_c32 (l : Launch) (Z : State) (a0 : Array Value) (hw : ∀ d ∈ tables_1, d.before a0 Z = true) (A : Nat → Addr) (B : own_P Z A) (h0 : Heap) (n0 : Nat) (O : Old Z n0 h0) (a0r : Addr) (F_a0r_ordinal : Fld Z h0 a0r "java/lang/Enum" "ordinal" "I" (.int (6 : Int32))) : own_Met l Z (⟨"java/lang/Enum", "ordinal", "()I"⟩ : MethodName) jdk_37_method_2_code 1 (some FieldType.int) [] ({ frames := 0, cells := 0, slots := 0, locals := 0 } : Room) 0 0 #[(.ref a0r)] h0 (own_Q (some (.int (6 : Int32))) n0 fun h => h = h0) := by
  refine own_enter own_pn2 (fun m => own_ef1 m a0r) ?_
  intro p e s m below meth c C
  have N := Fr.nil n0
  refine own_aloadN C (pc' := 1) (v := (.ref a0r)) d4_0 rfl rfl rfl ?_
  refine own_getF C (pc' := 4) (host := "") (Or.inl (own_w25 hw)) F_a0r_ordinal d4_1 rfl ?_
  exact own_ret C d4_4 rfl (Or.inl ⟨rfl, Or.inl rfl, _, rfl⟩) rfl N (rfl) (by decide) (by decide)
set_option maxRecDepth 65536 in
set_option maxHeartbeats 40000000 in
theorem own_c33 (l : Launch) (Z : State) (a0 : Array Value) (hw : ∀ d ∈ tables_1, d.before a0 Z = true) (A : Nat → Addr) (B : own_P Z A) (h0 : Heap) (n0 : Nat) (O : Old Z n0 h0) (a0r : Addr) (p0 : Int32) (E_a0r : Exa Z h0 a0r "com/example/floe/floe/Expression$Operator") (F_a0r_ordinal : Fld Z h0 a0r "java/lang/Enum" "ordinal" "I" (.int (6 : Int32))) (hq2 : ¬ (p0 = (0 : Int32))) : own_Met l Z (⟨"com/example/floe/floe/Expression$Operator", "holds", "(I)Z"⟩ : MethodName) prog_15_method_6_code 2 (some FieldType.boolean) [] ({ frames := 1, cells := 0, slots := 0, locals := 12 } : Room) 0 0 #[(.ref a0r), (.int p0)] h0 (own_Q (some (.int (0 : Int32))) n0 fun h => h = h0) := by
  refine own_enter own_pn1 (fun m => own_ef2 m a0r p0) ?_
  intro p e s m below meth c C
  have N := Fr.nil n0
  refine own_aloadN C (pc' := 1) (v := (.ref a0r)) d3_0 rfl rfl rfl ?_
  refine own_callU C (owner := "java/lang/Enum") (pc' := 4) (W := 0) (argsL := []) (rest := []) (st' := [(.int (6 : Int32))]) (cells' := 0) (slots' := 0) (own_w18 hw) (own_w19 hw) (own_w20 hw) (own_w22 hw) (own_w21 hw) (own_w23 hw) (own_w24 hw) (by decide) E_a0r (own_c32 l Z a0 hw A B h0 n0 O a0r F_a0r_ordinal) (by decide) (by decide) (lenOf own_pd2 rfl) rfl (Nat.le_of_eq rfl) rfl d3_1 rfl (by decide) (by decide) rfl rfl rfl N (own_pure fun locs N => ?_)
  refine own_tsw C (pc' := 118) (o := 114) d3_4 (by decide) rfl (by decide) (by decide) ?_
  refine own_iloadN C (pc' := 119) (v := p0) d3_118 rfl rfl ?_
  refine own_ifY C (pc' := 126) d3_119 (XT.i0_ne_t hq2) (by decide) (by decide) ?_
  refine own_iconst C (pc' := 127) (v := (0 : Int32)) d3_126 rfl rfl ?_
  refine own_goto C (pc' := 139) d3_127 (by decide) (by decide) ?_
  exact own_ret C d3_139 rfl (Or.inl ⟨rfl, Or.inr (Or.inl rfl), _, rfl⟩) rfl N (rfl) (by decide) (by decide)
set_option maxRecDepth 65536 in
set_option maxHeartbeats 40000000 in
theorem own_c34 (l : Launch) (Z : State) (a0 : Array Value) (hw : ∀ d ∈ tables_1, d.before a0 Z = true) (A : Nat → Addr) (B : own_P Z A) (h0 : Heap) (n0 : Nat) (O : Old Z n0 h0) (a0r : Addr) (p0 : Int32) (E_a0r : Exa Z h0 a0r "com/example/floe/floe/Expression$Operator") (F_a0r_ordinal : Fld Z h0 a0r "java/lang/Enum" "ordinal" "I" (.int (6 : Int32))) (hq2 : p0 = (0 : Int32)) : own_Met l Z (⟨"com/example/floe/floe/Expression$Operator", "holds", "(I)Z"⟩ : MethodName) prog_15_method_6_code 2 (some FieldType.boolean) [] ({ frames := 1, cells := 0, slots := 0, locals := 12 } : Room) 0 0 #[(.ref a0r), (.int p0)] h0 (own_Q (some (.int (1 : Int32))) n0 fun h => h = h0) := by
  refine own_enter own_pn1 (fun m => own_ef2 m a0r p0) ?_
  intro p e s m below meth c C
  have N := Fr.nil n0
  refine own_aloadN C (pc' := 1) (v := (.ref a0r)) d3_0 rfl rfl rfl ?_
  refine own_callU C (owner := "java/lang/Enum") (pc' := 4) (W := 0) (argsL := []) (rest := []) (st' := [(.int (6 : Int32))]) (cells' := 0) (slots' := 0) (own_w18 hw) (own_w19 hw) (own_w20 hw) (own_w22 hw) (own_w21 hw) (own_w23 hw) (own_w24 hw) (by decide) E_a0r (own_c32 l Z a0 hw A B h0 n0 O a0r F_a0r_ordinal) (by decide) (by decide) (lenOf own_pd2 rfl) rfl (Nat.le_of_eq rfl) rfl d3_1 rfl (by decide) (by decide) rfl rfl rfl N (own_pure fun locs N => ?_)
  refine own_tsw C (pc' := 118) (o := 114) d3_4 (by decide) rfl (by decide) (by decide) ?_
  refine own_iloadN C (pc' := 119) (v := p0) d3_118 rfl rfl ?_
  refine own_ifN C (pc' := 122) d3_119 (XT.i0_ne_f hq2) rfl ?_
  refine own_iconst C (pc' := 123) (v := (1 : Int32)) d3_122 rfl rfl ?_
  refine own_goto C (pc' := 139) d3_123 (by decide) (by decide) ?_
  exact own_ret C d3_139 rfl (Or.inl ⟨rfl, Or.inr (Or.inl rfl), _, rfl⟩) rfl N (rfl) (by decide) (by decide)
set_option maxRecDepth 65536 in
set_option maxHeartbeats 40000000 in
theorem own_c35 (l : Launch) (Z : State) (a0 : Array Value) (hw : ∀ d ∈ tables_1, d.before a0 Z = true) (A : Nat → Addr) (B : own_P Z A) (h0 : Heap) (n0 : Nat) (O : Old Z n0 h0) (a0r : Addr) (E_a0r : Exa Z h0 a0r "com/example/floe/floe/Expression$Operator") (F_a0r_ordinal : Fld Z h0 a0r "java/lang/Enum" "ordinal" "I" (.int (6 : Int32))) : own_Met l Z (⟨"com/example/floe/floe/Expression$Operator", "negate", "()Lcom/example/floe/floe/Expression$Operator;"⟩ : MethodName) prog_15_method_4_code 1 (some (FieldType.object "com/example/floe/floe/Expression$Operator")) [] ({ frames := 1, cells := 0, slots := 0, locals := 12 } : Room) 0 0 #[(.ref a0r)] h0 (own_Q (some (.ref (A 5))) n0 fun h => h = h0) := by
  refine own_enter own_pn1 (fun m => own_ef1 m a0r) ?_
  intro p e s m below meth c C
  have N := Fr.nil n0
  refine own_aloadN C (pc' := 1) (v := (.ref a0r)) d5_0 rfl rfl rfl ?_
  refine own_callU C (owner := "java/lang/Enum") (pc' := 4) (W := 0) (argsL := []) (rest := []) (st' := [(.int (6 : Int32))]) (cells' := 0) (slots' := 0) (own_w18 hw) (own_w19 hw) (own_w20 hw) (own_w22 hw) (own_w21 hw) (own_w23 hw) (own_w24 hw) (by decide) E_a0r (own_c32 l Z a0 hw A B h0 n0 O a0r F_a0r_ordinal) (by decide) (by decide) (lenOf own_pd2 rfl) rfl (Nat.le_of_eq rfl) rfl d5_1 rfl (by decide) (by decide) rfl rfl rfl N (own_pure fun locs N => ?_)
  refine own_tsw C (pc' := 98) (o := 94) d5_4 (by decide) rfl (by decide) (by decide) ?_
  refine own_getS C (pc' := 101) (own_w40 hw) (Sta.ext O.2 (own_p15 B)) d5_98 rfl ?_
  refine own_goto C (pc' := 107) d5_101 (by decide) (by decide) ?_
  exact own_ret C d5_107 rfl (Or.inr (Or.inr (Or.inr (Or.inr ⟨rfl, rfl, rfl⟩)))) rfl N (rfl) (by decide) (by decide)
set_option maxRecDepth 65536 in
set_option maxHeartbeats 40000000 in
theorem own_c36 (l : Launch) (Z : State) (a0 : Array Value) (hw : ∀ d ∈ tables_1, d.before a0 Z = true) (A : Nat → Addr) (B : own_P Z A) (h0 : Heap) (n0 : Nat) (O : Old Z n0 h0) (p0 : Int32) (hq0 : ¬ (p0 = (0 : Int32))) (hq1 : ¬ (p0 = (1 : Int32))) (hq2 : ¬ (p0 = (2 : Int32))) (hq3 : ¬ (p0 = (3 : Int32))) (hq4 : ¬ (p0 = (4 : Int32))) (hq5 : ¬ (p0 = (5 : Int32))) (hq6 : ¬ (p0 = (6 : Int32))) : own_Met l Z (⟨"com/example/floe/floe/OperatorComparesWithLiteralPinLaw", "pick", "(I)Lcom/example/floe/floe/Expression$Operator;"⟩ : MethodName) method_2_code 1 (some (FieldType.object "com/example/floe/floe/Expression$Operator")) [] ({ frames := 0, cells := 0, slots := 0, locals := 0 } : Room) 0 0 #[(.int p0)] h0 (own_Q (some (.ref (A 5))) n0 fun h => h = h0) := by
  refine own_enter own_pn0 (fun m => own_ef0 m p0) ?_
  intro p e s m below meth c C
  have N := Fr.nil n0
  refine own_iloadN C (pc' := 1) (v := p0) d1_0 rfl rfl ?_
  refine own_ifY C (pc' := 8) d1_1 (XT.i0_ne_t hq0) (by decide) (by decide) ?_
  refine own_iloadN C (pc' := 9) (v := p0) d1_8 rfl rfl ?_
  refine own_iconst C (pc' := 10) (v := (1 : Int32)) d1_9 rfl rfl ?_
  refine own_icmpY C (pc' := 17) d1_10 (XT.ii_ne_t hq1) (by decide) (by decide) ?_
  refine own_iloadN C (pc' := 18) (v := p0) d1_17 rfl rfl ?_
  refine own_iconst C (pc' := 19) (v := (2 : Int32)) d1_18 rfl rfl ?_
  refine own_icmpY C (pc' := 26) d1_19 (XT.ii_ne_t hq2) (by decide) (by decide) ?_
  refine own_iloadN C (pc' := 27) (v := p0) d1_26 rfl rfl ?_
  refine own_iconst C (pc' := 28) (v := (3 : Int32)) d1_27 rfl rfl ?_
  refine own_icmpY C (pc' := 35) d1_28 (XT.ii_ne_t hq3) (by decide) (by decide) ?_
  refine own_iloadN C (pc' := 36) (v := p0) d1_35 rfl rfl ?_
  refine own_iconst C (pc' := 37) (v := (4 : Int32)) d1_36 rfl rfl ?_
  refine own_icmpY C (pc' := 44) d1_37 (XT.ii_ne_t hq4) (by decide) (by decide) ?_
  refine own_iloadN C (pc' := 45) (v := p0) d1_44 rfl rfl ?_
  refine own_iconst C (pc' := 46) (v := (5 : Int32)) d1_45 rfl rfl ?_
  refine own_icmpY C (pc' := 53) d1_46 (XT.ii_ne_t hq5) (by decide) (by decide) ?_
  refine own_iloadN C (pc' := 54) (v := p0) d1_53 rfl rfl ?_
  refine own_bipush C (pc' := 56) (v := (6 : Int32)) d1_54 rfl rfl ?_
  refine own_icmpY C (pc' := 63) d1_56 (XT.ii_ne_t hq6) (by decide) (by decide) ?_
  refine own_getS C (pc' := 66) (own_w42 hw) (Sta.ext O.2 (own_p15 B)) d1_63 rfl ?_
  exact own_ret C d1_66 rfl (Or.inr (Or.inr (Or.inr (Or.inr ⟨rfl, rfl, rfl⟩)))) rfl N (rfl) (by decide) (by decide)
set_option maxRecDepth 65536 in
set_option maxHeartbeats 40000000 in
theorem own_c37 (l : Launch) (Z : State) (a0 : Array Value) (hw : ∀ d ∈ tables_1, d.before a0 Z = true) (A : Nat → Addr) (B : own_P Z A) (h0 : Heap) (n0 : Nat) (O : Old Z n0 h0) (a0r : Addr) (F_a0r_ordinal : Fld Z h0 a0r "java/lang/Enum" "ordinal" "I" (.int (7 : Int32))) : own_Met l Z (⟨"java/lang/Enum", "ordinal", "()I"⟩ : MethodName) jdk_37_method_2_code 1 (some FieldType.int) [] ({ frames := 0, cells := 0, slots := 0, locals := 0 } : Room) 0 0 #[(.ref a0r)] h0 (own_Q (some (.int (7 : Int32))) n0 fun h => h = h0) := by
  refine own_enter own_pn2 (fun m => own_ef1 m a0r) ?_
  intro p e s m below meth c C
  have N := Fr.nil n0
  refine own_aloadN C (pc' := 1) (v := (.ref a0r)) d4_0 rfl rfl rfl ?_
  refine own_getF C (pc' := 4) (host := "") (Or.inl (own_w25 hw)) F_a0r_ordinal d4_1 rfl ?_
  exact own_ret C d4_4 rfl (Or.inl ⟨rfl, Or.inl rfl, _, rfl⟩) rfl N (rfl) (by decide) (by decide)
set_option maxRecDepth 65536 in
set_option maxHeartbeats 40000000 in
theorem own_c38 (l : Launch) (Z : State) (a0 : Array Value) (hw : ∀ d ∈ tables_1, d.before a0 Z = true) (A : Nat → Addr) (B : own_P Z A) (h0 : Heap) (n0 : Nat) (O : Old Z n0 h0) (a0r : Addr) (p0 : Int32) (E_a0r : Exa Z h0 a0r "com/example/floe/floe/Expression$Operator") (F_a0r_ordinal : Fld Z h0 a0r "java/lang/Enum" "ordinal" "I" (.int (7 : Int32))) (hq2 : ¬ (p0 = (0 : Int32))) : own_Met l Z (⟨"com/example/floe/floe/Expression$Operator", "holds", "(I)Z"⟩ : MethodName) prog_15_method_6_code 2 (some FieldType.boolean) [] ({ frames := 1, cells := 0, slots := 0, locals := 12 } : Room) 0 0 #[(.ref a0r), (.int p0)] h0 (own_Q (some (.int (1 : Int32))) n0 fun h => h = h0) := by
  refine own_enter own_pn1 (fun m => own_ef2 m a0r p0) ?_
  intro p e s m below meth c C
  have N := Fr.nil n0
  refine own_aloadN C (pc' := 1) (v := (.ref a0r)) d3_0 rfl rfl rfl ?_
  refine own_callU C (owner := "java/lang/Enum") (pc' := 4) (W := 0) (argsL := []) (rest := []) (st' := [(.int (7 : Int32))]) (cells' := 0) (slots' := 0) (own_w18 hw) (own_w19 hw) (own_w20 hw) (own_w22 hw) (own_w21 hw) (own_w23 hw) (own_w24 hw) (by decide) E_a0r (own_c37 l Z a0 hw A B h0 n0 O a0r F_a0r_ordinal) (by decide) (by decide) (lenOf own_pd2 rfl) rfl (Nat.le_of_eq rfl) rfl d3_1 rfl (by decide) (by decide) rfl rfl rfl N (own_pure fun locs N => ?_)
  refine own_tsw C (pc' := 130) (o := 126) d3_4 (by decide) rfl (by decide) (by decide) ?_
  refine own_iloadN C (pc' := 131) (v := p0) d3_130 rfl rfl ?_
  refine own_ifN C (pc' := 134) d3_131 (XT.i0_eq_f hq2) rfl ?_
  refine own_iconst C (pc' := 135) (v := (1 : Int32)) d3_134 rfl rfl ?_
  refine own_goto C (pc' := 139) d3_135 (by decide) (by decide) ?_
  exact own_ret C d3_139 rfl (Or.inl ⟨rfl, Or.inr (Or.inl rfl), _, rfl⟩) rfl N (rfl) (by decide) (by decide)
set_option maxRecDepth 65536 in
set_option maxHeartbeats 40000000 in
theorem own_c39 (l : Launch) (Z : State) (a0 : Array Value) (hw : ∀ d ∈ tables_1, d.before a0 Z = true) (A : Nat → Addr) (B : own_P Z A) (h0 : Heap) (n0 : Nat) (O : Old Z n0 h0) (a0r : Addr) (p0 : Int32) (E_a0r : Exa Z h0 a0r "com/example/floe/floe/Expression$Operator") (F_a0r_ordinal : Fld Z h0 a0r "java/lang/Enum" "ordinal" "I" (.int (7 : Int32))) (hq2 : p0 = (0 : Int32)) : own_Met l Z (⟨"com/example/floe/floe/Expression$Operator", "holds", "(I)Z"⟩ : MethodName) prog_15_method_6_code 2 (some FieldType.boolean) [] ({ frames := 1, cells := 0, slots := 0, locals := 12 } : Room) 0 0 #[(.ref a0r), (.int p0)] h0 (own_Q (some (.int (0 : Int32))) n0 fun h => h = h0) := by
  refine own_enter own_pn1 (fun m => own_ef2 m a0r p0) ?_
  intro p e s m below meth c C
  have N := Fr.nil n0
  refine own_aloadN C (pc' := 1) (v := (.ref a0r)) d3_0 rfl rfl rfl ?_
  refine own_callU C (owner := "java/lang/Enum") (pc' := 4) (W := 0) (argsL := []) (rest := []) (st' := [(.int (7 : Int32))]) (cells' := 0) (slots' := 0) (own_w18 hw) (own_w19 hw) (own_w20 hw) (own_w22 hw) (own_w21 hw) (own_w23 hw) (own_w24 hw) (by decide) E_a0r (own_c37 l Z a0 hw A B h0 n0 O a0r F_a0r_ordinal) (by decide) (by decide) (lenOf own_pd2 rfl) rfl (Nat.le_of_eq rfl) rfl d3_1 rfl (by decide) (by decide) rfl rfl rfl N (own_pure fun locs N => ?_)
  refine own_tsw C (pc' := 130) (o := 126) d3_4 (by decide) rfl (by decide) (by decide) ?_
  refine own_iloadN C (pc' := 131) (v := p0) d3_130 rfl rfl ?_
  refine own_ifY C (pc' := 138) d3_131 (XT.i0_eq_t hq2) (by decide) (by decide) ?_
  refine own_iconst C (pc' := 139) (v := (0 : Int32)) d3_138 rfl rfl ?_
  exact own_ret C d3_139 rfl (Or.inl ⟨rfl, Or.inr (Or.inl rfl), _, rfl⟩) rfl N (rfl) (by decide) (by decide)
set_option maxRecDepth 65536 in
set_option maxHeartbeats 40000000 in
theorem own_c40 (l : Launch) (Z : State) (a0 : Array Value) (hw : ∀ d ∈ tables_1, d.before a0 Z = true) (A : Nat → Addr) (B : own_P Z A) (h0 : Heap) (n0 : Nat) (O : Old Z n0 h0) (a0r : Addr) (E_a0r : Exa Z h0 a0r "com/example/floe/floe/Expression$Operator") (F_a0r_ordinal : Fld Z h0 a0r "java/lang/Enum" "ordinal" "I" (.int (7 : Int32))) : own_Met l Z (⟨"com/example/floe/floe/Expression$Operator", "negate", "()Lcom/example/floe/floe/Expression$Operator;"⟩ : MethodName) prog_15_method_4_code 1 (some (FieldType.object "com/example/floe/floe/Expression$Operator")) [] ({ frames := 1, cells := 0, slots := 0, locals := 12 } : Room) 0 0 #[(.ref a0r)] h0 (own_Q (some (.ref (A 4))) n0 fun h => h = h0) := by
  refine own_enter own_pn1 (fun m => own_ef1 m a0r) ?_
  intro p e s m below meth c C
  have N := Fr.nil n0
  refine own_aloadN C (pc' := 1) (v := (.ref a0r)) d5_0 rfl rfl rfl ?_
  refine own_callU C (owner := "java/lang/Enum") (pc' := 4) (W := 0) (argsL := []) (rest := []) (st' := [(.int (7 : Int32))]) (cells' := 0) (slots' := 0) (own_w18 hw) (own_w19 hw) (own_w20 hw) (own_w22 hw) (own_w21 hw) (own_w23 hw) (own_w24 hw) (by decide) E_a0r (own_c37 l Z a0 hw A B h0 n0 O a0r F_a0r_ordinal) (by decide) (by decide) (lenOf own_pd2 rfl) rfl (Nat.le_of_eq rfl) rfl d5_1 rfl (by decide) (by decide) rfl rfl rfl N (own_pure fun locs N => ?_)
  refine own_tsw C (pc' := 104) (o := 100) d5_4 (by decide) rfl (by decide) (by decide) ?_
  refine own_getS C (pc' := 107) (own_w43 hw) (Sta.ext O.2 (own_p12 B)) d5_104 rfl ?_
  exact own_ret C d5_107 rfl (Or.inr (Or.inr (Or.inr (Or.inr ⟨rfl, rfl, rfl⟩)))) rfl N (rfl) (by decide) (by decide)
set_option maxRecDepth 65536 in
set_option maxHeartbeats 400000000 in
theorem own_law (l : Launch) (Z : State) (a0 : Array Value) (hw : ∀ d ∈ tables_1, d.before a0 Z = true) (A : Nat → Addr) (B : own_P Z A) (h0 : Heap) (n0 : Nat) (O : Old Z n0 h0) (p0 : Int32) : own_Met l Z x code maxLocals ret tables_1 room_1 0 0 #[(.int p0)] h0 (own_Q (some (.int (1 : Int32))) n0 fun _ => True) := by
  refine own_enter (y := x) own_pn0 (fun m => own_ef3 m p0) ?_
  intro p e s m below meth c C
  have N := Fr.nil n0
  replace C : own_Cx p s m meth c Z "com/example/floe/floe/OperatorComparesWithLiteralPinLaw" code 8 (some FieldType.boolean) "law" := C
  refine own_iloadN C (pc' := 1) (v := p0) at_0 rfl rfl ?_
  refine own_bipush C (pc' := 3) (v := (7 : Int32)) at_1 rfl rfl ?_
  refine own_iand C (pc' := 4) (z := (p0 &&& (7 : Int32))) at_3 rfl rfl ?_
  rcases own_and7 p0 with es1 | es1 | es1 | es1 | es1 | es1 | es1 | es1
  · rw [es1]
    refine own_callS C (pc' := 7) (W := 0) (argsL := [(.int (0 : Int32))]) (rest := []) (st' := [(.ref (A 0))]) (cells' := 0) (slots' := 0) (own_w0 hw) (own_w1 hw) (own_w2 hw) (own_w3 hw) (by decide) (own_c0 l Z a0 hw A B h0 n0 O (0 : Int32) (by decide)) (by decide) (by decide) (lenOf own_pd0 rfl) rfl (Nat.le_of_eq rfl) rfl at_4 rfl (by decide) (by decide) rfl rfl rfl N (own_pure fun locs N => ?_)
    refine own_astoreN C (pc' := 8) (Ls' := #[.val (.int p0), .val (.ref (A 0)), .unset, .unset, .unset, .unset, .unset, .unset]) at_7 rfl rfl rfl ?_
    refine own_aloadN C (pc' := 9) (v := (.ref (A 0))) at_8 rfl rfl rfl ?_
    refine own_callV C (pc' := 12) (W := 0) (argsL := []) (rest := []) (st' := [(.int (0 : Int32))]) (cells' := 0) (slots' := 0) (own_w7 hw) (own_w8 hw) (own_w10 hw) (own_w9 hw) (own_w5 hw) (own_w11 hw) (by decide) (Exa.ext O.2 (own_p1 B)) (own_c1 l Z a0 hw A B h0 n0 O (A 0) rfl) (by decide) (by decide) (lenOf own_pd1 rfl) rfl (Nat.le_of_eq rfl) rfl at_9 rfl (by decide) (by decide) rfl rfl rfl N (own_pure fun locs N => ?_)
    refine own_istoreN C (pc' := 13) (Ls' := #[.val (.int p0), .val (.ref (A 0)), .val (.int (0 : Int32)), .unset, .unset, .unset, .unset, .unset]) at_12 rfl rfl ?_
    refine own_aloadN C (pc' := 14) (v := (.ref (A 0))) at_13 rfl rfl rfl ?_
    refine own_iconst C (pc' := 15) (v := (-1 : Int32)) at_14 rfl rfl ?_
    refine own_callV C (pc' := 18) (W := 0) (argsL := [(.int (-1 : Int32))]) (rest := []) (st' := [(.int (0 : Int32))]) (cells' := 0) (slots' := 0) (own_w13 hw) (own_w14 hw) (own_w16 hw) (own_w15 hw) (own_w5 hw) (own_w17 hw) (by decide) (Exa.ext O.2 (own_p1 B)) (own_c3 l Z a0 hw A B h0 n0 O (A 0) (-1 : Int32) (Exa.ext O.2 (own_p1 B)) (Fld.ext O.2 (own_p2 B))) (by decide) (by decide) (lenOf own_pd3 rfl) rfl (Nat.le_of_eq rfl) rfl at_15 rfl (by decide) (by decide) rfl rfl rfl N (own_pure fun locs N => ?_)
    refine own_istoreN C (pc' := 19) (Ls' := #[.val (.int p0), .val (.ref (A 0)), .val (.int (0 : Int32)), .val (.int (0 : Int32)), .unset, .unset, .unset, .unset]) at_18 rfl rfl ?_
    refine own_aloadN C (pc' := 20) (v := (.ref (A 0))) at_19 rfl rfl rfl ?_
    refine own_iconst C (pc' := 21) (v := (0 : Int32)) at_20 rfl rfl ?_
    refine own_callV C (pc' := 24) (W := 0) (argsL := [(.int (0 : Int32))]) (rest := []) (st' := [(.int (0 : Int32))]) (cells' := 0) (slots' := 0) (own_w13 hw) (own_w14 hw) (own_w16 hw) (own_w15 hw) (own_w5 hw) (own_w17 hw) (by decide) (Exa.ext O.2 (own_p1 B)) (own_c3 l Z a0 hw A B h0 n0 O (A 0) (0 : Int32) (Exa.ext O.2 (own_p1 B)) (Fld.ext O.2 (own_p2 B))) (by decide) (by decide) (lenOf own_pd3 rfl) rfl (Nat.le_of_eq rfl) rfl at_21 rfl (by decide) (by decide) rfl rfl rfl N (own_pure fun locs N => ?_)
    refine own_istore C (pc' := 26) (Ls' := #[.val (.int p0), .val (.ref (A 0)), .val (.int (0 : Int32)), .val (.int (0 : Int32)), .val (.int (0 : Int32)), .unset, .unset, .unset]) at_24 rfl rfl ?_
    refine own_aloadN C (pc' := 27) (v := (.ref (A 0))) at_26 rfl rfl rfl ?_
    refine own_iconst C (pc' := 28) (v := (1 : Int32)) at_27 rfl rfl ?_
    refine own_callV C (pc' := 31) (W := 0) (argsL := [(.int (1 : Int32))]) (rest := []) (st' := [(.int (0 : Int32))]) (cells' := 0) (slots' := 0) (own_w13 hw) (own_w14 hw) (own_w16 hw) (own_w15 hw) (own_w5 hw) (own_w17 hw) (by decide) (Exa.ext O.2 (own_p1 B)) (own_c3 l Z a0 hw A B h0 n0 O (A 0) (1 : Int32) (Exa.ext O.2 (own_p1 B)) (Fld.ext O.2 (own_p2 B))) (by decide) (by decide) (lenOf own_pd3 rfl) rfl (Nat.le_of_eq rfl) rfl at_28 rfl (by decide) (by decide) rfl rfl rfl N (own_pure fun locs N => ?_)
    refine own_istore C (pc' := 33) (Ls' := #[.val (.int p0), .val (.ref (A 0)), .val (.int (0 : Int32)), .val (.int (0 : Int32)), .val (.int (0 : Int32)), .val (.int (0 : Int32)), .unset, .unset]) at_31 rfl rfl ?_
    refine own_iloadN C (pc' := 34) (v := (0 : Int32)) at_33 rfl rfl ?_
    refine own_iload C (pc' := 36) (v := (0 : Int32)) at_34 rfl rfl ?_
    refine own_icmpN C (pc' := 39) at_36 (XT.ii_ne_f (by decide)) rfl ?_
    refine own_iload C (pc' := 41) (v := (0 : Int32)) at_39 rfl rfl ?_
    refine own_iload C (pc' := 43) (v := (0 : Int32)) at_41 rfl rfl ?_
    refine own_icmpY C (pc' := 50) at_43 (XT.ii_eq_t (by decide)) (by decide) (by decide) ?_
    refine own_iconst C (pc' := 51) (v := (0 : Int32)) at_50 rfl rfl ?_
    refine own_istore C (pc' := 53) (Ls' := #[.val (.int p0), .val (.ref (A 0)), .val (.int (0 : Int32)), .val (.int (0 : Int32)), .val (.int (0 : Int32)), .val (.int (0 : Int32)), .val (.int (0 : Int32)), .unset]) at_51 rfl rfl ?_
    refine own_aloadN C (pc' := 54) (v := (.ref (A 0))) at_53 rfl rfl rfl ?_
    refine own_callV C (pc' := 57) (W := 0) (argsL := []) (rest := []) (st' := [(.ref (A 1))]) (cells' := 0) (slots' := 0) (own_w27 hw) (own_w28 hw) (own_w30 hw) (own_w29 hw) (own_w5 hw) (own_w31 hw) (by decide) (Exa.ext O.2 (own_p1 B)) (own_c4 l Z a0 hw A B h0 n0 O (A 0) (Exa.ext O.2 (own_p1 B)) (Fld.ext O.2 (own_p2 B))) (by decide) (by decide) (lenOf own_pd4 rfl) rfl (Nat.le_of_eq rfl) rfl at_54 rfl (by decide) (by decide) rfl rfl rfl N (own_pure fun locs N => ?_)
    refine own_callV C (pc' := 60) (W := 0) (argsL := []) (rest := []) (st' := [(.int (0 : Int32))]) (cells' := 0) (slots' := 0) (own_w7 hw) (own_w8 hw) (own_w10 hw) (own_w9 hw) (own_w5 hw) (own_w11 hw) (by decide) (Exa.ext O.2 (own_p4 B)) (own_c5 l Z a0 hw A B h0 n0 O (A 1) (own_ne_1_0 B) rfl) (by decide) (by decide) (lenOf own_pd1 rfl) rfl (Nat.le_of_eq rfl) rfl at_57 rfl (by decide) (by decide) rfl rfl rfl N (own_pure fun locs N => ?_)
    refine own_istore C (pc' := 62) (Ls' := #[.val (.int p0), .val (.ref (A 0)), .val (.int (0 : Int32)), .val (.int (0 : Int32)), .val (.int (0 : Int32)), .val (.int (0 : Int32)), .val (.int (0 : Int32)), .val (.int (0 : Int32))]) at_60 rfl rfl ?_
    refine own_iloadN C (pc' := 63) (v := (0 : Int32)) at_62 rfl rfl ?_
    refine own_iload C (pc' := 65) (v := (0 : Int32)) at_63 rfl rfl ?_
    refine own_icmpN C (pc' := 68) at_65 (XT.ii_ne_f (by decide)) rfl ?_
    refine own_iload C (pc' := 70) (v := (0 : Int32)) at_68 rfl rfl ?_
    refine own_iloadN C (pc' := 71) (v := (0 : Int32)) at_70 rfl rfl ?_
    refine own_icmpN C (pc' := 74) at_71 (XT.ii_ne_f (by decide)) rfl ?_
    refine own_iconst C (pc' := 75) (v := (1 : Int32)) at_74 rfl rfl ?_
    refine own_goto C (pc' := 79) at_75 (by decide) (by decide) ?_
    exact own_ret C at_79 rfl (Or.inl ⟨rfl, Or.inr (Or.inl rfl), _, rfl⟩) rfl N (trivial) (by decide) (by decide)
  · rw [es1]
    refine own_callS C (pc' := 7) (W := 0) (argsL := [(.int (1 : Int32))]) (rest := []) (st' := [(.ref (A 1))]) (cells' := 0) (slots' := 0) (own_w0 hw) (own_w1 hw) (own_w2 hw) (own_w3 hw) (by decide) (own_c6 l Z a0 hw A B h0 n0 O (1 : Int32) (by decide) (by decide)) (by decide) (by decide) (lenOf own_pd0 rfl) rfl (Nat.le_of_eq rfl) rfl at_4 rfl (by decide) (by decide) rfl rfl rfl N (own_pure fun locs N => ?_)
    refine own_astoreN C (pc' := 8) (Ls' := #[.val (.int p0), .val (.ref (A 1)), .unset, .unset, .unset, .unset, .unset, .unset]) at_7 rfl rfl rfl ?_
    refine own_aloadN C (pc' := 9) (v := (.ref (A 1))) at_8 rfl rfl rfl ?_
    refine own_callV C (pc' := 12) (W := 0) (argsL := []) (rest := []) (st' := [(.int (0 : Int32))]) (cells' := 0) (slots' := 0) (own_w7 hw) (own_w8 hw) (own_w10 hw) (own_w9 hw) (own_w5 hw) (own_w11 hw) (by decide) (Exa.ext O.2 (own_p4 B)) (own_c5 l Z a0 hw A B h0 n0 O (A 1) (own_ne_1_0 B) rfl) (by decide) (by decide) (lenOf own_pd1 rfl) rfl (Nat.le_of_eq rfl) rfl at_9 rfl (by decide) (by decide) rfl rfl rfl N (own_pure fun locs N => ?_)
    refine own_istoreN C (pc' := 13) (Ls' := #[.val (.int p0), .val (.ref (A 1)), .val (.int (0 : Int32)), .unset, .unset, .unset, .unset, .unset]) at_12 rfl rfl ?_
    refine own_aloadN C (pc' := 14) (v := (.ref (A 1))) at_13 rfl rfl rfl ?_
    refine own_iconst C (pc' := 15) (v := (-1 : Int32)) at_14 rfl rfl ?_
    refine own_callV C (pc' := 18) (W := 0) (argsL := [(.int (-1 : Int32))]) (rest := []) (st' := [(.int (1 : Int32))]) (cells' := 0) (slots' := 0) (own_w13 hw) (own_w14 hw) (own_w16 hw) (own_w15 hw) (own_w5 hw) (own_w17 hw) (by decide) (Exa.ext O.2 (own_p4 B)) (own_c8 l Z a0 hw A B h0 n0 O (A 1) (-1 : Int32) (Exa.ext O.2 (own_p4 B)) (Fld.ext O.2 (own_p5 B))) (by decide) (by decide) (lenOf own_pd3 rfl) rfl (Nat.le_of_eq rfl) rfl at_15 rfl (by decide) (by decide) rfl rfl rfl N (own_pure fun locs N => ?_)
    refine own_istoreN C (pc' := 19) (Ls' := #[.val (.int p0), .val (.ref (A 1)), .val (.int (0 : Int32)), .val (.int (1 : Int32)), .unset, .unset, .unset, .unset]) at_18 rfl rfl ?_
    refine own_aloadN C (pc' := 20) (v := (.ref (A 1))) at_19 rfl rfl rfl ?_
    refine own_iconst C (pc' := 21) (v := (0 : Int32)) at_20 rfl rfl ?_
    refine own_callV C (pc' := 24) (W := 0) (argsL := [(.int (0 : Int32))]) (rest := []) (st' := [(.int (1 : Int32))]) (cells' := 0) (slots' := 0) (own_w13 hw) (own_w14 hw) (own_w16 hw) (own_w15 hw) (own_w5 hw) (own_w17 hw) (by decide) (Exa.ext O.2 (own_p4 B)) (own_c8 l Z a0 hw A B h0 n0 O (A 1) (0 : Int32) (Exa.ext O.2 (own_p4 B)) (Fld.ext O.2 (own_p5 B))) (by decide) (by decide) (lenOf own_pd3 rfl) rfl (Nat.le_of_eq rfl) rfl at_21 rfl (by decide) (by decide) rfl rfl rfl N (own_pure fun locs N => ?_)
    refine own_istore C (pc' := 26) (Ls' := #[.val (.int p0), .val (.ref (A 1)), .val (.int (0 : Int32)), .val (.int (1 : Int32)), .val (.int (1 : Int32)), .unset, .unset, .unset]) at_24 rfl rfl ?_
    refine own_aloadN C (pc' := 27) (v := (.ref (A 1))) at_26 rfl rfl rfl ?_
    refine own_iconst C (pc' := 28) (v := (1 : Int32)) at_27 rfl rfl ?_
    refine own_callV C (pc' := 31) (W := 0) (argsL := [(.int (1 : Int32))]) (rest := []) (st' := [(.int (1 : Int32))]) (cells' := 0) (slots' := 0) (own_w13 hw) (own_w14 hw) (own_w16 hw) (own_w15 hw) (own_w5 hw) (own_w17 hw) (by decide) (Exa.ext O.2 (own_p4 B)) (own_c8 l Z a0 hw A B h0 n0 O (A 1) (1 : Int32) (Exa.ext O.2 (own_p4 B)) (Fld.ext O.2 (own_p5 B))) (by decide) (by decide) (lenOf own_pd3 rfl) rfl (Nat.le_of_eq rfl) rfl at_28 rfl (by decide) (by decide) rfl rfl rfl N (own_pure fun locs N => ?_)
    refine own_istore C (pc' := 33) (Ls' := #[.val (.int p0), .val (.ref (A 1)), .val (.int (0 : Int32)), .val (.int (1 : Int32)), .val (.int (1 : Int32)), .val (.int (1 : Int32)), .unset, .unset]) at_31 rfl rfl ?_
    refine own_iloadN C (pc' := 34) (v := (1 : Int32)) at_33 rfl rfl ?_
    refine own_iload C (pc' := 36) (v := (1 : Int32)) at_34 rfl rfl ?_
    refine own_icmpN C (pc' := 39) at_36 (XT.ii_ne_f (by decide)) rfl ?_
    refine own_iload C (pc' := 41) (v := (1 : Int32)) at_39 rfl rfl ?_
    refine own_iload C (pc' := 43) (v := (1 : Int32)) at_41 rfl rfl ?_
    refine own_icmpY C (pc' := 50) at_43 (XT.ii_eq_t (by decide)) (by decide) (by decide) ?_
    refine own_iconst C (pc' := 51) (v := (0 : Int32)) at_50 rfl rfl ?_
    refine own_istore C (pc' := 53) (Ls' := #[.val (.int p0), .val (.ref (A 1)), .val (.int (0 : Int32)), .val (.int (1 : Int32)), .val (.int (1 : Int32)), .val (.int (1 : Int32)), .val (.int (0 : Int32)), .unset]) at_51 rfl rfl ?_
    refine own_aloadN C (pc' := 54) (v := (.ref (A 1))) at_53 rfl rfl rfl ?_
    refine own_callV C (pc' := 57) (W := 0) (argsL := []) (rest := []) (st' := [(.ref (A 0))]) (cells' := 0) (slots' := 0) (own_w27 hw) (own_w28 hw) (own_w30 hw) (own_w29 hw) (own_w5 hw) (own_w31 hw) (by decide) (Exa.ext O.2 (own_p4 B)) (own_c9 l Z a0 hw A B h0 n0 O (A 1) (Exa.ext O.2 (own_p4 B)) (Fld.ext O.2 (own_p5 B))) (by decide) (by decide) (lenOf own_pd4 rfl) rfl (Nat.le_of_eq rfl) rfl at_54 rfl (by decide) (by decide) rfl rfl rfl N (own_pure fun locs N => ?_)
    refine own_callV C (pc' := 60) (W := 0) (argsL := []) (rest := []) (st' := [(.int (0 : Int32))]) (cells' := 0) (slots' := 0) (own_w7 hw) (own_w8 hw) (own_w10 hw) (own_w9 hw) (own_w5 hw) (own_w11 hw) (by decide) (Exa.ext O.2 (own_p1 B)) (own_c1 l Z a0 hw A B h0 n0 O (A 0) rfl) (by decide) (by decide) (lenOf own_pd1 rfl) rfl (Nat.le_of_eq rfl) rfl at_57 rfl (by decide) (by decide) rfl rfl rfl N (own_pure fun locs N => ?_)
    refine own_istore C (pc' := 62) (Ls' := #[.val (.int p0), .val (.ref (A 1)), .val (.int (0 : Int32)), .val (.int (1 : Int32)), .val (.int (1 : Int32)), .val (.int (1 : Int32)), .val (.int (0 : Int32)), .val (.int (0 : Int32))]) at_60 rfl rfl ?_
    refine own_iloadN C (pc' := 63) (v := (0 : Int32)) at_62 rfl rfl ?_
    refine own_iload C (pc' := 65) (v := (0 : Int32)) at_63 rfl rfl ?_
    refine own_icmpN C (pc' := 68) at_65 (XT.ii_ne_f (by decide)) rfl ?_
    refine own_iload C (pc' := 70) (v := (0 : Int32)) at_68 rfl rfl ?_
    refine own_iloadN C (pc' := 71) (v := (0 : Int32)) at_70 rfl rfl ?_
    refine own_icmpN C (pc' := 74) at_71 (XT.ii_ne_f (by decide)) rfl ?_
    refine own_iconst C (pc' := 75) (v := (1 : Int32)) at_74 rfl rfl ?_
    refine own_goto C (pc' := 79) at_75 (by decide) (by decide) ?_
    exact own_ret C at_79 rfl (Or.inl ⟨rfl, Or.inr (Or.inl rfl), _, rfl⟩) rfl N (trivial) (by decide) (by decide)
  · rw [es1]
    refine own_callS C (pc' := 7) (W := 0) (argsL := [(.int (2 : Int32))]) (rest := []) (st' := [(.ref (A 6))]) (cells' := 0) (slots' := 0) (own_w0 hw) (own_w1 hw) (own_w2 hw) (own_w3 hw) (by decide) (own_c10 l Z a0 hw A B h0 n0 O (2 : Int32) (by decide) (by decide) (by decide)) (by decide) (by decide) (lenOf own_pd0 rfl) rfl (Nat.le_of_eq rfl) rfl at_4 rfl (by decide) (by decide) rfl rfl rfl N (own_pure fun locs N => ?_)
    refine own_astoreN C (pc' := 8) (Ls' := #[.val (.int p0), .val (.ref (A 6)), .unset, .unset, .unset, .unset, .unset, .unset]) at_7 rfl rfl rfl ?_
    refine own_aloadN C (pc' := 9) (v := (.ref (A 6))) at_8 rfl rfl rfl ?_
    refine own_callV C (pc' := 12) (W := 0) (argsL := []) (rest := []) (st' := [(.int (1 : Int32))]) (cells' := 0) (slots' := 0) (own_w7 hw) (own_w8 hw) (own_w10 hw) (own_w9 hw) (own_w5 hw) (own_w11 hw) (by decide) (Exa.ext O.2 (own_p19 B)) (own_c11 l Z a0 hw A B h0 n0 O (A 6) (own_ne_6_0 B) (own_ne_6_1 B)) (by decide) (by decide) (lenOf own_pd1 rfl) rfl (Nat.le_of_eq rfl) rfl at_9 rfl (by decide) (by decide) rfl rfl rfl N (own_pure fun locs N => ?_)
    refine own_istoreN C (pc' := 13) (Ls' := #[.val (.int p0), .val (.ref (A 6)), .val (.int (1 : Int32)), .unset, .unset, .unset, .unset, .unset]) at_12 rfl rfl ?_
    refine own_aloadN C (pc' := 14) (v := (.ref (A 6))) at_13 rfl rfl rfl ?_
    refine own_iconst C (pc' := 15) (v := (-1 : Int32)) at_14 rfl rfl ?_
    refine own_callV C (pc' := 18) (W := 0) (argsL := [(.int (-1 : Int32))]) (rest := []) (st' := [(.int (1 : Int32))]) (cells' := 0) (slots' := 0) (own_w13 hw) (own_w14 hw) (own_w16 hw) (own_w15 hw) (own_w5 hw) (own_w17 hw) (by decide) (Exa.ext O.2 (own_p19 B)) (own_c13 l Z a0 hw A B h0 n0 O (A 6) (-1 : Int32) (Exa.ext O.2 (own_p19 B)) (Fld.ext O.2 (own_p20 B)) (by decide)) (by decide) (by decide) (lenOf own_pd3 rfl) rfl (Nat.le_of_eq rfl) rfl at_15 rfl (by decide) (by decide) rfl rfl rfl N (own_pure fun locs N => ?_)
    refine own_istoreN C (pc' := 19) (Ls' := #[.val (.int p0), .val (.ref (A 6)), .val (.int (1 : Int32)), .val (.int (1 : Int32)), .unset, .unset, .unset, .unset]) at_18 rfl rfl ?_
    refine own_aloadN C (pc' := 20) (v := (.ref (A 6))) at_19 rfl rfl rfl ?_
    refine own_iconst C (pc' := 21) (v := (0 : Int32)) at_20 rfl rfl ?_
    refine own_callV C (pc' := 24) (W := 0) (argsL := [(.int (0 : Int32))]) (rest := []) (st' := [(.int (0 : Int32))]) (cells' := 0) (slots' := 0) (own_w13 hw) (own_w14 hw) (own_w16 hw) (own_w15 hw) (own_w5 hw) (own_w17 hw) (by decide) (Exa.ext O.2 (own_p19 B)) (own_c14 l Z a0 hw A B h0 n0 O (A 6) (0 : Int32) (Exa.ext O.2 (own_p19 B)) (Fld.ext O.2 (own_p20 B)) (by decide)) (by decide) (by decide) (lenOf own_pd3 rfl) rfl (Nat.le_of_eq rfl) rfl at_21 rfl (by decide) (by decide) rfl rfl rfl N (own_pure fun locs N => ?_)
    refine own_istore C (pc' := 26) (Ls' := #[.val (.int p0), .val (.ref (A 6)), .val (.int (1 : Int32)), .val (.int (1 : Int32)), .val (.int (0 : Int32)), .unset, .unset, .unset]) at_24 rfl rfl ?_
    refine own_aloadN C (pc' := 27) (v := (.ref (A 6))) at_26 rfl rfl rfl ?_
    refine own_iconst C (pc' := 28) (v := (1 : Int32)) at_27 rfl rfl ?_
    refine own_callV C (pc' := 31) (W := 0) (argsL := [(.int (1 : Int32))]) (rest := []) (st' := [(.int (0 : Int32))]) (cells' := 0) (slots' := 0) (own_w13 hw) (own_w14 hw) (own_w16 hw) (own_w15 hw) (own_w5 hw) (own_w17 hw) (by decide) (Exa.ext O.2 (own_p19 B)) (own_c14 l Z a0 hw A B h0 n0 O (A 6) (1 : Int32) (Exa.ext O.2 (own_p19 B)) (Fld.ext O.2 (own_p20 B)) (by decide)) (by decide) (by decide) (lenOf own_pd3 rfl) rfl (Nat.le_of_eq rfl) rfl at_28 rfl (by decide) (by decide) rfl rfl rfl N (own_pure fun locs N => ?_)
    refine own_istore C (pc' := 33) (Ls' := #[.val (.int p0), .val (.ref (A 6)), .val (.int (1 : Int32)), .val (.int (1 : Int32)), .val (.int (0 : Int32)), .val (.int (0 : Int32)), .unset, .unset]) at_31 rfl rfl ?_
    refine own_iloadN C (pc' := 34) (v := (1 : Int32)) at_33 rfl rfl ?_
    refine own_iload C (pc' := 36) (v := (0 : Int32)) at_34 rfl rfl ?_
    refine own_icmpY C (pc' := 46) at_36 (XT.ii_ne_t (by decide)) (by decide) (by decide) ?_
    refine own_iconst C (pc' := 47) (v := (1 : Int32)) at_46 rfl rfl ?_
    refine own_goto C (pc' := 51) at_47 (by decide) (by decide) ?_
    refine own_istore C (pc' := 53) (Ls' := #[.val (.int p0), .val (.ref (A 6)), .val (.int (1 : Int32)), .val (.int (1 : Int32)), .val (.int (0 : Int32)), .val (.int (0 : Int32)), .val (.int (1 : Int32)), .unset]) at_51 rfl rfl ?_
    refine own_aloadN C (pc' := 54) (v := (.ref (A 6))) at_53 rfl rfl rfl ?_
    refine own_callV C (pc' := 57) (W := 0) (argsL := []) (rest := []) (st' := [(.ref (A 7))]) (cells' := 0) (slots' := 0) (own_w27 hw) (own_w28 hw) (own_w30 hw) (own_w29 hw) (own_w5 hw) (own_w31 hw) (by decide) (Exa.ext O.2 (own_p19 B)) (own_c15 l Z a0 hw A B h0 n0 O (A 6) (Exa.ext O.2 (own_p19 B)) (Fld.ext O.2 (own_p20 B))) (by decide) (by decide) (lenOf own_pd4 rfl) rfl (Nat.le_of_eq rfl) rfl at_54 rfl (by decide) (by decide) rfl rfl rfl N (own_pure fun locs N => ?_)
    refine own_callV C (pc' := 60) (W := 0) (argsL := []) (rest := []) (st' := [(.int (1 : Int32))]) (cells' := 0) (slots' := 0) (own_w7 hw) (own_w8 hw) (own_w10 hw) (own_w9 hw) (own_w5 hw) (own_w11 hw) (by decide) (Exa.ext O.2 (own_p22 B)) (own_c11 l Z a0 hw A B h0 n0 O (A 7) (own_ne_7_0 B) (own_ne_7_1 B)) (by decide) (by decide) (lenOf own_pd1 rfl) rfl (Nat.le_of_eq rfl) rfl at_57 rfl (by decide) (by decide) rfl rfl rfl N (own_pure fun locs N => ?_)
    refine own_istore C (pc' := 62) (Ls' := #[.val (.int p0), .val (.ref (A 6)), .val (.int (1 : Int32)), .val (.int (1 : Int32)), .val (.int (0 : Int32)), .val (.int (0 : Int32)), .val (.int (1 : Int32)), .val (.int (1 : Int32))]) at_60 rfl rfl ?_
    refine own_iloadN C (pc' := 63) (v := (1 : Int32)) at_62 rfl rfl ?_
    refine own_iload C (pc' := 65) (v := (1 : Int32)) at_63 rfl rfl ?_
    refine own_icmpN C (pc' := 68) at_65 (XT.ii_ne_f (by decide)) rfl ?_
    refine own_iload C (pc' := 70) (v := (1 : Int32)) at_68 rfl rfl ?_
    refine own_iloadN C (pc' := 71) (v := (1 : Int32)) at_70 rfl rfl ?_
    refine own_icmpN C (pc' := 74) at_71 (XT.ii_ne_f (by decide)) rfl ?_
    refine own_iconst C (pc' := 75) (v := (1 : Int32)) at_74 rfl rfl ?_
    refine own_goto C (pc' := 79) at_75 (by decide) (by decide) ?_
    exact own_ret C at_79 rfl (Or.inl ⟨rfl, Or.inr (Or.inl rfl), _, rfl⟩) rfl N (trivial) (by decide) (by decide)
  · rw [es1]
    refine own_callS C (pc' := 7) (W := 0) (argsL := [(.int (3 : Int32))]) (rest := []) (st' := [(.ref (A 2))]) (cells' := 0) (slots' := 0) (own_w0 hw) (own_w1 hw) (own_w2 hw) (own_w3 hw) (by decide) (own_c16 l Z a0 hw A B h0 n0 O (3 : Int32) (by decide) (by decide) (by decide) (by decide)) (by decide) (by decide) (lenOf own_pd0 rfl) rfl (Nat.le_of_eq rfl) rfl at_4 rfl (by decide) (by decide) rfl rfl rfl N (own_pure fun locs N => ?_)
    refine own_astoreN C (pc' := 8) (Ls' := #[.val (.int p0), .val (.ref (A 2)), .unset, .unset, .unset, .unset, .unset, .unset]) at_7 rfl rfl rfl ?_
    refine own_aloadN C (pc' := 9) (v := (.ref (A 2))) at_8 rfl rfl rfl ?_
    refine own_callV C (pc' := 12) (W := 0) (argsL := []) (rest := []) (st' := [(.int (1 : Int32))]) (cells' := 0) (slots' := 0) (own_w7 hw) (own_w8 hw) (own_w10 hw) (own_w9 hw) (own_w5 hw) (own_w11 hw) (by decide) (Exa.ext O.2 (own_p7 B)) (own_c11 l Z a0 hw A B h0 n0 O (A 2) (own_ne_2_0 B) (own_ne_2_1 B)) (by decide) (by decide) (lenOf own_pd1 rfl) rfl (Nat.le_of_eq rfl) rfl at_9 rfl (by decide) (by decide) rfl rfl rfl N (own_pure fun locs N => ?_)
    refine own_istoreN C (pc' := 13) (Ls' := #[.val (.int p0), .val (.ref (A 2)), .val (.int (1 : Int32)), .unset, .unset, .unset, .unset, .unset]) at_12 rfl rfl ?_
    refine own_aloadN C (pc' := 14) (v := (.ref (A 2))) at_13 rfl rfl rfl ?_
    refine own_iconst C (pc' := 15) (v := (-1 : Int32)) at_14 rfl rfl ?_
    refine own_callV C (pc' := 18) (W := 0) (argsL := [(.int (-1 : Int32))]) (rest := []) (st' := [(.int (1 : Int32))]) (cells' := 0) (slots' := 0) (own_w13 hw) (own_w14 hw) (own_w16 hw) (own_w15 hw) (own_w5 hw) (own_w17 hw) (by decide) (Exa.ext O.2 (own_p7 B)) (own_c18 l Z a0 hw A B h0 n0 O (A 2) (-1 : Int32) (Exa.ext O.2 (own_p7 B)) (Fld.ext O.2 (own_p8 B)) (by decide)) (by decide) (by decide) (lenOf own_pd3 rfl) rfl (Nat.le_of_eq rfl) rfl at_15 rfl (by decide) (by decide) rfl rfl rfl N (own_pure fun locs N => ?_)
    refine own_istoreN C (pc' := 19) (Ls' := #[.val (.int p0), .val (.ref (A 2)), .val (.int (1 : Int32)), .val (.int (1 : Int32)), .unset, .unset, .unset, .unset]) at_18 rfl rfl ?_
    refine own_aloadN C (pc' := 20) (v := (.ref (A 2))) at_19 rfl rfl rfl ?_
    refine own_iconst C (pc' := 21) (v := (0 : Int32)) at_20 rfl rfl ?_
    refine own_callV C (pc' := 24) (W := 0) (argsL := [(.int (0 : Int32))]) (rest := []) (st' := [(.int (1 : Int32))]) (cells' := 0) (slots' := 0) (own_w13 hw) (own_w14 hw) (own_w16 hw) (own_w15 hw) (own_w5 hw) (own_w17 hw) (by decide) (Exa.ext O.2 (own_p7 B)) (own_c18 l Z a0 hw A B h0 n0 O (A 2) (0 : Int32) (Exa.ext O.2 (own_p7 B)) (Fld.ext O.2 (own_p8 B)) (by decide)) (by decide) (by decide) (lenOf own_pd3 rfl) rfl (Nat.le_of_eq rfl) rfl at_21 rfl (by decide) (by decide) rfl rfl rfl N (own_pure fun locs N => ?_)
    refine own_istore C (pc' := 26) (Ls' := #[.val (.int p0), .val (.ref (A 2)), .val (.int (1 : Int32)), .val (.int (1 : Int32)), .val (.int (1 : Int32)), .unset, .unset, .unset]) at_24 rfl rfl ?_
    refine own_aloadN C (pc' := 27) (v := (.ref (A 2))) at_26 rfl rfl rfl ?_
    refine own_iconst C (pc' := 28) (v := (1 : Int32)) at_27 rfl rfl ?_
    refine own_callV C (pc' := 31) (W := 0) (argsL := [(.int (1 : Int32))]) (rest := []) (st' := [(.int (0 : Int32))]) (cells' := 0) (slots' := 0) (own_w13 hw) (own_w14 hw) (own_w16 hw) (own_w15 hw) (own_w5 hw) (own_w17 hw) (by decide) (Exa.ext O.2 (own_p7 B)) (own_c19 l Z a0 hw A B h0 n0 O (A 2) (1 : Int32) (Exa.ext O.2 (own_p7 B)) (Fld.ext O.2 (own_p8 B)) (by decide)) (by decide) (by decide) (lenOf own_pd3 rfl) rfl (Nat.le_of_eq rfl) rfl at_28 rfl (by decide) (by decide) rfl rfl rfl N (own_pure fun locs N => ?_)
    refine own_istore C (pc' := 33) (Ls' := #[.val (.int p0), .val (.ref (A 2)), .val (.int (1 : Int32)), .val (.int (1 : Int32)), .val (.int (1 : Int32)), .val (.int (0 : Int32)), .unset, .unset]) at_31 rfl rfl ?_
    refine own_iloadN C (pc' := 34) (v := (1 : Int32)) at_33 rfl rfl ?_
    refine own_iload C (pc' := 36) (v := (1 : Int32)) at_34 rfl rfl ?_
    refine own_icmpN C (pc' := 39) at_36 (XT.ii_ne_f (by decide)) rfl ?_
    refine own_iload C (pc' := 41) (v := (1 : Int32)) at_39 rfl rfl ?_
    refine own_iload C (pc' := 43) (v := (0 : Int32)) at_41 rfl rfl ?_
    refine own_icmpN C (pc' := 46) at_43 (XT.ii_eq_f (by decide)) rfl ?_
    refine own_iconst C (pc' := 47) (v := (1 : Int32)) at_46 rfl rfl ?_
    refine own_goto C (pc' := 51) at_47 (by decide) (by decide) ?_
    refine own_istore C (pc' := 53) (Ls' := #[.val (.int p0), .val (.ref (A 2)), .val (.int (1 : Int32)), .val (.int (1 : Int32)), .val (.int (1 : Int32)), .val (.int (0 : Int32)), .val (.int (1 : Int32)), .unset]) at_51 rfl rfl ?_
    refine own_aloadN C (pc' := 54) (v := (.ref (A 2))) at_53 rfl rfl rfl ?_
    refine own_callV C (pc' := 57) (W := 0) (argsL := []) (rest := []) (st' := [(.ref (A 3))]) (cells' := 0) (slots' := 0) (own_w27 hw) (own_w28 hw) (own_w30 hw) (own_w29 hw) (own_w5 hw) (own_w31 hw) (by decide) (Exa.ext O.2 (own_p7 B)) (own_c20 l Z a0 hw A B h0 n0 O (A 2) (Exa.ext O.2 (own_p7 B)) (Fld.ext O.2 (own_p8 B))) (by decide) (by decide) (lenOf own_pd4 rfl) rfl (Nat.le_of_eq rfl) rfl at_54 rfl (by decide) (by decide) rfl rfl rfl N (own_pure fun locs N => ?_)
    refine own_callV C (pc' := 60) (W := 0) (argsL := []) (rest := []) (st' := [(.int (1 : Int32))]) (cells' := 0) (slots' := 0) (own_w7 hw) (own_w8 hw) (own_w10 hw) (own_w9 hw) (own_w5 hw) (own_w11 hw) (by decide) (Exa.ext O.2 (own_p10 B)) (own_c11 l Z a0 hw A B h0 n0 O (A 3) (own_ne_3_0 B) (own_ne_3_1 B)) (by decide) (by decide) (lenOf own_pd1 rfl) rfl (Nat.le_of_eq rfl) rfl at_57 rfl (by decide) (by decide) rfl rfl rfl N (own_pure fun locs N => ?_)
    refine own_istore C (pc' := 62) (Ls' := #[.val (.int p0), .val (.ref (A 2)), .val (.int (1 : Int32)), .val (.int (1 : Int32)), .val (.int (1 : Int32)), .val (.int (0 : Int32)), .val (.int (1 : Int32)), .val (.int (1 : Int32))]) at_60 rfl rfl ?_
    refine own_iloadN C (pc' := 63) (v := (1 : Int32)) at_62 rfl rfl ?_
    refine own_iload C (pc' := 65) (v := (1 : Int32)) at_63 rfl rfl ?_
    refine own_icmpN C (pc' := 68) at_65 (XT.ii_ne_f (by decide)) rfl ?_
    refine own_iload C (pc' := 70) (v := (1 : Int32)) at_68 rfl rfl ?_
    refine own_iloadN C (pc' := 71) (v := (1 : Int32)) at_70 rfl rfl ?_
    refine own_icmpN C (pc' := 74) at_71 (XT.ii_ne_f (by decide)) rfl ?_
    refine own_iconst C (pc' := 75) (v := (1 : Int32)) at_74 rfl rfl ?_
    refine own_goto C (pc' := 79) at_75 (by decide) (by decide) ?_
    exact own_ret C at_79 rfl (Or.inl ⟨rfl, Or.inr (Or.inl rfl), _, rfl⟩) rfl N (trivial) (by decide) (by decide)
  · rw [es1]
    refine own_callS C (pc' := 7) (W := 0) (argsL := [(.int (4 : Int32))]) (rest := []) (st' := [(.ref (A 3))]) (cells' := 0) (slots' := 0) (own_w0 hw) (own_w1 hw) (own_w2 hw) (own_w3 hw) (by decide) (own_c21 l Z a0 hw A B h0 n0 O (4 : Int32) (by decide) (by decide) (by decide) (by decide) (by decide)) (by decide) (by decide) (lenOf own_pd0 rfl) rfl (Nat.le_of_eq rfl) rfl at_4 rfl (by decide) (by decide) rfl rfl rfl N (own_pure fun locs N => ?_)
    refine own_astoreN C (pc' := 8) (Ls' := #[.val (.int p0), .val (.ref (A 3)), .unset, .unset, .unset, .unset, .unset, .unset]) at_7 rfl rfl rfl ?_
    refine own_aloadN C (pc' := 9) (v := (.ref (A 3))) at_8 rfl rfl rfl ?_
    refine own_callV C (pc' := 12) (W := 0) (argsL := []) (rest := []) (st' := [(.int (1 : Int32))]) (cells' := 0) (slots' := 0) (own_w7 hw) (own_w8 hw) (own_w10 hw) (own_w9 hw) (own_w5 hw) (own_w11 hw) (by decide) (Exa.ext O.2 (own_p10 B)) (own_c11 l Z a0 hw A B h0 n0 O (A 3) (own_ne_3_0 B) (own_ne_3_1 B)) (by decide) (by decide) (lenOf own_pd1 rfl) rfl (Nat.le_of_eq rfl) rfl at_9 rfl (by decide) (by decide) rfl rfl rfl N (own_pure fun locs N => ?_)
    refine own_istoreN C (pc' := 13) (Ls' := #[.val (.int p0), .val (.ref (A 3)), .val (.int (1 : Int32)), .unset, .unset, .unset, .unset, .unset]) at_12 rfl rfl ?_
    refine own_aloadN C (pc' := 14) (v := (.ref (A 3))) at_13 rfl rfl rfl ?_
    refine own_iconst C (pc' := 15) (v := (-1 : Int32)) at_14 rfl rfl ?_
    refine own_callV C (pc' := 18) (W := 0) (argsL := [(.int (-1 : Int32))]) (rest := []) (st' := [(.int (0 : Int32))]) (cells' := 0) (slots' := 0) (own_w13 hw) (own_w14 hw) (own_w16 hw) (own_w15 hw) (own_w5 hw) (own_w17 hw) (by decide) (Exa.ext O.2 (own_p10 B)) (own_c23 l Z a0 hw A B h0 n0 O (A 3) (-1 : Int32) (Exa.ext O.2 (own_p10 B)) (Fld.ext O.2 (own_p11 B)) (by decide)) (by decide) (by decide) (lenOf own_pd3 rfl) rfl (Nat.le_of_eq rfl) rfl at_15 rfl (by decide) (by decide) rfl rfl rfl N (own_pure fun locs N => ?_)
    refine own_istoreN C (pc' := 19) (Ls' := #[.val (.int p0), .val (.ref (A 3)), .val (.int (1 : Int32)), .val (.int (0 : Int32)), .unset, .unset, .unset, .unset]) at_18 rfl rfl ?_
    refine own_aloadN C (pc' := 20) (v := (.ref (A 3))) at_19 rfl rfl rfl ?_
    refine own_iconst C (pc' := 21) (v := (0 : Int32)) at_20 rfl rfl ?_
    refine own_callV C (pc' := 24) (W := 0) (argsL := [(.int (0 : Int32))]) (rest := []) (st' := [(.int (0 : Int32))]) (cells' := 0) (slots' := 0) (own_w13 hw) (own_w14 hw) (own_w16 hw) (own_w15 hw) (own_w5 hw) (own_w17 hw) (by decide) (Exa.ext O.2 (own_p10 B)) (own_c23 l Z a0 hw A B h0 n0 O (A 3) (0 : Int32) (Exa.ext O.2 (own_p10 B)) (Fld.ext O.2 (own_p11 B)) (by decide)) (by decide) (by decide) (lenOf own_pd3 rfl) rfl (Nat.le_of_eq rfl) rfl at_21 rfl (by decide) (by decide) rfl rfl rfl N (own_pure fun locs N => ?_)
    refine own_istore C (pc' := 26) (Ls' := #[.val (.int p0), .val (.ref (A 3)), .val (.int (1 : Int32)), .val (.int (0 : Int32)), .val (.int (0 : Int32)), .unset, .unset, .unset]) at_24 rfl rfl ?_
    refine own_aloadN C (pc' := 27) (v := (.ref (A 3))) at_26 rfl rfl rfl ?_
    refine own_iconst C (pc' := 28) (v := (1 : Int32)) at_27 rfl rfl ?_
    refine own_callV C (pc' := 31) (W := 0) (argsL := [(.int (1 : Int32))]) (rest := []) (st' := [(.int (1 : Int32))]) (cells' := 0) (slots' := 0) (own_w13 hw) (own_w14 hw) (own_w16 hw) (own_w15 hw) (own_w5 hw) (own_w17 hw) (by decide) (Exa.ext O.2 (own_p10 B)) (own_c24 l Z a0 hw A B h0 n0 O (A 3) (1 : Int32) (Exa.ext O.2 (own_p10 B)) (Fld.ext O.2 (own_p11 B)) (by decide)) (by decide) (by decide) (lenOf own_pd3 rfl) rfl (Nat.le_of_eq rfl) rfl at_28 rfl (by decide) (by decide) rfl rfl rfl N (own_pure fun locs N => ?_)
    refine own_istore C (pc' := 33) (Ls' := #[.val (.int p0), .val (.ref (A 3)), .val (.int (1 : Int32)), .val (.int (0 : Int32)), .val (.int (0 : Int32)), .val (.int (1 : Int32)), .unset, .unset]) at_31 rfl rfl ?_
    refine own_iloadN C (pc' := 34) (v := (0 : Int32)) at_33 rfl rfl ?_
    refine own_iload C (pc' := 36) (v := (0 : Int32)) at_34 rfl rfl ?_
    refine own_icmpN C (pc' := 39) at_36 (XT.ii_ne_f (by decide)) rfl ?_
    refine own_iload C (pc' := 41) (v := (0 : Int32)) at_39 rfl rfl ?_
    refine own_iload C (pc' := 43) (v := (1 : Int32)) at_41 rfl rfl ?_
    refine own_icmpN C (pc' := 46) at_43 (XT.ii_eq_f (by decide)) rfl ?_
    refine own_iconst C (pc' := 47) (v := (1 : Int32)) at_46 rfl rfl ?_
    refine own_goto C (pc' := 51) at_47 (by decide) (by decide) ?_
    refine own_istore C (pc' := 53) (Ls' := #[.val (.int p0), .val (.ref (A 3)), .val (.int (1 : Int32)), .val (.int (0 : Int32)), .val (.int (0 : Int32)), .val (.int (1 : Int32)), .val (.int (1 : Int32)), .unset]) at_51 rfl rfl ?_
    refine own_aloadN C (pc' := 54) (v := (.ref (A 3))) at_53 rfl rfl rfl ?_
    refine own_callV C (pc' := 57) (W := 0) (argsL := []) (rest := []) (st' := [(.ref (A 2))]) (cells' := 0) (slots' := 0) (own_w27 hw) (own_w28 hw) (own_w30 hw) (own_w29 hw) (own_w5 hw) (own_w31 hw) (by decide) (Exa.ext O.2 (own_p10 B)) (own_c25 l Z a0 hw A B h0 n0 O (A 3) (Exa.ext O.2 (own_p10 B)) (Fld.ext O.2 (own_p11 B))) (by decide) (by decide) (lenOf own_pd4 rfl) rfl (Nat.le_of_eq rfl) rfl at_54 rfl (by decide) (by decide) rfl rfl rfl N (own_pure fun locs N => ?_)
    refine own_callV C (pc' := 60) (W := 0) (argsL := []) (rest := []) (st' := [(.int (1 : Int32))]) (cells' := 0) (slots' := 0) (own_w7 hw) (own_w8 hw) (own_w10 hw) (own_w9 hw) (own_w5 hw) (own_w11 hw) (by decide) (Exa.ext O.2 (own_p7 B)) (own_c11 l Z a0 hw A B h0 n0 O (A 2) (own_ne_2_0 B) (own_ne_2_1 B)) (by decide) (by decide) (lenOf own_pd1 rfl) rfl (Nat.le_of_eq rfl) rfl at_57 rfl (by decide) (by decide) rfl rfl rfl N (own_pure fun locs N => ?_)
    refine own_istore C (pc' := 62) (Ls' := #[.val (.int p0), .val (.ref (A 3)), .val (.int (1 : Int32)), .val (.int (0 : Int32)), .val (.int (0 : Int32)), .val (.int (1 : Int32)), .val (.int (1 : Int32)), .val (.int (1 : Int32))]) at_60 rfl rfl ?_
    refine own_iloadN C (pc' := 63) (v := (1 : Int32)) at_62 rfl rfl ?_
    refine own_iload C (pc' := 65) (v := (1 : Int32)) at_63 rfl rfl ?_
    refine own_icmpN C (pc' := 68) at_65 (XT.ii_ne_f (by decide)) rfl ?_
    refine own_iload C (pc' := 70) (v := (1 : Int32)) at_68 rfl rfl ?_
    refine own_iloadN C (pc' := 71) (v := (1 : Int32)) at_70 rfl rfl ?_
    refine own_icmpN C (pc' := 74) at_71 (XT.ii_ne_f (by decide)) rfl ?_
    refine own_iconst C (pc' := 75) (v := (1 : Int32)) at_74 rfl rfl ?_
    refine own_goto C (pc' := 79) at_75 (by decide) (by decide) ?_
    exact own_ret C at_79 rfl (Or.inl ⟨rfl, Or.inr (Or.inl rfl), _, rfl⟩) rfl N (trivial) (by decide) (by decide)
  · rw [es1]
    refine own_callS C (pc' := 7) (W := 0) (argsL := [(.int (5 : Int32))]) (rest := []) (st' := [(.ref (A 7))]) (cells' := 0) (slots' := 0) (own_w0 hw) (own_w1 hw) (own_w2 hw) (own_w3 hw) (by decide) (own_c26 l Z a0 hw A B h0 n0 O (5 : Int32) (by decide) (by decide) (by decide) (by decide) (by decide) (by decide)) (by decide) (by decide) (lenOf own_pd0 rfl) rfl (Nat.le_of_eq rfl) rfl at_4 rfl (by decide) (by decide) rfl rfl rfl N (own_pure fun locs N => ?_)
    refine own_astoreN C (pc' := 8) (Ls' := #[.val (.int p0), .val (.ref (A 7)), .unset, .unset, .unset, .unset, .unset, .unset]) at_7 rfl rfl rfl ?_
    refine own_aloadN C (pc' := 9) (v := (.ref (A 7))) at_8 rfl rfl rfl ?_
    refine own_callV C (pc' := 12) (W := 0) (argsL := []) (rest := []) (st' := [(.int (1 : Int32))]) (cells' := 0) (slots' := 0) (own_w7 hw) (own_w8 hw) (own_w10 hw) (own_w9 hw) (own_w5 hw) (own_w11 hw) (by decide) (Exa.ext O.2 (own_p22 B)) (own_c11 l Z a0 hw A B h0 n0 O (A 7) (own_ne_7_0 B) (own_ne_7_1 B)) (by decide) (by decide) (lenOf own_pd1 rfl) rfl (Nat.le_of_eq rfl) rfl at_9 rfl (by decide) (by decide) rfl rfl rfl N (own_pure fun locs N => ?_)
    refine own_istoreN C (pc' := 13) (Ls' := #[.val (.int p0), .val (.ref (A 7)), .val (.int (1 : Int32)), .unset, .unset, .unset, .unset, .unset]) at_12 rfl rfl ?_
    refine own_aloadN C (pc' := 14) (v := (.ref (A 7))) at_13 rfl rfl rfl ?_
    refine own_iconst C (pc' := 15) (v := (-1 : Int32)) at_14 rfl rfl ?_
    refine own_callV C (pc' := 18) (W := 0) (argsL := [(.int (-1 : Int32))]) (rest := []) (st' := [(.int (0 : Int32))]) (cells' := 0) (slots' := 0) (own_w13 hw) (own_w14 hw) (own_w16 hw) (own_w15 hw) (own_w5 hw) (own_w17 hw) (by decide) (Exa.ext O.2 (own_p22 B)) (own_c28 l Z a0 hw A B h0 n0 O (A 7) (-1 : Int32) (Exa.ext O.2 (own_p22 B)) (Fld.ext O.2 (own_p23 B)) (by decide)) (by decide) (by decide) (lenOf own_pd3 rfl) rfl (Nat.le_of_eq rfl) rfl at_15 rfl (by decide) (by decide) rfl rfl rfl N (own_pure fun locs N => ?_)
    refine own_istoreN C (pc' := 19) (Ls' := #[.val (.int p0), .val (.ref (A 7)), .val (.int (1 : Int32)), .val (.int (0 : Int32)), .unset, .unset, .unset, .unset]) at_18 rfl rfl ?_
    refine own_aloadN C (pc' := 20) (v := (.ref (A 7))) at_19 rfl rfl rfl ?_
    refine own_iconst C (pc' := 21) (v := (0 : Int32)) at_20 rfl rfl ?_
    refine own_callV C (pc' := 24) (W := 0) (argsL := [(.int (0 : Int32))]) (rest := []) (st' := [(.int (1 : Int32))]) (cells' := 0) (slots' := 0) (own_w13 hw) (own_w14 hw) (own_w16 hw) (own_w15 hw) (own_w5 hw) (own_w17 hw) (by decide) (Exa.ext O.2 (own_p22 B)) (own_c29 l Z a0 hw A B h0 n0 O (A 7) (0 : Int32) (Exa.ext O.2 (own_p22 B)) (Fld.ext O.2 (own_p23 B)) (by decide)) (by decide) (by decide) (lenOf own_pd3 rfl) rfl (Nat.le_of_eq rfl) rfl at_21 rfl (by decide) (by decide) rfl rfl rfl N (own_pure fun locs N => ?_)
    refine own_istore C (pc' := 26) (Ls' := #[.val (.int p0), .val (.ref (A 7)), .val (.int (1 : Int32)), .val (.int (0 : Int32)), .val (.int (1 : Int32)), .unset, .unset, .unset]) at_24 rfl rfl ?_
    refine own_aloadN C (pc' := 27) (v := (.ref (A 7))) at_26 rfl rfl rfl ?_
    refine own_iconst C (pc' := 28) (v := (1 : Int32)) at_27 rfl rfl ?_
    refine own_callV C (pc' := 31) (W := 0) (argsL := [(.int (1 : Int32))]) (rest := []) (st' := [(.int (1 : Int32))]) (cells' := 0) (slots' := 0) (own_w13 hw) (own_w14 hw) (own_w16 hw) (own_w15 hw) (own_w5 hw) (own_w17 hw) (by decide) (Exa.ext O.2 (own_p22 B)) (own_c29 l Z a0 hw A B h0 n0 O (A 7) (1 : Int32) (Exa.ext O.2 (own_p22 B)) (Fld.ext O.2 (own_p23 B)) (by decide)) (by decide) (by decide) (lenOf own_pd3 rfl) rfl (Nat.le_of_eq rfl) rfl at_28 rfl (by decide) (by decide) rfl rfl rfl N (own_pure fun locs N => ?_)
    refine own_istore C (pc' := 33) (Ls' := #[.val (.int p0), .val (.ref (A 7)), .val (.int (1 : Int32)), .val (.int (0 : Int32)), .val (.int (1 : Int32)), .val (.int (1 : Int32)), .unset, .unset]) at_31 rfl rfl ?_
    refine own_iloadN C (pc' := 34) (v := (0 : Int32)) at_33 rfl rfl ?_
    refine own_iload C (pc' := 36) (v := (1 : Int32)) at_34 rfl rfl ?_
    refine own_icmpY C (pc' := 46) at_36 (XT.ii_ne_t (by decide)) (by decide) (by decide) ?_
    refine own_iconst C (pc' := 47) (v := (1 : Int32)) at_46 rfl rfl ?_
    refine own_goto C (pc' := 51) at_47 (by decide) (by decide) ?_
    refine own_istore C (pc' := 53) (Ls' := #[.val (.int p0), .val (.ref (A 7)), .val (.int (1 : Int32)), .val (.int (0 : Int32)), .val (.int (1 : Int32)), .val (.int (1 : Int32)), .val (.int (1 : Int32)), .unset]) at_51 rfl rfl ?_
    refine own_aloadN C (pc' := 54) (v := (.ref (A 7))) at_53 rfl rfl rfl ?_
    refine own_callV C (pc' := 57) (W := 0) (argsL := []) (rest := []) (st' := [(.ref (A 6))]) (cells' := 0) (slots' := 0) (own_w27 hw) (own_w28 hw) (own_w30 hw) (own_w29 hw) (own_w5 hw) (own_w31 hw) (by decide) (Exa.ext O.2 (own_p22 B)) (own_c30 l Z a0 hw A B h0 n0 O (A 7) (Exa.ext O.2 (own_p22 B)) (Fld.ext O.2 (own_p23 B))) (by decide) (by decide) (lenOf own_pd4 rfl) rfl (Nat.le_of_eq rfl) rfl at_54 rfl (by decide) (by decide) rfl rfl rfl N (own_pure fun locs N => ?_)
    refine own_callV C (pc' := 60) (W := 0) (argsL := []) (rest := []) (st' := [(.int (1 : Int32))]) (cells' := 0) (slots' := 0) (own_w7 hw) (own_w8 hw) (own_w10 hw) (own_w9 hw) (own_w5 hw) (own_w11 hw) (by decide) (Exa.ext O.2 (own_p19 B)) (own_c11 l Z a0 hw A B h0 n0 O (A 6) (own_ne_6_0 B) (own_ne_6_1 B)) (by decide) (by decide) (lenOf own_pd1 rfl) rfl (Nat.le_of_eq rfl) rfl at_57 rfl (by decide) (by decide) rfl rfl rfl N (own_pure fun locs N => ?_)
    refine own_istore C (pc' := 62) (Ls' := #[.val (.int p0), .val (.ref (A 7)), .val (.int (1 : Int32)), .val (.int (0 : Int32)), .val (.int (1 : Int32)), .val (.int (1 : Int32)), .val (.int (1 : Int32)), .val (.int (1 : Int32))]) at_60 rfl rfl ?_
    refine own_iloadN C (pc' := 63) (v := (1 : Int32)) at_62 rfl rfl ?_
    refine own_iload C (pc' := 65) (v := (1 : Int32)) at_63 rfl rfl ?_
    refine own_icmpN C (pc' := 68) at_65 (XT.ii_ne_f (by decide)) rfl ?_
    refine own_iload C (pc' := 70) (v := (1 : Int32)) at_68 rfl rfl ?_
    refine own_iloadN C (pc' := 71) (v := (1 : Int32)) at_70 rfl rfl ?_
    refine own_icmpN C (pc' := 74) at_71 (XT.ii_ne_f (by decide)) rfl ?_
    refine own_iconst C (pc' := 75) (v := (1 : Int32)) at_74 rfl rfl ?_
    refine own_goto C (pc' := 79) at_75 (by decide) (by decide) ?_
    exact own_ret C at_79 rfl (Or.inl ⟨rfl, Or.inr (Or.inl rfl), _, rfl⟩) rfl N (trivial) (by decide) (by decide)
  · rw [es1]
    refine own_callS C (pc' := 7) (W := 0) (argsL := [(.int (6 : Int32))]) (rest := []) (st' := [(.ref (A 4))]) (cells' := 0) (slots' := 0) (own_w0 hw) (own_w1 hw) (own_w2 hw) (own_w3 hw) (by decide) (own_c31 l Z a0 hw A B h0 n0 O (6 : Int32) (by decide) (by decide) (by decide) (by decide) (by decide) (by decide) (by decide)) (by decide) (by decide) (lenOf own_pd0 rfl) rfl (Nat.le_of_eq rfl) rfl at_4 rfl (by decide) (by decide) rfl rfl rfl N (own_pure fun locs N => ?_)
    refine own_astoreN C (pc' := 8) (Ls' := #[.val (.int p0), .val (.ref (A 4)), .unset, .unset, .unset, .unset, .unset, .unset]) at_7 rfl rfl rfl ?_
    refine own_aloadN C (pc' := 9) (v := (.ref (A 4))) at_8 rfl rfl rfl ?_
    refine own_callV C (pc' := 12) (W := 0) (argsL := []) (rest := []) (st' := [(.int (1 : Int32))]) (cells' := 0) (slots' := 0) (own_w7 hw) (own_w8 hw) (own_w10 hw) (own_w9 hw) (own_w5 hw) (own_w11 hw) (by decide) (Exa.ext O.2 (own_p13 B)) (own_c11 l Z a0 hw A B h0 n0 O (A 4) (own_ne_4_0 B) (own_ne_4_1 B)) (by decide) (by decide) (lenOf own_pd1 rfl) rfl (Nat.le_of_eq rfl) rfl at_9 rfl (by decide) (by decide) rfl rfl rfl N (own_pure fun locs N => ?_)
    refine own_istoreN C (pc' := 13) (Ls' := #[.val (.int p0), .val (.ref (A 4)), .val (.int (1 : Int32)), .unset, .unset, .unset, .unset, .unset]) at_12 rfl rfl ?_
    refine own_aloadN C (pc' := 14) (v := (.ref (A 4))) at_13 rfl rfl rfl ?_
    refine own_iconst C (pc' := 15) (v := (-1 : Int32)) at_14 rfl rfl ?_
    refine own_callV C (pc' := 18) (W := 0) (argsL := [(.int (-1 : Int32))]) (rest := []) (st' := [(.int (0 : Int32))]) (cells' := 0) (slots' := 0) (own_w13 hw) (own_w14 hw) (own_w16 hw) (own_w15 hw) (own_w5 hw) (own_w17 hw) (by decide) (Exa.ext O.2 (own_p13 B)) (own_c33 l Z a0 hw A B h0 n0 O (A 4) (-1 : Int32) (Exa.ext O.2 (own_p13 B)) (Fld.ext O.2 (own_p14 B)) (by decide)) (by decide) (by decide) (lenOf own_pd3 rfl) rfl (Nat.le_of_eq rfl) rfl at_15 rfl (by decide) (by decide) rfl rfl rfl N (own_pure fun locs N => ?_)
    refine own_istoreN C (pc' := 19) (Ls' := #[.val (.int p0), .val (.ref (A 4)), .val (.int (1 : Int32)), .val (.int (0 : Int32)), .unset, .unset, .unset, .unset]) at_18 rfl rfl ?_
    refine own_aloadN C (pc' := 20) (v := (.ref (A 4))) at_19 rfl rfl rfl ?_
    refine own_iconst C (pc' := 21) (v := (0 : Int32)) at_20 rfl rfl ?_
    refine own_callV C (pc' := 24) (W := 0) (argsL := [(.int (0 : Int32))]) (rest := []) (st' := [(.int (1 : Int32))]) (cells' := 0) (slots' := 0) (own_w13 hw) (own_w14 hw) (own_w16 hw) (own_w15 hw) (own_w5 hw) (own_w17 hw) (by decide) (Exa.ext O.2 (own_p13 B)) (own_c34 l Z a0 hw A B h0 n0 O (A 4) (0 : Int32) (Exa.ext O.2 (own_p13 B)) (Fld.ext O.2 (own_p14 B)) (by decide)) (by decide) (by decide) (lenOf own_pd3 rfl) rfl (Nat.le_of_eq rfl) rfl at_21 rfl (by decide) (by decide) rfl rfl rfl N (own_pure fun locs N => ?_)
    refine own_istore C (pc' := 26) (Ls' := #[.val (.int p0), .val (.ref (A 4)), .val (.int (1 : Int32)), .val (.int (0 : Int32)), .val (.int (1 : Int32)), .unset, .unset, .unset]) at_24 rfl rfl ?_
    refine own_aloadN C (pc' := 27) (v := (.ref (A 4))) at_26 rfl rfl rfl ?_
    refine own_iconst C (pc' := 28) (v := (1 : Int32)) at_27 rfl rfl ?_
    refine own_callV C (pc' := 31) (W := 0) (argsL := [(.int (1 : Int32))]) (rest := []) (st' := [(.int (0 : Int32))]) (cells' := 0) (slots' := 0) (own_w13 hw) (own_w14 hw) (own_w16 hw) (own_w15 hw) (own_w5 hw) (own_w17 hw) (by decide) (Exa.ext O.2 (own_p13 B)) (own_c33 l Z a0 hw A B h0 n0 O (A 4) (1 : Int32) (Exa.ext O.2 (own_p13 B)) (Fld.ext O.2 (own_p14 B)) (by decide)) (by decide) (by decide) (lenOf own_pd3 rfl) rfl (Nat.le_of_eq rfl) rfl at_28 rfl (by decide) (by decide) rfl rfl rfl N (own_pure fun locs N => ?_)
    refine own_istore C (pc' := 33) (Ls' := #[.val (.int p0), .val (.ref (A 4)), .val (.int (1 : Int32)), .val (.int (0 : Int32)), .val (.int (1 : Int32)), .val (.int (0 : Int32)), .unset, .unset]) at_31 rfl rfl ?_
    refine own_iloadN C (pc' := 34) (v := (0 : Int32)) at_33 rfl rfl ?_
    refine own_iload C (pc' := 36) (v := (1 : Int32)) at_34 rfl rfl ?_
    refine own_icmpY C (pc' := 46) at_36 (XT.ii_ne_t (by decide)) (by decide) (by decide) ?_
    refine own_iconst C (pc' := 47) (v := (1 : Int32)) at_46 rfl rfl ?_
    refine own_goto C (pc' := 51) at_47 (by decide) (by decide) ?_
    refine own_istore C (pc' := 53) (Ls' := #[.val (.int p0), .val (.ref (A 4)), .val (.int (1 : Int32)), .val (.int (0 : Int32)), .val (.int (1 : Int32)), .val (.int (0 : Int32)), .val (.int (1 : Int32)), .unset]) at_51 rfl rfl ?_
    refine own_aloadN C (pc' := 54) (v := (.ref (A 4))) at_53 rfl rfl rfl ?_
    refine own_callV C (pc' := 57) (W := 0) (argsL := []) (rest := []) (st' := [(.ref (A 5))]) (cells' := 0) (slots' := 0) (own_w27 hw) (own_w28 hw) (own_w30 hw) (own_w29 hw) (own_w5 hw) (own_w31 hw) (by decide) (Exa.ext O.2 (own_p13 B)) (own_c35 l Z a0 hw A B h0 n0 O (A 4) (Exa.ext O.2 (own_p13 B)) (Fld.ext O.2 (own_p14 B))) (by decide) (by decide) (lenOf own_pd4 rfl) rfl (Nat.le_of_eq rfl) rfl at_54 rfl (by decide) (by decide) rfl rfl rfl N (own_pure fun locs N => ?_)
    refine own_callV C (pc' := 60) (W := 0) (argsL := []) (rest := []) (st' := [(.int (1 : Int32))]) (cells' := 0) (slots' := 0) (own_w7 hw) (own_w8 hw) (own_w10 hw) (own_w9 hw) (own_w5 hw) (own_w11 hw) (by decide) (Exa.ext O.2 (own_p16 B)) (own_c11 l Z a0 hw A B h0 n0 O (A 5) (own_ne_5_0 B) (own_ne_5_1 B)) (by decide) (by decide) (lenOf own_pd1 rfl) rfl (Nat.le_of_eq rfl) rfl at_57 rfl (by decide) (by decide) rfl rfl rfl N (own_pure fun locs N => ?_)
    refine own_istore C (pc' := 62) (Ls' := #[.val (.int p0), .val (.ref (A 4)), .val (.int (1 : Int32)), .val (.int (0 : Int32)), .val (.int (1 : Int32)), .val (.int (0 : Int32)), .val (.int (1 : Int32)), .val (.int (1 : Int32))]) at_60 rfl rfl ?_
    refine own_iloadN C (pc' := 63) (v := (1 : Int32)) at_62 rfl rfl ?_
    refine own_iload C (pc' := 65) (v := (1 : Int32)) at_63 rfl rfl ?_
    refine own_icmpN C (pc' := 68) at_65 (XT.ii_ne_f (by decide)) rfl ?_
    refine own_iload C (pc' := 70) (v := (1 : Int32)) at_68 rfl rfl ?_
    refine own_iloadN C (pc' := 71) (v := (1 : Int32)) at_70 rfl rfl ?_
    refine own_icmpN C (pc' := 74) at_71 (XT.ii_ne_f (by decide)) rfl ?_
    refine own_iconst C (pc' := 75) (v := (1 : Int32)) at_74 rfl rfl ?_
    refine own_goto C (pc' := 79) at_75 (by decide) (by decide) ?_
    exact own_ret C at_79 rfl (Or.inl ⟨rfl, Or.inr (Or.inl rfl), _, rfl⟩) rfl N (trivial) (by decide) (by decide)
  · rw [es1]
    refine own_callS C (pc' := 7) (W := 0) (argsL := [(.int (7 : Int32))]) (rest := []) (st' := [(.ref (A 5))]) (cells' := 0) (slots' := 0) (own_w0 hw) (own_w1 hw) (own_w2 hw) (own_w3 hw) (by decide) (own_c36 l Z a0 hw A B h0 n0 O (7 : Int32) (by decide) (by decide) (by decide) (by decide) (by decide) (by decide) (by decide)) (by decide) (by decide) (lenOf own_pd0 rfl) rfl (Nat.le_of_eq rfl) rfl at_4 rfl (by decide) (by decide) rfl rfl rfl N (own_pure fun locs N => ?_)
    refine own_astoreN C (pc' := 8) (Ls' := #[.val (.int p0), .val (.ref (A 5)), .unset, .unset, .unset, .unset, .unset, .unset]) at_7 rfl rfl rfl ?_
    refine own_aloadN C (pc' := 9) (v := (.ref (A 5))) at_8 rfl rfl rfl ?_
    refine own_callV C (pc' := 12) (W := 0) (argsL := []) (rest := []) (st' := [(.int (1 : Int32))]) (cells' := 0) (slots' := 0) (own_w7 hw) (own_w8 hw) (own_w10 hw) (own_w9 hw) (own_w5 hw) (own_w11 hw) (by decide) (Exa.ext O.2 (own_p16 B)) (own_c11 l Z a0 hw A B h0 n0 O (A 5) (own_ne_5_0 B) (own_ne_5_1 B)) (by decide) (by decide) (lenOf own_pd1 rfl) rfl (Nat.le_of_eq rfl) rfl at_9 rfl (by decide) (by decide) rfl rfl rfl N (own_pure fun locs N => ?_)
    refine own_istoreN C (pc' := 13) (Ls' := #[.val (.int p0), .val (.ref (A 5)), .val (.int (1 : Int32)), .unset, .unset, .unset, .unset, .unset]) at_12 rfl rfl ?_
    refine own_aloadN C (pc' := 14) (v := (.ref (A 5))) at_13 rfl rfl rfl ?_
    refine own_iconst C (pc' := 15) (v := (-1 : Int32)) at_14 rfl rfl ?_
    refine own_callV C (pc' := 18) (W := 0) (argsL := [(.int (-1 : Int32))]) (rest := []) (st' := [(.int (1 : Int32))]) (cells' := 0) (slots' := 0) (own_w13 hw) (own_w14 hw) (own_w16 hw) (own_w15 hw) (own_w5 hw) (own_w17 hw) (by decide) (Exa.ext O.2 (own_p16 B)) (own_c38 l Z a0 hw A B h0 n0 O (A 5) (-1 : Int32) (Exa.ext O.2 (own_p16 B)) (Fld.ext O.2 (own_p17 B)) (by decide)) (by decide) (by decide) (lenOf own_pd3 rfl) rfl (Nat.le_of_eq rfl) rfl at_15 rfl (by decide) (by decide) rfl rfl rfl N (own_pure fun locs N => ?_)
    refine own_istoreN C (pc' := 19) (Ls' := #[.val (.int p0), .val (.ref (A 5)), .val (.int (1 : Int32)), .val (.int (1 : Int32)), .unset, .unset, .unset, .unset]) at_18 rfl rfl ?_
    refine own_aloadN C (pc' := 20) (v := (.ref (A 5))) at_19 rfl rfl rfl ?_
    refine own_iconst C (pc' := 21) (v := (0 : Int32)) at_20 rfl rfl ?_
    refine own_callV C (pc' := 24) (W := 0) (argsL := [(.int (0 : Int32))]) (rest := []) (st' := [(.int (0 : Int32))]) (cells' := 0) (slots' := 0) (own_w13 hw) (own_w14 hw) (own_w16 hw) (own_w15 hw) (own_w5 hw) (own_w17 hw) (by decide) (Exa.ext O.2 (own_p16 B)) (own_c39 l Z a0 hw A B h0 n0 O (A 5) (0 : Int32) (Exa.ext O.2 (own_p16 B)) (Fld.ext O.2 (own_p17 B)) (by decide)) (by decide) (by decide) (lenOf own_pd3 rfl) rfl (Nat.le_of_eq rfl) rfl at_21 rfl (by decide) (by decide) rfl rfl rfl N (own_pure fun locs N => ?_)
    refine own_istore C (pc' := 26) (Ls' := #[.val (.int p0), .val (.ref (A 5)), .val (.int (1 : Int32)), .val (.int (1 : Int32)), .val (.int (0 : Int32)), .unset, .unset, .unset]) at_24 rfl rfl ?_
    refine own_aloadN C (pc' := 27) (v := (.ref (A 5))) at_26 rfl rfl rfl ?_
    refine own_iconst C (pc' := 28) (v := (1 : Int32)) at_27 rfl rfl ?_
    refine own_callV C (pc' := 31) (W := 0) (argsL := [(.int (1 : Int32))]) (rest := []) (st' := [(.int (1 : Int32))]) (cells' := 0) (slots' := 0) (own_w13 hw) (own_w14 hw) (own_w16 hw) (own_w15 hw) (own_w5 hw) (own_w17 hw) (by decide) (Exa.ext O.2 (own_p16 B)) (own_c38 l Z a0 hw A B h0 n0 O (A 5) (1 : Int32) (Exa.ext O.2 (own_p16 B)) (Fld.ext O.2 (own_p17 B)) (by decide)) (by decide) (by decide) (lenOf own_pd3 rfl) rfl (Nat.le_of_eq rfl) rfl at_28 rfl (by decide) (by decide) rfl rfl rfl N (own_pure fun locs N => ?_)
    refine own_istore C (pc' := 33) (Ls' := #[.val (.int p0), .val (.ref (A 5)), .val (.int (1 : Int32)), .val (.int (1 : Int32)), .val (.int (0 : Int32)), .val (.int (1 : Int32)), .unset, .unset]) at_31 rfl rfl ?_
    refine own_iloadN C (pc' := 34) (v := (1 : Int32)) at_33 rfl rfl ?_
    refine own_iload C (pc' := 36) (v := (0 : Int32)) at_34 rfl rfl ?_
    refine own_icmpY C (pc' := 46) at_36 (XT.ii_ne_t (by decide)) (by decide) (by decide) ?_
    refine own_iconst C (pc' := 47) (v := (1 : Int32)) at_46 rfl rfl ?_
    refine own_goto C (pc' := 51) at_47 (by decide) (by decide) ?_
    refine own_istore C (pc' := 53) (Ls' := #[.val (.int p0), .val (.ref (A 5)), .val (.int (1 : Int32)), .val (.int (1 : Int32)), .val (.int (0 : Int32)), .val (.int (1 : Int32)), .val (.int (1 : Int32)), .unset]) at_51 rfl rfl ?_
    refine own_aloadN C (pc' := 54) (v := (.ref (A 5))) at_53 rfl rfl rfl ?_
    refine own_callV C (pc' := 57) (W := 0) (argsL := []) (rest := []) (st' := [(.ref (A 4))]) (cells' := 0) (slots' := 0) (own_w27 hw) (own_w28 hw) (own_w30 hw) (own_w29 hw) (own_w5 hw) (own_w31 hw) (by decide) (Exa.ext O.2 (own_p16 B)) (own_c40 l Z a0 hw A B h0 n0 O (A 5) (Exa.ext O.2 (own_p16 B)) (Fld.ext O.2 (own_p17 B))) (by decide) (by decide) (lenOf own_pd4 rfl) rfl (Nat.le_of_eq rfl) rfl at_54 rfl (by decide) (by decide) rfl rfl rfl N (own_pure fun locs N => ?_)
    refine own_callV C (pc' := 60) (W := 0) (argsL := []) (rest := []) (st' := [(.int (1 : Int32))]) (cells' := 0) (slots' := 0) (own_w7 hw) (own_w8 hw) (own_w10 hw) (own_w9 hw) (own_w5 hw) (own_w11 hw) (by decide) (Exa.ext O.2 (own_p13 B)) (own_c11 l Z a0 hw A B h0 n0 O (A 4) (own_ne_4_0 B) (own_ne_4_1 B)) (by decide) (by decide) (lenOf own_pd1 rfl) rfl (Nat.le_of_eq rfl) rfl at_57 rfl (by decide) (by decide) rfl rfl rfl N (own_pure fun locs N => ?_)
    refine own_istore C (pc' := 62) (Ls' := #[.val (.int p0), .val (.ref (A 5)), .val (.int (1 : Int32)), .val (.int (1 : Int32)), .val (.int (0 : Int32)), .val (.int (1 : Int32)), .val (.int (1 : Int32)), .val (.int (1 : Int32))]) at_60 rfl rfl ?_
    refine own_iloadN C (pc' := 63) (v := (1 : Int32)) at_62 rfl rfl ?_
    refine own_iload C (pc' := 65) (v := (1 : Int32)) at_63 rfl rfl ?_
    refine own_icmpN C (pc' := 68) at_65 (XT.ii_ne_f (by decide)) rfl ?_
    refine own_iload C (pc' := 70) (v := (1 : Int32)) at_68 rfl rfl ?_
    refine own_iloadN C (pc' := 71) (v := (1 : Int32)) at_70 rfl rfl ?_
    refine own_icmpN C (pc' := 74) at_71 (XT.ii_ne_f (by decide)) rfl ?_
    refine own_iconst C (pc' := 75) (v := (1 : Int32)) at_74 rfl rfl ?_
    refine own_goto C (pc' := 79) at_75 (by decide) (by decide) ?_
    exact own_ret C at_79 rfl (Or.inl ⟨rfl, Or.inr (Or.inl rfl), _, rfl⟩) rfl N (trivial) (by decide) (by decide)
set_option maxRecDepth 65536 in
set_option maxHeartbeats 40000000 in
theorem comes_1 {Post : Tables → Env → Array Value → State → Outcome → State → Prop} (hpost : ∀ tb e args s v u, (limb_1_1.after args s (.returned v) u = true ∧ limb_1_2.after args s (.returned v) u = true ∧ True) → FrameEnd s (.returned v) u (Jvm.fieldLocs frame_1_writes args s ++ Jvm.arrayLocs frame_1_arrays args s ++ Jvm.staticLocs frame_1_statics s) 0 0 → Post tb e args s (.returned v) u) :
    ArmFor flags0 classFile x code maxLocals ret World_1 tables_1 room_1 Calls_1 rest_1 Pre_1 Post := by
  intro l hfl _ _ p e ha hc hk s m args below hf hA hF happ hP
  obtain ⟨hcalls, hrest, hpre⟩ := hP
  obtain ⟨-, -, -, hnamed, -, -, -, hat⟩ := (Spec.applies_iff hf).mp happ
  obtain ⟨hg, hn⟩ := and_e (Cond.before_iff.mp (show (Jvm.Cond.and given_1 narrow_1).before args s = true from hpre))
  obtain ⟨h1, h2⟩ := and_e hg
  have hg0 := h2
  obtain ⟨w0, rfl⟩ : ∃ w0 : Value, args = #[w0] := by
    have hs : args.size = 1 := by simpa [Cond.value, given_1] using h1
    obtain ⟨L⟩ := args
    match L, hs with
    | [w0], _ => exact ⟨w0, rfl⟩
  have hw := fun d (hd : d ∈ tables_1) => atoms_spec (ws := Jvm.Cond.code x code maxLocals ret :: tables_1) hat d (List.mem_cons_of_mem _ hd)
  have hfit : Fit s := fun {y c} hc i hi => by
    obtain ⟨ha, rfl⟩ := Array.getElem?_eq_some_iff.mp hc
    have q := List.all_eq_true.mp ((Array.all_eq_true_iff_forall_mem.mp hF) _ (Array.getElem_mem ha)) i (List.mem_range.mpr hi)
    simpa [Array.getElem?_eq_getElem hi] using q
  obtain ⟨A, B⟩ := own_start hw hfit hn
  obtain ⟨i0, e0⟩ := is_v hg0
  obtain rfl : w0 = (.int i0) := Option.some.inj e0
  have M := own_law l s _ hw A B s.heap s.heap.size (Old.start s) i0
  obtain ⟨n, o, h1, h2, h3, _, L, rfl, ⟨rfl, N, -⟩, hq⟩ := M p e ha hc hk s m _ below hf ((Spec.applies_iff_loose hf).mp happ).1 ⟨rfl, State.Warmed39.refl s, rfl⟩ trivial
  refine ⟨n, _, h1, h2, h3, hpost _ _ _ _ _ _ ⟨Cond.after_iff.mpr rfl, Cond.after_iff.mpr (eq_i res_at (Term.int_eval (1)) rfl), trivial⟩ ⟨hq.1, hq.2.1, (hq.2.2.sift fun y hy => Or.inr (N y hy)).mono (by decide) (by decide)⟩⟩
theorem main_1_1 : Claimed_1_1 := comes_1 fun _ _ _ _ _ _ h hF => ⟨h.1, hF⟩
theorem main_1_2 : Claimed_1_2 := comes_1 fun _ _ _ _ _ _ h hF => ⟨h.2.1, hF⟩
end Jvm.Pilot.@@N@@
namespace Jvm.Pilot.@@N@@
open Jvm Jvm.ClassFile Sem Op Lib Jvm.Free Jvm.Stand Jvm.Pilot.@@N@@.Jvm.D
/-! MADE BY PROGRAM (witnessworld.py) out of the Statement's table words and the real class files: 12 classes; the members and pool entries that the words name. The judged class is class 1, her method 2. -/
namespace start1
open Jvm.ClassFile
def u (s : String) : CpInfo := .utf8 (stringToUtf16 s)
/-- a pool by its gaps: so many unusable entries, then the entry; so many at the end -/
def gap : Nat → List CpInfo → List CpInfo
  | 0, r => r
  | n + 1, r => .unusable :: gap n r
def poolList (es : List (Nat × CpInfo)) (last : Nat) : List CpInfo := es.foldr (fun e r => gap e.1 (e.2 :: r)) (gap last [])
def pool (es : List (Nat × CpInfo)) (last : Nat) : Array CpInfo := ⟨poolList es last⟩
def fileOf (pool : Array CpInfo) (this : Nat) (attrs : Array Attribute := #[]) (ms : Array MethodInfo := #[]) (fl : Nat := 33) (sup : Nat := 0) (ifs : Array Nat := #[]) (fds : Array FieldInfo := #[]) : ClassFile where
  minorVersion := 0
  majorVersion := 65
  constantPool := pool
  accessFlags := fl
  thisClass := this
  superClass := sup
  interfaces := ifs
  fields := fds
  methods := ms
  attributes := attrs
def plain (name : String) (sup : Option ClassId) : Class where
  name := name
  kind := .ordinary
  loader := none
  accessFlags := 33
  super := sup
  interfaces := #[]
  cf := none
  fields := #[]
  methods := #[]
  instanceTypes := #[]
  staticTypes := #[]
  resolved := #[]
  callSites := []
  init := .initialized
  statics := none
  mirror := none

def pool0 : Array CpInfo := pool [(5, u "<init>"), (0, u "()V"), (1, .class_ 10), (1, u "java/lang/Object")] 113

def k0m0 : Method := { name := "<init>", desc := "()V", sig := { parameters := [], returnType := none }, accessFlags := 1, code := none }
/-- java/lang/Object -/
def k0 : Class := { plain "java/lang/Object" none with
  accessFlags := 33
  interfaces := #[]
  cf := some (fileOf pool0 8 #[] #[{ accessFlags := 1, nameIndex := 5, descriptorIndex := 6, attributes := #[] }] 33 0 #[] #[])
  fields := #[]
  methods := #[k0m0]
  instanceTypes := #[]
  staticTypes := #[]
  resolved := Array.replicate 124 none
  statics := none }

def pool1 : Array CpInfo := pool [(2, .class_ 4), (1, u "java/lang/Object"), (0, u "<init>"), (0, u "()V"), (0, .fieldref 8 9), (0, .class_ 10), (0, .nameAndType 11 12), (0, u "com/example/floe/floe/Expression$Operator"), (0, u "IS_NULL"), (0, u "Lcom/example/floe/floe/Expression$Operator;"), (0, .fieldref 8 14), (0, .nameAndType 15 12), (0, u "NOT_NULL"), (0, .fieldref 8 17), (0, .nameAndType 18 12), (0, u "LESS_THAN"), (0, .fieldref 8 20), (0, .nameAndType 21 12), (0, u "LESS_THAN_OR_EQUAL"), (0, .fieldref 8 23), (0, .nameAndType 24 12), (0, u "GREATER_THAN"), (0, .fieldref 8 26), (0, .nameAndType 27 12), (0, u "GREATER_THAN_OR_EQUAL"), (0, .fieldref 8 29), (0, .nameAndType 30 12), (0, u "EQUAL"), (0, .fieldref 8 32), (0, .nameAndType 33 12), (0, u "NOT_EQUAL"), (0, .methodref 35 36), (0, .class_ 37), (0, .nameAndType 38 39), (0, u "com/example/floe/floe/OperatorComparesWithLiteralPinLaw"), (0, u "pick"), (0, u "(I)Lcom/example/floe/floe/Expression$Operator;"), (0, .methodref 8 41), (0, .nameAndType 42 43), (0, u "comparesWithLiteral"), (0, u "()Z"), (0, .methodref 8 45), (0, .nameAndType 46 47), (0, u "holds"), (0, u "(I)Z"), (0, .methodref 8 49), (0, .nameAndType 50 51), (0, u "negate"), (0, u "()Lcom/example/floe/floe/Expression$Operator;"), (3, u "law")] 6

def k1m0 : Method := { name := "<init>", desc := "()V", sig := { parameters := [], returnType := none }, accessFlags := 2, code := none }
def k1c1 : Code := { maxStack := 2, maxLocals := 1, code := method_2_code, exceptionTable := #[], attributes := #[] }
def k1m1 : Method := { name := "pick", desc := "(I)Lcom/example/floe/floe/Expression$Operator;", sig := { parameters := [.int], returnType := some (.object "com/example/floe/floe/Expression$Operator") }, accessFlags := 10, code := some k1c1 }
def k1c2 : Code := { maxStack := 2, maxLocals := 8, code := code, exceptionTable := #[], attributes := #[] }
def k1m2 : Method := { name := "law", desc := "(I)Z", sig := { parameters := [.int], returnType := some .boolean }, accessFlags := 9, code := some k1c2 }
/-- com/example/floe/floe/OperatorComparesWithLiteralPinLaw -/
def k1 : Class := { plain "com/example/floe/floe/OperatorComparesWithLiteralPinLaw" (some 0) with
  accessFlags := 49
  interfaces := #[]
  cf := some (fileOf pool1 35 #[] #[{ accessFlags := 2, nameIndex := 5, descriptorIndex := 6, attributes := #[] }, { accessFlags := 10, nameIndex := 38, descriptorIndex := 39, attributes := #[] }, { accessFlags := 9, nameIndex := 55, descriptorIndex := 47, attributes := #[] }] 49 2 #[] #[])
  fields := #[]
  methods := #[k1m0, k1m1, k1m2]
  instanceTypes := #[]
  staticTypes := #[]
  resolved := Array.replicate 62 none
  statics := none }

def pool2 : Array CpInfo := pool [(1, .class_ 2), (0, u "java/lang/constant/Constable"), (0, .class_ 4), (0, u "java/lang/Object")] 6

/-- java/lang/constant/Constable -/
def k2 : Class := { plain "java/lang/constant/Constable" (some 0) with
  accessFlags := 1537
  interfaces := #[]
  cf := some (fileOf pool2 1 #[] #[] 1537 3 #[] #[])
  fields := #[]
  methods := #[]
  instanceTypes := #[]
  staticTypes := #[]
  resolved := Array.replicate 11 none
  statics := none }

def pool3 : Array CpInfo := pool [(1, .class_ 2), (0, u "java/lang/Comparable"), (0, .class_ 4), (0, u "java/lang/Object")] 7

/-- java/lang/Comparable -/
def k3 : Class := { plain "java/lang/Comparable" (some 0) with
  accessFlags := 1537
  interfaces := #[]
  cf := some (fileOf pool3 1 #[] #[] 1537 3 #[] #[])
  fields := #[]
  methods := #[]
  instanceTypes := #[]
  staticTypes := #[]
  resolved := Array.replicate 12 none
  statics := none }

def pool4 : Array CpInfo := pool [(1, .class_ 2), (0, u "java/io/Serializable"), (0, .class_ 4), (0, u "java/lang/Object")] 2

/-- java/io/Serializable -/
def k4 : Class := { plain "java/io/Serializable" (some 0) with
  accessFlags := 1537
  interfaces := #[]
  cf := some (fileOf pool4 1 #[] #[] 1537 3 #[] #[])
  fields := #[]
  methods := #[]
  instanceTypes := #[]
  staticTypes := #[]
  resolved := Array.replicate 7 none
  statics := none }

def pool5 : Array CpInfo := pool [(2, .class_ 4), (1, u "java/lang/Enum"), (0, u "name"), (0, u "Ljava/lang/String;"), (0, .fieldref 2 8), (0, .nameAndType 9 10), (0, u "ordinal"), (0, u "I"), (1, .class_ 14), (1, u "java/lang/Object"), (4, u "hash"), (86, .class_ 108), (1, u "java/lang/Enum$EnumDesc"), (2, .class_ 112), (0, u "java/lang/constant/Constable"), (0, .class_ 114), (0, u "java/lang/Comparable"), (0, .class_ 116), (0, u "java/io/Serializable"), (9, u "()I")] 77

def k5c0 : Code := { maxStack := 1, maxLocals := 1, code := jdk_37_method_2_code, exceptionTable := #[], attributes := #[] }
def k5m0 : Method := { name := "ordinal", desc := "()I", sig := { parameters := [], returnType := some .int }, accessFlags := 17, code := some k5c0 }
/-- java/lang/Enum -/
def k5 : Class := { plain "java/lang/Enum" (some 0) with
  accessFlags := 1057
  interfaces := #[2, 3, 4]
  cf := some (fileOf pool5 2 #[.nestMembers #[106]] #[{ accessFlags := 17, nameIndex := 9, descriptorIndex := 126, attributes := #[] }] 1057 12 #[111, 113, 115] #[{ accessFlags := 18, nameIndex := 5, descriptorIndex := 6, attributes := #[] }, { accessFlags := 18, nameIndex := 9, descriptorIndex := 10, attributes := #[] }, { accessFlags := 2, nameIndex := 19, descriptorIndex := 10, attributes := #[] }])
  fields := #[{ name := "name", type := (.object "java/lang/String"), accessFlags := 18, slot := 0, constantValue := 0 }, { name := "ordinal", type := .int, accessFlags := 18, slot := 1, constantValue := 0 }, { name := "hash", type := .int, accessFlags := 2, slot := 2, constantValue := 0 }]
  methods := #[k5m0]
  instanceTypes := #[(.object "java/lang/String"), .int, .int]
  staticTypes := #[]
  resolved := Array.replicate 204 none
  statics := none }

def pool6 : Array CpInfo := pool [(1, .class_ 2), (0, u "com/example/floe/floe/Expression$Operator"), (0, .fieldref 1 4), (0, .nameAndType 5 6), (0, u "IS_NULL"), (0, u "Lcom/example/floe/floe/Expression$Operator;"), (0, .fieldref 1 8), (0, .nameAndType 9 6), (0, u "NOT_NULL"), (0, .fieldref 1 11), (0, .nameAndType 12 6), (0, u "LESS_THAN"), (0, .fieldref 1 14), (0, .nameAndType 15 6), (0, u "LESS_THAN_OR_EQUAL"), (0, .fieldref 1 17), (0, .nameAndType 18 6), (0, u "GREATER_THAN"), (0, .fieldref 1 20), (0, .nameAndType 21 6), (0, u "GREATER_THAN_OR_EQUAL"), (0, .fieldref 1 23), (0, .nameAndType 24 6), (0, u "EQUAL"), (0, .fieldref 1 26), (0, .nameAndType 27 6), (0, u "NOT_EQUAL"), (2, u "$VALUES"), (0, u "[Lcom/example/floe/floe/Expression$Operator;"), (6, .class_ 40), (1, u "java/lang/Enum"), (8, u "symbol"), (0, u "Ljava/lang/String;"), (0, .methodref 1 52), (0, .nameAndType 53 54), (0, u "ordinal"), (0, u "()I"), (11, u "comparesWithLiteral"), (0, u "()Z"), (42, u "negate"), (0, u "()Lcom/example/floe/floe/Expression$Operator;"), (1, u "holds"), (0, u "(I)Z"), (9, .class_ 125), (0, u "com/example/floe/floe/Expression")] 2

def k6c0 : Code := { maxStack := 4, maxLocals := 1, code := prog_15_method_4_code, exceptionTable := #[], attributes := #[] }
def k6m0 : Method := { name := "negate", desc := "()Lcom/example/floe/floe/Expression$Operator;", sig := { parameters := [], returnType := some (.object "com/example/floe/floe/Expression$Operator") }, accessFlags := 1, code := some k6c0 }
def k6c1 : Code := { maxStack := 2, maxLocals := 1, code := prog_15_method_5_code, exceptionTable := #[], attributes := #[] }
def k6m1 : Method := { name := "comparesWithLiteral", desc := "()Z", sig := { parameters := [], returnType := some .boolean }, accessFlags := 1, code := some k6c1 }
def k6c2 : Code := { maxStack := 4, maxLocals := 2, code := prog_15_method_6_code, exceptionTable := #[], attributes := #[] }
def k6m2 : Method := { name := "holds", desc := "(I)Z", sig := { parameters := [.int], returnType := some .boolean }, accessFlags := 1, code := some k6c2 }
/-- com/example/floe/floe/Expression$Operator -/
def k6 : Class := { plain "com/example/floe/floe/Expression$Operator" (some 5) with
  accessFlags := 16433
  interfaces := #[]
  cf := some (fileOf pool6 1 #[.nestHost 124] #[{ accessFlags := 1, nameIndex := 110, descriptorIndex := 111, attributes := #[] }, { accessFlags := 1, nameIndex := 66, descriptorIndex := 67, attributes := #[] }, { accessFlags := 1, nameIndex := 113, descriptorIndex := 114, attributes := #[] }] 16433 38 #[] #[{ accessFlags := 16409, nameIndex := 5, descriptorIndex := 6, attributes := #[] }, { accessFlags := 16409, nameIndex := 9, descriptorIndex := 6, attributes := #[] }, { accessFlags := 16409, nameIndex := 12, descriptorIndex := 6, attributes := #[] }, { accessFlags := 16409, nameIndex := 15, descriptorIndex := 6, attributes := #[] }, { accessFlags := 16409, nameIndex := 18, descriptorIndex := 6, attributes := #[] }, { accessFlags := 16409, nameIndex := 21, descriptorIndex := 6, attributes := #[] }, { accessFlags := 16409, nameIndex := 24, descriptorIndex := 6, attributes := #[] }, { accessFlags := 16409, nameIndex := 27, descriptorIndex := 6, attributes := #[] }, { accessFlags := 18, nameIndex := 49, descriptorIndex := 50, attributes := #[] }, { accessFlags := 4122, nameIndex := 30, descriptorIndex := 31, attributes := #[] }])
  fields := #[{ name := "IS_NULL", type := (.object "com/example/floe/floe/Expression$Operator"), accessFlags := 16409, slot := 0, constantValue := 0 }, { name := "NOT_NULL", type := (.object "com/example/floe/floe/Expression$Operator"), accessFlags := 16409, slot := 1, constantValue := 0 }, { name := "LESS_THAN", type := (.object "com/example/floe/floe/Expression$Operator"), accessFlags := 16409, slot := 2, constantValue := 0 }, { name := "LESS_THAN_OR_EQUAL", type := (.object "com/example/floe/floe/Expression$Operator"), accessFlags := 16409, slot := 3, constantValue := 0 }, { name := "GREATER_THAN", type := (.object "com/example/floe/floe/Expression$Operator"), accessFlags := 16409, slot := 4, constantValue := 0 }, { name := "GREATER_THAN_OR_EQUAL", type := (.object "com/example/floe/floe/Expression$Operator"), accessFlags := 16409, slot := 5, constantValue := 0 }, { name := "EQUAL", type := (.object "com/example/floe/floe/Expression$Operator"), accessFlags := 16409, slot := 6, constantValue := 0 }, { name := "NOT_EQUAL", type := (.object "com/example/floe/floe/Expression$Operator"), accessFlags := 16409, slot := 7, constantValue := 0 }, { name := "symbol", type := (.object "java/lang/String"), accessFlags := 18, slot := 3, constantValue := 0 }, { name := "$VALUES", type := (.array (.object "com/example/floe/floe/Expression$Operator")), accessFlags := 4122, slot := 8, constantValue := 0 }]
  methods := #[k6m0, k6m1, k6m2]
  instanceTypes := #[(.object "java/lang/String"), .int, .int, (.object "java/lang/String")]
  staticTypes := #[(.object "com/example/floe/floe/Expression$Operator"), (.object "com/example/floe/floe/Expression$Operator"), (.object "com/example/floe/floe/Expression$Operator"), (.object "com/example/floe/floe/Expression$Operator"), (.object "com/example/floe/floe/Expression$Operator"), (.object "com/example/floe/floe/Expression$Operator"), (.object "com/example/floe/floe/Expression$Operator"), (.object "com/example/floe/floe/Expression$Operator"), (.array (.object "com/example/floe/floe/Expression$Operator"))]
  resolved := Array.replicate 128 none
  statics := some 0 }

def pool7 : Array CpInfo := pool [(1, u "java/lang/Cloneable"), (0, .class_ 1), (0, u "java/lang/Object"), (0, .class_ 3)] 3

/-- java/lang/Cloneable -/
def k7 : Class := { plain "java/lang/Cloneable" (some 0) with
  accessFlags := 1537
  interfaces := #[]
  cf := some (fileOf pool7 2 #[] #[] 1537 4 #[] #[])
  fields := #[]
  methods := #[]
  instanceTypes := #[]
  staticTypes := #[]
  resolved := Array.replicate 8 none
  statics := none }

/-- the primitive byte -/
def k8 : Class := { plain "byte" none with kind := .primitive 'B', accessFlags := 0x411 }
/-- [B -/
def k9 : Class := { plain "[B" (some 0) with kind := .array 8 .byte, interfaces := #[7, 4], accessFlags := 1041 }

/-- the primitive int -/
def k10 : Class := { plain "int" none with kind := .primitive 'I', accessFlags := 0x411 }
/-- [I -/
def k11 : Class := { plain "[I" (some 0) with kind := .array 10 .int, interfaces := #[7, 4], accessFlags := 1041 }

def heap : Heap := #[{ cls := 6, slots := #[.ref 1, .ref 2, .ref 7, .ref 3, .ref 4, .ref 8, .ref 5, .ref 6, .null], vm := .statics 6 },
  { cls := 6, slots := #[.null, .int 0, .int 0, .null], vm := .none },
  { cls := 6, slots := #[.null, .int 1, .int 0, .null], vm := .none },
  { cls := 6, slots := #[.null, .int 3, .int 0, .null], vm := .none },
  { cls := 6, slots := #[.null, .int 4, .int 0, .null], vm := .none },
  { cls := 6, slots := #[.null, .int 6, .int 0, .null], vm := .none },
  { cls := 6, slots := #[.null, .int 7, .int 0, .null], vm := .none },
  { cls := 6, slots := #[.null, .int 2, .int 0, .null], vm := .none },
  { cls := 6, slots := #[.null, .int 5, .int 0, .null], vm := .none }]
def classes : Array Class := #[k0, k1, k2, k3, k4, k5, k6, k7, k8, k9, k10, k11]
def interned : List (Array UInt16 × Addr) := []
def slotsUsed : Nat := 41
def theMethod : MethodId := ⟨1, 2⟩
def args0 : Array Value := #[.int 5]
def aboutOver (below : List Frame) : State where
  vm := { classes := classes, interned := interned.toArray }
  heap := heap
  slotsUsed := slotsUsed
  threads := #[{ frames := .invoking theMethod args0 :: below }]
def below0 : List Frame := [.native { method := ⟨0, 0⟩, args := #[] }]
def about1 : State := aboutOver below0
def p0 : Program := .bare "" "" ""
def e0 : Env := launch0.env 0 0 0
theorem w_frames : about1.frames = Frame.invoking theMethod args0 :: below0 := rfl
set_option maxRecDepth 65536 in
theorem w_args : argsFit about1.vm theMethod args0 = true := by decide +kernel
set_option maxRecDepth 65536 in
theorem w_heap : heapFits about1 = true := by decide +kernel
set_option maxRecDepth 65536 in
theorem w_runnable : about1.curStatus? = some .runnable := by decide +kernel
set_option maxRecDepth 65536 in
theorem w_alone : about1.alone = true := by decide +kernel
set_option maxRecDepth 65536 in
theorem w_named : about1.methodNamed? x = some theMethod := by decide +kernel
set_option maxRecDepth 65536 in
theorem w_hears : about1.hears theMethod below0 = true := by decide +kernel
set_option maxRecDepth 65536 in
theorem w_ripe : about1.ripe theMethod args0 below0 = true := by decide +kernel
theorem w_running : about1.status = .running := rfl
set_option maxRecDepth 65536 in
theorem w_room : about1.hasRoom e0.platform room_1 = true :=
  launch0.hasRoom_least _ room_1 (by decide +kernel) (by decide +kernel) (by decide +kernel) (by decide +kernel) (by decide +kernel) (by decide +kernel)
theorem allAtoms_all (ts : List Jvm.Cond) (a : Array Jvm.Value) (st : Jvm.State) : (allAtoms ts).before a st = ts.all (fun c => c.before a st) := by
  induction ts with
  | nil => rfl
  | cons c t ih =>
    show (Jvm.Cond.and c (allAtoms t)).before a st = _
    rw [Jvm.Cond.before_and, ih, List.all_cons]
def words1 : List Jvm.Cond := Jvm.Cond.code x code maxLocals ret :: tables_1
/-- a 'code' word, met by the world's own term for the bytes: nothing is compared byte by byte -/
theorem code_word {y : MethodName} {bytes : ByteArray} {mx : Nat} {rt : Option FieldType} {a : Array Value} {s : State} {m : MethodId} {meth : Method} {c : Code} (h1 : s.methodNamed? y = some m) (h2 : s.vm.method? m = some meth) (h3 : meth.code = some c) (h4 : c.code = bytes)
    (h5 : (c.maxLocals == mx && c.exceptionTable.isEmpty && decide (c.maxStack ≤ mostOperands) && decide (meth.sig.returnType = rt) && !meth.locks && decide (parseMethodDescriptor y.desc = some meth.sig)) = true) : (Jvm.Cond.code y bytes mx rt).before a s = true := by
  simp only [Bool.and_eq_true, beq_iff_eq, Bool.not_eq_true', decide_eq_true_eq] at h5
  obtain ⟨⟨⟨⟨⟨g1, g2⟩, g3⟩, g4⟩, g5⟩, g6⟩ := h5
  simp [Cond.before, Cond.holds, Cond.value, h1, h2, h3, h4, g1, g2, g3, g4, g5, g6]
def isCode : Jvm.Cond → Bool
  | .code _ _ _ _ => true
  | _ => false
theorem all_split {L : List Jvm.Cond} {P : Jvm.Cond → Bool} (h1 : L.all (fun c => isCode c || P c) = true) (h2 : ∀ c ∈ L.filter isCode, P c = true) : L.all P = true := by
  refine List.all_eq_true.mpr fun c hc => ?_
  have h := List.all_eq_true.mp h1 c hc
  rcases Bool.eq_false_or_eq_true (isCode c) with hi | hi
  · exact h2 c (List.mem_filter.mpr ⟨hc, hi⟩)
  · simpa [hi] using h
set_option maxRecDepth 65536 in
theorem w_c0 : (Jvm.Cond.code x code maxLocals ret).before args0 about1 = true := code_word (m := ⟨1, 2⟩) (meth := k1m2) (c := k1c2) (by decide +kernel) rfl rfl rfl (by decide +kernel)
set_option maxRecDepth 65536 in
theorem w_c1 : (Jvm.Cond.code ({ cls := "com/example/floe/floe/OperatorComparesWithLiteralPinLaw", name := "pick", desc := "(I)Lcom/example/floe/floe/Expression$Operator;" } : Jvm.MethodName) method_2_code (1 : Nat) (Option.some (Jvm.ClassFile.FieldType.object "com/example/floe/floe/Expression$Operator"))).before args0 about1 = true := code_word (m := ⟨1, 1⟩) (meth := k1m1) (c := k1c1) (by decide +kernel) rfl rfl rfl (by decide +kernel)
set_option maxRecDepth 65536 in
theorem w_c2 : (Jvm.Cond.code ({ cls := "com/example/floe/floe/Expression$Operator", name := "comparesWithLiteral", desc := "()Z" } : Jvm.MethodName) prog_15_method_5_code (1 : Nat) (Option.some Jvm.ClassFile.FieldType.boolean)).before args0 about1 = true := code_word (m := ⟨6, 1⟩) (meth := k6m1) (c := k6c1) (by decide +kernel) rfl rfl rfl (by decide +kernel)
set_option maxRecDepth 65536 in
theorem w_c3 : (Jvm.Cond.code ({ cls := "com/example/floe/floe/Expression$Operator", name := "holds", desc := "(I)Z" } : Jvm.MethodName) prog_15_method_6_code (2 : Nat) (Option.some Jvm.ClassFile.FieldType.boolean)).before args0 about1 = true := code_word (m := ⟨6, 2⟩) (meth := k6m2) (c := k6c2) (by decide +kernel) rfl rfl rfl (by decide +kernel)
set_option maxRecDepth 65536 in
theorem w_c4 : (Jvm.Cond.code ({ cls := "java/lang/Enum", name := "ordinal", desc := "()I" } : Jvm.MethodName) jdk_37_method_2_code (1 : Nat) (Option.some Jvm.ClassFile.FieldType.int)).before args0 about1 = true := code_word (m := ⟨5, 0⟩) (meth := k5m0) (c := k5c0) (by decide +kernel) rfl rfl rfl (by decide +kernel)
set_option maxRecDepth 65536 in
theorem w_c5 : (Jvm.Cond.code ({ cls := "com/example/floe/floe/Expression$Operator", name := "negate", desc := "()Lcom/example/floe/floe/Expression$Operator;" } : Jvm.MethodName) prog_15_method_4_code (1 : Nat) (Option.some (Jvm.ClassFile.FieldType.object "com/example/floe/floe/Expression$Operator"))).before args0 about1 = true := code_word (m := ⟨6, 0⟩) (meth := k6m0) (c := k6c0) (by decide +kernel) rfl rfl rfl (by decide +kernel)
def codes1 : List Jvm.Cond := [Jvm.Cond.code x code maxLocals ret, Jvm.Cond.code ({ cls := "com/example/floe/floe/OperatorComparesWithLiteralPinLaw", name := "pick", desc := "(I)Lcom/example/floe/floe/Expression$Operator;" } : Jvm.MethodName) method_2_code (1 : Nat) (Option.some (Jvm.ClassFile.FieldType.object "com/example/floe/floe/Expression$Operator")), Jvm.Cond.code ({ cls := "com/example/floe/floe/Expression$Operator", name := "comparesWithLiteral", desc := "()Z" } : Jvm.MethodName) prog_15_method_5_code (1 : Nat) (Option.some Jvm.ClassFile.FieldType.boolean), Jvm.Cond.code ({ cls := "com/example/floe/floe/Expression$Operator", name := "holds", desc := "(I)Z" } : Jvm.MethodName) prog_15_method_6_code (2 : Nat) (Option.some Jvm.ClassFile.FieldType.boolean), Jvm.Cond.code ({ cls := "java/lang/Enum", name := "ordinal", desc := "()I" } : Jvm.MethodName) jdk_37_method_2_code (1 : Nat) (Option.some Jvm.ClassFile.FieldType.int), Jvm.Cond.code ({ cls := "com/example/floe/floe/Expression$Operator", name := "negate", desc := "()Lcom/example/floe/floe/Expression$Operator;" } : Jvm.MethodName) prog_15_method_4_code (1 : Nat) (Option.some (Jvm.ClassFile.FieldType.object "com/example/floe/floe/Expression$Operator"))]
set_option maxRecDepth 65536 in
theorem codes_eq : words1.filter isCode = codes1 := rfl
theorem w_codes : ∀ c ∈ words1.filter isCode, c.before args0 about1 = true := by
  rw [codes_eq]
  intro c hc
  simp only [codes1, List.mem_cons, List.not_mem_nil, or_false] at hc
  rcases hc with rfl | rfl | rfl | rfl | rfl | rfl
  · exact w_c0
  · exact w_c1
  · exact w_c2
  · exact w_c3
  · exact w_c4
  · exact w_c5
set_option maxRecDepth 65536 in
theorem w_t1 : (words1.take 24).all (fun c => isCode c || c.before args0 about1) = true := by decide +kernel
set_option maxRecDepth 65536 in
theorem w_t2 : ((words1.drop 24).take 24).all (fun c => isCode c || c.before args0 about1) = true := by decide +kernel
set_option maxRecDepth 65536 in
theorem w_t3 : ((words1.drop 24).drop 24).all (fun c => isCode c || c.before args0 about1) = true := by decide +kernel
theorem w_tables : (allAtoms (Jvm.Cond.code x code maxLocals ret :: tables_1)).before args0 about1 = true := by
  rw [allAtoms_all]
  show words1.all (fun c => c.before args0 about1) = true
  refine all_split ?_ w_codes
  rw [← List.take_append_drop 24 words1, List.all_append, w_t1, ← List.take_append_drop 24 (words1.drop 24), List.all_append, w_t2, w_t3]
  rfl
set_option maxRecDepth 65536 in
theorem w_case : (Jvm.Cond.and given_1 narrow_1).before args0 about1 = true := by decide +kernel
theorem w_applies : (headSpec (Jvm.Cond.code x code maxLocals ret :: tables_1) room_1).applies x e0.platform about1 = true :=
  (Spec.applies_iff w_frames).mpr ⟨w_running, w_runnable, w_alone, w_named, w_hears, w_ripe, w_room, w_tables⟩
theorem atStart : AtStart classFile x code maxLocals ret World_1 tables_1 room_1 Calls_1 rest_1 Pre_1 launch0 p0 e0 about1 theMethod args0 below0 :=
  ⟨lists_1, trivial, launch0.admits_env _ _ _, launch0.least_env, fairChoices_fair.cas, fairChoices_fair.clock, w_frames, w_args, w_heap, w_applies, trivial, trivial, w_case⟩
end start1
theorem witness_1 : WitnessClaimed_1 := ⟨start1.p0, start1.e0, start1.about1, start1.theMethod, start1.args0, start1.below0, start1.atStart⟩
end Jvm.Pilot.@@N@@
