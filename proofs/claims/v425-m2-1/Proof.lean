import JvmDerived
import JvmDerived.Pilot.@@N@@Statement
import JvmDerived.Pilot.@@N@@Code
set_option linter.unusedVariables false
set_option linter.unusedSimpArgs false
@@BLOCK:NumsL.lean.txt@@
namespace Jvm.Pilot.@@N@@
open Jvm Jvm.ClassFile Sem Op Lib Jvm.Free Jvm.Stand Jvm.LawKit Jvm.RoadKit Bundle Jvm.Pilot.@@N@@.Jvm.D
section Own
variable {p : Program} {l : Launch} {e : Env} {R : Room} {s : State} {m : MethodId} {args : Array Value} {below : List Frame} {meth : Method} {c : Code} {Z : State} {a0 : Array Value} {Q : Option Value → Heap → List Loc → Prop} {Fn : Outcome → State → Prop} {kk nn : Nat} {h h0 : Heap} {locs : List Loc} {cells slots cells' slots' n0 pc pc' : Nat} {Ls Ls' : Array Slot} {st st' rest : List Value} {own nm : String} {bytes : ByteArray} {mx : Nat} {rt : Option FieldType}
/-- the walk stands at pc with these locals and this stack over the heap h: from there the body comes to its end as Q says -/
def own_St (p : Program) (l : Launch) (e : Env) (R : Room) (s : State) (m : MethodId) (args : Array Value) (below : List Frame) (meth : Method) (c : Code) (Fn : Outcome → State → Prop) (h : Heap) (locs : List Loc) (cells slots : Nat) (pc : Nat) (Ls : Array Slot) (st : List Value) : Prop :=
  ∀ T, Stand p l e R s m args below meth c T locs cells slots → T.heap = h →
    ∃ s₂ o, Steps p.tables e below (T.setTop (mkF m pc Ls st)) s₂ ∧ s₂.status = .running ∧ Ended s₂ below o ∧ Fn o s₂
/-- the end of a body that interned nothing -/
def own_F (s : State) (Q : Option Value → Heap → List Loc → Prop) (kk nn : Nat) (o : Outcome) (s₂ : State) : Prop := ∃ v L, o = .returned v ∧ Q v s₂.heap L ∧ FrameEnd s o s₂ L kk nn
/-- what is fixed while a body is walked -/
def own_Cx (p : Program) (s : State) (m : MethodId) (meth : Method) (c : Code) (Z : State) (own : String) (bytes : ByteArray) (mx : Nat) (rt : Option FieldType) (nm : String) : Prop :=
  p.tables.exec = Jvm.exec ∧ c.code = bytes ∧ c.maxLocals = mx ∧ s.vm.findClass own = some m.cls ∧ meth.sig.returnType = rt ∧ meth.locks = false ∧ Z.Warmed39 s.vm ∧ meth.name = nm
/-- the contract of a body -/
def own_Met (l : Launch) (Z : State) (y : MethodName) (bytes : ByteArray) (mx : Nat) (rt : Option FieldType) (ws : List Jvm.Cond) (rm : Room) (kk nn : Nat) (as' : Array Value) (h : Heap) (Q : Option Value → Heap → List Loc → Prop) : Prop :=
  MetFree l y (head1 (Jvm.Cond.code y bytes mx rt :: ws) rm) (fun a U => a = as' ∧ Z.Warmed39 U.vm ∧ U.heap = h) (fun _ _ _ _ _ => True) (fun _ U o U' => ∃ v L, o = .returned v ∧ Q v U'.heap L ∧ FrameEnd U o U' L kk nn)
/-- what a body returns (w), that it wrote nothing old, what its heap says (D) -/
def own_Q (w : Option Value) (n0 : Nat) (D : Heap → Prop) : Option Value → Heap → List Loc → Prop := fun v h L => v = w ∧ Fr n0 L ∧ D h
theorem own_mv {h' : Heap} {locs' : List Loc} (G : own_St p l e R s m args below meth c Fn h' locs' cells' slots' pc' Ls' st')
    (step : ∀ T, Stand p l e R s m args below meth c T locs cells slots → T.heap = h → ∃ T', Stand p l e R s m args below meth c T' locs' cells' slots' ∧ T'.heap = h' ∧ ∀ t, Steps p.tables e below (T'.setTop (mkF m pc' Ls' st')) t → Steps p.tables e below (T.setTop (mkF m pc Ls st)) t) :
    own_St p l e R s m args below meth c Fn h locs cells slots pc Ls st := by
  intro T X eT
  obtain ⟨T', X', e', k⟩ := step T X eT
  obtain ⟨s₂, o, h1, r⟩ := G T' X' e'
  exact ⟨s₂, o, k _ h1, r⟩
theorem own_pl (G : own_St p l e R s m args below meth c Fn h locs cells slots pc' Ls' st')
    (step : ∀ T, At T m c below → ∀ t, Steps p.tables e below (T.setTop (mkF m pc' Ls' st')) t → Steps p.tables e below (T.setTop (mkF m pc Ls st)) t) :
    own_St p l e R s m args below meth c Fn h locs cells slots pc Ls st := own_mv G fun T X eT => ⟨T, X, eT, step T X.here⟩
theorem own_enter {y : MethodName} {ws : List Jvm.Cond} {rm : Room} {as' : Array Value} (hy : plainName y.cls = true) (hef : ∀ m, entryFrame m as' mx = mkF m 0 Ls [])
    (body : ∀ p e s m below meth c, own_Cx p s m meth c Z y.cls bytes mx rt y.name → own_St p l e rm s m as' below meth c (own_F s Q kk nn) h [] 0 0 0 Ls []) : own_Met l Z y bytes mx rt ws rm kk nn as' h Q := by
  refine MetFree.of_bodySF (plainFor_of_name hy) hisR ?_
  intro p e s m args below meth c s₁ Bd hml0 hP hK
  obtain ⟨rfl, hZ, hh⟩ := hP
  have X0 : Stand p l e rm s m args below meth c s₁ [] 0 0 := Stand.of_body Bd
  have e0 : s₁.heap = h := by rw [← hh, Bd.state]; rfl
  obtain ⟨s₂, o, h1, h2⟩ := body p e s m below meth c ⟨Bd.exec, Bd.bytes, hml0, findClass_of_methodNamed Bd.named, Bd.returns, BodyLoose.notSynchronized Bd, hZ, (name_of_methodNamed Bd.named Bd.method).1⟩ s₁ X0 e0
  exact ⟨s₂, o, castTop (hef m) h1, h2⟩
/-! single steps -/
theorem own_iloadN (C : own_Cx p s m meth c Z own bytes mx rt nm) {k : Fin 4} {v : Int32} (hd : decode bytes pc = .ok (.iload_n k, 1)) (hl : Ls[k.val]? = some (.val (.int v))) (hp : pc + 1 = pc') (G : own_St p l e R s m args below meth c Fn h locs cells slots pc' Ls (.int v :: st)) : own_St p l e R s m args below meth c Fn h locs cells slots pc Ls st := by
  subst hp; exact own_pl G fun T H t k => XS.iloadN H C.1 rfl (hb C.2.1 hd) hl k
theorem own_aloadN (C : own_Cx p s m meth c Z own bytes mx rt nm) {k : Fin 4} {v : Value} (hd : decode bytes pc = .ok (.aload_n k, 1)) (hl : Ls[k.val]? = some (.val v)) (hv : v.isRef = true) (hp : pc + 1 = pc') (G : own_St p l e R s m args below meth c Fn h locs cells slots pc' Ls (v :: st)) : own_St p l e R s m args below meth c Fn h locs cells slots pc Ls st := by
  subst hp; exact own_pl G fun T H t k => XS.aloadN H C.1 rfl (hb C.2.1 hd) hl hv k
theorem own_aload (C : own_Cx p s m meth c Z own bytes mx rt nm) {k : Nat} {v : Value} (hd : decode bytes pc = .ok (.aload k, 2)) (hl : Ls[k]? = some (.val v)) (hv : v.isRef = true) (hp : pc + 2 = pc') (G : own_St p l e R s m args below meth c Fn h locs cells slots pc' Ls (v :: st)) : own_St p l e R s m args below meth c Fn h locs cells slots pc Ls st := by
  subst hp; exact own_pl G fun T H t k => XS.aload H C.1 rfl (hb C.2.1 hd) hl hv k
theorem own_istoreN (C : own_Cx p s m meth c Z own bytes mx rt nm) {k : Fin 4} {x : Int32} (hd : decode bytes pc = .ok (.istore_n k, 1)) (hl : storeLocals Ls k.val (.int x) = some Ls') (hp : pc + 1 = pc') (G : own_St p l e R s m args below meth c Fn h locs cells slots pc' Ls' st) : own_St p l e R s m args below meth c Fn h locs cells slots pc Ls (.int x :: st) := by
  subst hp; exact own_pl G fun T H t k => XS.istoreN H C.1 rfl (hb C.2.1 hd) rfl hl k
theorem own_astoreN (C : own_Cx p s m meth c Z own bytes mx rt nm) {k : Fin 4} {x : Value} (hd : decode bytes pc = .ok (.astore_n k, 1)) (hv : x.isRef = true) (hl : storeLocals Ls k.val x = some Ls') (hp : pc + 1 = pc') (G : own_St p l e R s m args below meth c Fn h locs cells slots pc' Ls' st) : own_St p l e R s m args below meth c Fn h locs cells slots pc Ls (x :: st) := by
  subst hp; exact own_pl G fun T H t k => XS.astoreN H C.1 rfl (hb C.2.1 hd) rfl hv hl k
theorem own_astore (C : own_Cx p s m meth c Z own bytes mx rt nm) {k : Nat} {x : Value} (hd : decode bytes pc = .ok (.astore k, 2)) (hv : x.isRef = true) (hl : storeLocals Ls k x = some Ls') (hp : pc + 2 = pc') (G : own_St p l e R s m args below meth c Fn h locs cells slots pc' Ls' st) : own_St p l e R s m args below meth c Fn h locs cells slots pc Ls (x :: st) := by
  subst hp; exact own_pl G fun T H t k => XS.astore H C.1 rfl (hb C.2.1 hd) rfl hv hl k
theorem own_iconst (C : own_Cx p s m meth c Z own bytes mx rt nm) {i : Int} {v : Int32} (hd : decode bytes pc = .ok (.iconst i, 1)) (hv : Int32.ofInt i = v) (hp : pc + 1 = pc') (G : own_St p l e R s m args below meth c Fn h locs cells slots pc' Ls (.int v :: st)) : own_St p l e R s m args below meth c Fn h locs cells slots pc Ls st := by
  subst hp hv; exact own_pl G fun T H t k => XS.iconst H C.1 rfl (hb C.2.1 hd) k
theorem own_iand (C : own_Cx p s m meth c Z own bytes mx rt nm) {x y z : Int32} (hd : decode bytes pc = .ok (.iand, 1)) (hz : x &&& y = z) (hp : pc + 1 = pc') (G : own_St p l e R s m args below meth c Fn h locs cells slots pc' Ls (.int z :: st)) : own_St p l e R s m args below meth c Fn h locs cells slots pc Ls (.int y :: .int x :: st) := by
  subst hp hz; exact own_pl G fun T H t k => XS.iand H C.1 rfl (hb C.2.1 hd) rfl k
theorem own_goto (C : own_Cx p s m meth c Z own bytes mx rt nm) {o : Int} (hd : decode bytes pc = .ok (.goto o, 3)) (ho : 0 ≤ (pc : Int) + o) (hp : ((pc : Int) + o).toNat = pc') (G : own_St p l e R s m args below meth c Fn h locs cells slots pc' Ls st) : own_St p l e R s m args below meth c Fn h locs cells slots pc Ls st :=
  own_pl G fun T H t k => XS.goto H C.1 rfl rfl (hb C.2.1 hd) ho hp k
theorem own_ifY (C : own_Cx p s m meth c Z own bytes mx rt nm) {cd : ClassFile.Cond} {x : Int32} {o : Int} (hd : decode bytes pc = .ok (.ifCond cd o, 3)) (hc : ifCond.holds cd x = true) (ho : 0 ≤ (pc : Int) + o) (hp : ((pc : Int) + o).toNat = pc') (G : own_St p l e R s m args below meth c Fn h locs cells slots pc' Ls st) : own_St p l e R s m args below meth c Fn h locs cells slots pc Ls (.int x :: st) :=
  own_pl G fun T H t k => XS.ifYes H C.1 rfl rfl (hb C.2.1 hd) rfl hc ho hp k
theorem own_ifN (C : own_Cx p s m meth c Z own bytes mx rt nm) {cd : ClassFile.Cond} {x : Int32} {o : Int} (hd : decode bytes pc = .ok (.ifCond cd o, 3)) (hc : ifCond.holds cd x = false) (hp : pc + 3 = pc') (G : own_St p l e R s m args below meth c Fn h locs cells slots pc' Ls st) : own_St p l e R s m args below meth c Fn h locs cells slots pc Ls (.int x :: st) := by
  subst hp; exact own_pl G fun T H t k => XS.ifNo H C.1 rfl (hb C.2.1 hd) rfl hc k
theorem own_acmp (C : own_Cx p s m meth c Z own bytes mx rt nm) {cd : ACond} {x y : Value} {o : Int} {same : Bool} (hd : decode bytes pc = .ok (.if_acmp cd o, 3)) (h1 : x.isRef = true) (h2 : y.isRef = true) (hq : decide (x = y) = same) (ho : 0 ≤ (pc : Int) + o) (hp : pc' = if acV cd same = true then ((pc : Int) + o).toNat else pc + 3) (G : own_St p l e R s m args below meth c Fn h locs cells slots pc' Ls st) : own_St p l e R s m args below meth c Fn h locs cells slots pc Ls (y :: x :: st) :=
  own_mv G fun T X eT => ⟨T, X, eT, fun t k => Jvm.RoadKit.acmp X C.1 rfl h1 h2 rfl (hb C.2.1 hd) rfl hq ho hp k⟩
/-! steps that read the tables or the heap -/
theorem own_getS (C : own_Cx p s m meth c Z own bytes mx rt nm) {O n d : String} {index : Nat} {v : Value} (w : (Jvm.Cond.fieldLink own index O n d).before a0 Z = true) (F : Sta Z h O n d v) (hd : decode bytes pc = .ok (.getstatic index, 3)) (hp : pc + 3 = pc') (G : own_St p l e R s m args below meth c Fn h locs cells slots pc' Ls (v :: st)) : own_St p l e R s m args below meth c Fn h locs cells slots pc Ls st := by
  subst hp; exact own_mv G fun T X eT => getS (host := "") X C.1 C.2.2.2.2.2.2.1 C.2.2.2.1 w Via.refl eT F (g := mkF m pc Ls st) rfl (hb C.2.1 hd)
/-! calls -/
section Calls
variable {y z : MethodName} {index W maxL : Nat} {bytes' : ByteArray} {ret' : Option FieldType} {rm : Room} {argsL : List Value} {w : Option Value} {D : Heap → Prop}
theorem own_callV (C : own_Cx p s m meth c Z own bytes mx rt nm) {K : String} {b : Addr} (w1 : (Jvm.Cond.methodLink own index y).before a0 Z = true) (w2 : (Jvm.Cond.declares y).before a0 Z = true) (w3 : (Jvm.Cond.selects K y y).before a0 Z = true) (w4 : (Jvm.Cond.instanceMethod y).before a0 Z = true) (wz : (Jvm.Cond.initialized y.cls).before a0 Z = true) (wc : (Jvm.Cond.code y bytes' maxL ret').before a0 Z = true) (hy : y.cls ≠ "java/lang/invoke/MethodHandle" ∧ y.cls ≠ "java/lang/invoke/VarHandle") (E : Exa Z h b K)
    (M : own_Met l Z y bytes' maxL ret' [] rm rm.cells rm.slots (.ref b :: argsL).toArray h (own_Q w n0 D)) (hf : rm.frames + 1 ≤ R.frames) (hl : W + (maxL + 11) + rm.locals ≤ R.locals) (hlen : ∀ sig, parseMethodDescriptor y.desc = some sig → argsL.length = sig.parameters.length) (hst : st = argsL.reverse ++ .ref b :: rest) (hW : 2 * 0 + (rest.map fun v => v.category).sum ≤ W) (hsz : Ls.size = mx) (hd : decode bytes pc = .ok (.invokevirtual index, 3)) (hp : pc + 3 = pc')
    (hc : cells + rm.cells ≤ R.cells) (hs : slots + rm.slots ≤ R.slots) (hc' : cells + rm.cells = cells') (hs' : slots + rm.slots = slots') (hst' : w.toList ++ rest = st') (N : Fr n0 locs)
    (G : ∀ h' locs', D h' → Fr n0 locs' → own_St p l e R s m args below meth c Fn h' locs' cells' slots' pc' Ls st') : own_St p l e R s m args below meth c Fn h locs cells slots pc Ls st := by
  subst hp hc' hs' hst'
  intro T X eT
  obtain ⟨cq, kq, q1, q2, q3⟩ := isOf C.2.2.2.2.2.2.1 eT E
  obtain ⟨_, _, ⟨T', L', k', n'⟩, -, X', ⟨Lc, hQ, l', y', z'⟩, k⟩ := X.virtualBack C.1 C.2.2.2.1 (mvT C.2.2.2.2.2.2.1 w1) (mvT C.2.2.2.2.2.2.1 w2) (notFace_of_selects (args := #[]) (mvT C.2.2.2.2.2.2.1 w3)) (mvT C.2.2.2.2.2.2.1 w3) (mvT C.2.2.2.2.2.2.1 w4) hy (backOf (W := W) M C.2.2.2.2.2.2.1 wc wz hf hl) q1 q3 (g := mkF m pc Ls st) rfl (hsz.trans C.2.2.1.symm) (Steps.refl _) hlen hst hW (hb C.2.1 hd) (fun _ _ => ⟨rfl, eT, hc, hs⟩)
  dsimp only [Pt.U, Pt.locs, Pt.cells, Pt.slots] at X' l' y' z' k hQ
  subst l' y' z'
  obtain ⟨rfl, N', hD⟩ := hQ
  obtain ⟨s₂, o, h1, r⟩ := G _ _ hD (N.app N') T' X' rfl
  exact ⟨s₂, o, k.trans h1, r⟩
end Calls
/-! the ends -/
theorem own_ret {i : Instr} {v : Value} {t : FieldType} {w : Option Value} {D : Heap → Prop} (C : own_Cx p s m meth c Z own bytes mx (some t) nm) (hd : decode bytes pc = .ok (i, 1)) (hn : narrow t v = v)
    (hi : (i = .ireturn ∧ (t = .int ∨ t = .boolean ∨ t = .byte ∨ t = .char ∨ t = .short) ∧ ∃ z, v = .int z) ∨ (i = .lreturn ∧ t = .long ∧ ∃ z, v = .long z) ∨ (i = .dreturn ∧ t = .double ∧ ∃ z, v = .double z) ∨ (i = .freturn ∧ t = .float ∧ ∃ z, v = .float z) ∨ (i = .areturn ∧ t.isReference = true ∧ v.isRef = true))
    (hw : some v = w) (N : Fr n0 locs) (hD : D h) (hk : cells ≤ kk) (hs : slots ≤ nn) : own_St p l e R s m args below meth c (own_F s (own_Q w n0 D) kk nn) h locs cells slots pc Ls (v :: st) := by
  subst hw
  intro T X eT
  obtain ⟨fs, hr, hrun, hended, hW, hsame⟩ := X.leave (v := some v) (fun q => by rw [C.2.2.2.2.1] at q; cases q) C.2.2.2.2.2.1
  exact ⟨_, _, retOut X C.1 C.2.2.2.2.1 hn hi (hb C.2.1 hd) hr, hrun, hended, _, locs, rfl, ⟨rfl, N, by show D T.heap; rw [eT]; exact hD⟩, ⟨_, rfl⟩, hW, hsame.mono hk hs⟩
/-! small facts -/
theorem own_pure (G : ∀ locs', Fr n0 locs' → own_St p l e R s m args below meth c Fn h locs' cells slots pc Ls st) : ∀ h' locs', h' = h → Fr n0 locs' → own_St p l e R s m args below meth c Fn h' locs' cells slots pc Ls st := fun h' locs' q N => q ▸ G locs' N
theorem own_eqI {t : Term} {k : Int32} (q : (Jvm.Cond.eq t (.int k)).value a0 s none s [] = some true) : t.eval a0 s none [] s = some (.int k) := by
  simp only [Cond.value, Term.eval] at q
  cases ht : t.eval a0 s none [] s with
  | none => simp [ht] at q
  | some x => cases x <;> simp [ht] at q ⊢; exact q
end Own
theorem d1_0 : decode prog_29_method_4_code 0 = .ok (.aload_n 0, 1) := by decide +kernel
theorem d1_1 : decode prog_29_method_4_code 1 = .ok (.getstatic 3, 3) := by decide +kernel
theorem d1_4 : decode prog_29_method_4_code 4 = .ok (.if_acmp .ne 9, 3) := by decide +kernel
theorem d1_7 : decode prog_29_method_4_code 7 = .ok (.getstatic 7, 3) := by decide +kernel
theorem d1_10 : decode prog_29_method_4_code 10 = .ok (.goto 6, 3) := by decide +kernel
theorem d1_13 : decode prog_29_method_4_code 13 = .ok (.getstatic 3, 3) := by decide +kernel
theorem d1_16 : decode prog_29_method_4_code 16 = .ok (.areturn, 1) := by decide +kernel
theorem own_pd0 : parseMethodDescriptor "()Lcom/example/parketa/parketa/engine/Side;" = some ⟨[], some (.object "com/example/parketa/parketa/engine/Side")⟩ := by decide +kernel
theorem own_pn0 : plainName "com/example/parketa/parketa/engine/Side" = true := by first | (simp [plainName, overriddenIn]; done) | decide +kernel
theorem own_pn1 : plainName "com/example/parketa/parketa/engine/SideOppositePinLaw" = true := by first | (simp [plainName, overriddenIn]; done) | decide +kernel
theorem own_ef0 (m : MethodId) (x0 : Addr) : entryFrame m #[(.ref x0)] 1 = mkF m 0 #[.val (.ref x0)] [] := by first | (simp [entryFrame, mkF, argsToLocals, Value.category]; done) | rfl
theorem own_ef1 (m : MethodId) (x0 : Int32) : entryFrame m #[(.int x0)] 5 = mkF m 0 #[.val (.int x0), .unset, .unset, .unset, .unset] [] := by first | (simp [entryFrame, mkF, argsToLocals, Value.category]; done) | rfl
theorem own_w0 {Z : State} {a0 : Array Value} (hw : ∀ d ∈ tables_1, d.before a0 Z = true) : (Jvm.Cond.fieldLink "com/example/parketa/parketa/engine/SideOppositePinLaw" (13 : Nat) "com/example/parketa/parketa/engine/Side" "SELL" "Lcom/example/parketa/parketa/engine/Side;").before a0 Z = true := hw _ (List.mem_of_getElem? (i := 0) rfl)
theorem own_w1 {Z : State} {a0 : Array Value} (hw : ∀ d ∈ tables_1, d.before a0 Z = true) : (Jvm.Cond.initialized "com/example/parketa/parketa/engine/Side").before a0 Z = true := hw _ (List.mem_of_getElem? (i := 1) rfl)
theorem own_w2 {Z : State} {a0 : Array Value} (hw : ∀ d ∈ tables_1, d.before a0 Z = true) : (Jvm.Cond.laysStatic "com/example/parketa/parketa/engine/Side" "SELL" "Lcom/example/parketa/parketa/engine/Side;").before a0 Z = true := hw _ (List.mem_of_getElem? (i := 2) rfl)
theorem own_w3 {Z : State} {a0 : Array Value} (hw : ∀ d ∈ tables_1, d.before a0 Z = true) : (Jvm.Cond.fieldLink "com/example/parketa/parketa/engine/SideOppositePinLaw" (7 : Nat) "com/example/parketa/parketa/engine/Side" "BUY" "Lcom/example/parketa/parketa/engine/Side;").before a0 Z = true := hw _ (List.mem_of_getElem? (i := 3) rfl)
theorem own_w4 {Z : State} {a0 : Array Value} (hw : ∀ d ∈ tables_1, d.before a0 Z = true) : (Jvm.Cond.laysStatic "com/example/parketa/parketa/engine/Side" "BUY" "Lcom/example/parketa/parketa/engine/Side;").before a0 Z = true := hw _ (List.mem_of_getElem? (i := 4) rfl)
theorem own_w5 {Z : State} {a0 : Array Value} (hw : ∀ d ∈ tables_1, d.before a0 Z = true) : (Jvm.Cond.methodLink "com/example/parketa/parketa/engine/SideOppositePinLaw" (16 : Nat) ({ cls := "com/example/parketa/parketa/engine/Side", name := "opposite", desc := "()Lcom/example/parketa/parketa/engine/Side;" } : Jvm.MethodName)).before a0 Z = true := hw _ (List.mem_of_getElem? (i := 5) rfl)
theorem own_w6 {Z : State} {a0 : Array Value} (hw : ∀ d ∈ tables_1, d.before a0 Z = true) : (Jvm.Cond.declares ({ cls := "com/example/parketa/parketa/engine/Side", name := "opposite", desc := "()Lcom/example/parketa/parketa/engine/Side;" } : Jvm.MethodName)).before a0 Z = true := hw _ (List.mem_of_getElem? (i := 6) rfl)
theorem own_w7 {Z : State} {a0 : Array Value} (hw : ∀ d ∈ tables_1, d.before a0 Z = true) : (Jvm.Cond.instanceMethod ({ cls := "com/example/parketa/parketa/engine/Side", name := "opposite", desc := "()Lcom/example/parketa/parketa/engine/Side;" } : Jvm.MethodName)).before a0 Z = true := hw _ (List.mem_of_getElem? (i := 7) rfl)
theorem own_w8 {Z : State} {a0 : Array Value} (hw : ∀ d ∈ tables_1, d.before a0 Z = true) : (Jvm.Cond.selects "com/example/parketa/parketa/engine/Side" ({ cls := "com/example/parketa/parketa/engine/Side", name := "opposite", desc := "()Lcom/example/parketa/parketa/engine/Side;" } : Jvm.MethodName) ({ cls := "com/example/parketa/parketa/engine/Side", name := "opposite", desc := "()Lcom/example/parketa/parketa/engine/Side;" } : Jvm.MethodName)).before a0 Z = true := hw _ (List.mem_of_getElem? (i := 8) rfl)
theorem own_w9 {Z : State} {a0 : Array Value} (hw : ∀ d ∈ tables_1, d.before a0 Z = true) : (Jvm.Cond.code ({ cls := "com/example/parketa/parketa/engine/Side", name := "opposite", desc := "()Lcom/example/parketa/parketa/engine/Side;" } : Jvm.MethodName) prog_29_method_4_code (1 : Nat) (Option.some (Jvm.ClassFile.FieldType.object "com/example/parketa/parketa/engine/Side"))).before a0 Z = true := hw _ (List.mem_of_getElem? (i := 9) rfl)
theorem own_w10 {Z : State} {a0 : Array Value} (hw : ∀ d ∈ tables_1, d.before a0 Z = true) : (Jvm.Cond.fieldLink "com/example/parketa/parketa/engine/Side" (3 : Nat) "com/example/parketa/parketa/engine/Side" "BUY" "Lcom/example/parketa/parketa/engine/Side;").before a0 Z = true := hw _ (List.mem_of_getElem? (i := 10) rfl)
theorem own_w11 {Z : State} {a0 : Array Value} (hw : ∀ d ∈ tables_1, d.before a0 Z = true) : (Jvm.Cond.fieldLink "com/example/parketa/parketa/engine/Side" (7 : Nat) "com/example/parketa/parketa/engine/Side" "SELL" "Lcom/example/parketa/parketa/engine/Side;").before a0 Z = true := hw _ (List.mem_of_getElem? (i := 11) rfl)
/-- what the case says of the statics: A k is the object that the k-th of them holds -/
def own_P (Z : State) (A : Nat → Addr) : Prop :=
  (Sta Z Z.heap "com/example/parketa/parketa/engine/Side" "SELL" "Lcom/example/parketa/parketa/engine/Side;" (.ref (A 0))) ∧
  (Exa Z Z.heap (A 0) "com/example/parketa/parketa/engine/Side") ∧
  (Fld Z Z.heap (A 0) "java/lang/Enum" "ordinal" "I" (.int (1 : Int32))) ∧
  (Sta Z Z.heap "com/example/parketa/parketa/engine/Side" "BUY" "Lcom/example/parketa/parketa/engine/Side;" (.ref (A 1))) ∧
  (Exa Z Z.heap (A 1) "com/example/parketa/parketa/engine/Side") ∧
  (Fld Z Z.heap (A 1) "java/lang/Enum" "ordinal" "I" (.int (0 : Int32)))
theorem own_p0 {Z : State} {A : Nat → Addr} (B : own_P Z A) : Sta Z Z.heap "com/example/parketa/parketa/engine/Side" "SELL" "Lcom/example/parketa/parketa/engine/Side;" (.ref (A 0)) := B.1
theorem own_p1 {Z : State} {A : Nat → Addr} (B : own_P Z A) : Exa Z Z.heap (A 0) "com/example/parketa/parketa/engine/Side" := B.2.1
theorem own_p2 {Z : State} {A : Nat → Addr} (B : own_P Z A) : Fld Z Z.heap (A 0) "java/lang/Enum" "ordinal" "I" (.int (1 : Int32)) := B.2.2.1
theorem own_p3 {Z : State} {A : Nat → Addr} (B : own_P Z A) : Sta Z Z.heap "com/example/parketa/parketa/engine/Side" "BUY" "Lcom/example/parketa/parketa/engine/Side;" (.ref (A 1)) := B.2.2.2.1
theorem own_p4 {Z : State} {A : Nat → Addr} (B : own_P Z A) : Exa Z Z.heap (A 1) "com/example/parketa/parketa/engine/Side" := B.2.2.2.2.1
theorem own_p5 {Z : State} {A : Nat → Addr} (B : own_P Z A) : Fld Z Z.heap (A 1) "java/lang/Enum" "ordinal" "I" (.int (0 : Int32)) := B.2.2.2.2.2
theorem own_ne_0_1 {Z : State} {A : Nat → Addr} (B : own_P Z A) : ¬ ((Value.ref (A 0)) = .ref (A 1)) := fun q => Fld.ne (own_p2 B) (own_p5 B) (fun r => absurd (Value.int.inj r) (by decide)) (Value.ref.inj q)
set_option maxRecDepth 65536 in
theorem own_start {s : State} {a0 : Array Value} (hw : ∀ d ∈ tables_1, d.before a0 s = true) (hF : Fit s) (hn : narrow_1.value a0 s none s [] = some true) : ∃ A, own_P s A := by
  obtain ⟨n1, n2⟩ := and_e hn
  obtain ⟨n3, n4⟩ := and_e n2
  obtain ⟨n5, n6⟩ := and_e n4
  obtain ⟨a0, e0⟩ := exa_v n1
  obtain ⟨a1, e1⟩ := exa_v n3
  exact ⟨fun i => [a0, a1].getD i 0, Sta.start e0 (Or.inr ⟨(own_w1 hw), (own_w2 hw)⟩),
    Exa.start e0 n1,
    Fld.start ((fld_at e0).symm.trans (own_eqI n5)),
    Sta.start e1 (Or.inr ⟨(own_w1 hw), (own_w4 hw)⟩),
    Exa.start e1 n3,
    Fld.start ((fld_at e1).symm.trans (own_eqI n6))⟩
set_option maxRecDepth 65536 in
set_option maxHeartbeats 40000000 in
theorem own_c0 (l : Launch) (Z : State) (a0 : Array Value) (hw : ∀ d ∈ tables_1, d.before a0 Z = true) (A : Nat → Addr) (B : own_P Z A) (h0 : Heap) (n0 : Nat) (O : Old Z n0 h0) (a0r : Addr) (hq0 : ¬ (((.ref a0r) : Value) = (.ref (A 1)))) : own_Met l Z (⟨"com/example/parketa/parketa/engine/Side", "opposite", "()Lcom/example/parketa/parketa/engine/Side;"⟩ : MethodName) prog_29_method_4_code 1 (some (FieldType.object "com/example/parketa/parketa/engine/Side")) [] ({ frames := 0, cells := 0, slots := 0, locals := 0 } : Room) 0 0 #[(.ref a0r)] h0 (own_Q (some (.ref (A 1))) n0 fun h => h = h0) := by
  refine own_enter own_pn0 (fun m => own_ef0 m a0r) ?_
  intro p e s m below meth c C
  have N := Fr.nil n0
  refine own_aloadN C (pc' := 1) (v := (.ref a0r)) d1_0 rfl rfl rfl ?_
  refine own_getS C (pc' := 4) (own_w10 hw) (Sta.ext O.2 (own_p3 B)) d1_1 rfl ?_
  refine own_acmp C (pc' := 13) (same := false) d1_4 rfl rfl (decide_eq_false hq0) (by decide) (by decide) ?_
  refine own_getS C (pc' := 16) (own_w10 hw) (Sta.ext O.2 (own_p3 B)) d1_13 rfl ?_
  exact own_ret C d1_16 rfl (Or.inr (Or.inr (Or.inr (Or.inr ⟨rfl, rfl, rfl⟩)))) rfl N (rfl) (by decide) (by decide)
set_option maxRecDepth 65536 in
set_option maxHeartbeats 40000000 in
theorem own_c1 (l : Launch) (Z : State) (a0 : Array Value) (hw : ∀ d ∈ tables_1, d.before a0 Z = true) (A : Nat → Addr) (B : own_P Z A) (h0 : Heap) (n0 : Nat) (O : Old Z n0 h0) (a0r : Addr) (hq0 : ((.ref a0r) : Value) = (.ref (A 1))) : own_Met l Z (⟨"com/example/parketa/parketa/engine/Side", "opposite", "()Lcom/example/parketa/parketa/engine/Side;"⟩ : MethodName) prog_29_method_4_code 1 (some (FieldType.object "com/example/parketa/parketa/engine/Side")) [] ({ frames := 0, cells := 0, slots := 0, locals := 0 } : Room) 0 0 #[(.ref a0r)] h0 (own_Q (some (.ref (A 0))) n0 fun h => h = h0) := by
  refine own_enter own_pn0 (fun m => own_ef0 m a0r) ?_
  intro p e s m below meth c C
  have N := Fr.nil n0
  refine own_aloadN C (pc' := 1) (v := (.ref a0r)) d1_0 rfl rfl rfl ?_
  refine own_getS C (pc' := 4) (own_w10 hw) (Sta.ext O.2 (own_p3 B)) d1_1 rfl ?_
  refine own_acmp C (pc' := 7) (same := true) d1_4 rfl rfl (decide_eq_true hq0) (by decide) (by decide) ?_
  refine own_getS C (pc' := 10) (own_w11 hw) (Sta.ext O.2 (own_p0 B)) d1_7 rfl ?_
  refine own_goto C (pc' := 16) d1_10 (by decide) (by decide) ?_
  exact own_ret C d1_16 rfl (Or.inr (Or.inr (Or.inr (Or.inr ⟨rfl, rfl, rfl⟩)))) rfl N (rfl) (by decide) (by decide)
set_option maxRecDepth 65536 in
set_option maxHeartbeats 400000000 in
theorem own_law (l : Launch) (Z : State) (a0 : Array Value) (hw : ∀ d ∈ tables_1, d.before a0 Z = true) (A : Nat → Addr) (B : own_P Z A) (h0 : Heap) (n0 : Nat) (O : Old Z n0 h0) (p0 : Int32) : own_Met l Z x code maxLocals ret tables_1 room_1 0 0 #[(.int p0)] h0 (own_Q (some (.int (1 : Int32))) n0 fun _ => True) := by
  refine own_enter (y := x) own_pn1 (fun m => own_ef1 m p0) ?_
  intro p e s m below meth c C
  have N := Fr.nil n0
  replace C : own_Cx p s m meth c Z "com/example/parketa/parketa/engine/SideOppositePinLaw" code 5 (some FieldType.boolean) "law" := C
  refine own_iloadN C (pc' := 1) (v := p0) at_0 rfl rfl ?_
  refine own_iconst C (pc' := 2) (v := (1 : Int32)) at_1 rfl rfl ?_
  refine own_iand C (pc' := 3) (z := (p0 &&& (1 : Int32))) at_2 rfl rfl ?_
  by_cases qs1 : (p0 &&& (1 : Int32)) = (0 : Int32)
  · refine own_ifY C (pc' := 10) at_3 (XT.i0_eq_t qs1) (by decide) (by decide) ?_
    refine own_iconst C (pc' := 11) (v := (0 : Int32)) at_10 rfl rfl ?_
    refine own_istoreN C (pc' := 12) (Ls' := #[.val (.int p0), .val (.int (0 : Int32)), .unset, .unset, .unset]) at_11 rfl rfl ?_
    refine own_iloadN C (pc' := 13) (v := (0 : Int32)) at_12 rfl rfl ?_
    refine own_ifY C (pc' := 22) at_13 (XT.i0_eq_t (by decide)) (by decide) (by decide) ?_
    refine own_getS C (pc' := 25) (own_w0 hw) (Sta.ext O.2 (own_p0 B)) at_22 rfl ?_
    refine own_astoreN C (pc' := 26) (Ls' := #[.val (.int p0), .val (.int (0 : Int32)), .val (.ref (A 0)), .unset, .unset]) at_25 rfl rfl rfl ?_
    refine own_iloadN C (pc' := 27) (v := (0 : Int32)) at_26 rfl rfl ?_
    refine own_ifY C (pc' := 36) at_27 (XT.i0_eq_t (by decide)) (by decide) (by decide) ?_
    refine own_getS C (pc' := 39) (own_w3 hw) (Sta.ext O.2 (own_p3 B)) at_36 rfl ?_
    refine own_astoreN C (pc' := 40) (Ls' := #[.val (.int p0), .val (.int (0 : Int32)), .val (.ref (A 0)), .val (.ref (A 1)), .unset]) at_39 rfl rfl rfl ?_
    refine own_aloadN C (pc' := 41) (v := (.ref (A 0))) at_40 rfl rfl rfl ?_
    refine own_callV C (pc' := 44) (W := 0) (argsL := []) (rest := []) (st' := [(.ref (A 1))]) (cells' := 0) (slots' := 0) (own_w5 hw) (own_w6 hw) (own_w8 hw) (own_w7 hw) (own_w1 hw) (own_w9 hw) (by decide) (Exa.ext O.2 (own_p1 B)) (own_c0 l Z a0 hw A B h0 n0 O (A 0) (own_ne_0_1 B)) (by decide) (by decide) (lenOf own_pd0 rfl) rfl (Nat.le_of_eq rfl) rfl at_41 rfl (by decide) (by decide) rfl rfl rfl N (own_pure fun locs N => ?_)
    refine own_astore C (pc' := 46) (Ls' := #[.val (.int p0), .val (.int (0 : Int32)), .val (.ref (A 0)), .val (.ref (A 1)), .val (.ref (A 1))]) at_44 rfl rfl rfl ?_
    refine own_aload C (pc' := 48) (v := (.ref (A 1))) at_46 rfl rfl rfl ?_
    refine own_aloadN C (pc' := 49) (v := (.ref (A 1))) at_48 rfl rfl rfl ?_
    refine own_acmp C (pc' := 54) (same := true) at_49 rfl rfl (decide_eq_true rfl) (by decide) (by decide) ?_
    refine own_aload C (pc' := 56) (v := (.ref (A 1))) at_54 rfl rfl rfl ?_
    refine own_callV C (pc' := 59) (W := 0) (argsL := []) (rest := []) (st' := [(.ref (A 0))]) (cells' := 0) (slots' := 0) (own_w5 hw) (own_w6 hw) (own_w8 hw) (own_w7 hw) (own_w1 hw) (own_w9 hw) (by decide) (Exa.ext O.2 (own_p4 B)) (own_c1 l Z a0 hw A B h0 n0 O (A 1) rfl) (by decide) (by decide) (lenOf own_pd0 rfl) rfl (Nat.le_of_eq rfl) rfl at_56 rfl (by decide) (by decide) rfl rfl rfl N (own_pure fun locs N => ?_)
    refine own_aloadN C (pc' := 60) (v := (.ref (A 0))) at_59 rfl rfl rfl ?_
    refine own_acmp C (pc' := 63) (same := true) at_60 rfl rfl (decide_eq_true rfl) (by decide) (by decide) ?_
    refine own_iconst C (pc' := 64) (v := (1 : Int32)) at_63 rfl rfl ?_
    refine own_goto C (pc' := 68) at_64 (by decide) (by decide) ?_
    exact own_ret C at_68 rfl (Or.inl ⟨rfl, Or.inr (Or.inl rfl), _, rfl⟩) rfl N (trivial) (by decide) (by decide)
  · refine own_ifN C (pc' := 6) at_3 (XT.i0_eq_f qs1) rfl ?_
    refine own_iconst C (pc' := 7) (v := (1 : Int32)) at_6 rfl rfl ?_
    refine own_goto C (pc' := 11) at_7 (by decide) (by decide) ?_
    refine own_istoreN C (pc' := 12) (Ls' := #[.val (.int p0), .val (.int (1 : Int32)), .unset, .unset, .unset]) at_11 rfl rfl ?_
    refine own_iloadN C (pc' := 13) (v := (1 : Int32)) at_12 rfl rfl ?_
    refine own_ifN C (pc' := 16) at_13 (XT.i0_eq_f (by decide)) rfl ?_
    refine own_getS C (pc' := 19) (own_w3 hw) (Sta.ext O.2 (own_p3 B)) at_16 rfl ?_
    refine own_goto C (pc' := 25) at_19 (by decide) (by decide) ?_
    refine own_astoreN C (pc' := 26) (Ls' := #[.val (.int p0), .val (.int (1 : Int32)), .val (.ref (A 1)), .unset, .unset]) at_25 rfl rfl rfl ?_
    refine own_iloadN C (pc' := 27) (v := (1 : Int32)) at_26 rfl rfl ?_
    refine own_ifN C (pc' := 30) at_27 (XT.i0_eq_f (by decide)) rfl ?_
    refine own_getS C (pc' := 33) (own_w0 hw) (Sta.ext O.2 (own_p0 B)) at_30 rfl ?_
    refine own_goto C (pc' := 39) at_33 (by decide) (by decide) ?_
    refine own_astoreN C (pc' := 40) (Ls' := #[.val (.int p0), .val (.int (1 : Int32)), .val (.ref (A 1)), .val (.ref (A 0)), .unset]) at_39 rfl rfl rfl ?_
    refine own_aloadN C (pc' := 41) (v := (.ref (A 1))) at_40 rfl rfl rfl ?_
    refine own_callV C (pc' := 44) (W := 0) (argsL := []) (rest := []) (st' := [(.ref (A 0))]) (cells' := 0) (slots' := 0) (own_w5 hw) (own_w6 hw) (own_w8 hw) (own_w7 hw) (own_w1 hw) (own_w9 hw) (by decide) (Exa.ext O.2 (own_p4 B)) (own_c1 l Z a0 hw A B h0 n0 O (A 1) rfl) (by decide) (by decide) (lenOf own_pd0 rfl) rfl (Nat.le_of_eq rfl) rfl at_41 rfl (by decide) (by decide) rfl rfl rfl N (own_pure fun locs N => ?_)
    refine own_astore C (pc' := 46) (Ls' := #[.val (.int p0), .val (.int (1 : Int32)), .val (.ref (A 1)), .val (.ref (A 0)), .val (.ref (A 0))]) at_44 rfl rfl rfl ?_
    refine own_aload C (pc' := 48) (v := (.ref (A 0))) at_46 rfl rfl rfl ?_
    refine own_aloadN C (pc' := 49) (v := (.ref (A 0))) at_48 rfl rfl rfl ?_
    refine own_acmp C (pc' := 54) (same := true) at_49 rfl rfl (decide_eq_true rfl) (by decide) (by decide) ?_
    refine own_aload C (pc' := 56) (v := (.ref (A 0))) at_54 rfl rfl rfl ?_
    refine own_callV C (pc' := 59) (W := 0) (argsL := []) (rest := []) (st' := [(.ref (A 1))]) (cells' := 0) (slots' := 0) (own_w5 hw) (own_w6 hw) (own_w8 hw) (own_w7 hw) (own_w1 hw) (own_w9 hw) (by decide) (Exa.ext O.2 (own_p1 B)) (own_c0 l Z a0 hw A B h0 n0 O (A 0) (own_ne_0_1 B)) (by decide) (by decide) (lenOf own_pd0 rfl) rfl (Nat.le_of_eq rfl) rfl at_56 rfl (by decide) (by decide) rfl rfl rfl N (own_pure fun locs N => ?_)
    refine own_aloadN C (pc' := 60) (v := (.ref (A 1))) at_59 rfl rfl rfl ?_
    refine own_acmp C (pc' := 63) (same := true) at_60 rfl rfl (decide_eq_true rfl) (by decide) (by decide) ?_
    refine own_iconst C (pc' := 64) (v := (1 : Int32)) at_63 rfl rfl ?_
    refine own_goto C (pc' := 68) at_64 (by decide) (by decide) ?_
    exact own_ret C at_68 rfl (Or.inl ⟨rfl, Or.inr (Or.inl rfl), _, rfl⟩) rfl N (trivial) (by decide) (by decide)
set_option maxRecDepth 65536 in
set_option maxHeartbeats 40000000 in
theorem comes_1 {Post : Tables → Env → Array Value → State → Outcome → State → Prop} (hpost : ∀ tb e args s v u, (limb_1_1.after args s (.returned v) u = true ∧ limb_1_2.after args s (.returned v) u = true ∧ True) → FrameEnd s (.returned v) u (Jvm.fieldLocs frame_1_writes args s ++ Jvm.arrayLocs frame_1_arrays args s ++ Jvm.staticLocs frame_1_statics s) 0 0 → Post tb e args s (.returned v) u) :
    ArmFor flags0 classFile x code maxLocals ret World_1 tables_1 room_1 Calls_1 rest_1 Pre_1 Post := by
  intro l hfl _ _ p e ha hc hk s m args below hf hA hF happ hP
  obtain ⟨hcalls, hrest, hpre⟩ := hP
  obtain ⟨-, -, -, hnamed, -, -, -, hat⟩ := (Spec.applies_iff hf).mp happ
  obtain ⟨hg, hn⟩ := and_e (Cond.before_iff.mp (show (Jvm.Cond.and given_1 narrow_1).before args s = true from hpre))
  obtain ⟨h1, h2⟩ := and_e hg
  have hg0 := h2
  obtain ⟨w0, rfl⟩ : ∃ w0 : Value, args = #[w0] := by
    have hs : args.size = 1 := by simpa [Cond.value, given_1] using h1
    obtain ⟨L⟩ := args
    match L, hs with
    | [w0], _ => exact ⟨w0, rfl⟩
  have hw := fun d (hd : d ∈ tables_1) => atoms_spec (ws := Jvm.Cond.code x code maxLocals ret :: tables_1) hat d (List.mem_cons_of_mem _ hd)
  have hfit : Fit s := fun {y c} hc i hi => by
    obtain ⟨ha, rfl⟩ := Array.getElem?_eq_some_iff.mp hc
    have q := List.all_eq_true.mp ((Array.all_eq_true_iff_forall_mem.mp hF) _ (Array.getElem_mem ha)) i (List.mem_range.mpr hi)
    simpa [Array.getElem?_eq_getElem hi] using q
  obtain ⟨A, B⟩ := own_start hw hfit hn
  obtain ⟨i0, e0⟩ := is_v hg0
  obtain rfl : w0 = (.int i0) := Option.some.inj e0
  have M := own_law l s _ hw A B s.heap s.heap.size (Old.start s) i0
  obtain ⟨n, o, h1, h2, h3, _, L, rfl, ⟨rfl, N, -⟩, hq⟩ := M p e ha hc hk s m _ below hf ((Spec.applies_iff_loose hf).mp happ).1 ⟨rfl, State.Warmed39.refl s, rfl⟩ trivial
  refine ⟨n, _, h1, h2, h3, hpost _ _ _ _ _ _ ⟨Cond.after_iff.mpr rfl, Cond.after_iff.mpr (eq_i res_at (Term.int_eval (1)) rfl), trivial⟩ ⟨hq.1, hq.2.1, (hq.2.2.sift fun y hy => Or.inr (N y hy)).mono (by decide) (by decide)⟩⟩
theorem main_1_1 : Claimed_1_1 := comes_1 fun _ _ _ _ _ _ h hF => ⟨h.1, hF⟩
theorem main_1_2 : Claimed_1_2 := comes_1 fun _ _ _ _ _ _ h hF => ⟨h.2.1, hF⟩
end Jvm.Pilot.@@N@@
namespace Jvm.Pilot.@@N@@
open Jvm Jvm.ClassFile Sem Op Lib Jvm.Free Jvm.Stand Jvm.Pilot.@@N@@.Jvm.D
/-! MADE BY PROGRAM (witnessworld.py) out of the Statement's table words and the real class files: 12 classes; the members and pool entries that the words name. The judged class is class 1, her method 1. -/
namespace start1
open Jvm.ClassFile
def u (s : String) : CpInfo := .utf8 (stringToUtf16 s)
/-- a pool by its gaps: so many unusable entries, then the entry; so many at the end -/
def gap : Nat → List CpInfo → List CpInfo
  | 0, r => r
  | n + 1, r => .unusable :: gap n r
def poolList (es : List (Nat × CpInfo)) (last : Nat) : List CpInfo := es.foldr (fun e r => gap e.1 (e.2 :: r)) (gap last [])
def pool (es : List (Nat × CpInfo)) (last : Nat) : Array CpInfo := ⟨poolList es last⟩
def fileOf (pool : Array CpInfo) (this : Nat) (attrs : Array Attribute := #[]) (ms : Array MethodInfo := #[]) (fl : Nat := 33) (sup : Nat := 0) (ifs : Array Nat := #[]) (fds : Array FieldInfo := #[]) : ClassFile where
  minorVersion := 0
  majorVersion := 65
  constantPool := pool
  accessFlags := fl
  thisClass := this
  superClass := sup
  interfaces := ifs
  fields := fds
  methods := ms
  attributes := attrs
def plain (name : String) (sup : Option ClassId) : Class where
  name := name
  kind := .ordinary
  loader := none
  accessFlags := 33
  super := sup
  interfaces := #[]
  cf := none
  fields := #[]
  methods := #[]
  instanceTypes := #[]
  staticTypes := #[]
  resolved := #[]
  callSites := []
  init := .initialized
  statics := none
  mirror := none

def pool0 : Array CpInfo := pool [(5, u "<init>"), (0, u "()V"), (1, .class_ 10), (1, u "java/lang/Object")] 113

def k0m0 : Method := { name := "<init>", desc := "()V", sig := { parameters := [], returnType := none }, accessFlags := 1, code := none }
/-- java/lang/Object -/
def k0 : Class := { plain "java/lang/Object" none with
  accessFlags := 33
  interfaces := #[]
  cf := some (fileOf pool0 8 #[] #[{ accessFlags := 1, nameIndex := 5, descriptorIndex := 6, attributes := #[] }] 33 0 #[] #[])
  fields := #[]
  methods := #[k0m0]
  instanceTypes := #[]
  staticTypes := #[]
  resolved := Array.replicate 124 none
  statics := none }

def pool1 : Array CpInfo := pool [(2, .class_ 4), (1, u "java/lang/Object"), (0, u "<init>"), (0, u "()V"), (0, .fieldref 8 9), (0, .class_ 10), (0, .nameAndType 11 12), (0, u "com/example/parketa/parketa/engine/Side"), (0, u "BUY"), (0, u "Lcom/example/parketa/parketa/engine/Side;"), (0, .fieldref 8 14), (0, .nameAndType 15 12), (0, u "SELL"), (0, .methodref 8 17), (0, .nameAndType 18 19), (0, u "opposite"), (0, u "()Lcom/example/parketa/parketa/engine/Side;"), (0, .class_ 21), (0, u "com/example/parketa/parketa/engine/SideOppositePinLaw"), (2, u "law"), (0, u "(I)Z")] 3

def k1m0 : Method := { name := "<init>", desc := "()V", sig := { parameters := [], returnType := none }, accessFlags := 1, code := none }
def k1c1 : Code := { maxStack := 2, maxLocals := 5, code := code, exceptionTable := #[], attributes := #[] }
def k1m1 : Method := { name := "law", desc := "(I)Z", sig := { parameters := [.int], returnType := some .boolean }, accessFlags := 9, code := some k1c1 }
/-- com/example/parketa/parketa/engine/SideOppositePinLaw -/
def k1 : Class := { plain "com/example/parketa/parketa/engine/SideOppositePinLaw" (some 0) with
  accessFlags := 49
  interfaces := #[]
  cf := some (fileOf pool1 20 #[] #[{ accessFlags := 1, nameIndex := 5, descriptorIndex := 6, attributes := #[] }, { accessFlags := 9, nameIndex := 24, descriptorIndex := 25, attributes := #[] }] 49 2 #[] #[])
  fields := #[]
  methods := #[k1m0, k1m1]
  instanceTypes := #[]
  staticTypes := #[]
  resolved := Array.replicate 29 none
  statics := none }

def pool2 : Array CpInfo := pool [(1, .class_ 2), (0, u "java/lang/constant/Constable"), (0, .class_ 4), (0, u "java/lang/Object")] 6

/-- java/lang/constant/Constable -/
def k2 : Class := { plain "java/lang/constant/Constable" (some 0) with
  accessFlags := 1537
  interfaces := #[]
  cf := some (fileOf pool2 1 #[] #[] 1537 3 #[] #[])
  fields := #[]
  methods := #[]
  instanceTypes := #[]
  staticTypes := #[]
  resolved := Array.replicate 11 none
  statics := none }

def pool3 : Array CpInfo := pool [(1, .class_ 2), (0, u "java/lang/Comparable"), (0, .class_ 4), (0, u "java/lang/Object")] 7

/-- java/lang/Comparable -/
def k3 : Class := { plain "java/lang/Comparable" (some 0) with
  accessFlags := 1537
  interfaces := #[]
  cf := some (fileOf pool3 1 #[] #[] 1537 3 #[] #[])
  fields := #[]
  methods := #[]
  instanceTypes := #[]
  staticTypes := #[]
  resolved := Array.replicate 12 none
  statics := none }

def pool4 : Array CpInfo := pool [(1, .class_ 2), (0, u "java/io/Serializable"), (0, .class_ 4), (0, u "java/lang/Object")] 2

/-- java/io/Serializable -/
def k4 : Class := { plain "java/io/Serializable" (some 0) with
  accessFlags := 1537
  interfaces := #[]
  cf := some (fileOf pool4 1 #[] #[] 1537 3 #[] #[])
  fields := #[]
  methods := #[]
  instanceTypes := #[]
  staticTypes := #[]
  resolved := Array.replicate 7 none
  statics := none }

def pool5 : Array CpInfo := pool [(2, .class_ 4), (1, u "java/lang/Enum"), (0, u "name"), (0, u "Ljava/lang/String;"), (2, u "ordinal"), (0, u "I"), (1, .class_ 14), (1, u "java/lang/Object"), (4, u "hash"), (86, .class_ 108), (1, u "java/lang/Enum$EnumDesc"), (2, .class_ 112), (0, u "java/lang/constant/Constable"), (0, .class_ 114), (0, u "java/lang/Comparable"), (0, .class_ 116), (0, u "java/io/Serializable")] 87

/-- java/lang/Enum -/
def k5 : Class := { plain "java/lang/Enum" (some 0) with
  accessFlags := 1057
  interfaces := #[2, 3, 4]
  cf := some (fileOf pool5 2 #[.nestMembers #[106]] #[] 1057 12 #[111, 113, 115] #[{ accessFlags := 18, nameIndex := 5, descriptorIndex := 6, attributes := #[] }, { accessFlags := 18, nameIndex := 9, descriptorIndex := 10, attributes := #[] }, { accessFlags := 2, nameIndex := 19, descriptorIndex := 10, attributes := #[] }])
  fields := #[{ name := "name", type := (.object "java/lang/String"), accessFlags := 18, slot := 0, constantValue := 0 }, { name := "ordinal", type := .int, accessFlags := 18, slot := 1, constantValue := 0 }, { name := "hash", type := .int, accessFlags := 2, slot := 2, constantValue := 0 }]
  methods := #[]
  instanceTypes := #[(.object "java/lang/String"), .int, .int]
  staticTypes := #[]
  resolved := Array.replicate 204 none
  statics := none }

def pool6 : Array CpInfo := pool [(1, .class_ 2), (0, u "com/example/parketa/parketa/engine/Side"), (0, .fieldref 1 4), (0, .nameAndType 5 6), (0, u "BUY"), (0, u "Lcom/example/parketa/parketa/engine/Side;"), (0, .fieldref 1 8), (0, .nameAndType 9 6), (0, u "SELL"), (2, u "$VALUES"), (0, u "[Lcom/example/parketa/parketa/engine/Side;"), (6, .class_ 22), (1, u "java/lang/Enum"), (20, u "opposite"), (0, u "()Lcom/example/parketa/parketa/engine/Side;")] 5

def k6c0 : Code := { maxStack := 2, maxLocals := 1, code := prog_29_method_4_code, exceptionTable := #[], attributes := #[] }
def k6m0 : Method := { name := "opposite", desc := "()Lcom/example/parketa/parketa/engine/Side;", sig := { parameters := [], returnType := some (.object "com/example/parketa/parketa/engine/Side") }, accessFlags := 1, code := some k6c0 }
/-- com/example/parketa/parketa/engine/Side -/
def k6 : Class := { plain "com/example/parketa/parketa/engine/Side" (some 5) with
  accessFlags := 16433
  interfaces := #[]
  cf := some (fileOf pool6 1 #[] #[{ accessFlags := 1, nameIndex := 43, descriptorIndex := 44, attributes := #[] }] 16433 20 #[] #[{ accessFlags := 16409, nameIndex := 5, descriptorIndex := 6, attributes := #[] }, { accessFlags := 16409, nameIndex := 9, descriptorIndex := 6, attributes := #[] }, { accessFlags := 4122, nameIndex := 12, descriptorIndex := 13, attributes := #[] }])
  fields := #[{ name := "BUY", type := (.object "com/example/parketa/parketa/engine/Side"), accessFlags := 16409, slot := 0, constantValue := 0 }, { name := "SELL", type := (.object "com/example/parketa/parketa/engine/Side"), accessFlags := 16409, slot := 1, constantValue := 0 }, { name := "$VALUES", type := (.array (.object "com/example/parketa/parketa/engine/Side")), accessFlags := 4122, slot := 2, constantValue := 0 }]
  methods := #[k6m0]
  instanceTypes := #[(.object "java/lang/String"), .int, .int]
  staticTypes := #[(.object "com/example/parketa/parketa/engine/Side"), (.object "com/example/parketa/parketa/engine/Side"), (.array (.object "com/example/parketa/parketa/engine/Side"))]
  resolved := Array.replicate 50 none
  statics := some 0 }

def pool7 : Array CpInfo := pool [(1, u "java/lang/Cloneable"), (0, .class_ 1), (0, u "java/lang/Object"), (0, .class_ 3)] 3

/-- java/lang/Cloneable -/
def k7 : Class := { plain "java/lang/Cloneable" (some 0) with
  accessFlags := 1537
  interfaces := #[]
  cf := some (fileOf pool7 2 #[] #[] 1537 4 #[] #[])
  fields := #[]
  methods := #[]
  instanceTypes := #[]
  staticTypes := #[]
  resolved := Array.replicate 8 none
  statics := none }

/-- the primitive byte -/
def k8 : Class := { plain "byte" none with kind := .primitive 'B', accessFlags := 0x411 }
/-- [B -/
def k9 : Class := { plain "[B" (some 0) with kind := .array 8 .byte, interfaces := #[7, 4], accessFlags := 1041 }

/-- the primitive int -/
def k10 : Class := { plain "int" none with kind := .primitive 'I', accessFlags := 0x411 }
/-- [I -/
def k11 : Class := { plain "[I" (some 0) with kind := .array 10 .int, interfaces := #[7, 4], accessFlags := 1041 }

def heap : Heap := #[{ cls := 6, slots := #[.ref 2, .ref 1, .null], vm := .statics 6 },
  { cls := 6, slots := #[.null, .int 1, .int 0], vm := .none },
  { cls := 6, slots := #[.null, .int 0, .int 0], vm := .none }]
def classes : Array Class := #[k0, k1, k2, k3, k4, k5, k6, k7, k8, k9, k10, k11]
def interned : List (Array UInt16 × Addr) := []
def slotsUsed : Nat := 9
def theMethod : MethodId := ⟨1, 1⟩
def args0 : Array Value := #[.int 5]
def aboutOver (below : List Frame) : State where
  vm := { classes := classes, interned := interned.toArray }
  heap := heap
  slotsUsed := slotsUsed
  threads := #[{ frames := .invoking theMethod args0 :: below }]
def below0 : List Frame := [.native { method := ⟨0, 0⟩, args := #[] }]
def about1 : State := aboutOver below0
def p0 : Program := .bare "" "" ""
def e0 : Env := launch0.env 0 0 0
theorem w_frames : about1.frames = Frame.invoking theMethod args0 :: below0 := rfl
set_option maxRecDepth 65536 in
theorem w_args : argsFit about1.vm theMethod args0 = true := by decide +kernel
set_option maxRecDepth 65536 in
theorem w_heap : heapFits about1 = true := by decide +kernel
set_option maxRecDepth 65536 in
theorem w_runnable : about1.curStatus? = some .runnable := by decide +kernel
set_option maxRecDepth 65536 in
theorem w_alone : about1.alone = true := by decide +kernel
set_option maxRecDepth 65536 in
theorem w_named : about1.methodNamed? x = some theMethod := by decide +kernel
set_option maxRecDepth 65536 in
theorem w_hears : about1.hears theMethod below0 = true := by decide +kernel
set_option maxRecDepth 65536 in
theorem w_ripe : about1.ripe theMethod args0 below0 = true := by decide +kernel
theorem w_running : about1.status = .running := rfl
set_option maxRecDepth 65536 in
theorem w_room : about1.hasRoom e0.platform room_1 = true :=
  launch0.hasRoom_least _ room_1 (by decide +kernel) (by decide +kernel) (by decide +kernel) (by decide +kernel) (by decide +kernel) (by decide +kernel)
theorem allAtoms_all (ts : List Jvm.Cond) (a : Array Jvm.Value) (st : Jvm.State) : (allAtoms ts).before a st = ts.all (fun c => c.before a st) := by
  induction ts with
  | nil => rfl
  | cons c t ih =>
    show (Jvm.Cond.and c (allAtoms t)).before a st = _
    rw [Jvm.Cond.before_and, ih, List.all_cons]
def words1 : List Jvm.Cond := Jvm.Cond.code x code maxLocals ret :: tables_1
/-- a 'code' word, met by the world's own term for the bytes: nothing is compared byte by byte -/
theorem code_word {y : MethodName} {bytes : ByteArray} {mx : Nat} {rt : Option FieldType} {a : Array Value} {s : State} {m : MethodId} {meth : Method} {c : Code} (h1 : s.methodNamed? y = some m) (h2 : s.vm.method? m = some meth) (h3 : meth.code = some c) (h4 : c.code = bytes)
    (h5 : (c.maxLocals == mx && c.exceptionTable.isEmpty && decide (c.maxStack ≤ mostOperands) && decide (meth.sig.returnType = rt) && !meth.locks && decide (parseMethodDescriptor y.desc = some meth.sig)) = true) : (Jvm.Cond.code y bytes mx rt).before a s = true := by
  simp only [Bool.and_eq_true, beq_iff_eq, Bool.not_eq_true', decide_eq_true_eq] at h5
  obtain ⟨⟨⟨⟨⟨g1, g2⟩, g3⟩, g4⟩, g5⟩, g6⟩ := h5
  simp [Cond.before, Cond.holds, Cond.value, h1, h2, h3, h4, g1, g2, g3, g4, g5, g6]
def isCode : Jvm.Cond → Bool
  | .code _ _ _ _ => true
  | _ => false
theorem all_split {L : List Jvm.Cond} {P : Jvm.Cond → Bool} (h1 : L.all (fun c => isCode c || P c) = true) (h2 : ∀ c ∈ L.filter isCode, P c = true) : L.all P = true := by
  refine List.all_eq_true.mpr fun c hc => ?_
  have h := List.all_eq_true.mp h1 c hc
  rcases Bool.eq_false_or_eq_true (isCode c) with hi | hi
  · exact h2 c (List.mem_filter.mpr ⟨hc, hi⟩)
  · simpa [hi] using h
set_option maxRecDepth 65536 in
theorem w_c0 : (Jvm.Cond.code x code maxLocals ret).before args0 about1 = true := code_word (m := ⟨1, 1⟩) (meth := k1m1) (c := k1c1) (by decide +kernel) rfl rfl rfl (by decide +kernel)
set_option maxRecDepth 65536 in
theorem w_c1 : (Jvm.Cond.code ({ cls := "com/example/parketa/parketa/engine/Side", name := "opposite", desc := "()Lcom/example/parketa/parketa/engine/Side;" } : Jvm.MethodName) prog_29_method_4_code (1 : Nat) (Option.some (Jvm.ClassFile.FieldType.object "com/example/parketa/parketa/engine/Side"))).before args0 about1 = true := code_word (m := ⟨6, 0⟩) (meth := k6m0) (c := k6c0) (by decide +kernel) rfl rfl rfl (by decide +kernel)
def codes1 : List Jvm.Cond := [Jvm.Cond.code x code maxLocals ret, Jvm.Cond.code ({ cls := "com/example/parketa/parketa/engine/Side", name := "opposite", desc := "()Lcom/example/parketa/parketa/engine/Side;" } : Jvm.MethodName) prog_29_method_4_code (1 : Nat) (Option.some (Jvm.ClassFile.FieldType.object "com/example/parketa/parketa/engine/Side"))]
set_option maxRecDepth 65536 in
theorem codes_eq : words1.filter isCode = codes1 := rfl
theorem w_codes : ∀ c ∈ words1.filter isCode, c.before args0 about1 = true := by
  rw [codes_eq]
  intro c hc
  simp only [codes1, List.mem_cons, List.not_mem_nil, or_false] at hc
  rcases hc with rfl | rfl
  · exact w_c0
  · exact w_c1
set_option maxRecDepth 65536 in
theorem w_t1 : words1.all (fun c => isCode c || c.before args0 about1) = true := by decide +kernel
theorem w_tables : (allAtoms (Jvm.Cond.code x code maxLocals ret :: tables_1)).before args0 about1 = true := by
  rw [allAtoms_all]
  show words1.all (fun c => c.before args0 about1) = true
  refine all_split ?_ w_codes
  rw [w_t1]
set_option maxRecDepth 65536 in
theorem w_case : (Jvm.Cond.and given_1 narrow_1).before args0 about1 = true := by decide +kernel
theorem w_applies : (headSpec (Jvm.Cond.code x code maxLocals ret :: tables_1) room_1).applies x e0.platform about1 = true :=
  (Spec.applies_iff w_frames).mpr ⟨w_running, w_runnable, w_alone, w_named, w_hears, w_ripe, w_room, w_tables⟩
theorem atStart : AtStart classFile x code maxLocals ret World_1 tables_1 room_1 Calls_1 rest_1 Pre_1 launch0 p0 e0 about1 theMethod args0 below0 :=
  ⟨lists_1, trivial, launch0.admits_env _ _ _, launch0.least_env, fairChoices_fair.cas, fairChoices_fair.clock, w_frames, w_args, w_heap, w_applies, trivial, trivial, w_case⟩
end start1
theorem witness_1 : WitnessClaimed_1 := ⟨start1.p0, start1.e0, start1.about1, start1.theMethod, start1.args0, start1.below0, start1.atStart⟩
end Jvm.Pilot.@@N@@
