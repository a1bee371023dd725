import JvmDerived
import JvmDerived.Pilot.@@N@@Statement
import JvmDerived.Pilot.@@N@@Code
set_option linter.unusedVariables false
set_option linter.unusedSimpArgs false
namespace Jvm.Pilot.@@N@@
open Jvm Jvm.ClassFile Sem Op Lib Jvm.Free Jvm.Stand Jvm.LawKit Jvm.RoadKit Bundle Jvm.Pilot.@@N@@.Jvm.D
section OwnRet
variable {p : Program} {l : Launch} {e : Env} {R : Room} {s : State} {m : MethodId} {args : Array Value} {below : List Frame} {meth : Method} {c : Code} {T : State} {locs : List Loc} {cells slots : Nat}
theorem own_retI0 (X : Stand p l e R s m args below meth c T locs cells slots) (hx : p.tables.exec = Jvm.exec) {pc : Nat} {Ls : Array Slot} {z : Int32} {rest : List Value} (hret : meth.sig.returnType = some .int) (hd : decode c.code pc = .ok (.ireturn, 1)) {fs : List Frame}
    (hl : ∀ (f : JFrame) (acts : List Action), f.method = m → f.locked = none → f.entered = [] → (doReturn e (T.setTop f) acts (some (.int z))).1 = T.setFrames fs) : Steps p.tables e below (T.setTop (mkF m pc Ls (.int z :: rest))) (T.setFrames fs) :=
  retOut X hx hret rfl (Or.inl ⟨rfl, Or.inl rfl, z, rfl⟩) hd hl
end OwnRet
/-- the array at a: of component type ty, its class k, and just these components -/
def own_A (Z : State) (h : Heap) (a : Addr) (kc : ClassId) (ty : FieldType) (vs : List Value) : Prop := ∃ c : Cell, Arr Z h a c ty ∧ c.cls = kc ∧ c.slots.toList = vs ∧ vs.length < 2 ^ 31 ∧ ∀ v ∈ vs, fits ty v = true
section OwnArr
variable {Z : State} {h h' : Heap} {a b : Addr} {kc : ClassId} {ty : FieldType} {vs : List Value} {sl : Nat} {v w : Value} {ws : List Addr}
theorem own_A.lt (F : own_A Z h a kc ty vs) : a < h.size := by obtain ⟨c, A, -⟩ := F; exact A.lt
theorem own_A.ext (F : own_A Z h a kc ty vs) (E : Ext h h') : own_A Z h' a kc ty vs := by obtain ⟨c, A, r⟩ := F; exact ⟨c, A.ext E, r⟩
theorem own_A.other (F : own_A Z h b kc ty vs) (W : Wr h h' a sl v) (q : b ≠ a) : own_A Z h' b kc ty vs := by obtain ⟨c, A, r⟩ := F; exact ⟨c, A.other W q, r⟩
theorem own_A.keep (F : own_A Z h a kc ty vs) (K : Keep h h' ws) (q : a ∉ ws) : own_A Z h' a kc ty vs := by obtain ⟨c, A, r⟩ := F; exact ⟨c, ⟨K.2.1 a c A.1 q, A.2⟩, r⟩
theorem own_A.same (F : own_A Z h a kc ty vs) (W : Wr h h' a sl v) (hf : fits ty v = true) : own_A Z h' a kc ty (vs.set sl v) := by
  obtain ⟨c, A, r1, r2, r3, r4⟩ := F
  refine ⟨_, A.same W, r1, by show (c.slots.setIfInBounds sl v).toList = _; rw [Array.toList_setIfInBounds, r2], by simpa using r3, fun u hu => ?_⟩
  rcases List.mem_or_eq_of_mem_set hu with q | q
  · exact r4 u q
  · exact q ▸ hf
theorem own_in {c : Cell} {j : Int32} {i : Nat} (r2 : c.slots.toList = vs) (hj : j.toNatClampNeg = i) (hj0 : ¬ j < 0) (hi : i < vs.length) : ¬ (j < 0 ∨ c.slots.size ≤ j.toNatClampNeg) := by
  rintro (q | q)
  · exact hj0 q
  · rw [hj, ← Array.length_toList, r2] at q; omega
theorem own_Ins_keep {C : String} (F : Ins Z h a C true) (K : Keep h h' ws) : Ins Z h' a C true := by
  obtain ⟨cell, cT, h1, h2, h3⟩ := F
  obtain ⟨c', q, r1, r2, -⟩ := K.2.2 a cell h1
  exact ⟨c', cT, q, h2, by rw [r1, r2]; exact h3⟩
theorem own_Sta_keep0 {C nm d : String} (F : Sta Z h C nm d v) (K : Keep h h' []) : Sta Z h' C nm d v := by
  obtain ⟨cf, i, k, f, st, cell, h1, h2, h3, h4, h5, r⟩ := F
  exact ⟨cf, i, k, f, st, cell, h1, h2, h3, h4, K.2.1 st cell h5 nin0, r⟩
theorem own_Sto {x : Addr} {C : String} (F : own_A Z h a kc ty vs) (O : Ovr Z kc C) (I : Ins Z h x C true) : Sto Z h a (.ref x) := by
  obtain ⟨c, A, r, -⟩ := F
  exact Sto.ofV A r O I
theorem own_Sto_keep (F : Sto Z h a v) (K : Keep h h' ws) : Sto Z h' a v := F.imp id fun ⟨c1, c2, k, kv, kc, cp, t, y, h1, h2, h3, h4, h5, h6, h7, h8, h9⟩ => by
  obtain ⟨c1', q1, r1, -, -⟩ := K.2.2 _ _ h1
  obtain ⟨c2', q2, r2, r3, -⟩ := K.2.2 _ _ h6
  exact ⟨c1', c2', k, kv, kc, cp, t, y, q1, by rw [r1]; exact h2, h3, h4, h5, q2, by rw [r3]; exact h7, by rw [r2]; exact h8, by rw [r2]; exact h9⟩
end OwnArr
section OwnKit
variable {p : Program} {l : Launch} {e : Env} {R : Room} {s : State} {m : MethodId} {args : Array Value} {below : List Frame} {meth : Method} {c : Code} {Z T : State} {n0 ml k n : Nat} {y : MethodName} {bytes : ByteArray} {ret : Option FieldType} {h : Heap} {a0 : Array Value} {G : State → Outcome → Prop} {Ls : Array Slot} {st : List Value} {pc : Nat}
/-- the run from this state ends, and G holds of the end -/
def own_Ends (p : Program) (e : Env) (below : List Frame) (G : State → Outcome → Prop) (S : State) : Prop := ∃ s₂ o, Steps p.tables e below S s₂ ∧ s₂.status = .running ∧ Ended s₂ below o ∧ G s₂ o
/-- what a method's end must say -/
def own_Fin (s : State) (n0 C S : Nat) (Q : Option Value → Heap → Prop) (s₂ : State) (o : Outcome) : Prop := ∃ v L, o = .returned v ∧ (Q v s₂.heap ∧ Fr n0 L) ∧ FrameEnd s o s₂ L C S
/-- where a walk stands: the state T, its heap h, k cells and n slots spent, nothing old written -/
def own_W (p : Program) (l : Launch) (e : Env) (R : Room) (s : State) (m : MethodId) (args : Array Value) (below : List Frame) (meth : Method) (c : Code) (Z : State) (n0 : Nat) (y : MethodName) (bytes : ByteArray) (ml : Nat) (ret : Option FieldType) (T : State) (h : Heap) (k n : Nat) : Prop :=
  (∃ locs, Stand p l e R s m args below meth c T locs k n ∧ Fr n0 locs) ∧ T.heap = h ∧ n0 ≤ h.size ∧ p.tables.exec = Jvm.exec ∧ Z.Warmed39 s.vm ∧ c.code = bytes ∧ c.maxLocals = ml ∧ s.vm.findClass y.cls = some m.cls ∧ meth.sig.returnType = ret ∧ meth.locks = false ∧ meth.name = y.name
/-- a body's contract: called with as' over the heap h it returns, Q holds of what it returns and of the heap that it leaves -/
def own_Met (l : Launch) (y : MethodName) (bytes : ByteArray) (ml : Nat) (ret : Option FieldType) (rm : Room) (Z : State) (as' : Array Value) (h : Heap) (n0 : Nat) (Q : Option Value → Heap → Prop) : Prop :=
  ∀ ws, MetFree l y (head1 (Jvm.Cond.code y bytes ml ret :: ws) rm) (fun a U => a = as' ∧ Z.Warmed39 U.vm ∧ U.heap = h) (fun _ _ _ _ _ => True) (fun _ U o U' => ∃ v L, o = .returned v ∧ (Q v U'.heap ∧ Fr n0 L) ∧ FrameEnd U o U' L rm.cells rm.slots)
theorem own_pre {S S' : State} (f : ∀ t, Steps p.tables e below S' t → Steps p.tables e below S t) (K : own_Ends p e below G S') : own_Ends p e below G S := by
  obtain ⟨s2, o, h1, h2⟩ := K
  exact ⟨s2, o, f _ h1, h2⟩
theorem own_W.more {k' n' : Nat} (X : own_W p l e R s m args below meth c Z n0 y bytes ml ret T h k n) (hk : k ≤ k') (hn : n ≤ n') : own_W p l e R s m args below meth c Z n0 y bytes ml ret T h k' n' := by
  obtain ⟨⟨locs, Y, N⟩, r⟩ := X
  exact ⟨⟨locs, Y.more hk hn, N⟩, r⟩
theorem own_W.sz (X : own_W p l e R s m args below meth c Z n0 y bytes ml ret T h k n) : n0 ≤ h.size := X.2.2.1
theorem own_met {rm : Room} {as' : Array Value} {Q : Option Value → Heap → Prop} (hpl : plainFor y = true) (hs0 : n0 ≤ h.size) (hef : ∀ m, entryFrame m as' ml = mkF m 0 Ls [])
    (body : ∀ (p : Program) (e : Env) (s : State) (m : MethodId) (below : List Frame) (meth : Method) (c : Code) (T : State), own_W p l e rm s m as' below meth c Z n0 y bytes ml ret T h 0 0 → own_Ends p e below (own_Fin s n0 rm.cells rm.slots Q) (T.setTop (mkF m 0 Ls []))) :
    own_Met l y bytes ml ret rm Z as' h n0 Q := by
  intro ws
  refine MetFree.of_bodySF hpl hisR ?_
  intro p e s m args below meth c s₁ Bd hml0 hP hK
  obtain ⟨rfl, hZ, hh⟩ := hP
  obtain ⟨s2, o, h1, h2, h3, h4⟩ := body p e s m below meth c s₁ ⟨⟨[], Stand.of_body Bd, Fr.nil n0⟩, by rw [← hh, Bd.state]; rfl, hs0, Bd.exec, hZ, Bd.bytes, hml0, findClass_of_methodNamed Bd.named, Bd.returns, Bd.notSynchronized, (name_of_methodNamed Bd.named Bd.method).1⟩
  exact ⟨s2, o, castTop (hef m) h1, h2, h3, h4⟩
theorem own_iloadN (X : own_W p l e R s m args below meth c Z n0 y bytes ml ret T h k n) (q : Nat) {i : Fin 4} (x : Int32) (hd : decode bytes pc = .ok (.iload_n i, 1)) (hq : pc + 1 = q) (hl : Ls[i.val]? = some (.val (.int x))) (K : own_Ends p e below G (T.setTop (mkF m q Ls (.int x :: st)))) : own_Ends p e below G (T.setTop (mkF m pc Ls st)) := by
  subst hq
  obtain ⟨⟨locs, Y, N⟩, eT, hs0, hx, hZ, hby, hml, hown, hret, hlk, hnm⟩ := X
  exact own_pre (fun t K => XS.iloadN Y.here hx rfl (hb hby hd) hl K) K
theorem own_iload (X : own_W p l e R s m args below meth c Z n0 y bytes ml ret T h k n) (q : Nat) {i : Nat} (x : Int32) (hd : decode bytes pc = .ok (.iload i, 2)) (hq : pc + 2 = q) (hl : Ls[i]? = some (.val (.int x))) (K : own_Ends p e below G (T.setTop (mkF m q Ls (.int x :: st)))) : own_Ends p e below G (T.setTop (mkF m pc Ls st)) := by
  subst hq
  obtain ⟨⟨locs, Y, N⟩, eT, hs0, hx, hZ, hby, hml, hown, hret, hlk, hnm⟩ := X
  exact own_pre (fun t K => XS.iload Y.here hx rfl (hb hby hd) hl K) K
theorem own_lloadN (X : own_W p l e R s m args below meth c Z n0 y bytes ml ret T h k n) (q : Nat) {i : Fin 4} (x : Int64) (hd : decode bytes pc = .ok (.lload_n i, 1)) (hq : pc + 1 = q) (hl : Ls[i.val]? = some (.val (.long x))) (K : own_Ends p e below G (T.setTop (mkF m q Ls (.long x :: st)))) : own_Ends p e below G (T.setTop (mkF m pc Ls st)) := by
  subst hq
  obtain ⟨⟨locs, Y, N⟩, eT, hs0, hx, hZ, hby, hml, hown, hret, hlk, hnm⟩ := X
  exact own_pre (fun t K => XS.lloadN Y.here hx rfl (hb hby hd) hl K) K
theorem own_lload (X : own_W p l e R s m args below meth c Z n0 y bytes ml ret T h k n) (q : Nat) {i : Nat} (x : Int64) (hd : decode bytes pc = .ok (.lload i, 2)) (hq : pc + 2 = q) (hl : Ls[i]? = some (.val (.long x))) (K : own_Ends p e below G (T.setTop (mkF m q Ls (.long x :: st)))) : own_Ends p e below G (T.setTop (mkF m pc Ls st)) := by
  subst hq
  obtain ⟨⟨locs, Y, N⟩, eT, hs0, hx, hZ, hby, hml, hown, hret, hlk, hnm⟩ := X
  exact own_pre (fun t K => XS.lload Y.here hx rfl (hb hby hd) hl K) K
theorem own_aloadN (X : own_W p l e R s m args below meth c Z n0 y bytes ml ret T h k n) (q : Nat) {i : Fin 4} (x : Value) (hd : decode bytes pc = .ok (.aload_n i, 1)) (hq : pc + 1 = q) (hl : Ls[i.val]? = some (.val x)) (hv : x.isRef = true) (K : own_Ends p e below G (T.setTop (mkF m q Ls (x :: st)))) : own_Ends p e below G (T.setTop (mkF m pc Ls st)) := by
  subst hq
  obtain ⟨⟨locs, Y, N⟩, eT, hs0, hx, hZ, hby, hml, hown, hret, hlk, hnm⟩ := X
  exact own_pre (fun t K => XS.aloadN Y.here hx rfl (hb hby hd) hl hv K) K
theorem own_aload (X : own_W p l e R s m args below meth c Z n0 y bytes ml ret T h k n) (q : Nat) {i : Nat} (x : Value) (hd : decode bytes pc = .ok (.aload i, 2)) (hq : pc + 2 = q) (hl : Ls[i]? = some (.val x)) (hv : x.isRef = true) (K : own_Ends p e below G (T.setTop (mkF m q Ls (x :: st)))) : own_Ends p e below G (T.setTop (mkF m pc Ls st)) := by
  subst hq
  obtain ⟨⟨locs, Y, N⟩, eT, hs0, hx, hZ, hby, hml, hown, hret, hlk, hnm⟩ := X
  exact own_pre (fun t K => XS.aload Y.here hx rfl (hb hby hd) hl hv K) K
theorem own_istoreN (X : own_W p l e R s m args below meth c Z n0 y bytes ml ret T h k n) (q : Nat) {i : Fin 4} {x : Int32} (l' : Array Slot) (hd : decode bytes pc = .ok (.istore_n i, 1)) (hq : pc + 1 = q) (hl : storeLocals Ls i.val (.int x) = some l') (K : own_Ends p e below G (T.setTop (mkF m q l' st))) : own_Ends p e below G (T.setTop (mkF m pc Ls (.int x :: st))) := by
  subst hq
  obtain ⟨⟨locs, Y, N⟩, eT, hs0, hx, hZ, hby, hml, hown, hret, hlk, hnm⟩ := X
  exact own_pre (fun t K => XS.istoreN Y.here hx rfl (hb hby hd) rfl hl K) K
theorem own_istore (X : own_W p l e R s m args below meth c Z n0 y bytes ml ret T h k n) (q : Nat) {i : Nat} {x : Int32} (l' : Array Slot) (hd : decode bytes pc = .ok (.istore i, 2)) (hq : pc + 2 = q) (hl : storeLocals Ls i (.int x) = some l') (K : own_Ends p e below G (T.setTop (mkF m q l' st))) : own_Ends p e below G (T.setTop (mkF m pc Ls (.int x :: st))) := by
  subst hq
  obtain ⟨⟨locs, Y, N⟩, eT, hs0, hx, hZ, hby, hml, hown, hret, hlk, hnm⟩ := X
  exact own_pre (fun t K => XS.istore Y.here hx rfl (hb hby hd) rfl hl K) K
theorem own_lstoreN (X : own_W p l e R s m args below meth c Z n0 y bytes ml ret T h k n) (q : Nat) {i : Fin 4} {x : Int64} (l' : Array Slot) (hd : decode bytes pc = .ok (.lstore_n i, 1)) (hq : pc + 1 = q) (hl : storeLocals Ls i.val (.long x) = some l') (K : own_Ends p e below G (T.setTop (mkF m q l' st))) : own_Ends p e below G (T.setTop (mkF m pc Ls (.long x :: st))) := by
  subst hq
  obtain ⟨⟨locs, Y, N⟩, eT, hs0, hx, hZ, hby, hml, hown, hret, hlk, hnm⟩ := X
  exact own_pre (fun t K => XS.lstoreN Y.here hx rfl (hb hby hd) rfl hl K) K
theorem own_lstore (X : own_W p l e R s m args below meth c Z n0 y bytes ml ret T h k n) (q : Nat) {i : Nat} {x : Int64} (l' : Array Slot) (hd : decode bytes pc = .ok (.lstore i, 2)) (hq : pc + 2 = q) (hl : storeLocals Ls i (.long x) = some l') (K : own_Ends p e below G (T.setTop (mkF m q l' st))) : own_Ends p e below G (T.setTop (mkF m pc Ls (.long x :: st))) := by
  subst hq
  obtain ⟨⟨locs, Y, N⟩, eT, hs0, hx, hZ, hby, hml, hown, hret, hlk, hnm⟩ := X
  exact own_pre (fun t K => XS.lstore Y.here hx rfl (hb hby hd) rfl hl K) K
theorem own_astoreN (X : own_W p l e R s m args below meth c Z n0 y bytes ml ret T h k n) (q : Nat) {i : Fin 4} {x : Value} (l' : Array Slot) (hd : decode bytes pc = .ok (.astore_n i, 1)) (hq : pc + 1 = q) (hv : x.isRef = true) (hl : storeLocals Ls i.val x = some l') (K : own_Ends p e below G (T.setTop (mkF m q l' st))) : own_Ends p e below G (T.setTop (mkF m pc Ls (x :: st))) := by
  subst hq
  obtain ⟨⟨locs, Y, N⟩, eT, hs0, hx, hZ, hby, hml, hown, hret, hlk, hnm⟩ := X
  exact own_pre (fun t K => XS.astoreN Y.here hx rfl (hb hby hd) rfl hv hl K) K
theorem own_astore (X : own_W p l e R s m args below meth c Z n0 y bytes ml ret T h k n) (q : Nat) {i : Nat} {x : Value} (l' : Array Slot) (hd : decode bytes pc = .ok (.astore i, 2)) (hq : pc + 2 = q) (hv : x.isRef = true) (hl : storeLocals Ls i x = some l') (K : own_Ends p e below G (T.setTop (mkF m q l' st))) : own_Ends p e below G (T.setTop (mkF m pc Ls (x :: st))) := by
  subst hq
  obtain ⟨⟨locs, Y, N⟩, eT, hs0, hx, hZ, hby, hml, hown, hret, hlk, hnm⟩ := X
  exact own_pre (fun t K => XS.astore Y.here hx rfl (hb hby hd) rfl hv hl K) K
theorem own_iconst (X : own_W p l e R s m args below meth c Z n0 y bytes ml ret T h k n) (q : Nat) {i : Int} (x : Int32) (hd : decode bytes pc = .ok (.iconst i, 1)) (hq : pc + 1 = q) (hv : Int32.ofInt i = x) (K : own_Ends p e below G (T.setTop (mkF m q Ls (.int x :: st)))) : own_Ends p e below G (T.setTop (mkF m pc Ls st)) := by
  subst hq
  obtain ⟨⟨locs, Y, N⟩, eT, hs0, hx, hZ, hby, hml, hown, hret, hlk, hnm⟩ := X
  exact own_pre (fun t K => XT.iconstV Y.here hx rfl x (hb hby hd) hv K) K
theorem own_bipush (X : own_W p l e R s m args below meth c Z n0 y bytes ml ret T h k n) (q : Nat) {i : Int} (x : Int32) (hd : decode bytes pc = .ok (.bipush i, 2)) (hq : pc + 2 = q) (hv : (Int8.ofInt i).toInt32 = x) (K : own_Ends p e below G (T.setTop (mkF m q Ls (.int x :: st)))) : own_Ends p e below G (T.setTop (mkF m pc Ls st)) := by
  subst hq
  obtain ⟨⟨locs, Y, N⟩, eT, hs0, hx, hZ, hby, hml, hown, hret, hlk, hnm⟩ := X
  exact own_pre (fun t K => XT.bipushV Y.here hx rfl x (hb hby hd) hv K) K
theorem own_sipush (X : own_W p l e R s m args below meth c Z n0 y bytes ml ret T h k n) (q : Nat) {i : Int} (x : Int32) (hd : decode bytes pc = .ok (.sipush i, 3)) (hq : pc + 3 = q) (hv : (Int16.ofInt i).toInt32 = x) (K : own_Ends p e below G (T.setTop (mkF m q Ls (.int x :: st)))) : own_Ends p e below G (T.setTop (mkF m pc Ls st)) := by
  subst hq
  obtain ⟨⟨locs, Y, N⟩, eT, hs0, hx, hZ, hby, hml, hown, hret, hlk, hnm⟩ := X
  exact own_pre (fun t K => XT.sipushV Y.here hx rfl x (hb hby hd) hv K) K
theorem own_lconst (X : own_W p l e R s m args below meth c Z n0 y bytes ml ret T h k n) (q : Nat) {i : Fin 2} (x : Int64) (hd : decode bytes pc = .ok (.lconst i, 1)) (hq : pc + 1 = q) (hv : Int64.ofNat i = x) (K : own_Ends p e below G (T.setTop (mkF m q Ls (.long x :: st)))) : own_Ends p e below G (T.setTop (mkF m pc Ls st)) := by
  subst hq
  obtain ⟨⟨locs, Y, N⟩, eT, hs0, hx, hZ, hby, hml, hown, hret, hlk, hnm⟩ := X
  exact own_pre (fun t K => XT.lconstV Y.here hx rfl x (hb hby hd) hv K) K
theorem own_anull (X : own_W p l e R s m args below meth c Z n0 y bytes ml ret T h k n) (q : Nat)  (hd : decode bytes pc = .ok (.aconst_null, 1)) (hq : pc + 1 = q)  (K : own_Ends p e below G (T.setTop (mkF m q Ls (.null :: st)))) : own_Ends p e below G (T.setTop (mkF m pc Ls st)) := by
  subst hq
  obtain ⟨⟨locs, Y, N⟩, eT, hs0, hx, hZ, hby, hml, hown, hret, hlk, hnm⟩ := X
  exact own_pre (fun t K => XS.aconstNull Y.here hx rfl (hb hby hd) K) K
theorem own_ldcI (X : own_W p l e R s m args below meth c Z n0 y bytes ml ret T h k n) (q : Nat) {i : Nat} {x : Int32} (hd : decode bytes pc = .ok (.ldc i, 2)) (hq : pc + 2 = q) (w : (Jvm.Cond.constant y.cls i x).before a0 Z = true) (K : own_Ends p e below G (T.setTop (mkF m q Ls (.int x :: st)))) : own_Ends p e below G (T.setTop (mkF m pc Ls st)) := by
  subst hq
  obtain ⟨⟨locs, Y, N⟩, eT, hs0, hx, hZ, hby, hml, hown, hret, hlk, hnm⟩ := X
  exact own_pre (fun t K => Y.ldcI hx hown (mvT hZ w) rfl (hb hby hd) K) K
theorem own_ldcwI (X : own_W p l e R s m args below meth c Z n0 y bytes ml ret T h k n) (q : Nat) {i : Nat} {x : Int32} (hd : decode bytes pc = .ok (.ldc_w i, 3)) (hq : pc + 3 = q) (w : (Jvm.Cond.constant y.cls i x).before a0 Z = true) (K : own_Ends p e below G (T.setTop (mkF m q Ls (.int x :: st)))) : own_Ends p e below G (T.setTop (mkF m pc Ls st)) := by
  subst hq
  obtain ⟨⟨locs, Y, N⟩, eT, hs0, hx, hZ, hby, hml, hown, hret, hlk, hnm⟩ := X
  exact own_pre (fun t K => Y.ldcWI hx hown (mvT hZ w) rfl (hb hby hd) K) K
theorem own_ldc2J (X : own_W p l e R s m args below meth c Z n0 y bytes ml ret T h k n) (q : Nat) {i : Nat} {x : Int64} (hd : decode bytes pc = .ok (.ldc2_w i, 3)) (hq : pc + 3 = q) (w : (Jvm.Cond.constantLong y.cls i x).before a0 Z = true) (K : own_Ends p e below G (T.setTop (mkF m q Ls (.long x :: st)))) : own_Ends p e below G (T.setTop (mkF m pc Ls st)) := by
  subst hq
  obtain ⟨⟨locs, Y, N⟩, eT, hs0, hx, hZ, hby, hml, hown, hret, hlk, hnm⟩ := X
  exact own_pre (fun t K => Y.ldc2J hx hown (mvT hZ w) rfl (hb hby hd) K) K
theorem own_iadd (X : own_W p l e R s m args below meth c Z n0 y bytes ml ret T h k n) (q : Nat) {x z : Int32} (hd : decode bytes pc = .ok (.iadd, 1)) (hq : pc + 1 = q)  (K : own_Ends p e below G (T.setTop (mkF m q Ls (.int (x + z) :: st)))) : own_Ends p e below G (T.setTop (mkF m pc Ls (.int z :: .int x :: st))) := by
  subst hq
  obtain ⟨⟨locs, Y, N⟩, eT, hs0, hx, hZ, hby, hml, hown, hret, hlk, hnm⟩ := X
  exact own_pre (fun t K => XS.iadd Y.here hx rfl (hb hby hd) rfl K) K
theorem own_isub (X : own_W p l e R s m args below meth c Z n0 y bytes ml ret T h k n) (q : Nat) {x z : Int32} (hd : decode bytes pc = .ok (.isub, 1)) (hq : pc + 1 = q)  (K : own_Ends p e below G (T.setTop (mkF m q Ls (.int (x - z) :: st)))) : own_Ends p e below G (T.setTop (mkF m pc Ls (.int z :: .int x :: st))) := by
  subst hq
  obtain ⟨⟨locs, Y, N⟩, eT, hs0, hx, hZ, hby, hml, hown, hret, hlk, hnm⟩ := X
  exact own_pre (fun t K => XS.isub Y.here hx rfl (hb hby hd) rfl K) K
theorem own_imul (X : own_W p l e R s m args below meth c Z n0 y bytes ml ret T h k n) (q : Nat) {x z : Int32} (hd : decode bytes pc = .ok (.imul, 1)) (hq : pc + 1 = q)  (K : own_Ends p e below G (T.setTop (mkF m q Ls (.int (x * z) :: st)))) : own_Ends p e below G (T.setTop (mkF m pc Ls (.int z :: .int x :: st))) := by
  subst hq
  obtain ⟨⟨locs, Y, N⟩, eT, hs0, hx, hZ, hby, hml, hown, hret, hlk, hnm⟩ := X
  exact own_pre (fun t K => XS.imul Y.here hx rfl (hb hby hd) rfl K) K
theorem own_iand (X : own_W p l e R s m args below meth c Z n0 y bytes ml ret T h k n) (q : Nat) {x z : Int32} (hd : decode bytes pc = .ok (.iand, 1)) (hq : pc + 1 = q)  (K : own_Ends p e below G (T.setTop (mkF m q Ls (.int (x &&& z) :: st)))) : own_Ends p e below G (T.setTop (mkF m pc Ls (.int z :: .int x :: st))) := by
  subst hq
  obtain ⟨⟨locs, Y, N⟩, eT, hs0, hx, hZ, hby, hml, hown, hret, hlk, hnm⟩ := X
  exact own_pre (fun t K => XS.iand Y.here hx rfl (hb hby hd) rfl K) K
theorem own_ior (X : own_W p l e R s m args below meth c Z n0 y bytes ml ret T h k n) (q : Nat) {x z : Int32} (hd : decode bytes pc = .ok (.ior, 1)) (hq : pc + 1 = q)  (K : own_Ends p e below G (T.setTop (mkF m q Ls (.int (x ||| z) :: st)))) : own_Ends p e below G (T.setTop (mkF m pc Ls (.int z :: .int x :: st))) := by
  subst hq
  obtain ⟨⟨locs, Y, N⟩, eT, hs0, hx, hZ, hby, hml, hown, hret, hlk, hnm⟩ := X
  exact own_pre (fun t K => XS.ior Y.here hx rfl (hb hby hd) rfl K) K
theorem own_ixor (X : own_W p l e R s m args below meth c Z n0 y bytes ml ret T h k n) (q : Nat) {x z : Int32} (hd : decode bytes pc = .ok (.ixor, 1)) (hq : pc + 1 = q)  (K : own_Ends p e below G (T.setTop (mkF m q Ls (.int (x ^^^ z) :: st)))) : own_Ends p e below G (T.setTop (mkF m pc Ls (.int z :: .int x :: st))) := by
  subst hq
  obtain ⟨⟨locs, Y, N⟩, eT, hs0, hx, hZ, hby, hml, hown, hret, hlk, hnm⟩ := X
  exact own_pre (fun t K => XS.ixor Y.here hx rfl (hb hby hd) rfl K) K
theorem own_ishl (X : own_W p l e R s m args below meth c Z n0 y bytes ml ret T h k n) (q : Nat) {x z : Int32} (hd : decode bytes pc = .ok (.ishl, 1)) (hq : pc + 1 = q)  (K : own_Ends p e below G (T.setTop (mkF m q Ls (.int (x <<< (z &&& 31)) :: st)))) : own_Ends p e below G (T.setTop (mkF m pc Ls (.int z :: .int x :: st))) := by
  subst hq
  obtain ⟨⟨locs, Y, N⟩, eT, hs0, hx, hZ, hby, hml, hown, hret, hlk, hnm⟩ := X
  exact own_pre (fun t K => XS.ishl Y.here hx rfl (hb hby hd) rfl K) K
theorem own_ishr (X : own_W p l e R s m args below meth c Z n0 y bytes ml ret T h k n) (q : Nat) {x z : Int32} (hd : decode bytes pc = .ok (.ishr, 1)) (hq : pc + 1 = q)  (K : own_Ends p e below G (T.setTop (mkF m q Ls (.int (x >>> (z &&& 31)) :: st)))) : own_Ends p e below G (T.setTop (mkF m pc Ls (.int z :: .int x :: st))) := by
  subst hq
  obtain ⟨⟨locs, Y, N⟩, eT, hs0, hx, hZ, hby, hml, hown, hret, hlk, hnm⟩ := X
  exact own_pre (fun t K => XS.ishr Y.here hx rfl (hb hby hd) rfl K) K
theorem own_iushr (X : own_W p l e R s m args below meth c Z n0 y bytes ml ret T h k n) (q : Nat) {x z : Int32} (hd : decode bytes pc = .ok (.iushr, 1)) (hq : pc + 1 = q)  (K : own_Ends p e below G (T.setTop (mkF m q Ls (.int (XT.ushr x z) :: st)))) : own_Ends p e below G (T.setTop (mkF m pc Ls (.int z :: .int x :: st))) := by
  subst hq
  obtain ⟨⟨locs, Y, N⟩, eT, hs0, hx, hZ, hby, hml, hown, hret, hlk, hnm⟩ := X
  exact own_pre (fun t K => XT.iushr Y.here hx rfl (hb hby hd) rfl K) K
theorem own_idiv (X : own_W p l e R s m args below meth c Z n0 y bytes ml ret T h k n) (q : Nat) {x z : Int32} (hd : decode bytes pc = .ok (.idiv, 1)) (hq : pc + 1 = q) (hz : z ≠ 0) (K : own_Ends p e below G (T.setTop (mkF m q Ls (.int (x / z) :: st)))) : own_Ends p e below G (T.setTop (mkF m pc Ls (.int z :: .int x :: st))) := by
  subst hq
  obtain ⟨⟨locs, Y, N⟩, eT, hs0, hx, hZ, hby, hml, hown, hret, hlk, hnm⟩ := X
  exact own_pre (fun t K => XS.idiv Y.here hx rfl (hb hby hd) rfl hz K) K
theorem own_irem (X : own_W p l e R s m args below meth c Z n0 y bytes ml ret T h k n) (q : Nat) {x z : Int32} (hd : decode bytes pc = .ok (.irem, 1)) (hq : pc + 1 = q) (hz : z ≠ 0) (K : own_Ends p e below G (T.setTop (mkF m q Ls (.int (x % z) :: st)))) : own_Ends p e below G (T.setTop (mkF m pc Ls (.int z :: .int x :: st))) := by
  subst hq
  obtain ⟨⟨locs, Y, N⟩, eT, hs0, hx, hZ, hby, hml, hown, hret, hlk, hnm⟩ := X
  exact own_pre (fun t K => iremM Y hx rfl (hb hby hd) rfl hz K) K
theorem own_ineg (X : own_W p l e R s m args below meth c Z n0 y bytes ml ret T h k n) (q : Nat) {x : Int32} (hd : decode bytes pc = .ok (.ineg, 1)) (hq : pc + 1 = q)  (K : own_Ends p e below G (T.setTop (mkF m q Ls (.int (-x) :: st)))) : own_Ends p e below G (T.setTop (mkF m pc Ls (.int x :: st))) := by
  subst hq
  obtain ⟨⟨locs, Y, N⟩, eT, hs0, hx, hZ, hby, hml, hown, hret, hlk, hnm⟩ := X
  exact own_pre (fun t K => XS.ineg Y.here hx rfl (hb hby hd) rfl K) K
theorem own_i2b (X : own_W p l e R s m args below meth c Z n0 y bytes ml ret T h k n) (q : Nat) {x : Int32} (hd : decode bytes pc = .ok (.i2b, 1)) (hq : pc + 1 = q)  (K : own_Ends p e below G (T.setTop (mkF m q Ls (.int (x.toInt8.toInt32) :: st)))) : own_Ends p e below G (T.setTop (mkF m pc Ls (.int x :: st))) := by
  subst hq
  obtain ⟨⟨locs, Y, N⟩, eT, hs0, hx, hZ, hby, hml, hown, hret, hlk, hnm⟩ := X
  exact own_pre (fun t K => XS.i2b Y.here hx rfl (hb hby hd) rfl K) K
theorem own_i2s (X : own_W p l e R s m args below meth c Z n0 y bytes ml ret T h k n) (q : Nat) {x : Int32} (hd : decode bytes pc = .ok (.i2s, 1)) (hq : pc + 1 = q)  (K : own_Ends p e below G (T.setTop (mkF m q Ls (.int (x.toInt16.toInt32) :: st)))) : own_Ends p e below G (T.setTop (mkF m pc Ls (.int x :: st))) := by
  subst hq
  obtain ⟨⟨locs, Y, N⟩, eT, hs0, hx, hZ, hby, hml, hown, hret, hlk, hnm⟩ := X
  exact own_pre (fun t K => XS.i2s Y.here hx rfl (hb hby hd) rfl K) K
theorem own_i2c (X : own_W p l e R s m args below meth c Z n0 y bytes ml ret T h k n) (q : Nat) {x : Int32} (hd : decode bytes pc = .ok (.i2c, 1)) (hq : pc + 1 = q)  (K : own_Ends p e below G (T.setTop (mkF m q Ls (.int (x.toUInt32.toUInt16.toUInt32.toInt32) :: st)))) : own_Ends p e below G (T.setTop (mkF m pc Ls (.int x :: st))) := by
  subst hq
  obtain ⟨⟨locs, Y, N⟩, eT, hs0, hx, hZ, hby, hml, hown, hret, hlk, hnm⟩ := X
  exact own_pre (fun t K => XS.i2c Y.here hx rfl (hb hby hd) rfl K) K
theorem own_i2l (X : own_W p l e R s m args below meth c Z n0 y bytes ml ret T h k n) (q : Nat) {x : Int32} (hd : decode bytes pc = .ok (.i2l, 1)) (hq : pc + 1 = q)  (K : own_Ends p e below G (T.setTop (mkF m q Ls (.long x.toInt64 :: st)))) : own_Ends p e below G (T.setTop (mkF m pc Ls (.int x :: st))) := by
  subst hq
  obtain ⟨⟨locs, Y, N⟩, eT, hs0, hx, hZ, hby, hml, hown, hret, hlk, hnm⟩ := X
  exact own_pre (fun t K => XS.i2l Y.here hx rfl (hb hby hd) rfl K) K
theorem own_l2i (X : own_W p l e R s m args below meth c Z n0 y bytes ml ret T h k n) (q : Nat) {x : Int64} (hd : decode bytes pc = .ok (.l2i, 1)) (hq : pc + 1 = q)  (K : own_Ends p e below G (T.setTop (mkF m q Ls (.int x.toInt32 :: st)))) : own_Ends p e below G (T.setTop (mkF m pc Ls (.long x :: st))) := by
  subst hq
  obtain ⟨⟨locs, Y, N⟩, eT, hs0, hx, hZ, hby, hml, hown, hret, hlk, hnm⟩ := X
  exact own_pre (fun t K => XS.l2i Y.here hx rfl (hb hby hd) rfl K) K
theorem own_ladd (X : own_W p l e R s m args below meth c Z n0 y bytes ml ret T h k n) (q : Nat) {x z : Int64} (hd : decode bytes pc = .ok (.ladd, 1)) (hq : pc + 1 = q)  (K : own_Ends p e below G (T.setTop (mkF m q Ls (.long (x + z) :: st)))) : own_Ends p e below G (T.setTop (mkF m pc Ls (.long z :: .long x :: st))) := by
  subst hq
  obtain ⟨⟨locs, Y, N⟩, eT, hs0, hx, hZ, hby, hml, hown, hret, hlk, hnm⟩ := X
  exact own_pre (fun t K => XS.ladd Y.here hx rfl (hb hby hd) rfl K) K
theorem own_lsub (X : own_W p l e R s m args below meth c Z n0 y bytes ml ret T h k n) (q : Nat) {x z : Int64} (hd : decode bytes pc = .ok (.lsub, 1)) (hq : pc + 1 = q)  (K : own_Ends p e below G (T.setTop (mkF m q Ls (.long (x - z) :: st)))) : own_Ends p e below G (T.setTop (mkF m pc Ls (.long z :: .long x :: st))) := by
  subst hq
  obtain ⟨⟨locs, Y, N⟩, eT, hs0, hx, hZ, hby, hml, hown, hret, hlk, hnm⟩ := X
  exact own_pre (fun t K => XS.lsub Y.here hx rfl (hb hby hd) rfl K) K
theorem own_lmul (X : own_W p l e R s m args below meth c Z n0 y bytes ml ret T h k n) (q : Nat) {x z : Int64} (hd : decode bytes pc = .ok (.lmul, 1)) (hq : pc + 1 = q)  (K : own_Ends p e below G (T.setTop (mkF m q Ls (.long (x * z) :: st)))) : own_Ends p e below G (T.setTop (mkF m pc Ls (.long z :: .long x :: st))) := by
  subst hq
  obtain ⟨⟨locs, Y, N⟩, eT, hs0, hx, hZ, hby, hml, hown, hret, hlk, hnm⟩ := X
  exact own_pre (fun t K => XS.lmul Y.here hx rfl (hb hby hd) rfl K) K
theorem own_land (X : own_W p l e R s m args below meth c Z n0 y bytes ml ret T h k n) (q : Nat) {x z : Int64} (hd : decode bytes pc = .ok (.land, 1)) (hq : pc + 1 = q)  (K : own_Ends p e below G (T.setTop (mkF m q Ls (.long (x &&& z) :: st)))) : own_Ends p e below G (T.setTop (mkF m pc Ls (.long z :: .long x :: st))) := by
  subst hq
  obtain ⟨⟨locs, Y, N⟩, eT, hs0, hx, hZ, hby, hml, hown, hret, hlk, hnm⟩ := X
  exact own_pre (fun t K => XS.land Y.here hx rfl (hb hby hd) rfl K) K
theorem own_lor (X : own_W p l e R s m args below meth c Z n0 y bytes ml ret T h k n) (q : Nat) {x z : Int64} (hd : decode bytes pc = .ok (.lor, 1)) (hq : pc + 1 = q)  (K : own_Ends p e below G (T.setTop (mkF m q Ls (.long (x ||| z) :: st)))) : own_Ends p e below G (T.setTop (mkF m pc Ls (.long z :: .long x :: st))) := by
  subst hq
  obtain ⟨⟨locs, Y, N⟩, eT, hs0, hx, hZ, hby, hml, hown, hret, hlk, hnm⟩ := X
  exact own_pre (fun t K => XS.lor Y.here hx rfl (hb hby hd) rfl K) K
theorem own_lxor (X : own_W p l e R s m args below meth c Z n0 y bytes ml ret T h k n) (q : Nat) {x z : Int64} (hd : decode bytes pc = .ok (.lxor, 1)) (hq : pc + 1 = q)  (K : own_Ends p e below G (T.setTop (mkF m q Ls (.long (x ^^^ z) :: st)))) : own_Ends p e below G (T.setTop (mkF m pc Ls (.long z :: .long x :: st))) := by
  subst hq
  obtain ⟨⟨locs, Y, N⟩, eT, hs0, hx, hZ, hby, hml, hown, hret, hlk, hnm⟩ := X
  exact own_pre (fun t K => XS.lxor Y.here hx rfl (hb hby hd) rfl K) K
theorem own_lushr (X : own_W p l e R s m args below meth c Z n0 y bytes ml ret T h k n) (q : Nat) {x : Int64} {z : Int32} (hd : decode bytes pc = .ok (.lushr, 1)) (hq : pc + 1 = q)  (K : own_Ends p e below G (T.setTop (mkF m q Ls (.long (XT.ushrL x z) :: st)))) : own_Ends p e below G (T.setTop (mkF m pc Ls (.int z :: .long x :: st))) := by
  subst hq
  obtain ⟨⟨locs, Y, N⟩, eT, hs0, hx, hZ, hby, hml, hown, hret, hlk, hnm⟩ := X
  exact own_pre (fun t K => XT.lushr Y.here hx rfl (hb hby hd) rfl K) K
theorem own_ldiv (X : own_W p l e R s m args below meth c Z n0 y bytes ml ret T h k n) (q : Nat) {x z : Int64} (hd : decode bytes pc = .ok (.ldiv, 1)) (hq : pc + 1 = q) (hz : z ≠ 0) (K : own_Ends p e below G (T.setTop (mkF m q Ls (.long (x / z) :: st)))) : own_Ends p e below G (T.setTop (mkF m pc Ls (.long z :: .long x :: st))) := by
  subst hq
  obtain ⟨⟨locs, Y, N⟩, eT, hs0, hx, hZ, hby, hml, hown, hret, hlk, hnm⟩ := X
  exact own_pre (fun t K => XS.ldiv Y.here hx rfl (hb hby hd) rfl hz K) K
theorem own_lrem (X : own_W p l e R s m args below meth c Z n0 y bytes ml ret T h k n) (q : Nat) {x z : Int64} (hd : decode bytes pc = .ok (.lrem, 1)) (hq : pc + 1 = q) (hz : z ≠ 0) (K : own_Ends p e below G (T.setTop (mkF m q Ls (.long (x - (x / z) * z) :: st)))) : own_Ends p e below G (T.setTop (mkF m pc Ls (.long z :: .long x :: st))) := by
  subst hq
  obtain ⟨⟨locs, Y, N⟩, eT, hs0, hx, hZ, hby, hml, hown, hret, hlk, hnm⟩ := X
  exact own_pre (fun t K => XS.lrem Y.here hx rfl (hb hby hd) rfl hz K) K
theorem own_lneg (X : own_W p l e R s m args below meth c Z n0 y bytes ml ret T h k n) (q : Nat) {x : Int64} (hd : decode bytes pc = .ok (.lneg, 1)) (hq : pc + 1 = q)  (K : own_Ends p e below G (T.setTop (mkF m q Ls (.long (-x) :: st)))) : own_Ends p e below G (T.setTop (mkF m pc Ls (.long x :: st))) := by
  subst hq
  obtain ⟨⟨locs, Y, N⟩, eT, hs0, hx, hZ, hby, hml, hown, hret, hlk, hnm⟩ := X
  exact own_pre (fun t K => XS.lneg Y.here hx rfl (hb hby hd) rfl K) K
theorem own_lcmp (X : own_W p l e R s m args below meth c Z n0 y bytes ml ret T h k n) (q : Nat) {x z : Int64} (hd : decode bytes pc = .ok (.lcmp, 1)) (hq : pc + 1 = q)  (K : own_Ends p e below G (T.setTop (mkF m q Ls (.int (XT.cmpL x z) :: st)))) : own_Ends p e below G (T.setTop (mkF m pc Ls (.long z :: .long x :: st))) := by
  subst hq
  obtain ⟨⟨locs, Y, N⟩, eT, hs0, hx, hZ, hby, hml, hown, hret, hlk, hnm⟩ := X
  exact own_pre (fun t K => XT.lcmp Y.here hx rfl (hb hby hd) rfl K) K
theorem own_iinc (X : own_W p l e R s m args below meth c Z n0 y bytes ml ret T h k n) (q : Nat) {i : Nat} {cst : Int} {x : Int32} (v : Int32) (l' : Array Slot) (hd : decode bytes pc = .ok (.iinc i cst, 3)) (hq : pc + 3 = q) (hv : Int32.ofInt cst = v) (hl : Ls[i]? = some (.val (.int x))) (hl' : storeLocals Ls i (.int (x + v)) = some l') (K : own_Ends p e below G (T.setTop (mkF m q l' st))) : own_Ends p e below G (T.setTop (mkF m pc Ls st)) := by
  subst hq
  obtain ⟨⟨locs, Y, N⟩, eT, hs0, hx, hZ, hby, hml, hown, hret, hlk, hnm⟩ := X
  exact own_pre (fun t K => XT.iincV Y.here hx rfl v (hb hby hd) hv hl hl' K) K
theorem own_dup (X : own_W p l e R s m args below meth c Z n0 y bytes ml ret T h k n) (q : Nat) {x : Value} (hd : decode bytes pc = .ok (.dup, 1)) (hq : pc + 1 = q) (hc : x.category = 1) (K : own_Ends p e below G (T.setTop (mkF m q Ls (x :: x :: st)))) : own_Ends p e below G (T.setTop (mkF m pc Ls (x :: st))) := by
  subst hq
  obtain ⟨⟨locs, Y, N⟩, eT, hs0, hx, hZ, hby, hml, hown, hret, hlk, hnm⟩ := X
  exact own_pre (fun t K => XS.dup Y.here hx rfl (hb hby hd) rfl hc K) K
theorem own_dupX1 (X : own_W p l e R s m args below meth c Z n0 y bytes ml ret T h k n) (q : Nat) {x z : Value} (hd : decode bytes pc = .ok (.dup_x1, 1)) (hq : pc + 1 = q) (hc : x.category = 1) (hc' : z.category = 1) (K : own_Ends p e below G (T.setTop (mkF m q Ls (x :: z :: x :: st)))) : own_Ends p e below G (T.setTop (mkF m pc Ls (x :: z :: st))) := by
  subst hq
  obtain ⟨⟨locs, Y, N⟩, eT, hs0, hx, hZ, hby, hml, hown, hret, hlk, hnm⟩ := X
  exact own_pre (fun t K => XS.dupX1 Y.here hx rfl (hb hby hd) rfl hc hc' K) K
theorem own_dup2 (X : own_W p l e R s m args below meth c Z n0 y bytes ml ret T h k n) (q : Nat) {x z : Value} (hd : decode bytes pc = .ok (.dup2, 1)) (hq : pc + 1 = q) (hc : x.category = 1) (hc' : z.category = 1) (K : own_Ends p e below G (T.setTop (mkF m q Ls (x :: z :: x :: z :: st)))) : own_Ends p e below G (T.setTop (mkF m pc Ls (x :: z :: st))) := by
  subst hq
  obtain ⟨⟨locs, Y, N⟩, eT, hs0, hx, hZ, hby, hml, hown, hret, hlk, hnm⟩ := X
  exact own_pre (fun t K => XT.dup2 Y.here hx rfl (hb hby hd) rfl hc hc' K) K
theorem own_dup2L (X : own_W p l e R s m args below meth c Z n0 y bytes ml ret T h k n) (q : Nat) {x : Int64} (hd : decode bytes pc = .ok (.dup2, 1)) (hq : pc + 1 = q)  (K : own_Ends p e below G (T.setTop (mkF m q Ls (.long x :: .long x :: st)))) : own_Ends p e below G (T.setTop (mkF m pc Ls (.long x :: st))) := by
  subst hq
  obtain ⟨⟨locs, Y, N⟩, eT, hs0, hx, hZ, hby, hml, hown, hret, hlk, hnm⟩ := X
  exact own_pre (fun t K => XT.dup2L Y.here hx rfl (hb hby hd) rfl K) K
theorem own_pop (X : own_W p l e R s m args below meth c Z n0 y bytes ml ret T h k n) (q : Nat) {x : Value} (hd : decode bytes pc = .ok (.pop, 1)) (hq : pc + 1 = q) (hc : x.category = 1) (K : own_Ends p e below G (T.setTop (mkF m q Ls st))) : own_Ends p e below G (T.setTop (mkF m pc Ls (x :: st))) := by
  subst hq
  obtain ⟨⟨locs, Y, N⟩, eT, hs0, hx, hZ, hby, hml, hown, hret, hlk, hnm⟩ := X
  exact own_pre (fun t K => XS.pop Y.here hx rfl (hb hby hd) rfl hc K) K
theorem own_goto (X : own_W p l e R s m args below meth c Z n0 y bytes ml ret T h k n) (q : Nat) {o : Int}  (hd : decode bytes pc = .ok (.goto o, 3)) (ho : 0 ≤ (pc : Int) + o) (hq : ((pc : Int) + o).toNat = q)  (K : own_Ends p e below G (T.setTop (mkF m q Ls st))) : own_Ends p e below G (T.setTop (mkF m pc Ls st)) := by
  obtain ⟨⟨locs, Y, N⟩, eT, hs0, hx, hZ, hby, hml, hown, hret, hlk, hnm⟩ := X
  exact own_pre (fun t K => XS.goto Y.here hx rfl rfl (hb hby hd) ho hq K) K
theorem own_ifY (X : own_W p l e R s m args below meth c Z n0 y bytes ml ret T h k n) (q : Nat) {o : Int} {cd : ClassFile.Cond} {x : Int32} (hd : decode bytes pc = .ok (.ifCond cd o, 3)) (ho : 0 ≤ (pc : Int) + o) (hq : ((pc : Int) + o).toNat = q) (hc : ifCond.holds cd x = true) (K : own_Ends p e below G (T.setTop (mkF m q Ls st))) : own_Ends p e below G (T.setTop (mkF m pc Ls (.int x :: st))) := by
  obtain ⟨⟨locs, Y, N⟩, eT, hs0, hx, hZ, hby, hml, hown, hret, hlk, hnm⟩ := X
  exact own_pre (fun t K => XS.ifYes Y.here hx rfl rfl (hb hby hd) rfl hc ho hq K) K
theorem own_ifN (X : own_W p l e R s m args below meth c Z n0 y bytes ml ret T h k n) (q : Nat) {o : Int} {cd : ClassFile.Cond} {x : Int32} (hd : decode bytes pc = .ok (.ifCond cd o, 3)) (hq : pc + 3 = q) (hc : ifCond.holds cd x = false) (K : own_Ends p e below G (T.setTop (mkF m q Ls st))) : own_Ends p e below G (T.setTop (mkF m pc Ls (.int x :: st))) := by
  subst hq
  obtain ⟨⟨locs, Y, N⟩, eT, hs0, hx, hZ, hby, hml, hown, hret, hlk, hnm⟩ := X
  exact own_pre (fun t K => XS.ifNo Y.here hx rfl (hb hby hd) rfl hc K) K
theorem own_icY (X : own_W p l e R s m args below meth c Z n0 y bytes ml ret T h k n) (q : Nat) {o : Int} {cd : ClassFile.Cond} {x z : Int32} (hd : decode bytes pc = .ok (.if_icmp cd o, 3)) (ho : 0 ≤ (pc : Int) + o) (hq : ((pc : Int) + o).toNat = q) (hc : if_icmp.holds cd x z = true) (K : own_Ends p e below G (T.setTop (mkF m q Ls st))) : own_Ends p e below G (T.setTop (mkF m pc Ls (.int z :: .int x :: st))) := by
  obtain ⟨⟨locs, Y, N⟩, eT, hs0, hx, hZ, hby, hml, hown, hret, hlk, hnm⟩ := X
  exact own_pre (fun t K => XS.icmpYes Y.here hx rfl rfl (hb hby hd) rfl hc ho hq K) K
theorem own_icN (X : own_W p l e R s m args below meth c Z n0 y bytes ml ret T h k n) (q : Nat) {o : Int} {cd : ClassFile.Cond} {x z : Int32} (hd : decode bytes pc = .ok (.if_icmp cd o, 3)) (hq : pc + 3 = q) (hc : if_icmp.holds cd x z = false) (K : own_Ends p e below G (T.setTop (mkF m q Ls st))) : own_Ends p e below G (T.setTop (mkF m pc Ls (.int z :: .int x :: st))) := by
  subst hq
  obtain ⟨⟨locs, Y, N⟩, eT, hs0, hx, hZ, hby, hml, hown, hret, hlk, hnm⟩ := X
  exact own_pre (fun t K => XS.icmpNo Y.here hx rfl (hb hby hd) rfl hc K) K
theorem own_nullY (X : own_W p l e R s m args below meth c Z n0 y bytes ml ret T h k n) (q : Nat) {o : Int}  (hd : decode bytes pc = .ok (.ifnull o, 3)) (ho : 0 ≤ (pc : Int) + o) (hq : ((pc : Int) + o).toNat = q)  (K : own_Ends p e below G (T.setTop (mkF m q Ls st))) : own_Ends p e below G (T.setTop (mkF m pc Ls (.null :: st))) := by
  obtain ⟨⟨locs, Y, N⟩, eT, hs0, hx, hZ, hby, hml, hown, hret, hlk, hnm⟩ := X
  exact own_pre (fun t K => XS.ifnullYes Y.here hx rfl rfl (hb hby hd) rfl ho hq K) K
theorem own_nullN (X : own_W p l e R s m args below meth c Z n0 y bytes ml ret T h k n) (q : Nat) {o : Int} {b : Addr} (hd : decode bytes pc = .ok (.ifnull o, 3)) (hq : pc + 3 = q)  (K : own_Ends p e below G (T.setTop (mkF m q Ls st))) : own_Ends p e below G (T.setTop (mkF m pc Ls (.ref b :: st))) := by
  subst hq
  obtain ⟨⟨locs, Y, N⟩, eT, hs0, hx, hZ, hby, hml, hown, hret, hlk, hnm⟩ := X
  exact own_pre (fun t K => XS.ifnullNo Y.here hx rfl (hb hby hd) rfl K) K
theorem own_nonnullY (X : own_W p l e R s m args below meth c Z n0 y bytes ml ret T h k n) (q : Nat) {o : Int} {b : Addr} (hd : decode bytes pc = .ok (.ifnonnull o, 3)) (ho : 0 ≤ (pc : Int) + o) (hq : ((pc : Int) + o).toNat = q)  (K : own_Ends p e below G (T.setTop (mkF m q Ls st))) : own_Ends p e below G (T.setTop (mkF m pc Ls (.ref b :: st))) := by
  obtain ⟨⟨locs, Y, N⟩, eT, hs0, hx, hZ, hby, hml, hown, hret, hlk, hnm⟩ := X
  exact own_pre (fun t K => XS.ifnonnullYes Y.here hx rfl rfl (hb hby hd) rfl ho hq K) K
theorem own_nonnullN (X : own_W p l e R s m args below meth c Z n0 y bytes ml ret T h k n) (q : Nat) {o : Int}  (hd : decode bytes pc = .ok (.ifnonnull o, 3)) (hq : pc + 3 = q)  (K : own_Ends p e below G (T.setTop (mkF m q Ls st))) : own_Ends p e below G (T.setTop (mkF m pc Ls (.null :: st))) := by
  subst hq
  obtain ⟨⟨locs, Y, N⟩, eT, hs0, hx, hZ, hby, hml, hown, hret, hlk, hnm⟩ := X
  exact own_pre (fun t K => XS.ifnonnullNo Y.here hx rfl (hb hby hd) rfl K) K
theorem own_acY (X : own_W p l e R s m args below meth c Z n0 y bytes ml ret T h k n) (q : Nat) {o : Int} {cd : ClassFile.ACond} {x z : Value} (hd : decode bytes pc = .ok (.if_acmp cd o, 3)) (ho : 0 ≤ (pc : Int) + o) (hq : ((pc : Int) + o).toNat = q) (hx' : x.isRef = true) (hz' : z.isRef = true) (hc : XT.acmp cd x z = true) (K : own_Ends p e below G (T.setTop (mkF m q Ls st))) : own_Ends p e below G (T.setTop (mkF m pc Ls (z :: x :: st))) := by
  obtain ⟨⟨locs, Y, N⟩, eT, hs0, hx, hZ, hby, hml, hown, hret, hlk, hnm⟩ := X
  exact own_pre (fun t K => XT.acmpYes Y.here hx rfl rfl (hb hby hd) rfl hx' hz' hc ho hq K) K
theorem own_acN (X : own_W p l e R s m args below meth c Z n0 y bytes ml ret T h k n) (q : Nat) {o : Int} {cd : ClassFile.ACond} {x z : Value} (hd : decode bytes pc = .ok (.if_acmp cd o, 3)) (hq : pc + 3 = q) (hx' : x.isRef = true) (hz' : z.isRef = true) (hc : XT.acmp cd x z = false) (K : own_Ends p e below G (T.setTop (mkF m q Ls st))) : own_Ends p e below G (T.setTop (mkF m pc Ls (z :: x :: st))) := by
  subst hq
  obtain ⟨⟨locs, Y, N⟩, eT, hs0, hx, hZ, hby, hml, hown, hret, hlk, hnm⟩ := X
  exact own_pre (fun t K => XT.acmpNo Y.here hx rfl (hb hby hd) rfl hx' hz' hc K) K
theorem own_getF (X : own_W p l e R s m args below meth c Z n0 y bytes ml ret T h k n) (q : Nat) {R0 O nm d : String} {i : Nat} {a : Addr} {v : Value} (hd : decode bytes pc = .ok (.getfield i, 3)) (hq : pc + 3 = q) (w : (Jvm.Cond.fieldLink y.cls i R0 nm d).before a0 Z = true) (via : Via Z R0 O nm d) (F : Fld Z h a O nm d v)
    (K : ∀ T', own_W p l e R s m args below meth c Z n0 y bytes ml ret T' h k n → own_Ends p e below G (T'.setTop (mkF m q Ls (v :: st)))) : own_Ends p e below G (T.setTop (mkF m pc Ls (.ref a :: st))) := by
  subst hq
  obtain ⟨⟨locs, Y, N⟩, eT, hs0, hx, hZ, hby, hml, hown, hret, hlk, hnm⟩ := X
  obtain ⟨T1, Y1, e1, st1⟩ := getF Y hx hZ hown (host := "") (Or.inl w) via eT F (g := mkF m pc Ls (.ref a :: st)) rfl rfl (hb hby hd)
  exact own_pre st1 (K T1 ⟨⟨locs, Y1, N⟩, e1, hs0, hx, hZ, hby, hml, hown, hret, hlk, hnm⟩)
theorem own_getFN (X : own_W p l e R s m args below meth c Z n0 y bytes ml ret T h k n) (q : Nat) {R0 O nm d host : String} {i : Nat} {a : Addr} {v : Value} (hd : decode bytes pc = .ok (.getfield i, 3)) (hq : pc + 3 = q) (w : (Jvm.Cond.fieldLinkNest y.cls i R0 nm d host).before a0 Z = true) (via : Via Z R0 O nm d) (F : Fld Z h a O nm d v)
    (K : ∀ T', own_W p l e R s m args below meth c Z n0 y bytes ml ret T' h k n → own_Ends p e below G (T'.setTop (mkF m q Ls (v :: st)))) : own_Ends p e below G (T.setTop (mkF m pc Ls (.ref a :: st))) := by
  subst hq
  obtain ⟨⟨locs, Y, N⟩, eT, hs0, hx, hZ, hby, hml, hown, hret, hlk, hnm⟩ := X
  obtain ⟨T1, Y1, e1, st1⟩ := getF Y hx hZ hown (Or.inr w) via eT F (g := mkF m pc Ls (.ref a :: st)) rfl rfl (hb hby hd)
  exact own_pre st1 (K T1 ⟨⟨locs, Y1, N⟩, e1, hs0, hx, hZ, hby, hml, hown, hret, hlk, hnm⟩)
theorem own_getS (X : own_W p l e R s m args below meth c Z n0 y bytes ml ret T h k n) (q : Nat) {R0 O nm d : String} {i : Nat} {v : Value} (hd : decode bytes pc = .ok (.getstatic i, 3)) (hq : pc + 3 = q) (w : (Jvm.Cond.fieldLink y.cls i R0 nm d).before a0 Z = true) (via : Via Z R0 O nm d) (F : Sta Z h O nm d v)
    (K : ∀ T', own_W p l e R s m args below meth c Z n0 y bytes ml ret T' h k n → own_Ends p e below G (T'.setTop (mkF m q Ls (v :: st)))) : own_Ends p e below G (T.setTop (mkF m pc Ls st)) := by
  subst hq
  obtain ⟨⟨locs, Y, N⟩, eT, hs0, hx, hZ, hby, hml, hown, hret, hlk, hnm⟩ := X
  obtain ⟨T1, Y1, e1, st1⟩ := getS2 Y hx hZ hown (host := "") (Or.inl w) via eT F (g := mkF m pc Ls st) rfl (hb hby hd)
  exact own_pre st1 (K T1 ⟨⟨locs, Y1, N⟩, e1, hs0, hx, hZ, hby, hml, hown, hret, hlk, hnm⟩)
theorem own_getSN (X : own_W p l e R s m args below meth c Z n0 y bytes ml ret T h k n) (q : Nat) {R0 O nm d host : String} {i : Nat} {v : Value} (hd : decode bytes pc = .ok (.getstatic i, 3)) (hq : pc + 3 = q) (w : (Jvm.Cond.fieldLinkNest y.cls i R0 nm d host).before a0 Z = true) (via : Via Z R0 O nm d) (F : Sta Z h O nm d v)
    (K : ∀ T', own_W p l e R s m args below meth c Z n0 y bytes ml ret T' h k n → own_Ends p e below G (T'.setTop (mkF m q Ls (v :: st)))) : own_Ends p e below G (T.setTop (mkF m pc Ls st)) := by
  subst hq
  obtain ⟨⟨locs, Y, N⟩, eT, hs0, hx, hZ, hby, hml, hown, hret, hlk, hnm⟩ := X
  obtain ⟨T1, Y1, e1, st1⟩ := getS2 Y hx hZ hown (Or.inr w) via eT F (g := mkF m pc Ls st) rfl (hb hby hd)
  exact own_pre st1 (K T1 ⟨⟨locs, Y1, N⟩, e1, hs0, hx, hZ, hby, hml, hown, hret, hlk, hnm⟩)
theorem own_putF (X : own_W p l e R s m args below meth c Z n0 y bytes ml ret T h k n) (q : Nat) {R0 O nm d C : String} {i kk : Nat} (ty : FieldType) {a : Addr} {v old : Value} (hd : decode bytes pc = .ok (.putfield i, 3)) (hq : pc + 3 = q) (w : (Jvm.Cond.fieldLink y.cls i R0 nm d).before a0 Z = true) (via : Via Z R0 O nm d) (F : Fld Z h a O nm d old) (E : Exa Z h a C)
    (L : (Jvm.Cond.lays C O nm d).before a0 Z = true ∨ ((Jvm.Cond.laysFinal C O nm d).before a0 Z = true ∧ y.cls = O ∧ y.name = "<init>")) (wi : (Jvm.Cond.instantiable C kk).before a0 Z = true) (hty : parseFieldDescriptor d = some ty) (hn : narrow ty v = v) (hf : fits ty v = true) (hnew : n0 ≤ a)
    (K : ∀ T' h', own_W p l e R s m args below meth c Z n0 y bytes ml ret T' h' k n → Wr h h' a (Jvm.RoadKit.slotOf Z O nm d) v → own_Ends p e below G (T'.setTop (mkF m q Ls st))) : own_Ends p e below G (T.setTop (mkF m pc Ls (v :: .ref a :: st))) := by
  subst hq
  obtain ⟨⟨locs, Y, N⟩, eT, hs0, hx, hZ, hby, hml, hown, hret, hlk, hnm⟩ := X
  obtain ⟨T1, h1, Y1, e1, W1, st1⟩ := putF Y hx hZ hown (host := "") (Or.inl w) via eT F E (L.imp id fun z => ⟨z.1, z.2.1, hnm.trans z.2.2⟩) wi hty hn hf (g := mkF m pc Ls (v :: .ref a :: st)) rfl rfl (hb hby hd)
  exact own_pre st1 (K T1 h1 ⟨⟨_, Y1, Fr.snoc Y1 N hnew⟩, e1, (by rw [W1.size]; exact hs0), hx, hZ, hby, hml, hown, hret, hlk, hnm⟩ W1)
theorem own_putFN (X : own_W p l e R s m args below meth c Z n0 y bytes ml ret T h k n) (q : Nat) {R0 O nm d C : String} {i kk : Nat} (ty : FieldType) {a : Addr} {v v' old : Value} (hd : decode bytes pc = .ok (.putfield i, 3)) (hq : pc + 3 = q) (w : (Jvm.Cond.fieldLink y.cls i R0 nm d).before a0 Z = true) (via : Via Z R0 O nm d) (F : Fld Z h a O nm d old) (E : Exa Z h a C)
    (L : (Jvm.Cond.lays C O nm d).before a0 Z = true ∨ ((Jvm.Cond.laysFinal C O nm d).before a0 Z = true ∧ y.cls = O ∧ y.name = "<init>")) (wi : (Jvm.Cond.instantiable C kk).before a0 Z = true) (hty : parseFieldDescriptor d = some ty) (hn : narrow ty v = v') (hf : fits ty v' = true) (hnew : n0 ≤ a)
    (K : ∀ T' h', own_W p l e R s m args below meth c Z n0 y bytes ml ret T' h' k n → Wr h h' a (Jvm.RoadKit.slotOf Z O nm d) v' → own_Ends p e below G (T'.setTop (mkF m q Ls st))) : own_Ends p e below G (T.setTop (mkF m pc Ls (v :: .ref a :: st))) := by
  subst hq
  obtain ⟨⟨locs, Y, N⟩, eT, hs0, hx, hZ, hby, hml, hown, hret, hlk, hnm⟩ := X
  obtain ⟨T1, h1, Y1, e1, W1, st1⟩ := putFN Y hx hZ hown w via eT F E (L.imp id fun z => ⟨z.1, z.2.1, hnm.trans z.2.2⟩) wi hty hn hf (g := mkF m pc Ls (v :: .ref a :: st)) rfl rfl (hb hby hd)
  exact own_pre st1 (K T1 h1 ⟨⟨_, Y1, Fr.snoc Y1 N hnew⟩, e1, (by rw [W1.size]; exact hs0), hx, hZ, hby, hml, hown, hret, hlk, hnm⟩ W1)
theorem own_new (X : own_W p l e R s m args below meth c Z n0 y bytes ml ret T h k n) (q : Nat) {C : String} {i sl : Nat} (hd : decode bytes pc = .ok (.new i, 3)) (hq : pc + 3 = q) (w : (Jvm.Cond.classLink y.cls i C).before a0 Z = true) (wi : (Jvm.Cond.instantiable C sl).before a0 Z = true) (wz : (Jvm.Cond.initialized C).before a0 Z = true) (hc : k + 1 ≤ R.cells) (hl : n + sl ≤ R.slots)
    (K : ∀ T' h' a, a = h.size → own_W p l e R s m args below meth c Z n0 y bytes ml ret T' h' (k + 1) (n + sl) → Ext h h' → Exa Z h' a C → (∀ {O nm d : String} {ty : FieldType}, Laid Z a0 C O nm d → parseFieldDescriptor d = some ty → Fld Z h' a O nm d (defaultValue ty)) → own_Ends p e below G (T'.setTop (mkF m q Ls (.ref a :: st)))) : own_Ends p e below G (T.setTop (mkF m pc Ls st)) := by
  subst hq
  obtain ⟨⟨locs, Y, N⟩, eT, hs0, hx, hZ, hby, hml, hown, hret, hlk, hnm⟩ := X
  obtain ⟨T1, h1, Y1, e1, E1, A1, D1, -, st1⟩ := newO Y hx hZ hown w wi wz eT (g := mkF m pc Ls st) rfl (hb hby hd) hc hl
  exact own_pre st1 (K T1 h1 _ rfl ⟨⟨locs, Y1, N⟩, e1, (Nat.le_trans hs0 E1.1), hx, hZ, hby, hml, hown, hret, hlk, hnm⟩ E1 A1 D1)
theorem own_castY (X : own_W p l e R s m args below meth c Z n0 y bytes ml ret T h k n) (q : Nat) {C : String} {i : Nat} {a : Addr} (hd : decode bytes pc = .ok (.checkcast i, 3)) (hq : pc + 3 = q) (w : (Jvm.Cond.classLink y.cls i C).before a0 Z = true) (F : Ins Z h a C true)
    (K : ∀ T', own_W p l e R s m args below meth c Z n0 y bytes ml ret T' h k n → own_Ends p e below G (T'.setTop (mkF m q Ls (.ref a :: st)))) : own_Ends p e below G (T.setTop (mkF m pc Ls (.ref a :: st))) := by
  subst hq
  obtain ⟨⟨locs, Y, N⟩, eT, hs0, hx, hZ, hby, hml, hown, hret, hlk, hnm⟩ := X
  obtain ⟨T1, Y1, e1, st1⟩ := castY Y hx hZ hown w eT F (g := mkF m pc Ls (.ref a :: st)) rfl rfl (hb hby hd)
  exact own_pre st1 (K T1 ⟨⟨locs, Y1, N⟩, e1, hs0, hx, hZ, hby, hml, hown, hret, hlk, hnm⟩)
theorem own_castNull (X : own_W p l e R s m args below meth c Z n0 y bytes ml ret T h k n) (q : Nat) {i : Nat} (hd : decode bytes pc = .ok (.checkcast i, 3)) (hq : pc + 3 = q) (K : own_Ends p e below G (T.setTop (mkF m q Ls (.null :: st)))) : own_Ends p e below G (T.setTop (mkF m pc Ls (.null :: st))) := by
  subst hq
  obtain ⟨⟨locs, Y, N⟩, eT, hs0, hx, hZ, hby, hml, hown, hret, hlk, hnm⟩ := X
  exact own_pre (fun t K => Y.checkcastNull hx (g := mkF m pc Ls (.null :: st)) rfl rfl (hb hby hd) t K) K
theorem own_instY (X : own_W p l e R s m args below meth c Z n0 y bytes ml ret T h k n) (q : Nat) {C : String} {i : Nat} {a : Addr} (hd : decode bytes pc = .ok (.instanceof i, 3)) (hq : pc + 3 = q) (w : (Jvm.Cond.classLink y.cls i C).before a0 Z = true) (F : Ins Z h a C true)
    (K : ∀ T', own_W p l e R s m args below meth c Z n0 y bytes ml ret T' h k n → own_Ends p e below G (T'.setTop (mkF m q Ls (.int 1 :: st)))) : own_Ends p e below G (T.setTop (mkF m pc Ls (.ref a :: st))) := by
  subst hq
  obtain ⟨⟨locs, Y, N⟩, eT, hs0, hx, hZ, hby, hml, hown, hret, hlk, hnm⟩ := X
  obtain ⟨T1, Y1, e1, st1⟩ := instY Y hx hZ hown w eT F (g := mkF m pc Ls (.ref a :: st)) rfl rfl (hb hby hd)
  exact own_pre st1 (K T1 ⟨⟨locs, Y1, N⟩, e1, hs0, hx, hZ, hby, hml, hown, hret, hlk, hnm⟩)
theorem own_instNo (X : own_W p l e R s m args below meth c Z n0 y bytes ml ret T h k n) (q : Nat) {C D : String} {i : Nat} {a : Addr} (hd : decode bytes pc = .ok (.instanceof i, 3)) (hq : pc + 3 = q) (w : (Jvm.Cond.classLink y.cls i C).before a0 Z = true) (E : Exa Z h a D) (F : ∃ c t, Z.vm.findClass D = some c ∧ Z.vm.findClass C = some t ∧ Z.vm.assignable c t = false)
    (K : ∀ T', own_W p l e R s m args below meth c Z n0 y bytes ml ret T' h k n → own_Ends p e below G (T'.setTop (mkF m q Ls (.int 0 :: st)))) : own_Ends p e below G (T.setTop (mkF m pc Ls (.ref a :: st))) := by
  subst hq
  obtain ⟨⟨locs, Y, N⟩, eT, hs0, hx, hZ, hby, hml, hown, hret, hlk, hnm⟩ := X
  obtain ⟨T1, Y1, e1, st1⟩ := instNo Y hx hZ hown w eT E F (g := mkF m pc Ls (.ref a :: st)) rfl rfl (hb hby hd)
  exact own_pre st1 (K T1 ⟨⟨locs, Y1, N⟩, e1, hs0, hx, hZ, hby, hml, hown, hret, hlk, hnm⟩)
theorem own_initO (X : own_W p l e R s m args below meth c Z n0 y bytes ml ret T h k n) (q : Nat) {i : Nat} {a : Addr} (hd : decode bytes pc = .ok (.invokespecial i, 3)) (hq : pc + 3 = q) (w1 : (Jvm.Cond.methodLink y.cls i Lib.objectInit).before a0 Z = true) (w2 : (Jvm.Cond.instanceMethod Lib.objectInit).before a0 Z = true) (w3 : (Jvm.Cond.code Lib.objectInit ⟨#[0xb1]⟩ 1 none).before a0 Z = true)
    (hsz : Ls.size = ml) (hf : 1 ≤ R.frames) (hl : (st.map fun v => v.category).sum + 12 ≤ R.locals) (K : ∀ T', own_W p l e R s m args below meth c Z n0 y bytes ml ret T' h k n → own_Ends p e below G (T'.setTop (mkF m q Ls st))) : own_Ends p e below G (T.setTop (mkF m pc Ls (.ref a :: st))) := by
  subst hq
  obtain ⟨⟨locs, Y, N⟩, eT, hs0, hx, hZ, hby, hml, hown, hret, hlk, hnm⟩ := X
  obtain ⟨T1, Y1, e1, st1⟩ := initO Y hx hZ hown w1 w2 w3 eT (g := mkF m pc Ls (.ref a :: st)) rfl (hsz.trans hml.symm) rfl (hb hby hd) hf (W := (st.map fun v => v.category).sum) (by show 2 * 0 + _ ≤ _; omega) hl
  exact own_pre st1 (K T1 ⟨⟨locs, Y1, N⟩, e1, hs0, hx, hZ, hby, hml, hown, hret, hlk, hnm⟩)
theorem own_callS (X : own_W p l e R s m args below meth c Z n0 y bytes ml ret T h k n) (q : Nat) {y' : MethodName} {bytes' : ByteArray} {ml' : Nat} {ret' : Option FieldType} {rm : Room} {as' : Array Value} {Q : Option Value → Heap → Prop} {i : Nat} {ps : List FieldType} {rr : Option FieldType} (argsL rest : List Value) (hd : decode bytes pc = .ok (.invokestatic i, 3)) (hq : pc + 3 = q) (w1 : (Jvm.Cond.methodLink y.cls i y').before a0 Z = true) (w2 : (Jvm.Cond.static y').before a0 Z = true) (w3 : (Jvm.Cond.initialized y'.cls).before a0 Z = true) (w4 : (Jvm.Cond.code y' bytes' ml' ret').before a0 Z = true) (hy : y'.cls ≠ "java/lang/invoke/MethodHandle" ∧ y'.cls ≠ "java/lang/invoke/VarHandle")
    (M : own_Met l y' bytes' ml' ret' rm Z as' h n0 Q) (hkeep : ∀ v h', Q v h' → h.size ≤ h'.size) (has : as' = argsL.toArray) (hpd : parseMethodDescriptor y'.desc = some ⟨ps, rr⟩) (hlen : argsL.length = ps.length) (hst : st = argsL.reverse ++ rest) (hsz : Ls.size = ml) (hf : rm.frames + 1 ≤ R.frames) (hl : (rest.map fun v => v.category).sum + (ml' + 11) + rm.locals ≤ R.locals) (hck : k + rm.cells ≤ R.cells) (hcn : n + rm.slots ≤ R.slots)
    (K : ∀ v T' h', own_W p l e R s m args below meth c Z n0 y bytes ml ret T' h' (k + rm.cells) (n + rm.slots) → Q v h' → own_Ends p e below G (T'.setTop (mkF m q Ls (v.toList ++ rest)))) : own_Ends p e below G (T.setTop (mkF m pc Ls st)) := by
  subst hq has hst
  obtain ⟨⟨locs, Y, N⟩, eT, hs0, hx, hZ, hby, hml, hown, hret, hlk, hnm⟩ := X
  obtain ⟨v1, _, ⟨T1, L1, k1, n1⟩, -, Y1, ⟨Lc1, hQ1, l1, c1, s1⟩, st1⟩ := Jvm.LawKit.callS Y hx hown (mvT hZ w1) (mvT hZ w2) (mvT hZ w3) (mvT hZ w4) hy (backOf (Q := fun v h L => Q v h ∧ Fr n0 L) (W := (rest.map fun v => v.category).sum) (M []) hZ w4 w3 hf (by omega)) (g := mkF m pc Ls (argsL.reverse ++ rest)) rfl (hsz.trans hml.symm) (argsL := argsL) (rest := rest) (lenOf hpd hlen) rfl (by show 2 * 0 + _ ≤ _; omega) (hb hby hd) (fun _ _ => ⟨rfl, eT, hck, hcn⟩)
  dsimp only [Pt.U, Pt.locs, Pt.cells, Pt.slots] at Y1 l1 c1 s1 st1 hQ1
  subst l1 c1 s1
  exact own_pre st1 (K _ _ _ ⟨⟨_, Y1, Fr.app N hQ1.2⟩, rfl, Nat.le_trans hs0 (hkeep _ _ hQ1.1), hx, hZ, hby, hml, hown, hret, hlk, hnm⟩ hQ1.1)
theorem own_init (X : own_W p l e R s m args below meth c Z n0 y bytes ml ret T h k n) (q : Nat) {y' : MethodName} {bytes' : ByteArray} {ml' : Nat} {rm : Room} {as' : Array Value} {Q : Option Value → Heap → Prop} {i : Nat} {ps : List FieldType} {rr : Option FieldType} {a : Addr} (argsL rest : List Value) (hd : decode bytes pc = .ok (.invokespecial i, 3)) (hq : pc + 3 = q) (w1 : (Jvm.Cond.methodLink y.cls i y').before a0 Z = true) (w2 : (Jvm.Cond.instanceMethod y').before a0 Z = true) (w3 : (Jvm.Cond.initialized y'.cls).before a0 Z = true) (w4 : (Jvm.Cond.code y' bytes' ml' none).before a0 Z = true) (hy : y'.cls ≠ "java/lang/invoke/MethodHandle" ∧ y'.cls ≠ "java/lang/invoke/VarHandle") (hy1 : y'.name = "<init>")
    (M : own_Met l y' bytes' ml' none rm Z as' h n0 Q) (hkeep : ∀ v h', Q v h' → h.size ≤ h'.size) (has : as' = (.ref a :: argsL).toArray) (hpd : parseMethodDescriptor y'.desc = some ⟨ps, rr⟩) (hlen : argsL.length = ps.length) (hst : st = argsL.reverse ++ .ref a :: rest) (hsz : Ls.size = ml) (hf : rm.frames + 1 ≤ R.frames) (hl : (rest.map fun v => v.category).sum + (ml' + 11) + rm.locals ≤ R.locals) (hck : k + rm.cells ≤ R.cells) (hcn : n + rm.slots ≤ R.slots)
    (K : ∀ v T' h', own_W p l e R s m args below meth c Z n0 y bytes ml ret T' h' (k + rm.cells) (n + rm.slots) → Q v h' → own_Ends p e below G (T'.setTop (mkF m q Ls (v.toList ++ rest)))) : own_Ends p e below G (T.setTop (mkF m pc Ls st)) := by
  subst hq has hst
  obtain ⟨⟨locs, Y, N⟩, eT, hs0, hx, hZ, hby, hml, hown, hret, hlk, hnm⟩ := X
  obtain ⟨v1, _, ⟨T1, L1, k1, n1⟩, -, Y1, ⟨Lc1, hQ1, l1, c1, s1⟩, st1⟩ := Y.specialBack hx hy1 hown (mvT hZ w1) (mvT hZ w2) (mvT hZ w4) hy (backOf (Q := fun v h L => Q v h ∧ Fr n0 L) (W := (rest.map fun v => v.category).sum) (M []) hZ w4 w3 hf (by omega)) (g := mkF m pc Ls (argsL.reverse ++ .ref a :: rest)) rfl (hsz.trans hml.symm) (Steps.refl _) (a := a) (argsL := argsL) (rest := rest) (lenOf hpd hlen) rfl (by show 2 * 0 + _ ≤ _; omega) (hb hby hd) (fun _ _ => ⟨rfl, eT, hck, hcn⟩)
  dsimp only [Pt.U, Pt.locs, Pt.cells, Pt.slots] at Y1 l1 c1 s1 st1 hQ1
  subst l1 c1 s1
  exact own_pre (fun t K => st1.trans K) (K _ _ _ ⟨⟨_, Y1, Fr.app N hQ1.2⟩, rfl, Nat.le_trans hs0 (hkeep _ _ hQ1.1), hx, hZ, hby, hml, hown, hret, hlk, hnm⟩ hQ1.1)
theorem own_callV (X : own_W p l e R s m args below meth c Z n0 y bytes ml ret T h k n) (q : Nat) {y' : MethodName} {bytes' : ByteArray} {ml' : Nat} {ret' : Option FieldType} {rm : Room} {as' : Array Value} {Q : Option Value → Heap → Prop} {i : Nat} {ps : List FieldType} {rr : Option FieldType} {z : MethodName} {C : String} {a : Addr} (argsL rest : List Value) (hd : decode bytes pc = .ok (.invokevirtual i, 3)) (hq : pc + 3 = q) (w1 : (Jvm.Cond.methodLink y.cls i z).before a0 Z = true) (w2 : (Jvm.Cond.declares z).before a0 Z = true) (nf : NotFace s z) (w5 : (Jvm.Cond.selects C z y').before a0 Z = true) (w6 : (Jvm.Cond.instanceMethod y').before a0 Z = true) (w3 : (Jvm.Cond.initialized y'.cls).before a0 Z = true) (w4 : (Jvm.Cond.code y' bytes' ml' ret').before a0 Z = true) (hy : z.cls ≠ "java/lang/invoke/MethodHandle" ∧ z.cls ≠ "java/lang/invoke/VarHandle") (E : Exa Z h a C)
    (M : own_Met l y' bytes' ml' ret' rm Z as' h n0 Q) (hkeep : ∀ v h', Q v h' → h.size ≤ h'.size) (has : as' = (.ref a :: argsL).toArray) (hpd : parseMethodDescriptor z.desc = some ⟨ps, rr⟩) (hlen : argsL.length = ps.length) (hst : st = argsL.reverse ++ .ref a :: rest) (hsz : Ls.size = ml) (hf : rm.frames + 1 ≤ R.frames) (hl : (rest.map fun v => v.category).sum + (ml' + 11) + rm.locals ≤ R.locals) (hck : k + rm.cells ≤ R.cells) (hcn : n + rm.slots ≤ R.slots)
    (K : ∀ v T' h', own_W p l e R s m args below meth c Z n0 y bytes ml ret T' h' (k + rm.cells) (n + rm.slots) → Q v h' → own_Ends p e below G (T'.setTop (mkF m q Ls (v.toList ++ rest)))) : own_Ends p e below G (T.setTop (mkF m pc Ls st)) := by
  subst hq has hst
  obtain ⟨⟨locs, Y, N⟩, eT, hs0, hx, hZ, hby, hml, hown, hret, hlk, hnm⟩ := X
  obtain ⟨cq, kq, qa, qb, qc⟩ := isOf hZ eT E
  obtain ⟨v1, _, ⟨T1, L1, k1, n1⟩, -, Y1, ⟨Lc1, hQ1, l1, c1, s1⟩, st1⟩ := Y.virtualBack hx hown (mvT hZ w1) (mvT hZ w2) nf (mvT hZ w5) (mvT hZ w6) hy (backOf (Q := fun v h L => Q v h ∧ Fr n0 L) (W := (rest.map fun v => v.category).sum) (M []) hZ w4 w3 hf (by omega)) qa qc (g := mkF m pc Ls (argsL.reverse ++ .ref a :: rest)) rfl (hsz.trans hml.symm) (Steps.refl _) (argsL := argsL) (rest := rest) (lenOf hpd hlen) rfl (by show 2 * 0 + _ ≤ _; omega) (hb hby hd) (fun _ _ => ⟨rfl, eT, hck, hcn⟩)
  dsimp only [Pt.U, Pt.locs, Pt.cells, Pt.slots] at Y1 l1 c1 s1 st1 hQ1
  subst l1 c1 s1
  exact own_pre (fun t K => st1.trans K) (K _ _ _ ⟨⟨_, Y1, Fr.app N hQ1.2⟩, rfl, Nat.le_trans hs0 (hkeep _ _ hQ1.1), hx, hZ, hby, hml, hown, hret, hlk, hnm⟩ hQ1.1)
theorem own_nf {z : MethodName} {s : State} {C : String} (hZ : Z.Warmed39 s.vm) (w : (Jvm.Cond.selects C z z).before a0 Z = true) : NotFace s z := notFace_of_selects (args := #[]) (mvT hZ w)
theorem own_callI (X : own_W p l e R s m args below meth c Z n0 y bytes ml ret T h k n) (q : Nat) {y' : MethodName} {bytes' : ByteArray} {ml' : Nat} {ret' : Option FieldType} {rm : Room} {as' : Array Value} {Q : Option Value → Heap → Prop} {i : Nat} {ps : List FieldType} {rr : Option FieldType} {z : MethodName} {C : String} {cnt : Nat} {a : Addr} (argsL rest : List Value) (hd : decode bytes pc = .ok (.invokeinterface i cnt, 5)) (hq : pc + 5 = q) (w1 : (Jvm.Cond.methodLink y.cls i z).before a0 Z = true) (w2 : (Jvm.Cond.declares z).before a0 Z = true) (w7 : (Jvm.Cond.interfaceMethod z.cls z.cls z.name z.desc).before a0 Z = true) (hfa : ((Jvm.Cond.interfaceMethod z.cls z.cls z.name z.desc).onTables && (Jvm.Cond.interfaceMethod z.cls z.cls z.name z.desc).keepsFace) = true) (w5 : (Jvm.Cond.selects C z y').before a0 Z = true) (w6 : (Jvm.Cond.instanceMethod y').before a0 Z = true) (w8 : (Jvm.Cond.publicMethod y').before a0 Z = true) (w9 : (Jvm.Cond.unhidden C z.name z.desc).before a0 Z = true) (w10 : (Jvm.Cond.castable C z.cls).before a0 Z = true) (w3 : (Jvm.Cond.initialized y'.cls).before a0 Z = true) (w4 : (Jvm.Cond.code y' bytes' ml' ret').before a0 Z = true) (hy : z.cls ≠ "java/lang/invoke/MethodHandle" ∧ z.cls ≠ "java/lang/invoke/VarHandle") (E : Exa Z h a C)
    (M : own_Met l y' bytes' ml' ret' rm Z as' h n0 Q) (hkeep : ∀ v h', Q v h' → h.size ≤ h'.size) (has : as' = (.ref a :: argsL).toArray) (hpd : parseMethodDescriptor z.desc = some ⟨ps, rr⟩) (hlen : argsL.length = ps.length) (hst : st = argsL.reverse ++ .ref a :: rest) (hsz : Ls.size = ml) (hf : rm.frames + 1 ≤ R.frames) (hl : (rest.map fun v => v.category).sum + (ml' + 11) + rm.locals ≤ R.locals) (hck : k + rm.cells ≤ R.cells) (hcn : n + rm.slots ≤ R.slots)
    (K : ∀ v T' h', own_W p l e R s m args below meth c Z n0 y bytes ml ret T' h' (k + rm.cells) (n + rm.slots) → Q v h' → own_Ends p e below G (T'.setTop (mkF m q Ls (v.toList ++ rest)))) : own_Ends p e below G (T.setTop (mkF m pc Ls st)) := by
  subst hq has hst
  obtain ⟨⟨locs, Y, N⟩, eT, hs0, hx, hZ, hby, hml, hown, hret, hlk, hnm⟩ := X
  obtain ⟨cq, kq, qa, qb, qc⟩ := isOf hZ eT E
  obtain ⟨v1, _, ⟨T1, L1, k1, n1⟩, -, Y1, ⟨Lc1, hQ1, l1, c1, s1⟩, st1⟩ := Y.interfaceBack hx hown (mvT hZ w1) (mvT hZ w2) (mvT hZ w7 hfa) (mvT hZ w5) (mvT hZ w6) (mvT hZ w8) (mvT hZ w9) (mvT hZ w10) hy (backOf (Q := fun v h L => Q v h ∧ Fr n0 L) (W := (rest.map fun v => v.category).sum) (M []) hZ w4 w3 hf (by omega)) qa qb qc (g := mkF m pc Ls (argsL.reverse ++ .ref a :: rest)) rfl (hsz.trans hml.symm) (Steps.refl _) (argsL := argsL) (rest := rest) (lenOf hpd hlen) rfl (by show 2 * 0 + _ ≤ _; omega) (hb hby hd) (fun _ _ => ⟨rfl, eT, hck, hcn⟩)
  dsimp only [Pt.U, Pt.locs, Pt.cells, Pt.slots] at Y1 l1 c1 s1 st1 hQ1
  subst l1 c1 s1
  exact own_pre (fun t K => st1.trans K) (K _ _ _ ⟨⟨_, Y1, Fr.app N hQ1.2⟩, rfl, Nat.le_trans hs0 (hkeep _ _ hQ1.1), hx, hZ, hby, hml, hown, hret, hlk, hnm⟩ hQ1.1)
theorem own_ni_inst {Z : State} {C : String} {kk : Nat} {a0 : Array Value} (w : (Jvm.Cond.instantiable C kk).before a0 Z = true) : ∃ c k, Z.vm.findClass C = some c ∧ Z.vm.classes[c]? = some k ∧ k.isInterface = false := by
  obtain ⟨c, k, h1, h2, -, h4, -⟩ := Cond.instantiable_spec w
  exact ⟨c, k, h1, h2, (Bool.or_eq_false_iff.mp h4).1⟩
theorem own_ni_sel {Z : State} {C : String} {x y : MethodName} {a0 : Array Value} (w : (Jvm.Cond.selects C x y).before a0 Z = true) : ∃ c k, Z.vm.findClass y.cls = some c ∧ Z.vm.classes[c]? = some k ∧ k.isInterface = false := by
  obtain ⟨c, r, m, -, -, h3, -, k, h5, h6⟩ := Cond.selects_spec w
  exact ⟨_, k, findClass_of_methodNamed h3, h5, h6⟩
theorem own_selP {Z s : State} {y : MethodName} {a0 args : Array Value} (hZ : Z.Warmed39 s.vm) (hni : ∃ c k, Z.vm.findClass y.cls = some c ∧ Z.vm.classes[c]? = some k ∧ k.isInterface = false) (w6 : (Jvm.Cond.privateMethod y).before a0 Z = true) (w2 : (Jvm.Cond.instanceMethod y).before a0 Z = true) (hy : y.cls ≠ "java/lang/invoke/MethodHandle" ∧ y.cls ≠ "java/lang/invoke/VarHandle") : (Jvm.Cond.selects y.cls y y).before args s = true := by
  obtain ⟨c, k, h1, h2, h3⟩ := hni
  obtain ⟨k', q, z⟩ := hZ.alike.2.2 _ _ h2
  exact selects_self_of_private (by rw [hZ.alike.findClass]; exact h1) q (by rw [z]; exact h3) (Cond.privateMethod_at (mvP hZ w6 (args := #[]))) (mvT hZ w2) hy
theorem own_callP (X : own_W p l e R s m args below meth c Z n0 y bytes ml ret T h k n) (q : Nat) {y' : MethodName} {bytes' : ByteArray} {ml' : Nat} {ret' : Option FieldType} {rm : Room} {as' : Array Value} {Q : Option Value → Heap → Prop} {i : Nat} {ps : List FieldType} {rr : Option FieldType} {C : String} {a : Addr} (argsL rest : List Value) (hd : decode bytes pc = .ok (.invokevirtual i, 3)) (hq : pc + 3 = q) (w1 : (Jvm.Cond.methodLink y.cls i y').before a0 Z = true) (w2 : (Jvm.Cond.instanceMethod y').before a0 Z = true) (hni : ∃ c k, Z.vm.findClass y'.cls = some c ∧ Z.vm.classes[c]? = some k ∧ k.isInterface = false) (w6 : (Jvm.Cond.privateMethod y').before a0 Z = true) (w3 : (Jvm.Cond.initialized y'.cls).before a0 Z = true) (w4 : (Jvm.Cond.code y' bytes' ml' ret').before a0 Z = true) (hy : y'.cls ≠ "java/lang/invoke/MethodHandle" ∧ y'.cls ≠ "java/lang/invoke/VarHandle") (E : Exa Z h a C)
    (M : own_Met l y' bytes' ml' ret' rm Z as' h n0 Q) (hkeep : ∀ v h', Q v h' → h.size ≤ h'.size) (has : as' = (.ref a :: argsL).toArray) (hpd : parseMethodDescriptor y'.desc = some ⟨ps, rr⟩) (hlen : argsL.length = ps.length) (hst : st = argsL.reverse ++ .ref a :: rest) (hsz : Ls.size = ml) (hf : rm.frames + 1 ≤ R.frames) (hl : (rest.map fun v => v.category).sum + (ml' + 11) + rm.locals ≤ R.locals) (hck : k + rm.cells ≤ R.cells) (hcn : n + rm.slots ≤ R.slots)
    (K : ∀ v T' h', own_W p l e R s m args below meth c Z n0 y bytes ml ret T' h' (k + rm.cells) (n + rm.slots) → Q v h' → own_Ends p e below G (T'.setTop (mkF m q Ls (v.toList ++ rest)))) : own_Ends p e below G (T.setTop (mkF m pc Ls st)) := by
  subst hq has hst
  obtain ⟨⟨locs, Y, N⟩, eT, hs0, hx, hZ, hby, hml, hown, hret, hlk, hnm⟩ := X
  obtain ⟨cq, q1, q2⟩ := E.cell
  obtain ⟨v1, _, ⟨T1, L1, k1, n1⟩, -, Y1, ⟨Lc1, hQ1, l1, c1, s1⟩, st1⟩ := Y.privateBack hx hown (mvT hZ w1) (mvT hZ w2) (own_selP hZ hni w6 w2 hy) (Cond.privateMethod_at (mvP hZ w6 (args := #[]))) (mvT hZ w4) hy (backOf (Q := fun v h L => Q v h ∧ Fr n0 L) (W := (rest.map fun v => v.category).sum) (M []) hZ w4 w3 hf (by omega)) (g := mkF m pc Ls (argsL.reverse ++ .ref a :: rest)) rfl (hsz.trans hml.symm) (Steps.refl _) (a := a) (by rw [eT]; exact q1) q2 (argsL := argsL) (rest := rest) (lenOf hpd hlen) rfl (by show 2 * 0 + _ ≤ _; omega) (hb hby hd) (fun _ _ => ⟨rfl, eT, hck, hcn⟩)
  dsimp only [Pt.U, Pt.locs, Pt.cells, Pt.slots] at Y1 l1 c1 s1 st1 hQ1
  subst l1 c1 s1
  exact own_pre (fun t K => st1.trans K) (K _ _ _ ⟨⟨_, Y1, Fr.app N hQ1.2⟩, rfl, Nat.le_trans hs0 (hkeep _ _ hQ1.1), hx, hZ, hby, hml, hown, hret, hlk, hnm⟩ hQ1.1)
theorem own_retI (X : own_W p l e R s m args below meth c Z n0 y bytes ml ret T h k n) {C S : Nat} {Q : Option Value → Heap → Prop} {z : Int32} (hd : decode bytes pc = .ok (.ireturn, 1)) (hr0 : ret = some .int) (hk : k ≤ C) (hn : n ≤ S) (hQ : Q (some (.int z)) h) : own_Ends p e below (own_Fin s n0 C S Q) (T.setTop (mkF m pc Ls (.int z :: st))) := by
  obtain ⟨⟨locs, Y, N⟩, eT, hs0, hx, hZ, hby, hml, hown, hret, hlk, hnm⟩ := X
  obtain ⟨fs, hr, hrun, hended, hW, hsame⟩ := Y.leave (v := some (.int z)) (fun q => by rw [hret, hr0] at q; cases q) hlk
  exact ⟨_, _, own_retI0 Y hx (hret.trans hr0) (hb hby hd) hr, hrun, hended, _, _, rfl, ⟨by show Q _ T.heap; rw [eT]; exact hQ, N⟩, ⟨_, rfl⟩, hW, hsame.mono hk hn⟩
theorem own_retN (X : own_W p l e R s m args below meth c Z n0 y bytes ml ret T h k n) {C S : Nat} {Q : Option Value → Heap → Prop} {z : Int32} (t : FieldType) (hd : decode bytes pc = .ok (.ireturn, 1)) (hr0 : ret = some t) (ht : t = .boolean ∨ t = .byte ∨ t = .char ∨ t = .short) (hk : k ≤ C) (hn : n ≤ S) (hQ : Q (some (.int (nar t z))) h) : own_Ends p e below (own_Fin s n0 C S Q) (T.setTop (mkF m pc Ls (.int z :: st))) := by
  obtain ⟨⟨locs, Y, N⟩, eT, hs0, hx, hZ, hby, hml, hown, hret, hlk, hnm⟩ := X
  obtain ⟨fs, hr, hrun, hended, hW, hsame⟩ := Y.leave (v := some (.int (nar t z))) (fun q => by rw [hret, hr0] at q; cases q) hlk
  exact ⟨_, _, retN Y hx (hret.trans hr0) ht (hb hby hd) hr, hrun, hended, _, _, rfl, ⟨by show Q _ T.heap; rw [eT]; exact hQ, N⟩, ⟨_, rfl⟩, hW, hsame.mono hk hn⟩
theorem own_retJ (X : own_W p l e R s m args below meth c Z n0 y bytes ml ret T h k n) {C S : Nat} {Q : Option Value → Heap → Prop} {z : Int64} (hd : decode bytes pc = .ok (.lreturn, 1)) (hr0 : ret = some .long) (hk : k ≤ C) (hn : n ≤ S) (hQ : Q (some (.long z)) h) : own_Ends p e below (own_Fin s n0 C S Q) (T.setTop (mkF m pc Ls (.long z :: st))) := by
  obtain ⟨⟨locs, Y, N⟩, eT, hs0, hx, hZ, hby, hml, hown, hret, hlk, hnm⟩ := X
  obtain ⟨fs, hr, hrun, hended, hW, hsame⟩ := Y.leave (v := some (.long z)) (fun q => by rw [hret, hr0] at q; cases q) hlk
  exact ⟨_, _, retOut Y hx (hret.trans hr0) rfl (Or.inr (Or.inl ⟨rfl, rfl, z, rfl⟩)) (hb hby hd) hr, hrun, hended, _, _, rfl, ⟨by show Q _ T.heap; rw [eT]; exact hQ, N⟩, ⟨_, rfl⟩, hW, hsame.mono hk hn⟩
theorem own_retA (X : own_W p l e R s m args below meth c Z n0 y bytes ml ret T h k n) {C S : Nat} {Q : Option Value → Heap → Prop} {z : Value} (t : FieldType) (hd : decode bytes pc = .ok (.areturn, 1)) (hr0 : ret = some t) (ht : t.isReference = true) (hz : z.isRef = true) (hnz : narrow t z = z) (hk : k ≤ C) (hn : n ≤ S) (hQ : Q (some z) h) : own_Ends p e below (own_Fin s n0 C S Q) (T.setTop (mkF m pc Ls (z :: st))) := by
  obtain ⟨⟨locs, Y, N⟩, eT, hs0, hx, hZ, hby, hml, hown, hret, hlk, hnm⟩ := X
  obtain ⟨fs, hr, hrun, hended, hW, hsame⟩ := Y.leave (v := some z) (fun q => by rw [hret, hr0] at q; cases q) hlk
  exact ⟨_, _, retOut Y hx (hret.trans hr0) hnz (Or.inr (Or.inr (Or.inr (Or.inr ⟨rfl, ht, hz⟩)))) (hb hby hd) hr, hrun, hended, _, _, rfl, ⟨by show Q _ T.heap; rw [eT]; exact hQ, N⟩, ⟨_, rfl⟩, hW, hsame.mono hk hn⟩
theorem own_retV (X : own_W p l e R s m args below meth c Z n0 y bytes ml ret T h k n) {C S : Nat} {Q : Option Value → Heap → Prop} (hd : decode bytes pc = .ok (.return_, 1)) (hr0 : ret = none) (hk : k ≤ C) (hn : n ≤ S) (hQ : Q none h) : own_Ends p e below (own_Fin s n0 C S Q) (T.setTop (mkF m pc Ls [])) := by
  obtain ⟨⟨locs, Y, N⟩, eT, hs0, hx, hZ, hby, hml, hown, hret, hlk, hnm⟩ := X
  obtain ⟨fs, hr, hrun, hended, hW, hsame⟩ := Y.leave (v := none) (fun _ => rfl) hlk
  exact ⟨_, _, Y.returnOut hx (hret.trans hr0) (hb hby hd) hr, hrun, hended, _, _, rfl, ⟨by show Q _ T.heap; rw [eT]; exact hQ, N⟩, ⟨_, rfl⟩, hW, hsame.mono hk hn⟩
theorem own_iaload (X : own_W p l e R s m args below meth c Z n0 y bytes ml ret T h k n) (q : Nat) {a : Addr} {kc : ClassId} {vs : List Value} {j : Int32} (i : Nat) (v : Value) (hd : decode bytes pc = .ok (.iaload, 1)) (hq : pc + 1 = q) (F : own_A Z h a kc .int vs) (hj : j.toNatClampNeg = i) (hj0 : ¬ j < 0) (hv : vs[i]? = some v)
    (K : own_Ends p e below G (T.setTop (mkF m q Ls (v :: st)))) : own_Ends p e below G (T.setTop (mkF m pc Ls (.int j :: .ref a :: st))) := by
  subst hq
  obtain ⟨⟨locs, Y, N⟩, eT, hs0, hx, hZ, hby, hml, hown, hret, hlk, hnm⟩ := X
  obtain ⟨cl, A, r1, r2, r3, r4⟩ := F
  have hi : i < vs.length := (List.getElem?_eq_some_iff.mp hv).1
  exact own_pre (fun t K => Y.iaload hx (j := j) (v := v) (by rw [eT]; exact A.1) (State.isArrayOf_alike hZ.alike A.2.1) A.2.2 (own_in r2 hj hj0 hi) (by rw [hj, ← Array.getElem?_toList, r2]; exact hv) (g := mkF m pc Ls (.int j :: .ref a :: st)) rfl rfl (hb hby hd) t K) K
theorem own_caload (X : own_W p l e R s m args below meth c Z n0 y bytes ml ret T h k n) (q : Nat) {a : Addr} {kc : ClassId} {vs : List Value} {j : Int32} (i : Nat) (v : Value) (hd : decode bytes pc = .ok (.caload, 1)) (hq : pc + 1 = q) (F : own_A Z h a kc .char vs) (hj : j.toNatClampNeg = i) (hj0 : ¬ j < 0) (hv : vs[i]? = some v)
    (K : own_Ends p e below G (T.setTop (mkF m q Ls (v :: st)))) : own_Ends p e below G (T.setTop (mkF m pc Ls (.int j :: .ref a :: st))) := by
  subst hq
  obtain ⟨⟨locs, Y, N⟩, eT, hs0, hx, hZ, hby, hml, hown, hret, hlk, hnm⟩ := X
  obtain ⟨cl, A, r1, r2, r3, r4⟩ := F
  have hi : i < vs.length := (List.getElem?_eq_some_iff.mp hv).1
  exact own_pre (fun t K => Y.caload hx (j := j) (v := v) (by rw [eT]; exact A.1) (State.isArrayOf_alike hZ.alike A.2.1) A.2.2 (own_in r2 hj hj0 hi) (by rw [hj, ← Array.getElem?_toList, r2]; exact hv) (g := mkF m pc Ls (.int j :: .ref a :: st)) rfl rfl (hb hby hd) t K) K
theorem own_baload (X : own_W p l e R s m args below meth c Z n0 y bytes ml ret T h k n) (q : Nat) {a : Addr} {kc : ClassId} {vs : List Value} {j : Int32} (i : Nat) (v : Value) (hd : decode bytes pc = .ok (.baload, 1)) (hq : pc + 1 = q) (F : own_A Z h a kc .byte vs) (hj : j.toNatClampNeg = i) (hj0 : ¬ j < 0) (hv : vs[i]? = some v)
    (K : own_Ends p e below G (T.setTop (mkF m q Ls (v :: st)))) : own_Ends p e below G (T.setTop (mkF m pc Ls (.int j :: .ref a :: st))) := by
  subst hq
  obtain ⟨⟨locs, Y, N⟩, eT, hs0, hx, hZ, hby, hml, hown, hret, hlk, hnm⟩ := X
  obtain ⟨cl, A, r1, r2, r3, r4⟩ := F
  have hi : i < vs.length := (List.getElem?_eq_some_iff.mp hv).1
  exact own_pre (fun t K => Y.baloadBytes hx (j := j) (v := v) (by rw [eT]; exact A.1) (State.isArrayOf_alike hZ.alike A.2.1) A.2.2 (own_in r2 hj hj0 hi) (by rw [hj, ← Array.getElem?_toList, r2]; exact hv) (g := mkF m pc Ls (.int j :: .ref a :: st)) rfl rfl (hb hby hd) t K) K
theorem own_aaload (X : own_W p l e R s m args below meth c Z n0 y bytes ml ret T h k n) (q : Nat) {a : Addr} {kc : ClassId} {ty : FieldType} {vs : List Value} {j : Int32} (i : Nat) (v : Value) (hd : decode bytes pc = .ok (.aaload, 1)) (hq : pc + 1 = q) (F : own_A Z h a kc ty vs) (hj : j.toNatClampNeg = i) (hj0 : ¬ j < 0) (hv : vs[i]? = some v) (hty : ty.isReference = true)
    (K : own_Ends p e below G (T.setTop (mkF m q Ls (v :: st)))) : own_Ends p e below G (T.setTop (mkF m pc Ls (.int j :: .ref a :: st))) := by
  subst hq
  obtain ⟨⟨locs, Y, N⟩, eT, hs0, hx, hZ, hby, hml, hown, hret, hlk, hnm⟩ := X
  obtain ⟨cl, A, r1, r2, r3, r4⟩ := F
  have hi : i < vs.length := (List.getElem?_eq_some_iff.mp hv).1
  exact own_pre (fun t K => Y.aaload hx (j := j) (v := v) (by rw [eT]; exact A.1) (State.isArrayOf_alike hZ.alike A.2.1) hty A.2.2 (own_in r2 hj hj0 hi) (by rw [hj, ← Array.getElem?_toList, r2]; exact hv) (g := mkF m pc Ls (.int j :: .ref a :: st)) rfl rfl (hb hby hd) t K) K
theorem own_laload (X : own_W p l e R s m args below meth c Z n0 y bytes ml ret T h k n) (q : Nat) {a : Addr} {kc : ClassId} {vs : List Value} {j : Int32} (i : Nat) (v : Value) (hd : decode bytes pc = .ok (.laload, 1)) (hq : pc + 1 = q) (F : own_A Z h a kc .long vs) (hj : j.toNatClampNeg = i) (hj0 : ¬ j < 0) (hv : vs[i]? = some v)
    (K : own_Ends p e below G (T.setTop (mkF m q Ls (v :: st)))) : own_Ends p e below G (T.setTop (mkF m pc Ls (.int j :: .ref a :: st))) := by
  subst hq
  obtain ⟨⟨locs, Y, N⟩, eT, hs0, hx, hZ, hby, hml, hown, hret, hlk, hnm⟩ := X
  obtain ⟨cl, A, r1, r2, r3, r4⟩ := F
  have hi : i < vs.length := (List.getElem?_eq_some_iff.mp hv).1
  exact own_pre (fun t K => Y.laload hx (j := j) (v := v) (by rw [eT]; exact A.1) (State.isArrayOf_alike hZ.alike A.2.1) A.2.2 (own_in r2 hj hj0 hi) (by rw [hj, ← Array.getElem?_toList, r2]; exact hv) (g := mkF m pc Ls (.int j :: .ref a :: st)) rfl rfl (hb hby hd) t K) K
theorem own_len (X : own_W p l e R s m args below meth c Z n0 y bytes ml ret T h k n) (q : Nat) {a : Addr} {kc : ClassId} {ty : FieldType} {vs : List Value} (x : Int32) (hd : decode bytes pc = .ok (.arraylength, 1)) (hq : pc + 1 = q) (F : own_A Z h a kc ty vs) (hx' : vs.length.toInt32 = x)
    (K : own_Ends p e below G (T.setTop (mkF m q Ls (.int x :: st)))) : own_Ends p e below G (T.setTop (mkF m pc Ls (.ref a :: st))) := by
  subst hq hx'
  obtain ⟨⟨locs, Y, N⟩, eT, hs0, hx, hZ, hby, hml, hown, hret, hlk, hnm⟩ := X
  obtain ⟨cl, A, r1, r2, r3, r4⟩ := F
  have hl : vs.length = cl.slots.size := by rw [← r2, Array.length_toList]
  rw [hl] at K
  exact own_pre (fun t K => Y.arraylength hx (by rw [eT]; exact A.1) (State.isArrayOf_alike hZ.alike A.2.1) (g := mkF m pc Ls (.ref a :: st)) rfl rfl (hb hby hd) t K) K
theorem own_iastore (X : own_W p l e R s m args below meth c Z n0 y bytes ml ret T h k n) (q : Nat) {a : Addr} {kc : ClassId} {vs : List Value} {j : Int32} {x : Int32} (i : Nat) (hd : decode bytes pc = .ok (.iastore, 1)) (hq : pc + 1 = q) (F : own_A Z h a kc .int vs) (hj : j.toNatClampNeg = i) (hj0 : ¬ j < 0) (hi : i < vs.length) (hnew : n0 ≤ a)
    (K : ∀ T' h', own_W p l e R s m args below meth c Z n0 y bytes ml ret T' h' k n → Wr h h' a i (.int x) → own_Ends p e below G (T'.setTop (mkF m q Ls st))) : own_Ends p e below G (T.setTop (mkF m pc Ls (.int x :: .int j :: .ref a :: st))) := by
  subst hq
  obtain ⟨⟨locs, Y, N⟩, eT, hs0, hx, hZ, hby, hml, hown, hret, hlk, hnm⟩ := X
  obtain ⟨cl, A, r1, r2, r3, r4⟩ := F
  obtain ⟨T1, h1, Y1, e1, W1, st1⟩ := stI Y hx hZ eT A (j := j) (own_in r2 hj hj0 hi) (g := mkF m pc Ls (.int x :: .int j :: .ref a :: st)) rfl rfl (hb hby hd)
  exact own_pre st1 (K T1 h1 ⟨⟨_, Y1, Fr.snoc Y1 N hnew⟩, e1, (by rw [W1.size]; exact hs0), hx, hZ, hby, hml, hown, hret, hlk, hnm⟩ (hj ▸ W1))
theorem own_castore (X : own_W p l e R s m args below meth c Z n0 y bytes ml ret T h k n) (q : Nat) {a : Addr} {kc : ClassId} {vs : List Value} {j : Int32} {x : Int32} (i : Nat) (hd : decode bytes pc = .ok (.castore, 1)) (hq : pc + 1 = q) (F : own_A Z h a kc .char vs) (hj : j.toNatClampNeg = i) (hj0 : ¬ j < 0) (hi : i < vs.length) (hnew : n0 ≤ a)
    (K : ∀ T' h', own_W p l e R s m args below meth c Z n0 y bytes ml ret T' h' k n → Wr h h' a i (.int (nar .char x)) → own_Ends p e below G (T'.setTop (mkF m q Ls st))) : own_Ends p e below G (T.setTop (mkF m pc Ls (.int x :: .int j :: .ref a :: st))) := by
  subst hq
  obtain ⟨⟨locs, Y, N⟩, eT, hs0, hx, hZ, hby, hml, hown, hret, hlk, hnm⟩ := X
  obtain ⟨cl, A, r1, r2, r3, r4⟩ := F
  obtain ⟨T1, h1, Y1, e1, W1, st1⟩ := stC Y hx hZ eT A (j := j) (own_in r2 hj hj0 hi) (g := mkF m pc Ls (.int x :: .int j :: .ref a :: st)) rfl rfl (hb hby hd)
  exact own_pre st1 (K T1 h1 ⟨⟨_, Y1, Fr.snoc Y1 N hnew⟩, e1, (by rw [W1.size]; exact hs0), hx, hZ, hby, hml, hown, hret, hlk, hnm⟩ (hj ▸ W1))
theorem own_bastore (X : own_W p l e R s m args below meth c Z n0 y bytes ml ret T h k n) (q : Nat) {a : Addr} {kc : ClassId} {vs : List Value} {j : Int32} {x : Int32} (i : Nat) (hd : decode bytes pc = .ok (.bastore, 1)) (hq : pc + 1 = q) (F : own_A Z h a kc .byte vs) (hj : j.toNatClampNeg = i) (hj0 : ¬ j < 0) (hi : i < vs.length) (hnew : n0 ≤ a)
    (K : ∀ T' h', own_W p l e R s m args below meth c Z n0 y bytes ml ret T' h' k n → Wr h h' a i (.int (nar .byte x)) → own_Ends p e below G (T'.setTop (mkF m q Ls st))) : own_Ends p e below G (T.setTop (mkF m pc Ls (.int x :: .int j :: .ref a :: st))) := by
  subst hq
  obtain ⟨⟨locs, Y, N⟩, eT, hs0, hx, hZ, hby, hml, hown, hret, hlk, hnm⟩ := X
  obtain ⟨cl, A, r1, r2, r3, r4⟩ := F
  obtain ⟨T1, h1, Y1, e1, W1, st1⟩ := stB Y hx hZ eT A (j := j) (own_in r2 hj hj0 hi) (g := mkF m pc Ls (.int x :: .int j :: .ref a :: st)) rfl rfl (hb hby hd)
  exact own_pre st1 (K T1 h1 ⟨⟨_, Y1, Fr.snoc Y1 N hnew⟩, e1, (by rw [W1.size]; exact hs0), hx, hZ, hby, hml, hown, hret, hlk, hnm⟩ (hj ▸ W1))
theorem own_zastore (X : own_W p l e R s m args below meth c Z n0 y bytes ml ret T h k n) (q : Nat) {a : Addr} {kc : ClassId} {vs : List Value} {j : Int32} {x : Int32} (i : Nat) (hd : decode bytes pc = .ok (.bastore, 1)) (hq : pc + 1 = q) (F : own_A Z h a kc .boolean vs) (hj : j.toNatClampNeg = i) (hj0 : ¬ j < 0) (hi : i < vs.length) (hnew : n0 ≤ a)
    (K : ∀ T' h', own_W p l e R s m args below meth c Z n0 y bytes ml ret T' h' k n → Wr h h' a i (.int (nar .boolean x)) → own_Ends p e below G (T'.setTop (mkF m q Ls st))) : own_Ends p e below G (T.setTop (mkF m pc Ls (.int x :: .int j :: .ref a :: st))) := by
  subst hq
  obtain ⟨⟨locs, Y, N⟩, eT, hs0, hx, hZ, hby, hml, hown, hret, hlk, hnm⟩ := X
  obtain ⟨cl, A, r1, r2, r3, r4⟩ := F
  obtain ⟨T1, h1, Y1, e1, W1, st1⟩ := stZ Y hx hZ eT A (j := j) (own_in r2 hj hj0 hi) (g := mkF m pc Ls (.int x :: .int j :: .ref a :: st)) rfl rfl (hb hby hd)
  exact own_pre st1 (K T1 h1 ⟨⟨_, Y1, Fr.snoc Y1 N hnew⟩, e1, (by rw [W1.size]; exact hs0), hx, hZ, hby, hml, hown, hret, hlk, hnm⟩ (hj ▸ W1))
theorem own_lastore (X : own_W p l e R s m args below meth c Z n0 y bytes ml ret T h k n) (q : Nat) {a : Addr} {kc : ClassId} {vs : List Value} {j : Int32} {x : Int64} (i : Nat) (hd : decode bytes pc = .ok (.lastore, 1)) (hq : pc + 1 = q) (F : own_A Z h a kc .long vs) (hj : j.toNatClampNeg = i) (hj0 : ¬ j < 0) (hi : i < vs.length) (hnew : n0 ≤ a)
    (K : ∀ T' h', own_W p l e R s m args below meth c Z n0 y bytes ml ret T' h' k n → Wr h h' a i (.long x) → own_Ends p e below G (T'.setTop (mkF m q Ls st))) : own_Ends p e below G (T.setTop (mkF m pc Ls (.long x :: .int j :: .ref a :: st))) := by
  subst hq
  obtain ⟨⟨locs, Y, N⟩, eT, hs0, hx, hZ, hby, hml, hown, hret, hlk, hnm⟩ := X
  obtain ⟨cl, A, r1, r2, r3, r4⟩ := F
  obtain ⟨T1, h1, Y1, e1, W1, st1⟩ := stJ Y hx hZ eT A (j := j) (own_in r2 hj hj0 hi) (g := mkF m pc Ls (.long x :: .int j :: .ref a :: st)) rfl rfl (hb hby hd)
  exact own_pre st1 (K T1 h1 ⟨⟨_, Y1, Fr.snoc Y1 N hnew⟩, e1, (by rw [W1.size]; exact hs0), hx, hZ, hby, hml, hown, hret, hlk, hnm⟩ (hj ▸ W1))
theorem own_aastore (X : own_W p l e R s m args below meth c Z n0 y bytes ml ret T h k n) (q : Nat) {a : Addr} {kc : ClassId} {ty : FieldType} {vs : List Value} {j : Int32} {x : Value} (i : Nat) (hd : decode bytes pc = .ok (.aastore, 1)) (hq : pc + 1 = q) (F : own_A Z h a kc ty vs) (hj : j.toNatClampNeg = i) (hj0 : ¬ j < 0) (hi : i < vs.length) (hty : ty.isReference = true) (hS : Sto Z h a x) (hnew : n0 ≤ a)
    (K : ∀ T' h', own_W p l e R s m args below meth c Z n0 y bytes ml ret T' h' k n → Wr h h' a i x → own_Ends p e below G (T'.setTop (mkF m q Ls st))) : own_Ends p e below G (T.setTop (mkF m pc Ls (x :: .int j :: .ref a :: st))) := by
  subst hq
  obtain ⟨⟨locs, Y, N⟩, eT, hs0, hx, hZ, hby, hml, hown, hret, hlk, hnm⟩ := X
  obtain ⟨cl, A, r1, r2, r3, r4⟩ := F
  obtain ⟨T1, h1, Y1, e1, W1, st1⟩ := stR Y hx hZ eT A (j := j) (own_in r2 hj hj0 hi) hty hS (g := mkF m pc Ls (x :: .int j :: .ref a :: st)) rfl rfl (hb hby hd)
  exact own_pre st1 (K T1 h1 ⟨⟨_, Y1, Fr.snoc Y1 N hnew⟩, e1, (by rw [W1.size]; exact hs0), hx, hZ, hby, hml, hown, hret, hlk, hnm⟩ (hj ▸ W1))
theorem own_A_new {Z : State} {h : Heap} {a : Addr} {kc : ClassId} {ty : FieldType} {z : Int32} {N : Nat} (A : Arr Z h a (newA kc ty z) ty) (hz : ¬ z < 0) (hN : z.toNatClampNeg = N) (hf : fits ty (defaultValue ty) = true) : own_A Z h a kc ty (List.replicate N (defaultValue ty)) := by
  refine ⟨_, A, rfl, by simp [newA, hN], by rw [List.length_replicate, ← hN]; exact (back32 hz).2, fun v hv => ?_⟩
  rw [(List.mem_replicate.mp hv).2]; exact hf
theorem own_newP (X : own_W p l e R s m args below meth c Z n0 y bytes ml ret T h k n) (q : Nat) {aty : ArrayType} {z : Int32} (len cap : Nat) (hd : decode bytes pc = .ok (.newarray aty, 2)) (hq : pc + 2 = q) (w : (Jvm.Cond.arrayClass (newarray.typeOf aty)).before a0 Z = true) (hz : ¬ z < 0) (hN : z.toNatClampNeg = len) (hcap : len ≤ cap) (hb8 : cap * 8 ≤ 536870912) (hc : k + 1 ≤ R.cells) (hl : n + cap ≤ R.slots)
    (K : ∀ T' h' a kc, a = h.size → own_W p l e R s m args below meth c Z n0 y bytes ml ret T' h' (k + 1) (n + cap) → Ext h h' → own_A Z h' a kc (newarray.typeOf aty) (List.replicate len (defaultValue (newarray.typeOf aty))) → own_Ends p e below G (T'.setTop (mkF m q Ls (.ref a :: st)))) : own_Ends p e below G (T.setTop (mkF m pc Ls (.int z :: st))) := by
  subst hq
  obtain ⟨⟨locs, Y, N⟩, eT, hs0, hx, hZ, hby, hml, hown, hret, hlk, hnm⟩ := X
  obtain ⟨T1, h1, kc, Y1, e1, E1, A1, st1⟩ := newP Y hx hZ w eT (g := mkF m pc Ls (.int z :: st)) rfl (hb hby hd) rfl hz (cap := cap) (by omega) hb8 hc hl
  exact own_pre st1 (K T1 h1 _ kc rfl ⟨⟨locs, Y1, N⟩, e1, (Nat.le_trans hs0 E1.1), hx, hZ, hby, hml, hown, hret, hlk, hnm⟩ E1 (own_A_new A1 hz hN (by cases aty <;> rfl)))
theorem own_newR (X : own_W p l e R s m args below meth c Z n0 y bytes ml ret T h k n) (q : Nat) {C : String} {i : Nat} {z : Int32} (len cap : Nat) {ad : String} (hd : decode bytes pc = .ok (.anewarray i, 3)) (hq : pc + 3 = q) (w1 : (Jvm.Cond.classLink y.cls i C).before a0 Z = true) (w2 : (Jvm.Cond.arrayOver (.object C)).before a0 Z = true) (hz : ¬ z < 0) (hN : z.toNatClampNeg = len) (hcap : len ≤ cap) (hb8 : cap * 8 ≤ 536870912) (hc : k + 1 ≤ R.cells) (hl : n + cap ≤ R.slots) (had : "[" ++ (FieldType.object C).toString = ad)
    (K : ∀ T' h' a kc, a = h.size → own_W p l e R s m args below meth c Z n0 y bytes ml ret T' h' (k + 1) (n + cap) → Ext h h' → own_A Z h' a kc (.object C) (List.replicate len .null) → Ovr Z kc C → Exa Z h' a ad → own_Ends p e below G (T'.setTop (mkF m q Ls (.ref a :: st)))) : own_Ends p e below G (T.setTop (mkF m pc Ls (.int z :: st))) := by
  subst hq
  obtain ⟨⟨locs, Y, N⟩, eT, hs0, hx, hZ, hby, hml, hown, hret, hlk, hnm⟩ := X
  obtain ⟨T1, h1, kc, Y1, e1, E1, A1, X1, O1, st1⟩ := newRE Y hx hZ hown w1 w2 eT (g := mkF m pc Ls (.int z :: st)) rfl (hb hby hd) rfl hz (cap := cap) (by omega) hb8 hc hl had
  exact own_pre st1 (K T1 h1 _ kc rfl ⟨⟨locs, Y1, N⟩, e1, (Nat.le_trans hs0 E1.1), hx, hZ, hby, hml, hown, hret, hlk, hnm⟩ E1 (own_A_new A1 hz hN rfl) O1 X1)
theorem own_newPE (X : own_W p l e R s m args below meth c Z n0 y bytes ml ret T h k n) (q : Nat) {aty : ArrayType} {z : Int32} (len cap : Nat) {ad : String} (hd : decode bytes pc = .ok (.newarray aty, 2)) (hq : pc + 2 = q) (w : (Jvm.Cond.arrayClass (newarray.typeOf aty)).before a0 Z = true) (hz : ¬ z < 0) (hN : z.toNatClampNeg = len) (hcap : len ≤ cap) (hb8 : cap * 8 ≤ 536870912) (hc : k + 1 ≤ R.cells) (hl : n + cap ≤ R.slots) (had : "[" ++ (newarray.typeOf aty).toString = ad)
    (K : ∀ T' h' a kc, a = h.size → own_W p l e R s m args below meth c Z n0 y bytes ml ret T' h' (k + 1) (n + cap) → Ext h h' → own_A Z h' a kc (newarray.typeOf aty) (List.replicate len (defaultValue (newarray.typeOf aty))) → Exa Z h' a ad → own_Ends p e below G (T'.setTop (mkF m q Ls (.ref a :: st)))) : own_Ends p e below G (T.setTop (mkF m pc Ls (.int z :: st))) := by
  subst hq
  obtain ⟨⟨locs, Y, N⟩, eT, hs0, hx, hZ, hby, hml, hown, hret, hlk, hnm⟩ := X
  obtain ⟨T1, h1, kc, Y1, e1, E1, A1, X1, st1⟩ := newPE Y hx hZ w eT (g := mkF m pc Ls (.int z :: st)) rfl (hb hby hd) rfl hz (cap := cap) (by omega) hb8 hc hl had
  exact own_pre st1 (K T1 h1 _ kc rfl ⟨⟨locs, Y1, N⟩, e1, (Nat.le_trans hs0 E1.1), hx, hZ, hby, hml, hown, hret, hlk, hnm⟩ E1 (own_A_new A1 hz hN (by cases aty <;> rfl)) X1)
theorem own_newRA (X : own_W p l e R s m args below meth c Z n0 y bytes ml ret T h k n) (q : Nat) {C : String} {ty : FieldType} {i : Nat} {z : Int32} (len cap : Nat) {ad : String} (hd : decode bytes pc = .ok (.anewarray i, 3)) (hq : pc + 3 = q) (hC : (FieldType.array ty).toString = C) (w1 : (Jvm.Cond.classLink y.cls i C).before a0 Z = true) (w2 : (Jvm.Cond.arrayOver (.array ty)).before a0 Z = true) (hz : ¬ z < 0) (hN : z.toNatClampNeg = len) (hcap : len ≤ cap) (hb8 : cap * 8 ≤ 536870912) (hc : k + 1 ≤ R.cells) (hl : n + cap ≤ R.slots) (had : "[" ++ C = ad)
    (K : ∀ T' h' a kc, a = h.size → own_W p l e R s m args below meth c Z n0 y bytes ml ret T' h' (k + 1) (n + cap) → Ext h h' → own_A Z h' a kc (.array ty) (List.replicate len .null) → OvrA Z kc ty C → Exa Z h' a ad → own_Ends p e below G (T'.setTop (mkF m q Ls (.ref a :: st)))) : own_Ends p e below G (T.setTop (mkF m pc Ls (.int z :: st))) := by
  subst hq
  obtain ⟨⟨locs, Y, N⟩, eT, hs0, hx, hZ, hby, hml, hown, hret, hlk, hnm⟩ := X
  obtain ⟨T1, h1, kc, Y1, e1, E1, A1, X1, O1, st1⟩ := newRA Y hx hZ hown hC w1 w2 eT (g := mkF m pc Ls (.int z :: st)) rfl (hb hby hd) rfl hz (cap := cap) (by omega) hb8 hc hl had
  exact own_pre st1 (K T1 h1 _ kc rfl ⟨⟨locs, Y1, N⟩, e1, (Nat.le_trans hs0 E1.1), hx, hZ, hby, hml, hown, hret, hlk, hnm⟩ E1 (own_A_new A1 hz hN rfl) O1 X1)
theorem own_StoA {Z : State} {h : Heap} {a x : Addr} {kc : ClassId} {t0 ty : FieldType} {vs : List Value} {C : String} (F : own_A Z h a kc t0 vs) (O : OvrA Z kc ty C) (I : Ins Z h x C true) : Sto Z h a (.ref x) := by
  obtain ⟨c, A, r, -⟩ := F
  exact Sto.ofVA A r O I
theorem own_clone (X : own_W p l e R s m args below meth c Z n0 y bytes ml ret T h k n) (q : Nat) {i : Nat} {ad : String} {a : Addr} {kc : ClassId} {ty : FieldType} {vs : List Value} (cap : Nat) (hd : decode bytes pc = .ok (.invokevirtual i, 3)) (hq : pc + 3 = q) (w1 : (Jvm.Cond.methodLink y.cls i ⟨ad, "clone", "()Ljava/lang/Object;"⟩).before a0 Z = true) (w2 : (Jvm.Cond.sameMethod ad "java/lang/Object" "clone" "()Ljava/lang/Object;").before a0 Z = true) (w3 : (Jvm.Cond.native ⟨"java/lang/Object", "clone", "()Ljava/lang/Object;"⟩).before a0 Z = true)
    (w4 : (Jvm.Cond.instanceMethod ⟨"java/lang/Object", "clone", "()Ljava/lang/Object;"⟩).before a0 Z = true) (w5 : (Jvm.Cond.selects ad ⟨ad, "clone", "()Ljava/lang/Object;"⟩ ⟨"java/lang/Object", "clone", "()Ljava/lang/Object;"⟩).before a0 Z = true) (w6 : (Jvm.Cond.castable ad "java/lang/Cloneable").before a0 Z = true)
    (F : own_A Z h a kc ty vs) (E : Exa Z h a ad) (hsz : Ls.size = ml) (hf : 1 ≤ R.frames) (hl : (st.map fun v => v.category).sum + 14 ≤ R.locals) (hcap : vs.length ≤ cap) (hc : k + 1 ≤ R.cells) (hsl : n + cap ≤ R.slots)
    (K : ∀ T' h' b, b = h.size → own_W p l e R s m args below meth c Z n0 y bytes ml ret T' h' (k + 1) (n + cap) → Ext h h' → own_A Z h' b kc ty vs → Exa Z h' b ad → own_Ends p e below G (T'.setTop (mkF m q Ls (.ref b :: st)))) : own_Ends p e below G (T.setTop (mkF m pc Ls (.ref a :: st))) := by
  subst hq
  obtain ⟨⟨locs, Y, N⟩, eT, hs0, hx, hZ, hby, hml, hown, hret, hlk, hnm⟩ := X
  obtain ⟨cl, A, r1, r2, r3, r4⟩ := F
  have hF : FitC Z cl := fitC_of A fun j hj v hv => r4 v (by rw [← r2]; exact List.mem_of_getElem? (by rw [Array.getElem?_toList]; exact hv))
  obtain ⟨T1, h1, Y1, e1, E1, A1, X1, st1⟩ := cloneA Y hx hZ hown w1 w2 w3 w4 w5 w6 eT A E hF (g := mkF m pc Ls (.ref a :: st)) rfl (hsz.trans hml.symm) rfl (hb hby hd) hf (W := (st.map fun v => v.category).sum) (cap := cap) (by show 2 * 0 + _ ≤ _; omega) hl (by rw [← Array.length_toList, r2]; exact hcap) hc hsl
  exact own_pre st1 (K T1 h1 _ rfl ⟨⟨locs, Y1, N⟩, e1, (Nat.le_trans hs0 E1.1), hx, hZ, hby, hml, hown, hret, hlk, hnm⟩ E1 ⟨_, A1, r1, r2, r3, r4⟩ X1)
theorem own_eqInt {args : Array Value} {first s : State} {o : Option Outcome} {idx : List Nat} {a : Term} {n : Int32} (h : (Jvm.Cond.eq a (Jvm.Term.int n)).value args first o s idx = some true) : a.eval args first o idx s = some (.int n) := by
  obtain ⟨x, y, h1, h2, h3, -⟩ := cmp_v (Or.inl h)
  rw [Term.int_eval] at h2
  cases h2
  cases x <;> simp [Kin, Value.isRef] at h3
  rename_i z
  have := gotT (P := z = n) (by simp [Cond.value, h1, Term.int_eval]) h
  rw [h1, this]
theorem own_eqRef {args : Array Value} {first s : State} {o : Option Outcome} {idx : List Nat} {a b : Term} {x : Addr} (h : (Jvm.Cond.eq a b).value args first o s idx = some true) (hb' : b.eval args first o idx s = some (.ref x)) : a.eval args first o idx s = some (.ref x) := by
  obtain ⟨u, v, h1, h2, h3, h4⟩ := cmp_v (Or.inl h)
  cases hb'.symm.trans h2
  have hu : u.isRef = true := by cases u <;> simp [Kin, Value.isRef] at h3 ⊢
  have := gotT (eq_R h1 h2 hu rfl) h
  rw [h1, this]
theorem own_len_size {args : Array Value} {s : State} {t : Term} {a : Addr} {n : Int32} {cell : Cell} {ty : FieldType} (h : (Jvm.Cond.eq (Jvm.Term.length t) (Jvm.Term.int n)).value args s none s [] = some true) (ev : t.eval args s none [] s = some (.ref a)) (A : Arr s s.heap a cell ty) : cell.slots.size < 2 ^ 31 ∧ cell.slots.size.toInt32 = n :=
  IntBox.length_fwd (Cond.before_iff.mpr h) ev A.1 A.2.1 A.2.2
theorem own_A_start {args : Array Value} {s : State} {t : Term} {a : Addr} {ty : FieldType} {n : Int32} {vs : List Value} (hf : Fit s) (ev : t.eval args s none [] s = some (.ref a)) (hA : (Jvm.Cond.arrayOf t ty).value args s none s [] = some true) (hL : (Jvm.Cond.eq (Jvm.Term.length t) (Jvm.Term.int n)).value args s none s [] = some true) (hn : n.toNatClampNeg = vs.length)
    (he : ∀ (i : Nat) (v : Value), vs[i]? = some v → (Jvm.Term.elem t (Jvm.Term.int (Int32.ofNat i))).eval args s none [] s = some v) : ∃ kc, own_A s s.heap a kc ty vs := by
  obtain ⟨c, A⟩ := Arr.start ev hA
  obtain ⟨q1, q2⟩ := own_len_size hL ev A
  have hsz : c.slots.size = vs.length := by
    rw [← hn, ← q2]; show _ = (c.slots.size.toInt32.toInt).toNat; rw [len_toInt q1]; rfl
  refine ⟨c.cls, c, A, rfl, ?_, by omega, ?_⟩
  · apply List.ext_getElem?
    intro i
    by_cases hi : i < vs.length
    · have h1 := elem_in (he i _ (List.getElem?_eq_getElem hi)) ev (Term.int_eval _) A.1
      have hj : (Int32.ofNat i).toNatClampNeg = i := by show (Int32.ofNat i).toInt.toNat = i; rw [Int32.toInt_ofNat_small (by omega)]; rfl
      rw [Array.getElem?_toList, List.getElem?_eq_getElem hi]
      rw [hj] at h1; exact h1.2
    · rw [List.getElem?_eq_none (l := c.slots.toList) (by rw [Array.length_toList]; omega), List.getElem?_eq_none (l := vs) (by omega)]
  · intro v hv
    obtain ⟨i, hi, rfl⟩ := List.getElem_of_mem hv
    have h1 := elem_in (he i _ (List.getElem?_eq_getElem hi)) ev (Term.int_eval _) A.1
    exact elem_fits hf A h1.1 h1.2
/-- the Class object of C -/
def own_Mir (Z : State) (C : String) (mr : Addr) : Prop := ∃ (c : ClassId) (k : Class), Z.vm.findClass C = some c ∧ Z.vm.classes[c]? = some k ∧ k.mirror = some mr
theorem own_gcls (X : own_W p l e R s m args below meth c Z n0 y bytes ml ret T h k n) (q : Nat) {i : Nat} {C : String} {a mr : Addr} (hd : decode bytes pc = .ok (.invokevirtual i, 3)) (hq : pc + 3 = q) (w1 : (Jvm.Cond.methodLink y.cls i ⟨"java/lang/Object", "getClass", "()Ljava/lang/Class;"⟩).before a0 Z = true) (w2 : (Jvm.Cond.declares ⟨"java/lang/Object", "getClass", "()Ljava/lang/Class;"⟩).before a0 Z = true) (w3 : (Jvm.Cond.noSuperclass "java/lang/Object").before a0 Z = true) (w4 : (Jvm.Cond.selects C ⟨"java/lang/Object", "getClass", "()Ljava/lang/Class;"⟩ ⟨"java/lang/Object", "getClass", "()Ljava/lang/Class;"⟩).before a0 Z = true)
    (w5 : (Jvm.Cond.instanceMethod ⟨"java/lang/Object", "getClass", "()Ljava/lang/Class;"⟩).before a0 Z = true) (w6 : (Jvm.Cond.native ⟨"java/lang/Object", "getClass", "()Ljava/lang/Class;"⟩).before a0 Z = true) (E : Exa Z h a C) (M : own_Mir Z C mr) (hsz : Ls.size = ml) (hf : 1 ≤ R.frames) (hl : (st.map fun v => v.category).sum + 14 ≤ R.locals)
    (K : ∀ T', own_W p l e R s m args below meth c Z n0 y bytes ml ret T' h k n → own_Ends p e below G (T'.setTop (mkF m q Ls (.ref mr :: st)))) : own_Ends p e below G (T.setTop (mkF m pc Ls (.ref a :: st))) := by
  subst hq
  obtain ⟨⟨locs, Y, N⟩, eT, hs0, hx, hZ, hby, hml, hown, hret, hlk, hnm⟩ := X
  obtain ⟨cB, kB, i1, i2, i3⟩ := isOf hZ eT E
  obtain ⟨cc, kc, m1, m2, m3⟩ := M
  rw [hZ.alike.findClass] at i1
  cases i1.symm.trans m1
  obtain ⟨k', q, ek⟩ := hZ.alike.2.2 _ _ m2
  obtain ⟨vm', Y1, st1⟩ := Y.getClassOf hx hown (mvT hZ w1) (mvT hZ w2) (nf_top (args := #[]) (mvT hZ w3)) (mvT hZ w4) (mvT hZ w5) (mvT hZ w6) (by rw [hZ.alike.findClass]; exact m1) i3 q (by rw [ek]; exact m3) (g := mkF m pc Ls (.ref a :: st)) rfl (hsz.trans hml.symm) rfl (hb hby hd) hf (by show 2 * 0 + _ + (nativeFrameWords "java/lang/Object" "getClass" 1 + 11) ≤ _; rw [show nativeFrameWords "java/lang/Object" "getClass" 1 = 3 from by decide]; omega)
  exact own_pre st1 (K _ ⟨⟨locs, Y1, N⟩, eT, hs0, hx, hZ, hby, hml, hown, hret, hlk, hnm⟩)
theorem own_ldcM (X : own_W p l e R s m args below meth c Z n0 y bytes ml ret T h k n) (q : Nat) {i : Nat} {C : String} {mr : Addr} (hd : decode bytes pc = .ok (.ldc i, 2)) (hq : pc + 2 = q) (w : (Jvm.Cond.classLink y.cls i C).before a0 Z = true) (M : own_Mir Z C mr)
    (K : ∀ T', own_W p l e R s m args below meth c Z n0 y bytes ml ret T' h k n → own_Ends p e below G (T'.setTop (mkF m q Ls (.ref mr :: st)))) : own_Ends p e below G (T.setTop (mkF m pc Ls st)) := by
  subst hq
  obtain ⟨⟨locs, Y, N⟩, eT, hs0, hx, hZ, hby, hml, hown, hret, hlk, hnm⟩ := X
  obtain ⟨cc, kc, m1, m2, m3⟩ := M
  obtain ⟨k', q, ek⟩ := hZ.alike.2.2 _ _ m2
  have hk' : k'.mirror = some mr := by rw [ek]; exact m3
  have hf' : s.vm.findClass C = some cc := by rw [hZ.alike.findClass]; exact m1
  obtain ⟨vm', Y1, st1⟩ := Y.ldcMirror hx hown (mvT hZ w) (a := mr) (by simp [Term.eval, hf', q, hk']) (g := mkF m pc Ls st) rfl (hb hby hd)
  exact own_pre st1 (K _ ⟨⟨locs, Y1, N⟩, eT, hs0, hx, hZ, hby, hml, hown, hret, hlk, hnm⟩)
theorem own_tswIn (X : own_W p l e R s m args below meth c Z n0 y bytes ml ret T h k n) (q : Nat) {dflt low high o : Int} {offs : Array Int} {len : Nat} {x : Int32} (hd : decode bytes pc = .ok (.tableswitch dflt low high offs, len)) (hin : ¬ (x.toInt < low ∨ x.toInt > high)) (hoff : offs[(x.toInt - low).toNat]? = some o) (ho : 0 ≤ (pc : Int) + o) (hq : ((pc : Int) + o).toNat = q) (K : own_Ends p e below G (T.setTop (mkF m q Ls st))) : own_Ends p e below G (T.setTop (mkF m pc Ls (.int x :: st))) := by
  obtain ⟨⟨locs, Y, N⟩, eT, hs0, hx, hZ, hby, hml, hown, hret, hlk, hnm⟩ := X
  exact own_pre (fun t K => XS.tswIn Y.here hx rfl rfl (hb hby hd) rfl hin hoff ho hq K) K
theorem own_tswOut (X : own_W p l e R s m args below meth c Z n0 y bytes ml ret T h k n) (q : Nat) {dflt low high : Int} {offs : Array Int} {len : Nat} {x : Int32} (hd : decode bytes pc = .ok (.tableswitch dflt low high offs, len)) (hout : x.toInt < low ∨ x.toInt > high) (ho : 0 ≤ (pc : Int) + dflt) (hq : ((pc : Int) + dflt).toNat = q) (K : own_Ends p e below G (T.setTop (mkF m q Ls st))) : own_Ends p e below G (T.setTop (mkF m pc Ls (.int x :: st))) := by
  obtain ⟨⟨locs, Y, N⟩, eT, hs0, hx, hZ, hby, hml, hown, hret, hlk, hnm⟩ := X
  exact own_pre (fun t K => XS.tswOut Y.here hx rfl rfl (hb hby hd) rfl hout ho hq K) K
theorem own_initN (X : own_W p l e R s m args below meth c Z n0 y bytes ml ret T h k n) (q : Nat) {y' : MethodName} {bytes' : ByteArray} {ml' : Nat} {rm : Room} {as' : Array Value} {Q : Option Value → Heap → Prop} {i : Nat} {ps : List FieldType} {rr : Option FieldType} {a : Addr} {host : String} (argsL rest : List Value) (hd : decode bytes pc = .ok (.invokespecial i, 3)) (hq : pc + 3 = q) (w1 : (Jvm.Cond.methodLinkNest y.cls i y' host).before a0 Z = true) (w2 : (Jvm.Cond.instanceMethod y').before a0 Z = true) (w3 : (Jvm.Cond.initialized y'.cls).before a0 Z = true) (w4 : (Jvm.Cond.code y' bytes' ml' none).before a0 Z = true) (hy : y'.cls ≠ "java/lang/invoke/MethodHandle" ∧ y'.cls ≠ "java/lang/invoke/VarHandle") (hy1 : y'.name = "<init>")
    (M : own_Met l y' bytes' ml' none rm Z as' h n0 Q) (hkeep : ∀ v h', Q v h' → h.size ≤ h'.size) (has : as' = (.ref a :: argsL).toArray) (hpd : parseMethodDescriptor y'.desc = some ⟨ps, rr⟩) (hlen : argsL.length = ps.length) (hst : st = argsL.reverse ++ .ref a :: rest) (hsz : Ls.size = ml) (hf : rm.frames + 1 ≤ R.frames) (hl : (rest.map fun v => v.category).sum + (ml' + 11) + rm.locals ≤ R.locals) (hck : k + rm.cells ≤ R.cells) (hcn : n + rm.slots ≤ R.slots)
    (K : ∀ v T' h', own_W p l e R s m args below meth c Z n0 y bytes ml ret T' h' (k + rm.cells) (n + rm.slots) → Q v h' → own_Ends p e below G (T'.setTop (mkF m q Ls (v.toList ++ rest)))) : own_Ends p e below G (T.setTop (mkF m pc Ls st)) := by
  subst hq has hst
  obtain ⟨⟨locs, Y, N⟩, eT, hs0, hx, hZ, hby, hml, hown, hret, hlk, hnm⟩ := X
  obtain ⟨v1, _, ⟨T1, L1, k1, n1⟩, -, Y1, ⟨Lc1, hQ1, l1, c1, s1⟩, st1⟩ := Y.specialBackNest hx hy1 hown (Cond.methodLinkNest_wide hZ w1 :) (mvT hZ w2) (mvT hZ w4) hy (backOf (Q := fun v h L => Q v h ∧ Fr n0 L) (W := (rest.map fun v => v.category).sum) (M []) hZ w4 w3 hf (by omega)) (g := mkF m pc Ls (argsL.reverse ++ .ref a :: rest)) rfl (hsz.trans hml.symm) (Steps.refl _) (a := a) (argsL := argsL) (rest := rest) (lenOf hpd hlen) rfl (by show 2 * 0 + _ ≤ _; omega) (hb hby hd) (fun _ _ => ⟨rfl, eT, hck, hcn⟩)
  dsimp only [Pt.U, Pt.locs, Pt.cells, Pt.slots] at Y1 l1 c1 s1 st1 hQ1
  subst l1 c1 s1
  exact own_pre (fun t K => st1.trans K) (K _ _ _ ⟨⟨_, Y1, Fr.app N hQ1.2⟩, rfl, Nat.le_trans hs0 (hkeep _ _ hQ1.1), hx, hZ, hby, hml, hown, hret, hlk, hnm⟩ hQ1.1)
theorem own_A_arv {Z : State} {h : Heap} {a : Addr} {kc : ClassId} {ty : FieldType} {vs : List Value} (F : own_A Z h a kc ty vs) : Arv Z h a kc ty vs.length.toInt32 vs .null ∧ vs.length.toInt32.toNatClampNeg = vs.length := by
  obtain ⟨c, A, r1, r2, r3, r4⟩ := F
  have hz : vs.length.toInt32.toNatClampNeg = vs.length := by show (vs.length.toInt32.toInt).toNat = _; rw [len_toInt r3]; rfl
  have hs : c.slots.size = vs.length := by rw [← r2, Array.length_toList]
  refine ⟨⟨c, A, r1, by rw [hz, hs], ?_, fun i hi => ?_, fun i hi => ?_⟩, hz⟩
  · rw [Int32.lt_iff_toInt_lt, len_toInt r3, show (0 : Int32).toInt = 0 from by decide]; omega
  · rw [hs] at hi
    rw [← Array.getElem?_toList, r2, List.getD_eq_getElem?_getD, List.getElem?_eq_getElem hi]; rfl
  · rw [hs] at hi
    rw [List.getD_eq_getElem?_getD, List.getElem?_eq_getElem hi]; exact r4 _ (List.getElem_mem hi)
theorem own_A_of {Z : State} {h : Heap} {a : Addr} {kc : ClassId} {ty : FieldType} {z : Int32} {vs : List Value} {d : Value} (F : Arv Z h a kc ty z vs d) (hl : z.toNatClampNeg = vs.length) : own_A Z h a kc ty vs := by
  obtain ⟨c, A, r1, r2, r3, r4, r5⟩ := F
  have hs : c.slots.size = vs.length := by rw [r2, hl]
  have h31 : vs.length < 2 ^ 31 := by rw [← hl]; exact (back32 r3).2
  have hL : c.slots.toList = vs := by
    apply List.ext_getElem?
    intro i
    by_cases hi : i < vs.length
    · rw [Array.getElem?_toList, r4 i (by omega), List.getD_eq_getElem?_getD, List.getElem?_eq_getElem hi]; rfl
    · rw [List.getElem?_eq_none (l := c.slots.toList) (by rw [Array.length_toList]; omega), List.getElem?_eq_none (l := vs) (by omega)]
  refine ⟨c, A, r1, hL, h31, fun v hv => ?_⟩
  obtain ⟨i, hi, rfl⟩ := List.getElem_of_mem hv
  have := r5 i (by omega)
  rwa [List.getD_eq_getElem?_getD, List.getElem?_eq_getElem hi] at this
theorem own_cpy (X : own_W p l e R s m args below meth c Z n0 y bytes ml ret T h k n) (q : Nat) {i : Nat} {a b : Addr} {k1 k2 : ClassId} {ty1 ty2 : FieldType} {vs vd : List Value} {sp dp nn : Int32} (sn dn cn : Nat) (us res : List Value) (hd : decode bytes pc = .ok (.invokestatic i, 3)) (hq : pc + 3 = q) (w1 : (Jvm.Cond.methodLink y.cls i Jvm.Stand.acN).before a0 Z = true) (w2 : (Jvm.Cond.native Jvm.Stand.acN).before a0 Z = true) (w3 : (Jvm.Cond.static Jvm.Stand.acN).before a0 Z = true) (w4 : (Jvm.Cond.initialized "java/lang/System").before a0 Z = true)
    (A : own_A Z h a k1 ty1 vs) (B : own_A Z h b k2 ty2 vd) (hty : (ty1 = ty2 ∧ refKind ty1 = false) ∨ (refKind ty1 = true ∧ refKind ty2 = true ∧ StoL Z h b us)) (h1 : sp.toNatClampNeg = sn) (h1' : ¬ sp < 0) (h2 : dp.toNatClampNeg = dn) (h2' : ¬ dp < 0) (h3 : nn.toNatClampNeg = cn) (h3' : ¬ nn < 0) (h4 : sn + cn ≤ vs.length) (h5 : dn + cn ≤ vd.length)
    (hus : us = (List.range cn).map fun i => vs.getD (sn + i) .null) (hres : vd.take dn ++ us ++ vd.drop (dn + cn) = res) (hnew : n0 ≤ b) (hsz : Ls.size = ml) (hf : 1 ≤ R.frames) (hl : (st.map fun v => v.category).sum + 18 ≤ R.locals)
    (K : ∀ T' h', own_W p l e R s m args below meth c Z n0 y bytes ml ret T' h' k n → Keep h h' [b] → own_A Z h' b k2 ty2 res → own_Ends p e below G (T'.setTop (mkF m q Ls st))) : own_Ends p e below G (T.setTop (mkF m pc Ls (.int nn :: .int dp :: .ref b :: .int sp :: .ref a :: st))) := by
  subst hq h1 h2 h3 hres
  obtain ⟨⟨locs, Y, N⟩, eT, hs0, hx, hZ, hby, hml, hown, hret, hlk, hnm⟩ := X
  obtain ⟨A1, A2⟩ := own_A_arv A
  obtain ⟨B1, B2⟩ := own_A_arv B
  obtain ⟨T1, h1, L1, Y1, e1, N1, K1, V1, st1⟩ := cpA Y hx hZ hown w1 w2 w3 w4 eT (us := us) A1 B1 hty h1' h2' h3' (by rw [A2]; exact h4) (by rw [B2]; exact h5) hus h5 N hnew (g := mkF m pc Ls (.int nn :: .int dp :: .ref b :: .int sp :: .ref a :: st)) rfl (hsz.trans hml.symm) rfl (hb hby hd) hf (W := (st.map fun v => v.category).sum) (by show 2 * 0 + _ ≤ _; omega) (by rw [show nativeFrameWords "java/lang/System" "arraycopy" 5 = 7 from by decide]; exact hl)
  exact own_pre st1 (K T1 h1 ⟨⟨L1, Y1, N1⟩, e1, Nat.le_trans hs0 K1.1, hx, hZ, hby, hml, hown, hret, hlk, hnm⟩ K1 (own_A_of V1 (by rw [B2, hus]; simp only [List.length_append, List.length_take, List.length_drop, List.length_map, List.length_range]; omega)))
end OwnKit
theorem own_shr0 (x : Int32) : x >>> ((0 : Int32) &&& 31) = x := by
  rw [show (0 : Int32) &&& 31 = 0 from by decide]; exact Int32.shiftRight_zero
def own_c1 (u : Int32) : Int32 := nar .char ((u &&& 255).toUInt32.toUInt16.toUInt32.toInt32)
def own_c2 (u : Int32) : Int32 := nar .char (own_c1 u)
theorem own_d16_0 : decode jdk_42_method_152_code 0 = .ok (.getstatic 38, 3) := by decide +kernel
theorem own_d16_3 : decode jdk_42_method_152_code 3 = .ok (.ifCond .eq 10, 3) := by decide +kernel
theorem own_d16_6 : decode jdk_42_method_152_code 6 = .ok (.aload_n 0, 1) := by decide +kernel
theorem own_d16_7 : decode jdk_42_method_152_code 7 = .ok (.getfield 15, 3) := by decide +kernel
theorem own_d16_10 : decode jdk_42_method_152_code 10 = .ok (.goto 4, 3) := by decide +kernel
theorem own_d16_14 : decode jdk_42_method_152_code 14 = .ok (.ireturn, 1) := by decide +kernel
theorem own_pn16 : plainFor (⟨"java/lang/String", "coder", "()B"⟩ : MethodName) = true := plainFor_of_name (by first | (simp [plainName, overriddenIn]; done) | decide +kernel)
set_option maxRecDepth 65536 in
set_option maxHeartbeats 40000000 in
theorem own_coder (l : Launch) (Z : State) (a0 : Array Value) (hw : ∀ d ∈ tables_1, d.before a0 Z = true) (a : Addr) (cs : Int32) (h0 : Heap) (n0 : Nat) (hs0 : n0 ≤ h0.size) (OL : Old Z n0 h0) (z_cs : Sta Z Z.heap "java/lang/String" "COMPACT_STRINGS" "Z" (.int cs)) (hcs : ¬ cs = 0) (Fc : Fld Z h0 a "java/lang/String" "coder" "B" (.int 0)) :
    own_Met l (⟨"java/lang/String", "coder", "()B"⟩ : MethodName) jdk_42_method_152_code 1 (some .byte) ({ frames := 0, cells := 0, slots := 0, locals := 0 } : Room) Z #[(.ref a)] h0 n0 (fun v h' => h' = h0 ∧ v = some (.int (0 : Int32))) := by
  refine own_met (Ls := #[.val (.ref a)]) own_pn16 hs0 (fun m => by first  | (simp [entryFrame, mkF, argsToLocals, Value.category]; done) | rfl) ?_
  intro p e s m below meth c T X
  have hi_a : h0.size > a := Fc.lt
  refine own_getS X 3 own_d16_0 rfl (hw _ (List.mem_of_getElem? (i := 19) rfl)) Via.refl (Sta.ext OL.2 z_cs) ?_
  intro T X
  refine own_ifN X 6 own_d16_3 rfl (XT.i0_eq_f hcs) ?_
  refine own_aloadN X 7 (.ref a) own_d16_6 rfl rfl rfl ?_
  refine own_getF X 10 own_d16_7 rfl (hw _ (List.mem_of_getElem? (i := 31) rfl)) Via.refl Fc ?_
  intro T X
  refine own_goto X 14 own_d16_10 (by decide) (by decide) ?_
  exact own_retN X .byte own_d16_14 rfl (by simp) (by decide) (by decide) (⟨rfl, rfl⟩)
theorem own_d18_0 : decode jdk_42_method_154_code 0 = .ok (.getstatic 38, 3) := by decide +kernel
theorem own_d18_3 : decode jdk_42_method_154_code 3 = .ok (.ifCond .eq 14, 3) := by decide +kernel
theorem own_d18_6 : decode jdk_42_method_154_code 6 = .ok (.aload_n 0, 1) := by decide +kernel
theorem own_d18_7 : decode jdk_42_method_154_code 7 = .ok (.getfield 15, 3) := by decide +kernel
theorem own_d18_10 : decode jdk_42_method_154_code 10 = .ok (.ifCond .ne 7, 3) := by decide +kernel
theorem own_d18_13 : decode jdk_42_method_154_code 13 = .ok (.iconst 1, 1) := by decide +kernel
theorem own_d18_14 : decode jdk_42_method_154_code 14 = .ok (.goto 4, 3) := by decide +kernel
theorem own_d18_18 : decode jdk_42_method_154_code 18 = .ok (.ireturn, 1) := by decide +kernel
theorem own_pn18 : plainFor (⟨"java/lang/String", "isLatin1", "()Z"⟩ : MethodName) = true := plainFor_of_name (by first | (simp [plainName, overriddenIn]; done) | decide +kernel)
set_option maxRecDepth 65536 in
set_option maxHeartbeats 40000000 in
theorem own_lat (l : Launch) (Z : State) (a0 : Array Value) (hw : ∀ d ∈ tables_1, d.before a0 Z = true) (a : Addr) (cs : Int32) (h0 : Heap) (n0 : Nat) (hs0 : n0 ≤ h0.size) (OL : Old Z n0 h0) (z_cs : Sta Z Z.heap "java/lang/String" "COMPACT_STRINGS" "Z" (.int cs)) (hcs : ¬ cs = 0) (Fc : Fld Z h0 a "java/lang/String" "coder" "B" (.int 0)) :
    own_Met l (⟨"java/lang/String", "isLatin1", "()Z"⟩ : MethodName) jdk_42_method_154_code 1 (some .boolean) ({ frames := 0, cells := 0, slots := 0, locals := 0 } : Room) Z #[(.ref a)] h0 n0 (fun v h' => h' = h0 ∧ v = some (.int (1 : Int32))) := by
  refine own_met (Ls := #[.val (.ref a)]) own_pn18 hs0 (fun m => by first  | (simp [entryFrame, mkF, argsToLocals, Value.category]; done) | rfl) ?_
  intro p e s m below meth c T X
  have hi_a : h0.size > a := Fc.lt
  refine own_getS X 3 own_d18_0 rfl (hw _ (List.mem_of_getElem? (i := 19) rfl)) Via.refl (Sta.ext OL.2 z_cs) ?_
  intro T X
  refine own_ifN X 6 own_d18_3 rfl (XT.i0_eq_f hcs) ?_
  refine own_aloadN X 7 (.ref a) own_d18_6 rfl rfl rfl ?_
  refine own_getF X 10 own_d18_7 rfl (hw _ (List.mem_of_getElem? (i := 31) rfl)) Via.refl Fc ?_
  intro T X
  refine own_ifN X 13 own_d18_10 rfl (XT.i0_ne_f rfl) ?_
  refine own_iconst X 14 (1 : Int32) own_d18_13 rfl rfl ?_
  refine own_goto X 18 own_d18_14 (by decide) (by decide) ?_
  exact own_retN X .boolean own_d18_18 rfl (by simp) (by decide) (by decide) (⟨rfl, rfl⟩)
theorem own_d15_0 : decode jdk_42_method_54_code 0 = .ok (.aload_n 0, 1) := by decide +kernel
theorem own_d15_1 : decode jdk_42_method_54_code 1 = .ok (.getfield 9, 3) := by decide +kernel
theorem own_d15_4 : decode jdk_42_method_54_code 4 = .ok (.arraylength, 1) := by decide +kernel
theorem own_d15_5 : decode jdk_42_method_54_code 5 = .ok (.aload_n 0, 1) := by decide +kernel
theorem own_d15_6 : decode jdk_42_method_54_code 6 = .ok (.invokevirtual 335, 3) := by decide +kernel
theorem own_pd0 : parseMethodDescriptor "()B" = some ⟨[], some .byte⟩ := by decide +kernel
theorem own_d15_9 : decode jdk_42_method_54_code 9 = .ok (.ishr, 1) := by decide +kernel
theorem own_d15_10 : decode jdk_42_method_54_code 10 = .ok (.ireturn, 1) := by decide +kernel
theorem own_pn15 : plainFor (⟨"java/lang/String", "length", "()I"⟩ : MethodName) = true := plainFor_of_name (by first | (simp [plainName, overriddenIn]; done) | decide +kernel)
set_option maxRecDepth 65536 in
set_option maxHeartbeats 40000000 in
theorem own_slen (l : Launch) (Z : State) (a0 : Array Value) (hw : ∀ d ∈ tables_1, d.before a0 Z = true) (a : Addr) (cs : Int32) (sv : Addr) (ks : ClassId) (us : List Value) (lr : Int32) (h0 : Heap) (n0 : Nat) (hs0 : n0 ≤ h0.size) (OL : Old Z n0 h0) (z_cs : Sta Z Z.heap "java/lang/String" "COMPACT_STRINGS" "Z" (.int cs)) (hcs : ¬ cs = 0) (Es_a : Exa Z h0 a "java/lang/String") (Fc_a : Fld Z h0 a "java/lang/String" "coder" "B" (.int 0)) (Fv_a : Fld Z h0 a "java/lang/String" "value" "[B" (.ref sv)) (As : own_A Z h0 sv ks .byte us) (hlr : us.length.toInt32 = lr) :
    own_Met l (⟨"java/lang/String", "length", "()I"⟩ : MethodName) jdk_42_method_54_code 1 (some .int) ({ frames := 1, cells := 0, slots := 0, locals := 13 } : Room) Z #[(.ref a)] h0 n0 (fun v h' => h' = h0 ∧ v = some (.int lr)) := by
  refine own_met (Ls := #[.val (.ref a)]) own_pn15 hs0 (fun m => by first  | (simp [entryFrame, mkF, argsToLocals, Value.category]; done) | rfl) ?_
  intro p e s m below meth c T X
  have hi_sv : h0.size > sv := As.lt
  have hi_a : h0.size > a := Es_a.lt
  refine own_aloadN X 1 (.ref a) own_d15_0 rfl rfl rfl ?_
  refine own_getF X 4 own_d15_1 rfl (hw _ (List.mem_of_getElem? (i := 33) rfl)) Via.refl Fv_a ?_
  intro T X
  refine own_len X 5 us.length.toInt32 own_d15_4 rfl As rfl ?_
  refine own_aloadN X 6 (.ref a) own_d15_5 rfl rfl rfl ?_
  refine own_callV X 9 [] [(.int us.length.toInt32)] own_d15_6 rfl (hw _ (List.mem_of_getElem? (i := 66) rfl)) (hw _ (List.mem_of_getElem? (i := 67) rfl)) (own_nf X.2.2.2.2.1 (hw _ (List.mem_of_getElem? (i := 69) rfl))) (hw _ (List.mem_of_getElem? (i := 69) rfl)) (hw _ (List.mem_of_getElem? (i := 68) rfl)) (hw _ (List.mem_of_getElem? (i := 8) rfl)) (hw _ (List.mem_of_getElem? (i := 70) rfl)) (by decide) Es_a (own_coder l Z a0 hw a cs h0 n0 X.sz OL z_cs hcs Fc_a) (fun _ _ q => Nat.le_of_eq (congrArg Array.size q.1.symm)) rfl own_pd0 rfl rfl rfl (by decide) (Nat.le_of_ble_eq_true rfl) (by decide) (by decide) ?_
  rintro v6 T h_ X ⟨eh_, rfl⟩
  rw [eh_] at X
  show own_Ends p e below _ (T.setTop (mkF m 9 #[.val (.ref a)] [(.int (0 : Int32)), (.int us.length.toInt32)]))
  refine own_ishr X 10 own_d15_9 rfl ?_
  exact own_retI X own_d15_10 rfl (by decide) (by decide) (⟨rfl, by rw [own_shr0, hlr]⟩)
theorem own_d14_0 : decode jdk_42_method_55_code 0 = .ok (.aload_n 0, 1) := by decide +kernel
theorem own_d14_1 : decode jdk_42_method_55_code 1 = .ok (.getfield 9, 3) := by decide +kernel
theorem own_d14_4 : decode jdk_42_method_55_code 4 = .ok (.arraylength, 1) := by decide +kernel
theorem own_d14_5 : decode jdk_42_method_55_code 5 = .ok (.ifCond .ne 7, 3) := by decide +kernel
theorem own_d14_12 : decode jdk_42_method_55_code 12 = .ok (.iconst 0, 1) := by decide +kernel
theorem own_d14_13 : decode jdk_42_method_55_code 13 = .ok (.ireturn, 1) := by decide +kernel
theorem own_pn14 : plainFor (⟨"java/lang/String", "isEmpty", "()Z"⟩ : MethodName) = true := plainFor_of_name (by first | (simp [plainName, overriddenIn]; done) | decide +kernel)
set_option maxRecDepth 65536 in
set_option maxHeartbeats 40000000 in
theorem own_semp (l : Launch) (Z : State) (a0 : Array Value) (hw : ∀ d ∈ tables_1, d.before a0 Z = true) (a : Addr) (cs : Int32) (sv : Addr) (ks : ClassId) (us : List Value) (h0 : Heap) (n0 : Nat) (hs0 : n0 ≤ h0.size) (OL : Old Z n0 h0) (z_cs : Sta Z Z.heap "java/lang/String" "COMPACT_STRINGS" "Z" (.int cs)) (hcs : ¬ cs = 0) (Es_a : Exa Z h0 a "java/lang/String") (Fc_a : Fld Z h0 a "java/lang/String" "coder" "B" (.int 0)) (Fv_a : Fld Z h0 a "java/lang/String" "value" "[B" (.ref sv)) (As : own_A Z h0 sv ks .byte us) (hne : ¬ us.length.toInt32 = 0) :
    own_Met l (⟨"java/lang/String", "isEmpty", "()Z"⟩ : MethodName) jdk_42_method_55_code 1 (some .boolean) ({ frames := 0, cells := 0, slots := 0, locals := 0 } : Room) Z #[(.ref a)] h0 n0 (fun v h' => h' = h0 ∧ v = some (.int (0 : Int32))) := by
  refine own_met (Ls := #[.val (.ref a)]) own_pn14 hs0 (fun m => by first  | (simp [entryFrame, mkF, argsToLocals, Value.category]; done) | rfl) ?_
  intro p e s m below meth c T X
  have hi_sv : h0.size > sv := As.lt
  have hi_a : h0.size > a := Es_a.lt
  refine own_aloadN X 1 (.ref a) own_d14_0 rfl rfl rfl ?_
  refine own_getF X 4 own_d14_1 rfl (hw _ (List.mem_of_getElem? (i := 33) rfl)) Via.refl Fv_a ?_
  intro T X
  refine own_len X 5 us.length.toInt32 own_d14_4 rfl As rfl ?_
  refine own_ifY X 12 own_d14_5 (by decide) (by decide) (XT.i0_ne_t hne) ?_
  refine own_iconst X 13 (0 : Int32) own_d14_12 rfl rfl ?_
  exact own_retN X .boolean own_d14_13 rfl (by simp) (by decide) (by decide) (⟨rfl, rfl⟩)
theorem own_d21_0 : decode jdk_41_method_11_code 0 = .ok (.iload_n 0, 1) := by decide +kernel
theorem own_d21_1 : decode jdk_41_method_11_code 1 = .ok (.ifCond .lt 8, 3) := by decide +kernel
theorem own_d21_4 : decode jdk_41_method_11_code 4 = .ok (.iload_n 0, 1) := by decide +kernel
theorem own_d21_5 : decode jdk_41_method_11_code 5 = .ok (.iload_n 1, 1) := by decide +kernel
theorem own_d21_6 : decode jdk_41_method_11_code 6 = .ok (.if_icmp .lt 10, 3) := by decide +kernel
theorem own_d21_16 : decode jdk_41_method_11_code 16 = .ok (.iload_n 0, 1) := by decide +kernel
theorem own_d21_17 : decode jdk_41_method_11_code 17 = .ok (.ireturn, 1) := by decide +kernel
theorem own_pn21 : plainFor (⟨"jdk/internal/util/Preconditions", "checkIndex", "(IILjava/util/function/BiFunction;)I"⟩ : MethodName) = true := plainFor_of_name (by first | (simp [plainName, overriddenIn]; done) | decide +kernel)
set_option maxRecDepth 65536 in
set_option maxHeartbeats 40000000 in
theorem own_pck (l : Launch) (Z : State) (a0 : Array Value) (hw : ∀ d ∈ tables_1, d.before a0 Z = true) (jj : Int32) (ln : Int32) (fo : Value) (h0 : Heap) (n0 : Nat) (hs0 : n0 ≤ h0.size) (h1 : ¬ jj < 0) (h2 : jj < ln) (hfo : fo.isRef = true) :
    own_Met l (⟨"jdk/internal/util/Preconditions", "checkIndex", "(IILjava/util/function/BiFunction;)I"⟩ : MethodName) jdk_41_method_11_code 3 (some .int) ({ frames := 0, cells := 0, slots := 0, locals := 0 } : Room) Z #[(.int jj), (.int ln), fo] h0 n0 (fun v h' => h' = h0 ∧ v = some (.int jj)) := by
  refine own_met (Ls := #[.val (.int jj), .val (.int ln), .val fo]) own_pn21 hs0 (fun m => by first | (cases fo <;> first | rfl | (simp [Value.isRef] at hfo; done)) | (simp [entryFrame, mkF, argsToLocals, Value.category]; done) | rfl) ?_
  intro p e s m below meth c T X
  refine own_iloadN X 1 jj own_d21_0 rfl rfl ?_
  refine own_ifN X 4 own_d21_1 rfl (XT.i0_lt_f h1) ?_
  refine own_iloadN X 5 jj own_d21_4 rfl rfl ?_
  refine own_iloadN X 6 ln own_d21_5 rfl rfl ?_
  refine own_icY X 16 own_d21_6 (by decide) (by decide) (XT.ii_lt_t h2) ?_
  refine own_iloadN X 17 jj own_d21_16 rfl rfl ?_
  exact own_retI X own_d21_17 rfl (by decide) (by decide) (⟨rfl, rfl⟩)
theorem own_d20_0 : decode jdk_42_method_155_code 0 = .ok (.iload_n 0, 1) := by decide +kernel
theorem own_d20_1 : decode jdk_42_method_155_code 1 = .ok (.iload_n 1, 1) := by decide +kernel
theorem own_d20_2 : decode jdk_42_method_155_code 2 = .ok (.getstatic 1053, 3) := by decide +kernel
theorem own_d20_5 : decode jdk_42_method_155_code 5 = .ok (.invokestatic 1059, 3) := by decide +kernel
theorem own_pd1 : parseMethodDescriptor "(IILjava/util/function/BiFunction;)I" = some ⟨[.int, .int, (.object "java/util/function/BiFunction")], some .int⟩ := by decide +kernel
theorem own_d20_8 : decode jdk_42_method_155_code 8 = .ok (.pop, 1) := by decide +kernel
theorem own_d20_9 : decode jdk_42_method_155_code 9 = .ok (.return_, 1) := by decide +kernel
theorem own_pn20 : plainFor (⟨"java/lang/String", "checkIndex", "(II)V"⟩ : MethodName) = true := plainFor_of_name (by first | (simp [plainName, overriddenIn]; done) | decide +kernel)
set_option maxRecDepth 65536 in
set_option maxHeartbeats 40000000 in
theorem own_sck (l : Launch) (Z : State) (a0 : Array Value) (hw : ∀ d ∈ tables_1, d.before a0 Z = true) (jj : Int32) (ln : Int32) (fo : Value) (h0 : Heap) (n0 : Nat) (hs0 : n0 ≤ h0.size) (OL : Old Z n0 h0) (z_fo : Sta Z Z.heap "jdk/internal/util/Preconditions" "SIOOBE_FORMATTER" "Ljava/util/function/BiFunction;" fo) (hfo : fo.isRef = true) (h1 : ¬ jj < 0) (h2 : jj < ln) :
    own_Met l (⟨"java/lang/String", "checkIndex", "(II)V"⟩ : MethodName) jdk_42_method_155_code 2 none ({ frames := 1, cells := 0, slots := 0, locals := 14 } : Room) Z #[(.int jj), (.int ln)] h0 n0 (fun v h' => h' = h0 ∧ v = none) := by
  refine own_met (Ls := #[.val (.int jj), .val (.int ln)]) own_pn20 hs0 (fun m => by first  | (simp [entryFrame, mkF, argsToLocals, Value.category]; done) | rfl) ?_
  intro p e s m below meth c T X
  refine own_iloadN X 1 jj own_d20_0 rfl rfl ?_
  refine own_iloadN X 2 ln own_d20_1 rfl rfl ?_
  refine own_getS X 5 own_d20_2 rfl (hw _ (List.mem_of_getElem? (i := 87) rfl)) Via.refl (Sta.ext OL.2 z_fo) ?_
  intro T X
  refine own_callS X 8 [(.int jj), (.int ln), fo] [] own_d20_5 rfl (hw _ (List.mem_of_getElem? (i := 89) rfl)) (hw _ (List.mem_of_getElem? (i := 90) rfl)) (hw _ (List.mem_of_getElem? (i := 88) rfl)) (hw _ (List.mem_of_getElem? (i := 91) rfl)) (by decide) (own_pck l Z a0 hw jj ln fo h0 n0 X.sz h1 h2 hfo) (fun _ _ q => Nat.le_of_eq (congrArg Array.size q.1.symm)) rfl own_pd1 rfl rfl rfl (by decide) (Nat.le_of_ble_eq_true rfl) (by decide) (by decide) ?_
  rintro v5 T h_ X ⟨eh_, rfl⟩
  rw [eh_] at X
  show own_Ends p e below _ (T.setTop (mkF m 8 #[.val (.int jj), .val (.int ln)] [(.int jj)]))
  refine own_pop X 9 own_d20_8 rfl rfl ?_
  exact own_retV X own_d20_9 rfl (by decide) (by decide) (⟨rfl, rfl⟩)
theorem own_d19_0 : decode jdk_43_method_2_code 0 = .ok (.iload_n 1, 1) := by decide +kernel
theorem own_d19_1 : decode jdk_43_method_2_code 1 = .ok (.aload_n 0, 1) := by decide +kernel
theorem own_d19_2 : decode jdk_43_method_2_code 2 = .ok (.arraylength, 1) := by decide +kernel
theorem own_d19_3 : decode jdk_43_method_2_code 3 = .ok (.invokestatic 9, 3) := by decide +kernel
theorem own_pd2 : parseMethodDescriptor "(II)V" = some ⟨[.int, .int], none⟩ := by decide +kernel
theorem own_d19_6 : decode jdk_43_method_2_code 6 = .ok (.aload_n 0, 1) := by decide +kernel
theorem own_d19_7 : decode jdk_43_method_2_code 7 = .ok (.iload_n 1, 1) := by decide +kernel
theorem own_d19_8 : decode jdk_43_method_2_code 8 = .ok (.baload, 1) := by decide +kernel
theorem own_d19_9 : decode jdk_43_method_2_code 9 = .ok (.sipush 255, 3) := by decide +kernel
theorem own_d19_12 : decode jdk_43_method_2_code 12 = .ok (.iand, 1) := by decide +kernel
theorem own_d19_13 : decode jdk_43_method_2_code 13 = .ok (.i2c, 1) := by decide +kernel
theorem own_d19_14 : decode jdk_43_method_2_code 14 = .ok (.ireturn, 1) := by decide +kernel
theorem own_pn19 : plainFor (⟨"java/lang/StringLatin1", "charAt", "([BI)C"⟩ : MethodName) = true := plainFor_of_name (by first | (simp [plainName, overriddenIn]; done) | decide +kernel)
set_option maxRecDepth 65536 in
set_option maxHeartbeats 40000000 in
theorem own_lch (l : Launch) (Z : State) (a0 : Array Value) (hw : ∀ d ∈ tables_1, d.before a0 Z = true) (av : Addr) (jj : Int32) (ks : ClassId) (us : List Value) (t : Nat) (u : Int32) (fo : Value) (h0 : Heap) (n0 : Nat) (hs0 : n0 ≤ h0.size) (OL : Old Z n0 h0) (z_fo : Sta Z Z.heap "jdk/internal/util/Preconditions" "SIOOBE_FORMATTER" "Ljava/util/function/BiFunction;" fo) (hfo : fo.isRef = true) (As : own_A Z h0 av ks .byte us) (hj : jj.toNatClampNeg = t) (h1 : ¬ jj < 0) (h2 : jj < us.length.toInt32) (hu : us[t]? = some (.int u)) :
    own_Met l (⟨"java/lang/StringLatin1", "charAt", "([BI)C"⟩ : MethodName) jdk_43_method_2_code 2 (some .char) ({ frames := 2, cells := 0, slots := 0, locals := 27 } : Room) Z #[(.ref av), (.int jj)] h0 n0 (fun v h' => h' = h0 ∧ v = some (.int (own_c1 u))) := by
  refine own_met (Ls := #[.val (.ref av), .val (.int jj)]) own_pn19 hs0 (fun m => by first  | (simp [entryFrame, mkF, argsToLocals, Value.category]; done) | rfl) ?_
  intro p e s m below meth c T X
  have hi_av : h0.size > av := As.lt
  refine own_iloadN X 1 jj own_d19_0 rfl rfl ?_
  refine own_aloadN X 2 (.ref av) own_d19_1 rfl rfl rfl ?_
  refine own_len X 3 us.length.toInt32 own_d19_2 rfl As rfl ?_
  refine own_callS X 6 [(.int jj), (.int us.length.toInt32)] [] own_d19_3 rfl (hw _ (List.mem_of_getElem? (i := 84) rfl)) (hw _ (List.mem_of_getElem? (i := 85) rfl)) (hw _ (List.mem_of_getElem? (i := 8) rfl)) (hw _ (List.mem_of_getElem? (i := 86) rfl)) (by decide) (own_sck l Z a0 hw jj us.length.toInt32 fo h0 n0 X.sz OL z_fo hfo h1 h2) (fun _ _ q => Nat.le_of_eq (congrArg Array.size q.1.symm)) rfl own_pd2 rfl rfl rfl (by decide) (Nat.le_of_ble_eq_true rfl) (by decide) (by decide) ?_
  rintro v3 T h_ X ⟨eh_, rfl⟩
  rw [eh_] at X
  show own_Ends p e below _ (T.setTop (mkF m 6 #[.val (.ref av), .val (.int jj)] []))
  refine own_aloadN X 7 (.ref av) own_d19_6 rfl rfl rfl ?_
  refine own_iloadN X 8 jj own_d19_7 rfl rfl ?_
  refine own_baload X 9 t (.int u) own_d19_8 rfl As hj h1 hu ?_
  refine own_sipush X 12 (255 : Int32) own_d19_9 rfl (by decide) ?_
  refine own_iand X 13 own_d19_12 rfl ?_
  refine own_i2c X 14 own_d19_13 rfl ?_
  exact own_retN X .char own_d19_14 rfl (by simp) (by decide) (by decide) (⟨rfl, rfl⟩)
theorem own_d17_0 : decode jdk_42_method_56_code 0 = .ok (.aload_n 0, 1) := by decide +kernel
theorem own_d17_1 : decode jdk_42_method_56_code 1 = .ok (.invokevirtual 492, 3) := by decide +kernel
theorem own_pd3 : parseMethodDescriptor "()Z" = some ⟨[], some .boolean⟩ := by decide +kernel
theorem own_d17_4 : decode jdk_42_method_56_code 4 = .ok (.ifCond .eq 12, 3) := by decide +kernel
theorem own_d17_7 : decode jdk_42_method_56_code 7 = .ok (.aload_n 0, 1) := by decide +kernel
theorem own_d17_8 : decode jdk_42_method_56_code 8 = .ok (.getfield 9, 3) := by decide +kernel
theorem own_d17_11 : decode jdk_42_method_56_code 11 = .ok (.iload_n 1, 1) := by decide +kernel
theorem own_d17_12 : decode jdk_42_method_56_code 12 = .ok (.invokestatic 495, 3) := by decide +kernel
theorem own_pd4 : parseMethodDescriptor "([BI)C" = some ⟨[(.array .byte), .int], some .char⟩ := by decide +kernel
theorem own_d17_15 : decode jdk_42_method_56_code 15 = .ok (.ireturn, 1) := by decide +kernel
theorem own_pn17 : plainFor (⟨"java/lang/String", "charAt", "(I)C"⟩ : MethodName) = true := plainFor_of_name (by first | (simp [plainName, overriddenIn]; done) | decide +kernel)
set_option maxRecDepth 65536 in
set_option maxHeartbeats 40000000 in
theorem own_sch (l : Launch) (Z : State) (a0 : Array Value) (hw : ∀ d ∈ tables_1, d.before a0 Z = true) (a : Addr) (jj : Int32) (cs : Int32) (sv : Addr) (ks : ClassId) (us : List Value) (t : Nat) (u : Int32) (fo : Value) (h0 : Heap) (n0 : Nat) (hs0 : n0 ≤ h0.size) (OL : Old Z n0 h0) (z_cs : Sta Z Z.heap "java/lang/String" "COMPACT_STRINGS" "Z" (.int cs)) (hcs : ¬ cs = 0) (z_fo : Sta Z Z.heap "jdk/internal/util/Preconditions" "SIOOBE_FORMATTER" "Ljava/util/function/BiFunction;" fo) (hfo : fo.isRef = true) (Es_a : Exa Z h0 a "java/lang/String") (Fc_a : Fld Z h0 a "java/lang/String" "coder" "B" (.int 0)) (Fv_a : Fld Z h0 a "java/lang/String" "value" "[B" (.ref sv)) (As : own_A Z h0 sv ks .byte us) (hj : jj.toNatClampNeg = t) (h1 : ¬ jj < 0) (h2 : jj < us.length.toInt32) (hu : us[t]? = some (.int u)) :
    own_Met l (⟨"java/lang/String", "charAt", "(I)C"⟩ : MethodName) jdk_42_method_56_code 2 (some .char) ({ frames := 3, cells := 0, slots := 0, locals := 40 } : Room) Z #[(.ref a), (.int jj)] h0 n0 (fun v h' => h' = h0 ∧ v = some (.int (own_c2 u))) := by
  refine own_met (Ls := #[.val (.ref a), .val (.int jj)]) own_pn17 hs0 (fun m => by first  | (simp [entryFrame, mkF, argsToLocals, Value.category]; done) | rfl) ?_
  intro p e s m below meth c T X
  have hi_sv : h0.size > sv := As.lt
  have hi_a : h0.size > a := Es_a.lt
  refine own_aloadN X 1 (.ref a) own_d17_0 rfl rfl rfl ?_
  refine own_callV X 4 [] [] own_d17_1 rfl (hw _ (List.mem_of_getElem? (i := 76) rfl)) (hw _ (List.mem_of_getElem? (i := 77) rfl)) (own_nf X.2.2.2.2.1 (hw _ (List.mem_of_getElem? (i := 79) rfl))) (hw _ (List.mem_of_getElem? (i := 79) rfl)) (hw _ (List.mem_of_getElem? (i := 78) rfl)) (hw _ (List.mem_of_getElem? (i := 8) rfl)) (hw _ (List.mem_of_getElem? (i := 80) rfl)) (by decide) Es_a (own_lat l Z a0 hw a cs h0 n0 X.sz OL z_cs hcs Fc_a) (fun _ _ q => Nat.le_of_eq (congrArg Array.size q.1.symm)) rfl own_pd3 rfl rfl rfl (by decide) (Nat.le_of_ble_eq_true rfl) (by decide) (by decide) ?_
  rintro v1 T h_ X ⟨eh_, rfl⟩
  rw [eh_] at X
  show own_Ends p e below _ (T.setTop (mkF m 4 #[.val (.ref a), .val (.int jj)] [(.int (1 : Int32))]))
  refine own_ifN X 7 own_d17_4 rfl (XT.i0_eq_f (by decide)) ?_
  refine own_aloadN X 8 (.ref a) own_d17_7 rfl rfl rfl ?_
  refine own_getF X 11 own_d17_8 rfl (hw _ (List.mem_of_getElem? (i := 33) rfl)) Via.refl Fv_a ?_
  intro T X
  refine own_iloadN X 12 jj own_d17_11 rfl rfl ?_
  refine own_callS X 15 [(.ref sv), (.int jj)] [] own_d17_12 rfl (hw _ (List.mem_of_getElem? (i := 81) rfl)) (hw _ (List.mem_of_getElem? (i := 82) rfl)) (hw _ (List.mem_of_getElem? (i := 40) rfl)) (hw _ (List.mem_of_getElem? (i := 83) rfl)) (by decide) (own_lch l Z a0 hw sv jj ks us t u fo h0 n0 X.sz OL z_fo hfo As hj h1 h2 hu) (fun _ _ q => Nat.le_of_eq (congrArg Array.size q.1.symm)) rfl own_pd4 rfl rfl rfl (by decide) (Nat.le_of_ble_eq_true rfl) (by decide) (by decide) ?_
  rintro v12 T h_ X ⟨eh_, rfl⟩
  rw [eh_] at X
  show own_Ends p e below _ (T.setTop (mkF m 15 #[.val (.ref a), .val (.int jj)] [(.int (own_c1 u))]))
  exact own_retN X .char own_d17_15 rfl (by simp) (by decide) (by decide) (⟨rfl, rfl⟩)
def own_ok (c : Int32) : Prop := (65 ≤ c.toInt ∧ c.toInt ≤ 90) ∨ (97 ≤ c.toInt ∧ c.toInt ≤ 122) ∨ (48 ≤ c.toInt ∧ c.toInt ≤ 57) ∨ c.toInt = 46 ∨ c.toInt = 95 ∨ c.toInt = 45
instance (c : Int32) : Decidable (own_ok c) := by unfold own_ok; infer_instance
def own_b (c : Int32) : Int32 := nar .byte (c.toInt8.toInt32)
theorem own_of_nat (c : Int32) (n : Nat) (hn : n < 2 ^ 31) (h0 : 0 ≤ c.toInt) (h1 : c.toInt < n) : ∃ j : Fin n, c = Int32.ofNat j := by
  refine ⟨⟨c.toInt.toNat, by omega⟩, Int32.toInt_inj.mp ?_⟩
  rw [Int32.toInt_ofNat_small (by show c.toInt.toNat < 2 ^ 31; omega)]
  show c.toInt = ((c.toInt.toNat : Nat) : Int); omega
theorem own_ok_256 {c : Int32} (h : own_ok c) : ∃ j : Fin 256, c = Int32.ofNat j := own_of_nat c 256 (by decide) (by unfold own_ok at h; omega) (by unfold own_ok at h; omega)
theorem own_c2b {c : Int32} (h : own_ok c) : own_c2 (own_b c) = c := by
  obtain ⟨j, rfl⟩ := own_ok_256 h
  exact (by decide +kernel : ∀ j : Fin 256, own_c2 (own_b (Int32.ofNat j)) = Int32.ofNat j) j
theorem own_narc {c : Int32} (h : own_ok c) : nar .char c = c := by
  obtain ⟨j, rfl⟩ := own_ok_256 h
  exact (by decide +kernel : ∀ j : Fin 256, nar .char (Int32.ofNat j) = Int32.ofNat j) j
theorem own_fitc {c : Int32} (h : own_ok c) : fits .char (.int c) = true := by rw [← own_narc h]; exact fits_nar_char _
theorem own_le255 {c : Int32} (h : own_ok c) : ¬ (255 : Int32) < c := by
  rw [Int32.lt_iff_toInt_lt, show (255 : Int32).toInt = 255 from by decide]; unfold own_ok at h; omega
theorem own_no {c : Int32} (h : own_ok c) (h1 : c < 65 ∨ (90 : Int32) < c) (h2 : c < 97 ∨ (122 : Int32) < c) (h3 : c < 48 ∨ (57 : Int32) < c) (h4 : ¬ c = 46) (h5 : ¬ c = 95) (h6 : ¬ c = 45) : False := by
  have q : ∀ z : Int32, ¬ c = z → ¬ c.toInt = z.toInt := fun z hz hq => hz (Int32.toInt_inj.mp hq)
  have e4 := q _ h4; have e5 := q _ h5; have e6 := q _ h6
  rw [Int32.lt_iff_toInt_lt, Int32.lt_iff_toInt_lt] at h1 h2 h3
  rw [show (46 : Int32).toInt = 46 from by decide] at e4
  rw [show (95 : Int32).toInt = 95 from by decide] at e5
  rw [show (45 : Int32).toInt = 45 from by decide] at e6
  rw [show (65 : Int32).toInt = 65 from by decide, show (90 : Int32).toInt = 90 from by decide] at h1
  rw [show (97 : Int32).toInt = 97 from by decide, show (122 : Int32).toInt = 122 from by decide] at h2
  rw [show (48 : Int32).toInt = 48 from by decide, show (57 : Int32).toInt = 57 from by decide] at h3
  unfold own_ok at h
  omega
theorem own_and3 (a : Int32) : a &&& 3 = 0 ∨ a &&& 3 = 1 ∨ a &&& 3 = 2 ∨ a &&& 3 = 3 := by
  have h : ∀ b : BitVec 32, b &&& 3#32 = 0#32 ∨ b &&& 3#32 = 1#32 ∨ b &&& 3#32 = 2#32 ∨ b &&& 3#32 = 3#32 := fun b => by
    have hb : (b &&& 3#32).toNat = b.toNat % 4 := by rw [BitVec.toNat_and]; exact Nat.and_two_pow_sub_one_eq_mod b.toNat 2
    simp only [← BitVec.toNat_inj, hb, BitVec.toNat_ofNat]
    omega
  rcases h a.toBitVec with h | h | h | h
  · exact Or.inl (Int32.toBitVec_inj.mp h)
  · exact Or.inr (Or.inl (Int32.toBitVec_inj.mp h))
  · exact Or.inr (Or.inr (Or.inl (Int32.toBitVec_inj.mp h)))
  · exact Or.inr (Or.inr (Or.inr (Int32.toBitVec_inj.mp h)))
theorem own_i2c_le (w : Int32) : ¬ (255 : Int32) < ((w &&& 255).toUInt32.toUInt16.toUInt32.toInt32) := by
  have h : ∃ j : Fin 256, w &&& 255 = Int32.ofNat j := by
    have hb : (w.toBitVec &&& 255#32).toNat = w.toBitVec.toNat % 2 ^ 8 := by rw [BitVec.toNat_and]; exact Nat.and_two_pow_sub_one_eq_mod w.toBitVec.toNat 8
    have hi : (w &&& 255).toInt = ((w.toBitVec.toNat % 2 ^ 8 : Nat) : Int) := by
      show (w.toBitVec &&& 255#32).toInt = _
      rw [BitVec.toInt_eq_toNat_of_lt (by rw [hb]; omega), hb]
    exact own_of_nat _ 256 (by decide) (by omega) (by omega)
  obtain ⟨j, hj⟩ := h
  rw [hj]
  exact (by decide +kernel : ∀ j : Fin 256, ¬ (255 : Int32) < ((Int32.ofNat j).toUInt32.toUInt16.toUInt32.toInt32)) j
def own_rng (k : Int32) : Prop := ∃ j : Fin 65, k = Int32.ofNat j
theorem own_rng_mod (x : Int32) : own_rng ((x &&& 2147483647) % 65) := by
  have h0 : (0 : Int) ≤ (x &&& 2147483647).toInt := by
    have hb : (x.toBitVec &&& 2147483647#32).toNat = x.toBitVec.toNat % 2 ^ 31 := by rw [BitVec.toNat_and]; exact Nat.and_two_pow_sub_one_eq_mod x.toBitVec.toNat 31
    show (0 : Int) ≤ (x.toBitVec &&& 2147483647#32).toInt
    rw [BitVec.toInt_eq_toNat_of_lt (by rw [hb]; omega)]
    omega
  have h1 : ((x &&& 2147483647) % 65).toInt = (x &&& 2147483647).toInt % 65 := by
    rw [Int32.toInt_mod, show (65 : Int32).toInt = 65 from by decide, Int.tmod_eq_emod_of_nonneg h0]
  exact own_of_nat _ 65 (by decide) (by omega) (by omega)
theorem own_l1 {k : Int32} (h : own_rng k) (h1 : k < 26) : own_ok (nar .char ((65 + k).toUInt32.toUInt16.toUInt32.toInt32)) := by
  obtain ⟨j, rfl⟩ := h
  exact (by decide +kernel : ∀ j : Fin 65, Int32.ofNat j < 26 → own_ok (nar .char ((65 + Int32.ofNat j).toUInt32.toUInt16.toUInt32.toInt32))) j h1
theorem own_l2 {k : Int32} (h : own_rng k) (h1 : ¬ k < 26) (h2 : k < 52) : own_ok (nar .char ((97 + (k - 26)).toUInt32.toUInt16.toUInt32.toInt32)) := by
  obtain ⟨j, rfl⟩ := h
  exact (by decide +kernel : ∀ j : Fin 65, ¬ Int32.ofNat j < 26 → Int32.ofNat j < 52 → own_ok (nar .char ((97 + (Int32.ofNat j - 26)).toUInt32.toUInt16.toUInt32.toInt32))) j h1 h2
theorem own_l3 {k : Int32} (h : own_rng k) (h1 : ¬ k < 52) (h2 : k < 62) : own_ok (nar .char ((48 + (k - 52)).toUInt32.toUInt16.toUInt32.toInt32)) := by
  obtain ⟨j, rfl⟩ := h
  exact (by decide +kernel : ∀ j : Fin 65, ¬ Int32.ofNat j < 52 → Int32.ofNat j < 62 → own_ok (nar .char ((48 + (Int32.ofNat j - 52)).toUInt32.toUInt16.toUInt32.toInt32))) j h1 h2
theorem own_d1_0 : decode method_2_code 0 = .ok (.iload_n 0, 1) := by decide +kernel
theorem own_d1_1 : decode method_2_code 1 = .ok (.ldc 7, 2) := by decide +kernel
theorem own_d1_3 : decode method_2_code 3 = .ok (.iand, 1) := by decide +kernel
theorem own_d1_4 : decode method_2_code 4 = .ok (.bipush 65, 2) := by decide +kernel
theorem own_d1_6 : decode method_2_code 6 = .ok (.irem, 1) := by decide +kernel
theorem own_d1_7 : decode method_2_code 7 = .ok (.istore_n 1, 1) := by decide +kernel
theorem own_d1_8 : decode method_2_code 8 = .ok (.iload_n 1, 1) := by decide +kernel
theorem own_d1_9 : decode method_2_code 9 = .ok (.bipush 26, 2) := by decide +kernel
theorem own_d1_11 : decode method_2_code 11 = .ok (.if_icmp .ge 9, 3) := by decide +kernel
theorem own_d1_14 : decode method_2_code 14 = .ok (.bipush 65, 2) := by decide +kernel
theorem own_d1_16 : decode method_2_code 16 = .ok (.iload_n 1, 1) := by decide +kernel
theorem own_d1_17 : decode method_2_code 17 = .ok (.iadd, 1) := by decide +kernel
theorem own_d1_18 : decode method_2_code 18 = .ok (.i2c, 1) := by decide +kernel
theorem own_d1_19 : decode method_2_code 19 = .ok (.ireturn, 1) := by decide +kernel
theorem own_d1_20 : decode method_2_code 20 = .ok (.iload_n 1, 1) := by decide +kernel
theorem own_d1_21 : decode method_2_code 21 = .ok (.bipush 52, 2) := by decide +kernel
theorem own_d1_23 : decode method_2_code 23 = .ok (.if_icmp .ge 12, 3) := by decide +kernel
theorem own_d1_26 : decode method_2_code 26 = .ok (.bipush 97, 2) := by decide +kernel
theorem own_d1_28 : decode method_2_code 28 = .ok (.iload_n 1, 1) := by decide +kernel
theorem own_d1_29 : decode method_2_code 29 = .ok (.bipush 26, 2) := by decide +kernel
theorem own_d1_31 : decode method_2_code 31 = .ok (.isub, 1) := by decide +kernel
theorem own_d1_32 : decode method_2_code 32 = .ok (.iadd, 1) := by decide +kernel
theorem own_d1_33 : decode method_2_code 33 = .ok (.i2c, 1) := by decide +kernel
theorem own_d1_34 : decode method_2_code 34 = .ok (.ireturn, 1) := by decide +kernel
theorem own_d1_35 : decode method_2_code 35 = .ok (.iload_n 1, 1) := by decide +kernel
theorem own_d1_36 : decode method_2_code 36 = .ok (.bipush 62, 2) := by decide +kernel
theorem own_d1_38 : decode method_2_code 38 = .ok (.if_icmp .ge 12, 3) := by decide +kernel
theorem own_d1_41 : decode method_2_code 41 = .ok (.bipush 48, 2) := by decide +kernel
theorem own_d1_43 : decode method_2_code 43 = .ok (.iload_n 1, 1) := by decide +kernel
theorem own_d1_44 : decode method_2_code 44 = .ok (.bipush 52, 2) := by decide +kernel
theorem own_d1_46 : decode method_2_code 46 = .ok (.isub, 1) := by decide +kernel
theorem own_d1_47 : decode method_2_code 47 = .ok (.iadd, 1) := by decide +kernel
theorem own_d1_48 : decode method_2_code 48 = .ok (.i2c, 1) := by decide +kernel
theorem own_d1_49 : decode method_2_code 49 = .ok (.ireturn, 1) := by decide +kernel
theorem own_d1_50 : decode method_2_code 50 = .ok (.iload_n 1, 1) := by decide +kernel
theorem own_d1_51 : decode method_2_code 51 = .ok (.bipush 62, 2) := by decide +kernel
theorem own_d1_53 : decode method_2_code 53 = .ok (.if_icmp .ne 6, 3) := by decide +kernel
theorem own_d1_56 : decode method_2_code 56 = .ok (.bipush 46, 2) := by decide +kernel
theorem own_d1_58 : decode method_2_code 58 = .ok (.ireturn, 1) := by decide +kernel
theorem own_d1_59 : decode method_2_code 59 = .ok (.iload_n 1, 1) := by decide +kernel
theorem own_d1_60 : decode method_2_code 60 = .ok (.bipush 63, 2) := by decide +kernel
theorem own_d1_62 : decode method_2_code 62 = .ok (.if_icmp .ne 6, 3) := by decide +kernel
theorem own_d1_65 : decode method_2_code 65 = .ok (.bipush 95, 2) := by decide +kernel
theorem own_d1_67 : decode method_2_code 67 = .ok (.ireturn, 1) := by decide +kernel
theorem own_d1_68 : decode method_2_code 68 = .ok (.bipush 45, 2) := by decide +kernel
theorem own_d1_70 : decode method_2_code 70 = .ok (.ireturn, 1) := by decide +kernel
theorem own_pn1 : plainFor (⟨"com/example/modgud/modgud/core/NamesRequirePinLaw", "nameChar", "(I)C"⟩ : MethodName) = true := plainFor_of_name (by first | (simp [plainName, overriddenIn]; done) | decide +kernel)
set_option maxRecDepth 65536 in
set_option maxHeartbeats 40000000 in
theorem own_ncm (l : Launch) (Z : State) (a0 : Array Value) (hw : ∀ d ∈ tables_1, d.before a0 Z = true) (x : Int32) (h0 : Heap) (n0 : Nat) (hs0 : n0 ≤ h0.size) :
    own_Met l (⟨"com/example/modgud/modgud/core/NamesRequirePinLaw", "nameChar", "(I)C"⟩ : MethodName) method_2_code 2 (some .char) ({ frames := 0, cells := 0, slots := 0, locals := 0 } : Room) Z #[(.int x)] h0 n0 (fun v h' => h' = h0 ∧ ∃ c, v = some (.int c) ∧ own_ok c) := by
  refine own_met (Ls := #[.val (.int x), .unset]) own_pn1 hs0 (fun m => by first  | (simp [entryFrame, mkF, argsToLocals, Value.category]; done) | rfl) ?_
  intro p e s m below meth c T X
  refine own_iloadN X 1 x own_d1_0 rfl rfl ?_
  refine own_ldcI X 3 own_d1_1 rfl (hw _ (List.mem_of_getElem? (i := 4) rfl)) ?_
  refine own_iand X 4 own_d1_3 rfl ?_
  refine own_bipush X 6 (65 : Int32) own_d1_4 rfl (by decide) ?_
  refine own_irem X 7 own_d1_6 rfl (by decide) ?_
  refine own_istoreN X 8 #[.val (.int x), .val (.int ((x &&& (2147483647 : Int32)) % (65 : Int32)))] own_d1_7 rfl rfl ?_
  refine own_iloadN X 9 ((x &&& (2147483647 : Int32)) % (65 : Int32)) own_d1_8 rfl rfl ?_
  refine own_bipush X 11 (26 : Int32) own_d1_9 rfl (by decide) ?_
  by_cases hc11 : ((x &&& (2147483647 : Int32)) % (65 : Int32)) < (26 : Int32)
  · refine own_icN X 14 own_d1_11 rfl (XT.ii_ge_f hc11) ?_
    refine own_bipush X 16 (65 : Int32) own_d1_14 rfl (by decide) ?_
    refine own_iloadN X 17 ((x &&& (2147483647 : Int32)) % (65 : Int32)) own_d1_16 rfl rfl ?_
    refine own_iadd X 18 own_d1_17 rfl ?_
    refine own_i2c X 19 own_d1_18 rfl ?_
    exact own_retN X .char own_d1_19 rfl (by simp) (by decide) (by decide) (⟨rfl, _, rfl, own_l1 (own_rng_mod x) hc11⟩)
  · refine own_icY X 20 own_d1_11 (by decide) (by decide) (XT.ii_ge_t hc11) ?_
    refine own_iloadN X 21 ((x &&& (2147483647 : Int32)) % (65 : Int32)) own_d1_20 rfl rfl ?_
    refine own_bipush X 23 (52 : Int32) own_d1_21 rfl (by decide) ?_
    by_cases hc23 : ((x &&& (2147483647 : Int32)) % (65 : Int32)) < (52 : Int32)
    · refine own_icN X 26 own_d1_23 rfl (XT.ii_ge_f hc23) ?_
      refine own_bipush X 28 (97 : Int32) own_d1_26 rfl (by decide) ?_
      refine own_iloadN X 29 ((x &&& (2147483647 : Int32)) % (65 : Int32)) own_d1_28 rfl rfl ?_
      refine own_bipush X 31 (26 : Int32) own_d1_29 rfl (by decide) ?_
      refine own_isub X 32 own_d1_31 rfl ?_
      refine own_iadd X 33 own_d1_32 rfl ?_
      refine own_i2c X 34 own_d1_33 rfl ?_
      exact own_retN X .char own_d1_34 rfl (by simp) (by decide) (by decide) (⟨rfl, _, rfl, own_l2 (own_rng_mod x) hc11 hc23⟩)
    · refine own_icY X 35 own_d1_23 (by decide) (by decide) (XT.ii_ge_t hc23) ?_
      refine own_iloadN X 36 ((x &&& (2147483647 : Int32)) % (65 : Int32)) own_d1_35 rfl rfl ?_
      refine own_bipush X 38 (62 : Int32) own_d1_36 rfl (by decide) ?_
      by_cases hc38 : ((x &&& (2147483647 : Int32)) % (65 : Int32)) < (62 : Int32)
      · refine own_icN X 41 own_d1_38 rfl (XT.ii_ge_f hc38) ?_
        refine own_bipush X 43 (48 : Int32) own_d1_41 rfl (by decide) ?_
        refine own_iloadN X 44 ((x &&& (2147483647 : Int32)) % (65 : Int32)) own_d1_43 rfl rfl ?_
        refine own_bipush X 46 (52 : Int32) own_d1_44 rfl (by decide) ?_
        refine own_isub X 47 own_d1_46 rfl ?_
        refine own_iadd X 48 own_d1_47 rfl ?_
        refine own_i2c X 49 own_d1_48 rfl ?_
        exact own_retN X .char own_d1_49 rfl (by simp) (by decide) (by decide) (⟨rfl, _, rfl, own_l3 (own_rng_mod x) hc23 hc38⟩)
      · refine own_icY X 50 own_d1_38 (by decide) (by decide) (XT.ii_ge_t hc38) ?_
        refine own_iloadN X 51 ((x &&& (2147483647 : Int32)) % (65 : Int32)) own_d1_50 rfl rfl ?_
        refine own_bipush X 53 (62 : Int32) own_d1_51 rfl (by decide) ?_
        by_cases hc53 : ((x &&& (2147483647 : Int32)) % (65 : Int32)) = (62 : Int32)
        · refine own_icN X 56 own_d1_53 rfl (XT.ii_ne_f hc53) ?_
          refine own_bipush X 58 (46 : Int32) own_d1_56 rfl (by decide) ?_
          exact own_retN X .char own_d1_58 rfl (by simp) (by decide) (by decide) (⟨rfl, _, rfl, by decide⟩)
        · refine own_icY X 59 own_d1_53 (by decide) (by decide) (XT.ii_ne_t hc53) ?_
          refine own_iloadN X 60 ((x &&& (2147483647 : Int32)) % (65 : Int32)) own_d1_59 rfl rfl ?_
          refine own_bipush X 62 (63 : Int32) own_d1_60 rfl (by decide) ?_
          by_cases hc62 : ((x &&& (2147483647 : Int32)) % (65 : Int32)) = (63 : Int32)
          · refine own_icN X 65 own_d1_62 rfl (XT.ii_ne_f hc62) ?_
            refine own_bipush X 67 (95 : Int32) own_d1_65 rfl (by decide) ?_
            exact own_retN X .char own_d1_67 rfl (by simp) (by decide) (by decide) (⟨rfl, _, rfl, by decide⟩)
          · refine own_icY X 68 own_d1_62 (by decide) (by decide) (XT.ii_ne_t hc62) ?_
            refine own_bipush X 70 (45 : Int32) own_d1_68 rfl (by decide) ?_
            exact own_retN X .char own_d1_70 rfl (by simp) (by decide) (by decide) (⟨rfl, _, rfl, by decide⟩)
theorem own_d6_0 : decode jdk_52_method_21_code 0 = .ok (.iconst 0, 1) := by decide +kernel
theorem own_d6_1 : decode jdk_52_method_21_code 1 = .ok (.istore 5, 2) := by decide +kernel
theorem own_d6_3 : decode jdk_52_method_21_code 3 = .ok (.iload 5, 2) := by decide +kernel
theorem own_d6_5 : decode jdk_52_method_21_code 5 = .ok (.iload 4, 2) := by decide +kernel
theorem own_d6_7 : decode jdk_52_method_21_code 7 = .ok (.if_icmp .ge 37, 3) := by decide +kernel
theorem own_d6_10 : decode jdk_52_method_21_code 10 = .ok (.aload_n 0, 1) := by decide +kernel
theorem own_d6_11 : decode jdk_52_method_21_code 11 = .ok (.iload_n 1, 1) := by decide +kernel
theorem own_d6_12 : decode jdk_52_method_21_code 12 = .ok (.caload, 1) := by decide +kernel
theorem own_d6_13 : decode jdk_52_method_21_code 13 = .ok (.istore 6, 2) := by decide +kernel
theorem own_d6_15 : decode jdk_52_method_21_code 15 = .ok (.iload 6, 2) := by decide +kernel
theorem own_d6_17 : decode jdk_52_method_21_code 17 = .ok (.sipush 255, 3) := by decide +kernel
theorem own_d6_20 : decode jdk_52_method_21_code 20 = .ok (.if_icmp .le 6, 3) := by decide +kernel
theorem own_d6_26 : decode jdk_52_method_21_code 26 = .ok (.aload_n 2, 1) := by decide +kernel
theorem own_d6_27 : decode jdk_52_method_21_code 27 = .ok (.iload_n 3, 1) := by decide +kernel
theorem own_d6_28 : decode jdk_52_method_21_code 28 = .ok (.iload 6, 2) := by decide +kernel
theorem own_d6_30 : decode jdk_52_method_21_code 30 = .ok (.i2b, 1) := by decide +kernel
theorem own_d6_31 : decode jdk_52_method_21_code 31 = .ok (.bastore, 1) := by decide +kernel
theorem own_d6_32 : decode jdk_52_method_21_code 32 = .ok (.iinc 1 1, 3) := by decide +kernel
theorem own_d6_35 : decode jdk_52_method_21_code 35 = .ok (.iinc 3 1, 3) := by decide +kernel
theorem own_d6_38 : decode jdk_52_method_21_code 38 = .ok (.iinc 5 1, 3) := by decide +kernel
theorem own_d6_41 : decode jdk_52_method_21_code 41 = .ok (.goto (-38), 3) := by decide +kernel
theorem own_d6_44 : decode jdk_52_method_21_code 44 = .ok (.iload 4, 2) := by decide +kernel
theorem own_d6_46 : decode jdk_52_method_21_code 46 = .ok (.ireturn, 1) := by decide +kernel
theorem own_pn6 : plainFor (⟨"java/lang/StringUTF16", "compress", "([CI[BII)I"⟩ : MethodName) = true := plainFor_of_name (by first | (simp [plainName, overriddenIn]; done) | decide +kernel)
set_option maxRecDepth 65536 in
set_option maxHeartbeats 40000000 in
theorem own_cmp5_1 (l : Launch) (Z : State) (a0 : Array Value) (hw : ∀ d ∈ tables_1, d.before a0 Z = true) (av : Addr) (si : Int32) (bv : Addr) (di : Int32) (ln : Int32) (ka : ClassId) (kb : ClassId) (c0 : Int32) (h0 : Heap) (n0 : Nat) (hs0 : n0 ≤ h0.size) (Aa : own_A Z h0 av ka .char [(.int c0)]) (Ab : own_A Z h0 bv kb .byte [(.int (0 : Int32))]) (gb : n0 ≤ bv) (nab : @Ne Nat av bv) (ok0 : own_ok c0) (hsi : si = 0) (hdi : di = 0) (hln : ln = 1) :
    own_Met l (⟨"java/lang/StringUTF16", "compress", "([CI[BII)I"⟩ : MethodName) jdk_52_method_21_code 7 (some .int) ({ frames := 0, cells := 0, slots := 0, locals := 0 } : Room) Z #[(.ref av), (.int si), (.ref bv), (.int di), (.int ln)] h0 n0 (fun v h' => Keep h0 h' [bv] ∧ v = some (.int 1) ∧ own_A Z h' bv kb .byte [(.int (own_b c0))]) := by
  refine own_met (Ls := #[.val (.ref av), .val (.int si), .val (.ref bv), .val (.int di), .val (.int ln), .unset, .unset]) own_pn6 hs0 (fun m => by first  | (simp [entryFrame, mkF, argsToLocals, Value.category]; done) | rfl) ?_
  intro p e s m below meth c T X
  have K0 := Keep.refl h0 [bv]
  have hi_av : h0.size > av := Aa.lt
  have hi_bv : h0.size > bv := Ab.lt
  subst hsi
  subst hdi
  subst hln
  refine own_iconst X 1 (0 : Int32) own_d6_0 rfl rfl ?_
  refine own_istore X 3 #[.val (.ref av), .val (.int (0 : Int32)), .val (.ref bv), .val (.int (0 : Int32)), .val (.int (1 : Int32)), .val (.int (0 : Int32)), .unset] own_d6_1 rfl rfl ?_
  refine own_iload X 5 (0 : Int32) own_d6_3 rfl rfl ?_
  refine own_iload X 7 (1 : Int32) own_d6_5 rfl rfl ?_
  refine own_icN X 10 own_d6_7 rfl (XT.ii_ge_f (by decide)) ?_
  refine own_aloadN X 11 (.ref av) own_d6_10 rfl rfl rfl ?_
  refine own_iloadN X 12 (0 : Int32) own_d6_11 rfl rfl ?_
  refine own_caload X 13 0 (.int c0) own_d6_12 rfl Aa (by decide) (by decide) rfl ?_
  refine own_istore X 15 #[.val (.ref av), .val (.int (0 : Int32)), .val (.ref bv), .val (.int (0 : Int32)), .val (.int (1 : Int32)), .val (.int (0 : Int32)), .val (.int c0)] own_d6_13 rfl rfl ?_
  refine own_iload X 17 c0 own_d6_15 rfl rfl ?_
  refine own_sipush X 20 (255 : Int32) own_d6_17 rfl (by decide) ?_
  refine own_icY X 26 own_d6_20 (by decide) (by decide) (XT.ii_le_t (own_le255 ok0)) ?_
  refine own_aloadN X 27 (.ref bv) own_d6_26 rfl rfl rfl ?_
  refine own_iloadN X 28 (0 : Int32) own_d6_27 rfl rfl ?_
  refine own_iload X 30 c0 own_d6_28 rfl rfl ?_
  refine own_i2b X 31 own_d6_30 rfl ?_
  refine own_bastore X 32 0 own_d6_31 rfl Ab (by decide) (by decide) (Nat.le_of_ble_eq_true rfl) (by omega) ?_
  intro T h1 X W_h1
  rw [show nar .byte c0.toInt8.toInt32 = own_b c0 from rfl] at W_h1
  have nw_h1 : own_A Z h1 bv kb .byte [(.int (own_b c0))] := Ab.same W_h1 (fits_nar_byte _)
  have zs_h1 : h0.size ≤ h1.size := (Nat.le_of_eq W_h1.size.symm)
  have Aa := Aa.other W_h1 (by show @Ne Nat _ _; omega)
  have K0 := K0.wr W_h1 (Or.inl (by simp))
  have Ab := nw_h1
  refine own_iinc X 35 (1 : Int32) #[.val (.ref av), .val (.int ((0 : Int32) + (1 : Int32))), .val (.ref bv), .val (.int (0 : Int32)), .val (.int (1 : Int32)), .val (.int (0 : Int32)), .val (.int c0)] own_d6_32 rfl rfl rfl rfl ?_
  refine own_iinc X 38 (1 : Int32) #[.val (.ref av), .val (.int ((0 : Int32) + (1 : Int32))), .val (.ref bv), .val (.int ((0 : Int32) + (1 : Int32))), .val (.int (1 : Int32)), .val (.int (0 : Int32)), .val (.int c0)] own_d6_35 rfl rfl rfl rfl ?_
  refine own_iinc X 41 (1 : Int32) #[.val (.ref av), .val (.int ((0 : Int32) + (1 : Int32))), .val (.ref bv), .val (.int ((0 : Int32) + (1 : Int32))), .val (.int (1 : Int32)), .val (.int ((0 : Int32) + (1 : Int32))), .val (.int c0)] own_d6_38 rfl rfl rfl rfl ?_
  rw [show (0 : Int32) + (1 : Int32) = (1 : Int32) from by decide]
  refine own_goto X 3 own_d6_41 (by decide) (by decide) ?_
  refine own_iload X 5 (1 : Int32) own_d6_3 rfl rfl ?_
  refine own_iload X 7 (1 : Int32) own_d6_5 rfl rfl ?_
  refine own_icY X 44 own_d6_7 (by decide) (by decide) (XT.ii_ge_t (by decide)) ?_
  refine own_iload X 46 (1 : Int32) own_d6_44 rfl rfl ?_
  exact own_retI X own_d6_46 rfl (by decide) (by decide) (⟨K0, rfl, Ab⟩)
theorem own_d5_0 : decode jdk_52_method_16_code 0 = .ok (.iload_n 2, 1) := by decide +kernel
theorem own_d5_1 : decode jdk_52_method_16_code 1 = .ok (.newarray .byte, 2) := by decide +kernel
theorem own_d5_3 : decode jdk_52_method_16_code 3 = .ok (.astore_n 3, 1) := by decide +kernel
theorem own_d5_4 : decode jdk_52_method_16_code 4 = .ok (.aload_n 0, 1) := by decide +kernel
theorem own_d5_5 : decode jdk_52_method_16_code 5 = .ok (.iload_n 1, 1) := by decide +kernel
theorem own_d5_6 : decode jdk_52_method_16_code 6 = .ok (.aload_n 3, 1) := by decide +kernel
theorem own_d5_7 : decode jdk_52_method_16_code 7 = .ok (.iconst 0, 1) := by decide +kernel
theorem own_d5_8 : decode jdk_52_method_16_code 8 = .ok (.iload_n 2, 1) := by decide +kernel
theorem own_d5_9 : decode jdk_52_method_16_code 9 = .ok (.invokestatic 115, 3) := by decide +kernel
theorem own_pd5 : parseMethodDescriptor "([CI[BII)I" = some ⟨[(.array .char), .int, (.array .byte), .int, .int], some .int⟩ := by decide +kernel
theorem own_d5_12 : decode jdk_52_method_16_code 12 = .ok (.istore 4, 2) := by decide +kernel
theorem own_d5_14 : decode jdk_52_method_16_code 14 = .ok (.iload 4, 2) := by decide +kernel
theorem own_d5_16 : decode jdk_52_method_16_code 16 = .ok (.iload_n 2, 1) := by decide +kernel
theorem own_d5_17 : decode jdk_52_method_16_code 17 = .ok (.if_icmp .eq 40, 3) := by decide +kernel
theorem own_d5_57 : decode jdk_52_method_16_code 57 = .ok (.aload_n 3, 1) := by decide +kernel
theorem own_d5_58 : decode jdk_52_method_16_code 58 = .ok (.areturn, 1) := by decide +kernel
theorem own_pn5 : plainFor (⟨"java/lang/StringUTF16", "compress", "([CII)[B"⟩ : MethodName) = true := plainFor_of_name (by first | (simp [plainName, overriddenIn]; done) | decide +kernel)
set_option maxRecDepth 65536 in
set_option maxHeartbeats 40000000 in
theorem own_cmp3_1 (l : Launch) (Z : State) (a0 : Array Value) (hw : ∀ d ∈ tables_1, d.before a0 Z = true) (av : Addr) (si : Int32) (ln : Int32) (ka : ClassId) (c0 : Int32) (h0 : Heap) (n0 : Nat) (hs0 : n0 ≤ h0.size) (Aa : own_A Z h0 av ka .char [(.int c0)]) (ok0 : own_ok c0) (hsi : si = 0) (hln : ln = 1) :
    own_Met l (⟨"java/lang/StringUTF16", "compress", "([CII)[B"⟩ : MethodName) jdk_52_method_16_code 6 (some (.array .byte)) ({ frames := 1, cells := 1, slots := 1, locals := 18 } : Room) Z #[(.ref av), (.int si), (.int ln)] h0 n0 (fun v h' => Keep h0 h' [] ∧ ∃ b kb, v = some (.ref b) ∧ h0.size ≤ b ∧ h'.size > b ∧ own_A Z h' b kb .byte [(.int (own_b c0))]) := by
  refine own_met (Ls := #[.val (.ref av), .val (.int si), .val (.int ln), .unset, .unset, .unset]) own_pn5 hs0 (fun m => by first  | (simp [entryFrame, mkF, argsToLocals, Value.category]; done) | rfl) ?_
  intro p e s m below meth c T X
  have K0 := Keep.refl h0 []
  have hi_av : h0.size > av := Aa.lt
  subst hsi
  subst hln
  refine own_iloadN X 1 (1 : Int32) own_d5_0 rfl rfl ?_
  refine own_newP X 3 1 1 own_d5_1 rfl (hw _ (List.mem_of_getElem? (i := 24) rfl)) (by decide) (by decide) (by decide) (by decide) (by decide) (by decide) ?_
  intro T h1 b2 kc_b2 g_b2 X E_h1 A_b2
  have zs_h1 : h0.size ≤ h1.size := E_h1.1
  have Aa := Aa.ext E_h1
  have K0 := K0.ext E_h1
  have lo_b2 : h0.size ≤ b2 := Nat.le_of_eq g_b2.symm
  have hi_b2 : h1.size > b2 := A_b2.lt
  have A_b2 : own_A Z h1 b2 kc_b2 .byte [(.int (0 : Int32))] := A_b2
  refine own_astoreN X 4 #[.val (.ref av), .val (.int (0 : Int32)), .val (.int (1 : Int32)), .val (.ref b2), .unset, .unset] own_d5_3 rfl rfl rfl ?_
  refine own_aloadN X 5 (.ref av) own_d5_4 rfl rfl rfl ?_
  refine own_iloadN X 6 (0 : Int32) own_d5_5 rfl rfl ?_
  refine own_aloadN X 7 (.ref b2) own_d5_6 rfl rfl rfl ?_
  refine own_iconst X 8 (0 : Int32) own_d5_7 rfl rfl ?_
  refine own_iloadN X 9 (1 : Int32) own_d5_8 rfl rfl ?_
  refine own_callS X 12 [(.ref av), (.int (0 : Int32)), (.ref b2), (.int (0 : Int32)), (.int (1 : Int32))] [] own_d5_9 rfl (hw _ (List.mem_of_getElem? (i := 25) rfl)) (hw _ (List.mem_of_getElem? (i := 26) rfl)) (hw _ (List.mem_of_getElem? (i := 22) rfl)) (hw _ (List.mem_of_getElem? (i := 27) rfl)) (by decide) (own_cmp5_1 l Z a0 hw av (0 : Int32) b2 (0 : Int32) (1 : Int32) ka kc_b2 c0 h1 n0 X.sz Aa A_b2 (by omega) (by show @Ne Nat _ _; omega) ok0 rfl rfl rfl) (fun _ _ q => q.1.1) rfl own_pd5 rfl rfl rfl (by decide) (Nat.le_of_ble_eq_true rfl) (by decide) (by decide) ?_
  rintro v9 T h3 X ⟨K_, rfl, A2_⟩
  have zs_h3 : h1.size ≤ h3.size := K_.1
  have Aa := Aa.keep K_ (ninS (by show @Ne Nat _ _; omega) nin0)
  have K0 := K0.trans K_ (allS (Or.inr (by omega)) all0)
  have A_b2 := A2_
  show own_Ends p e below _ (T.setTop (mkF m 12 #[.val (.ref av), .val (.int (0 : Int32)), .val (.int (1 : Int32)), .val (.ref b2), .unset, .unset] [(.int (1 : Int32))]))
  refine own_istore X 14 #[.val (.ref av), .val (.int (0 : Int32)), .val (.int (1 : Int32)), .val (.ref b2), .val (.int (1 : Int32)), .unset] own_d5_12 rfl rfl ?_
  refine own_iload X 16 (1 : Int32) own_d5_14 rfl rfl ?_
  refine own_iloadN X 17 (1 : Int32) own_d5_16 rfl rfl ?_
  refine own_icY X 57 own_d5_17 (by decide) (by decide) (XT.ii_eq_t rfl) ?_
  refine own_aloadN X 58 (.ref b2) own_d5_57 rfl rfl rfl ?_
  exact own_retA X (.array .byte) own_d5_58 rfl rfl rfl rfl (by decide) (by decide) (⟨K0, b2, kc_b2, rfl, by omega, A_b2.lt, A_b2⟩)
theorem own_d7_0 : decode jdk_52_method_15_code 0 = .ok (.iload_n 1, 1) := by decide +kernel
theorem own_d7_1 : decode jdk_52_method_15_code 1 = .ok (.aload_n 0, 1) := by decide +kernel
theorem own_d7_2 : decode jdk_52_method_15_code 2 = .ok (.arraylength, 1) := by decide +kernel
theorem own_d7_3 : decode jdk_52_method_15_code 3 = .ok (.isub, 1) := by decide +kernel
theorem own_d7_4 : decode jdk_52_method_15_code 4 = .ok (.bipush 31, 2) := by decide +kernel
theorem own_d7_6 : decode jdk_52_method_15_code 6 = .ok (.iushr, 1) := by decide +kernel
theorem own_d7_7 : decode jdk_52_method_15_code 7 = .ok (.i2b, 1) := by decide +kernel
theorem own_d7_8 : decode jdk_52_method_15_code 8 = .ok (.ireturn, 1) := by decide +kernel
theorem own_pn7 : plainFor (⟨"java/lang/StringUTF16", "coderFromArrayLen", "([BI)B"⟩ : MethodName) = true := plainFor_of_name (by first | (simp [plainName, overriddenIn]; done) | decide +kernel)
set_option maxRecDepth 65536 in
set_option maxHeartbeats 40000000 in
theorem own_cdr_1 (l : Launch) (Z : State) (a0 : Array Value) (hw : ∀ d ∈ tables_1, d.before a0 Z = true) (b : Addr) (ln : Int32) (kb : ClassId) (c0 : Int32) (h0 : Heap) (n0 : Nat) (hs0 : n0 ≤ h0.size) (Ab : own_A Z h0 b kb .byte [(.int (own_b c0))]) (hln : ln = 1) :
    own_Met l (⟨"java/lang/StringUTF16", "coderFromArrayLen", "([BI)B"⟩ : MethodName) jdk_52_method_15_code 2 (some .byte) ({ frames := 0, cells := 0, slots := 0, locals := 0 } : Room) Z #[(.ref b), (.int ln)] h0 n0 (fun v h' => h' = h0 ∧ v = some (.int (0 : Int32))) := by
  refine own_met (Ls := #[.val (.ref b), .val (.int ln)]) own_pn7 hs0 (fun m => by first  | (simp [entryFrame, mkF, argsToLocals, Value.category]; done) | rfl) ?_
  intro p e s m below meth c T X
  have hi_b : h0.size > b := Ab.lt
  subst hln
  refine own_iloadN X 1 (1 : Int32) own_d7_0 rfl rfl ?_
  refine own_aloadN X 2 (.ref b) own_d7_1 rfl rfl rfl ?_
  refine own_len X 3 (1 : Int32) own_d7_2 rfl Ab rfl ?_
  refine own_isub X 4 own_d7_3 rfl ?_
  refine own_bipush X 6 (31 : Int32) own_d7_4 rfl (by decide) ?_
  refine own_iushr X 7 own_d7_6 rfl ?_
  refine own_i2b X 8 own_d7_7 rfl ?_
  exact own_retN X .byte own_d7_8 rfl (by simp) (by decide) (by decide) (⟨rfl, by decide⟩)
theorem own_d3_0 : decode jdk_42_method_149_code 0 = .ok (.aload_n 0, 1) := by decide +kernel
theorem own_d3_1 : decode jdk_42_method_149_code 1 = .ok (.invokespecial 1, 3) := by decide +kernel
theorem own_d3_4 : decode jdk_42_method_149_code 4 = .ok (.iload_n 3, 1) := by decide +kernel
theorem own_d3_5 : decode jdk_42_method_149_code 5 = .ok (.ifCond .ne 22, 3) := by decide +kernel
theorem own_d3_27 : decode jdk_42_method_149_code 27 = .ok (.getstatic 38, 3) := by decide +kernel
theorem own_d3_30 : decode jdk_42_method_149_code 30 = .ok (.ifCond .eq 28, 3) := by decide +kernel
theorem own_d3_33 : decode jdk_42_method_149_code 33 = .ok (.aload_n 1, 1) := by decide +kernel
theorem own_d3_34 : decode jdk_42_method_149_code 34 = .ok (.iload_n 2, 1) := by decide +kernel
theorem own_d3_35 : decode jdk_42_method_149_code 35 = .ok (.iload_n 3, 1) := by decide +kernel
theorem own_d3_36 : decode jdk_42_method_149_code 36 = .ok (.invokestatic 177, 3) := by decide +kernel
theorem own_pd6 : parseMethodDescriptor "([CII)[B" = some ⟨[(.array .char), .int, .int], some (.array .byte)⟩ := by decide +kernel
theorem own_d3_39 : decode jdk_42_method_149_code 39 = .ok (.astore 5, 2) := by decide +kernel
theorem own_d3_41 : decode jdk_42_method_149_code 41 = .ok (.aload_n 0, 1) := by decide +kernel
theorem own_d3_42 : decode jdk_42_method_149_code 42 = .ok (.aload 5, 2) := by decide +kernel
theorem own_d3_44 : decode jdk_42_method_149_code 44 = .ok (.iload_n 3, 1) := by decide +kernel
theorem own_d3_45 : decode jdk_42_method_149_code 45 = .ok (.invokestatic 47, 3) := by decide +kernel
theorem own_pd7 : parseMethodDescriptor "([BI)B" = some ⟨[(.array .byte), .int], some .byte⟩ := by decide +kernel
theorem own_d3_48 : decode jdk_42_method_149_code 48 = .ok (.putfield 15, 3) := by decide +kernel
theorem own_d3_51 : decode jdk_42_method_149_code 51 = .ok (.aload_n 0, 1) := by decide +kernel
theorem own_d3_52 : decode jdk_42_method_149_code 52 = .ok (.aload 5, 2) := by decide +kernel
theorem own_d3_54 : decode jdk_42_method_149_code 54 = .ok (.putfield 9, 3) := by decide +kernel
theorem own_d3_57 : decode jdk_42_method_149_code 57 = .ok (.return_, 1) := by decide +kernel
theorem own_pn3 : plainFor (⟨"java/lang/String", "<init>", "([CIILjava/lang/Void;)V"⟩ : MethodName) = true := plainFor_of_name (by first | (simp [plainName, overriddenIn]; done) | decide +kernel)
set_option maxRecDepth 65536 in
set_option maxHeartbeats 40000000 in
theorem own_sn4_1 (l : Launch) (Z : State) (a0 : Array Value) (hw : ∀ d ∈ tables_1, d.before a0 Z = true) (a : Addr) (av : Addr) (of : Int32) (ln : Int32) (cs : Int32) (ka : ClassId) (c0 : Int32) (h0 : Heap) (n0 : Nat) (hs0 : n0 ≤ h0.size) (OL : Old Z n0 h0) (z_cs : Sta Z Z.heap "java/lang/String" "COMPACT_STRINGS" "Z" (.int cs)) (hcs : ¬ cs = 0) (Es_a : Exa Z h0 a "java/lang/String") (Fc_a : Fld Z h0 a "java/lang/String" "coder" "B" (.int 0)) (Fv_a : Fld Z h0 a "java/lang/String" "value" "[B" .null) (ga : n0 ≤ a) (Aa : own_A Z h0 av ka .char [(.int c0)]) (naa : @Ne Nat a av) (ok0 : own_ok c0) (hof : of = 0) (hln : ln = 1) :
    own_Met l (⟨"java/lang/String", "<init>", "([CIILjava/lang/Void;)V"⟩ : MethodName) jdk_42_method_149_code 6 none ({ frames := 2, cells := 1, slots := 1, locals := 35 } : Room) Z #[(.ref a), (.ref av), (.int of), (.int ln), .null] h0 n0 (fun v h' => Keep h0 h' [a] ∧ v = none ∧ ∃ b kb, h0.size ≤ b ∧ h'.size > b ∧ own_A Z h' b kb .byte [(.int (own_b c0))] ∧ Fld Z h' a "java/lang/String" "coder" "B" (.int 0) ∧ Fld Z h' a "java/lang/String" "value" "[B" (.ref b)) := by
  refine own_met (Ls := #[.val (.ref a), .val (.ref av), .val (.int of), .val (.int ln), .val .null, .unset]) own_pn3 hs0 (fun m => by first  | (simp [entryFrame, mkF, argsToLocals, Value.category]; done) | rfl) ?_
  intro p e s m below meth c T X
  have K0 := Keep.refl h0 [a]
  have hi_a : h0.size > a := Es_a.lt
  have hi_av : h0.size > av := Aa.lt
  subst hof
  subst hln
  refine own_aloadN X 1 (.ref a) own_d3_0 rfl rfl rfl ?_
  refine own_initO X 4 own_d3_1 rfl (hw _ (List.mem_of_getElem? (i := 16) rfl)) (hw _ (List.mem_of_getElem? (i := 17) rfl)) (hw _ (List.mem_of_getElem? (i := 18) rfl)) rfl (by decide) (Nat.le_of_ble_eq_true rfl) ?_
  intro T X
  refine own_iloadN X 5 (1 : Int32) own_d3_4 rfl rfl ?_
  refine own_ifY X 27 own_d3_5 (by decide) (by decide) (XT.i0_ne_t (by decide)) ?_
  refine own_getS X 30 own_d3_27 rfl (hw _ (List.mem_of_getElem? (i := 19) rfl)) Via.refl (Sta.ext OL.2 z_cs) ?_
  intro T X
  refine own_ifN X 33 own_d3_30 rfl (XT.i0_eq_f hcs) ?_
  refine own_aloadN X 34 (.ref av) own_d3_33 rfl rfl rfl ?_
  refine own_iloadN X 35 (0 : Int32) own_d3_34 rfl rfl ?_
  refine own_iloadN X 36 (1 : Int32) own_d3_35 rfl rfl ?_
  refine own_callS X 39 [(.ref av), (.int (0 : Int32)), (.int (1 : Int32))] [] own_d3_36 rfl (hw _ (List.mem_of_getElem? (i := 20) rfl)) (hw _ (List.mem_of_getElem? (i := 21) rfl)) (hw _ (List.mem_of_getElem? (i := 22) rfl)) (hw _ (List.mem_of_getElem? (i := 23) rfl)) (by decide) (own_cmp3_1 l Z a0 hw av (0 : Int32) (1 : Int32) ka c0 h0 n0 X.sz Aa ok0 rfl rfl) (fun _ _ q => q.1.1) rfl own_pd6 rfl rfl rfl (by decide) (Nat.le_of_ble_eq_true rfl) (by decide) (by decide) ?_
  rintro v36 T h2 X ⟨K_, b1, kb_b1, rfl, lo_b1, hi_b1, A_b1⟩
  have zs_h2 : h0.size ≤ h2.size := K_.1
  have OL := OL.keep K_ all0
  have K0 := K0.trans K_ all0
  have Es_a := Es_a.keep K_
  have Fc_a := Fc_a.keep K_ nin0
  have Fv_a := Fv_a.keep K_ nin0
  have Aa := Aa.keep K_ nin0
  show own_Ends p e below _ (T.setTop (mkF m 39 #[.val (.ref a), .val (.ref av), .val (.int (0 : Int32)), .val (.int (1 : Int32)), .val .null, .unset] [(.ref b1)]))
  refine own_astore X 41 #[.val (.ref a), .val (.ref av), .val (.int (0 : Int32)), .val (.int (1 : Int32)), .val .null, .val (.ref b1)] own_d3_39 rfl rfl rfl ?_
  refine own_aloadN X 42 (.ref a) own_d3_41 rfl rfl rfl ?_
  refine own_aload X 44 (.ref b1) own_d3_42 rfl rfl rfl ?_
  refine own_iloadN X 45 (1 : Int32) own_d3_44 rfl rfl ?_
  refine own_callS X 48 [(.ref b1), (.int (1 : Int32))] [(.ref a)] own_d3_45 rfl (hw _ (List.mem_of_getElem? (i := 28) rfl)) (hw _ (List.mem_of_getElem? (i := 29) rfl)) (hw _ (List.mem_of_getElem? (i := 22) rfl)) (hw _ (List.mem_of_getElem? (i := 30) rfl)) (by decide) (own_cdr_1 l Z a0 hw b1 (1 : Int32) kb_b1 c0 h2 n0 X.sz A_b1 rfl) (fun _ _ q => Nat.le_of_eq (congrArg Array.size q.1.symm)) rfl own_pd7 rfl rfl rfl (by decide) (Nat.le_of_ble_eq_true rfl) (by decide) (by decide) ?_
  rintro v45 T h_ X ⟨eh_, rfl⟩
  rw [eh_] at X
  show own_Ends p e below _ (T.setTop (mkF m 48 #[.val (.ref a), .val (.ref av), .val (.int (0 : Int32)), .val (.int (1 : Int32)), .val .null, .val (.ref b1)] [(.int (0 : Int32)), (.ref a)]))
  refine own_putFN X 51 .byte (v' := .int (0 : Int32)) own_d3_48 rfl (hw _ (List.mem_of_getElem? (i := 31) rfl)) Via.refl Fc_a Es_a (Or.inr ⟨(hw _ (List.mem_of_getElem? (i := 32) rfl)), rfl, rfl⟩) (hw _ (List.mem_of_getElem? (i := 7) rfl)) (by decide) (by decide) (by decide) (by omega) ?_
  intro T h3 X W_h3
  have nw_h3 := Fld.same W_h3 Fc_a
  have zs_h3 : h2.size ≤ h3.size := (Nat.le_of_eq W_h3.size.symm)
  have OL := OL.wr W_h3 (by omega)
  have K0 := K0.wr W_h3 (Or.inl (by simp))
  have Es_a := Exa.wr W_h3 Es_a
  have Fv_a := Fld.other W_h3 Fv_a (Or.inr (slot_ne (Or.inr (hw _ (List.mem_of_getElem? (i := 34) rfl))) (Or.inr (hw _ (List.mem_of_getElem? (i := 32) rfl))) (by decide) (t := (.array .byte)) (t' := .byte) (by decide) (by decide)))
  have Aa := Aa.other W_h3 (by show @Ne Nat _ _; omega)
  have A_b1 := A_b1.other W_h3 (by show @Ne Nat _ _; omega)
  have Fc_a := nw_h3
  refine own_aloadN X 52 (.ref a) own_d3_51 rfl rfl rfl ?_
  refine own_aload X 54 (.ref b1) own_d3_52 rfl rfl rfl ?_
  refine own_putF X 57 (.array .byte) own_d3_54 rfl (hw _ (List.mem_of_getElem? (i := 33) rfl)) Via.refl Fv_a Es_a (Or.inr ⟨(hw _ (List.mem_of_getElem? (i := 34) rfl)), rfl, rfl⟩) (hw _ (List.mem_of_getElem? (i := 7) rfl)) (by decide) rfl rfl (by omega) ?_
  intro T h4 X W_h4
  have nw_h4 := Fld.same W_h4 Fv_a
  have zs_h4 : h3.size ≤ h4.size := (Nat.le_of_eq W_h4.size.symm)
  have OL := OL.wr W_h4 (by omega)
  have K0 := K0.wr W_h4 (Or.inl (by simp))
  have Es_a := Exa.wr W_h4 Es_a
  have Aa := Aa.other W_h4 (by show @Ne Nat _ _; omega)
  have A_b1 := A_b1.other W_h4 (by show @Ne Nat _ _; omega)
  have Fc_a := Fld.other W_h4 Fc_a (Or.inr (slot_ne (Or.inr (hw _ (List.mem_of_getElem? (i := 32) rfl))) (Or.inr (hw _ (List.mem_of_getElem? (i := 34) rfl))) (by decide) (t := .byte) (t' := (.array .byte)) (by decide) (by decide)))
  have Fv_a := nw_h4
  exact own_retV X own_d3_57 rfl (by decide) (by decide) (⟨K0, rfl, b1, kb_b1, by omega, A_b1.lt, A_b1, Fc_a, Fv_a⟩)
theorem own_d2_0 : decode jdk_42_method_3_code 0 = .ok (.aload_n 0, 1) := by decide +kernel
theorem own_d2_1 : decode jdk_42_method_3_code 1 = .ok (.aload_n 1, 1) := by decide +kernel
theorem own_d2_2 : decode jdk_42_method_3_code 2 = .ok (.iconst 0, 1) := by decide +kernel
theorem own_d2_3 : decode jdk_42_method_3_code 3 = .ok (.aload_n 1, 1) := by decide +kernel
theorem own_d2_4 : decode jdk_42_method_3_code 4 = .ok (.arraylength, 1) := by decide +kernel
theorem own_d2_5 : decode jdk_42_method_3_code 5 = .ok (.aconst_null, 1) := by decide +kernel
theorem own_d2_6 : decode jdk_42_method_3_code 6 = .ok (.invokespecial 27, 3) := by decide +kernel
theorem own_pd8 : parseMethodDescriptor "([CIILjava/lang/Void;)V" = some ⟨[(.array .char), .int, .int, (.object "java/lang/Void")], none⟩ := by decide +kernel
theorem own_d2_9 : decode jdk_42_method_3_code 9 = .ok (.return_, 1) := by decide +kernel
theorem own_pn2 : plainFor (⟨"java/lang/String", "<init>", "([C)V"⟩ : MethodName) = true := plainFor_of_name (by first | (simp [plainName, overriddenIn]; done) | decide +kernel)
set_option maxRecDepth 65536 in
set_option maxHeartbeats 40000000 in
theorem own_sn_1 (l : Launch) (Z : State) (a0 : Array Value) (hw : ∀ d ∈ tables_1, d.before a0 Z = true) (a : Addr) (av : Addr) (cs : Int32) (ka : ClassId) (c0 : Int32) (h0 : Heap) (n0 : Nat) (hs0 : n0 ≤ h0.size) (OL : Old Z n0 h0) (z_cs : Sta Z Z.heap "java/lang/String" "COMPACT_STRINGS" "Z" (.int cs)) (hcs : ¬ cs = 0) (Es_a : Exa Z h0 a "java/lang/String") (Fc_a : Fld Z h0 a "java/lang/String" "coder" "B" (.int 0)) (Fv_a : Fld Z h0 a "java/lang/String" "value" "[B" .null) (ga : n0 ≤ a) (Aa : own_A Z h0 av ka .char [(.int c0)]) (naa : @Ne Nat a av) (ok0 : own_ok c0) :
    own_Met l (⟨"java/lang/String", "<init>", "([C)V"⟩ : MethodName) jdk_42_method_3_code 2 none ({ frames := 3, cells := 1, slots := 1, locals := 52 } : Room) Z #[(.ref a), (.ref av)] h0 n0 (fun v h' => Keep h0 h' [a] ∧ v = none ∧ ∃ b kb, h0.size ≤ b ∧ h'.size > b ∧ own_A Z h' b kb .byte [(.int (own_b c0))] ∧ Fld Z h' a "java/lang/String" "coder" "B" (.int 0) ∧ Fld Z h' a "java/lang/String" "value" "[B" (.ref b)) := by
  refine own_met (Ls := #[.val (.ref a), .val (.ref av)]) own_pn2 hs0 (fun m => by first  | (simp [entryFrame, mkF, argsToLocals, Value.category]; done) | rfl) ?_
  intro p e s m below meth c T X
  have K0 := Keep.refl h0 [a]
  have hi_a : h0.size > a := Es_a.lt
  have hi_av : h0.size > av := Aa.lt
  refine own_aloadN X 1 (.ref a) own_d2_0 rfl rfl rfl ?_
  refine own_aloadN X 2 (.ref av) own_d2_1 rfl rfl rfl ?_
  refine own_iconst X 3 (0 : Int32) own_d2_2 rfl rfl ?_
  refine own_aloadN X 4 (.ref av) own_d2_3 rfl rfl rfl ?_
  refine own_len X 5 (1 : Int32) own_d2_4 rfl Aa rfl ?_
  refine own_anull X 6 own_d2_5 rfl ?_
  refine own_init X 9 [(.ref av), (.int (0 : Int32)), (.int (1 : Int32)), .null] [] own_d2_6 rfl (hw _ (List.mem_of_getElem? (i := 12) rfl)) (hw _ (List.mem_of_getElem? (i := 13) rfl)) (hw _ (List.mem_of_getElem? (i := 8) rfl)) (hw _ (List.mem_of_getElem? (i := 15) rfl)) (by decide) rfl (own_sn4_1 l Z a0 hw a av (0 : Int32) (1 : Int32) cs ka c0 h0 n0 X.sz OL z_cs hcs Es_a Fc_a Fv_a (by omega) Aa (by show @Ne Nat _ _; omega) ok0 rfl rfl) (fun _ _ q => q.1.1) rfl own_pd8 rfl rfl rfl (by decide) (Nat.le_of_ble_eq_true rfl) (by decide) (by decide) ?_
  rintro v6 T h2 X ⟨K_, rfl, b1, kb_b1, lo_b1, hi_b1, A_b1, Fc_a, Fv_a⟩
  have zs_h2 : h0.size ≤ h2.size := K_.1
  have OL := OL.keep K_ (allS (by omega) all0)
  have K0 := K0.trans K_ (allS (Or.inl (by simp)) all0)
  have Es_a := Es_a.keep K_
  have Aa := Aa.keep K_ (ninS (by show @Ne Nat _ _; omega) nin0)
  show own_Ends p e below _ (T.setTop (mkF m 9 #[.val (.ref a), .val (.ref av)] []))
  exact own_retV X own_d2_9 rfl (by decide) (by decide) (⟨K0, rfl, b1, kb_b1, by omega, A_b1.lt, A_b1, Fc_a, Fv_a⟩)
set_option maxRecDepth 65536 in
set_option maxHeartbeats 40000000 in
theorem own_cmp5_2 (l : Launch) (Z : State) (a0 : Array Value) (hw : ∀ d ∈ tables_1, d.before a0 Z = true) (av : Addr) (si : Int32) (bv : Addr) (di : Int32) (ln : Int32) (ka : ClassId) (kb : ClassId) (c0 : Int32) (c1 : Int32) (h0 : Heap) (n0 : Nat) (hs0 : n0 ≤ h0.size) (Aa : own_A Z h0 av ka .char [(.int c0), (.int c1)]) (Ab : own_A Z h0 bv kb .byte [(.int (0 : Int32)), (.int (0 : Int32))]) (gb : n0 ≤ bv) (nab : @Ne Nat av bv) (ok0 : own_ok c0) (ok1 : own_ok c1) (hsi : si = 0) (hdi : di = 0) (hln : ln = 2) :
    own_Met l (⟨"java/lang/StringUTF16", "compress", "([CI[BII)I"⟩ : MethodName) jdk_52_method_21_code 7 (some .int) ({ frames := 0, cells := 0, slots := 0, locals := 0 } : Room) Z #[(.ref av), (.int si), (.ref bv), (.int di), (.int ln)] h0 n0 (fun v h' => Keep h0 h' [bv] ∧ v = some (.int 2) ∧ own_A Z h' bv kb .byte [(.int (own_b c0)), (.int (own_b c1))]) := by
  refine own_met (Ls := #[.val (.ref av), .val (.int si), .val (.ref bv), .val (.int di), .val (.int ln), .unset, .unset]) own_pn6 hs0 (fun m => by first  | (simp [entryFrame, mkF, argsToLocals, Value.category]; done) | rfl) ?_
  intro p e s m below meth c T X
  have K0 := Keep.refl h0 [bv]
  have hi_av : h0.size > av := Aa.lt
  have hi_bv : h0.size > bv := Ab.lt
  subst hsi
  subst hdi
  subst hln
  refine own_iconst X 1 (0 : Int32) own_d6_0 rfl rfl ?_
  refine own_istore X 3 #[.val (.ref av), .val (.int (0 : Int32)), .val (.ref bv), .val (.int (0 : Int32)), .val (.int (2 : Int32)), .val (.int (0 : Int32)), .unset] own_d6_1 rfl rfl ?_
  refine own_iload X 5 (0 : Int32) own_d6_3 rfl rfl ?_
  refine own_iload X 7 (2 : Int32) own_d6_5 rfl rfl ?_
  refine own_icN X 10 own_d6_7 rfl (XT.ii_ge_f (by decide)) ?_
  refine own_aloadN X 11 (.ref av) own_d6_10 rfl rfl rfl ?_
  refine own_iloadN X 12 (0 : Int32) own_d6_11 rfl rfl ?_
  refine own_caload X 13 0 (.int c0) own_d6_12 rfl Aa (by decide) (by decide) rfl ?_
  refine own_istore X 15 #[.val (.ref av), .val (.int (0 : Int32)), .val (.ref bv), .val (.int (0 : Int32)), .val (.int (2 : Int32)), .val (.int (0 : Int32)), .val (.int c0)] own_d6_13 rfl rfl ?_
  refine own_iload X 17 c0 own_d6_15 rfl rfl ?_
  refine own_sipush X 20 (255 : Int32) own_d6_17 rfl (by decide) ?_
  refine own_icY X 26 own_d6_20 (by decide) (by decide) (XT.ii_le_t (own_le255 ok0)) ?_
  refine own_aloadN X 27 (.ref bv) own_d6_26 rfl rfl rfl ?_
  refine own_iloadN X 28 (0 : Int32) own_d6_27 rfl rfl ?_
  refine own_iload X 30 c0 own_d6_28 rfl rfl ?_
  refine own_i2b X 31 own_d6_30 rfl ?_
  refine own_bastore X 32 0 own_d6_31 rfl Ab (by decide) (by decide) (Nat.le_of_ble_eq_true rfl) (by omega) ?_
  intro T h1 X W_h1
  rw [show nar .byte c0.toInt8.toInt32 = own_b c0 from rfl] at W_h1
  have nw_h1 : own_A Z h1 bv kb .byte [(.int (own_b c0)), (.int (0 : Int32))] := Ab.same W_h1 (fits_nar_byte _)
  have zs_h1 : h0.size ≤ h1.size := (Nat.le_of_eq W_h1.size.symm)
  have Aa := Aa.other W_h1 (by show @Ne Nat _ _; omega)
  have K0 := K0.wr W_h1 (Or.inl (by simp))
  have Ab := nw_h1
  refine own_iinc X 35 (1 : Int32) #[.val (.ref av), .val (.int ((0 : Int32) + (1 : Int32))), .val (.ref bv), .val (.int (0 : Int32)), .val (.int (2 : Int32)), .val (.int (0 : Int32)), .val (.int c0)] own_d6_32 rfl rfl rfl rfl ?_
  refine own_iinc X 38 (1 : Int32) #[.val (.ref av), .val (.int ((0 : Int32) + (1 : Int32))), .val (.ref bv), .val (.int ((0 : Int32) + (1 : Int32))), .val (.int (2 : Int32)), .val (.int (0 : Int32)), .val (.int c0)] own_d6_35 rfl rfl rfl rfl ?_
  refine own_iinc X 41 (1 : Int32) #[.val (.ref av), .val (.int ((0 : Int32) + (1 : Int32))), .val (.ref bv), .val (.int ((0 : Int32) + (1 : Int32))), .val (.int (2 : Int32)), .val (.int ((0 : Int32) + (1 : Int32))), .val (.int c0)] own_d6_38 rfl rfl rfl rfl ?_
  rw [show (0 : Int32) + (1 : Int32) = (1 : Int32) from by decide]
  refine own_goto X 3 own_d6_41 (by decide) (by decide) ?_
  refine own_iload X 5 (1 : Int32) own_d6_3 rfl rfl ?_
  refine own_iload X 7 (2 : Int32) own_d6_5 rfl rfl ?_
  refine own_icN X 10 own_d6_7 rfl (XT.ii_ge_f (by decide)) ?_
  refine own_aloadN X 11 (.ref av) own_d6_10 rfl rfl rfl ?_
  refine own_iloadN X 12 (1 : Int32) own_d6_11 rfl rfl ?_
  refine own_caload X 13 1 (.int c1) own_d6_12 rfl Aa (by decide) (by decide) rfl ?_
  refine own_istore X 15 #[.val (.ref av), .val (.int (1 : Int32)), .val (.ref bv), .val (.int (1 : Int32)), .val (.int (2 : Int32)), .val (.int (1 : Int32)), .val (.int c1)] own_d6_13 rfl rfl ?_
  refine own_iload X 17 c1 own_d6_15 rfl rfl ?_
  refine own_sipush X 20 (255 : Int32) own_d6_17 rfl (by decide) ?_
  refine own_icY X 26 own_d6_20 (by decide) (by decide) (XT.ii_le_t (own_le255 ok1)) ?_
  refine own_aloadN X 27 (.ref bv) own_d6_26 rfl rfl rfl ?_
  refine own_iloadN X 28 (1 : Int32) own_d6_27 rfl rfl ?_
  refine own_iload X 30 c1 own_d6_28 rfl rfl ?_
  refine own_i2b X 31 own_d6_30 rfl ?_
  refine own_bastore X 32 1 own_d6_31 rfl Ab (by decide) (by decide) (Nat.le_of_ble_eq_true rfl) (by omega) ?_
  intro T h2 X W_h2
  rw [show nar .byte c1.toInt8.toInt32 = own_b c1 from rfl] at W_h2
  have nw_h2 : own_A Z h2 bv kb .byte [(.int (own_b c0)), (.int (own_b c1))] := Ab.same W_h2 (fits_nar_byte _)
  have zs_h2 : h1.size ≤ h2.size := (Nat.le_of_eq W_h2.size.symm)
  have Aa := Aa.other W_h2 (by show @Ne Nat _ _; omega)
  have K0 := K0.wr W_h2 (Or.inl (by simp))
  have Ab := nw_h2
  refine own_iinc X 35 (1 : Int32) #[.val (.ref av), .val (.int ((1 : Int32) + (1 : Int32))), .val (.ref bv), .val (.int (1 : Int32)), .val (.int (2 : Int32)), .val (.int (1 : Int32)), .val (.int c1)] own_d6_32 rfl rfl rfl rfl ?_
  refine own_iinc X 38 (1 : Int32) #[.val (.ref av), .val (.int ((1 : Int32) + (1 : Int32))), .val (.ref bv), .val (.int ((1 : Int32) + (1 : Int32))), .val (.int (2 : Int32)), .val (.int (1 : Int32)), .val (.int c1)] own_d6_35 rfl rfl rfl rfl ?_
  refine own_iinc X 41 (1 : Int32) #[.val (.ref av), .val (.int ((1 : Int32) + (1 : Int32))), .val (.ref bv), .val (.int ((1 : Int32) + (1 : Int32))), .val (.int (2 : Int32)), .val (.int ((1 : Int32) + (1 : Int32))), .val (.int c1)] own_d6_38 rfl rfl rfl rfl ?_
  rw [show (1 : Int32) + (1 : Int32) = (2 : Int32) from by decide]
  refine own_goto X 3 own_d6_41 (by decide) (by decide) ?_
  refine own_iload X 5 (2 : Int32) own_d6_3 rfl rfl ?_
  refine own_iload X 7 (2 : Int32) own_d6_5 rfl rfl ?_
  refine own_icY X 44 own_d6_7 (by decide) (by decide) (XT.ii_ge_t (by decide)) ?_
  refine own_iload X 46 (2 : Int32) own_d6_44 rfl rfl ?_
  exact own_retI X own_d6_46 rfl (by decide) (by decide) (⟨K0, rfl, Ab⟩)
set_option maxRecDepth 65536 in
set_option maxHeartbeats 40000000 in
theorem own_cmp3_2 (l : Launch) (Z : State) (a0 : Array Value) (hw : ∀ d ∈ tables_1, d.before a0 Z = true) (av : Addr) (si : Int32) (ln : Int32) (ka : ClassId) (c0 : Int32) (c1 : Int32) (h0 : Heap) (n0 : Nat) (hs0 : n0 ≤ h0.size) (Aa : own_A Z h0 av ka .char [(.int c0), (.int c1)]) (ok0 : own_ok c0) (ok1 : own_ok c1) (hsi : si = 0) (hln : ln = 2) :
    own_Met l (⟨"java/lang/StringUTF16", "compress", "([CII)[B"⟩ : MethodName) jdk_52_method_16_code 6 (some (.array .byte)) ({ frames := 1, cells := 1, slots := 2, locals := 18 } : Room) Z #[(.ref av), (.int si), (.int ln)] h0 n0 (fun v h' => Keep h0 h' [] ∧ ∃ b kb, v = some (.ref b) ∧ h0.size ≤ b ∧ h'.size > b ∧ own_A Z h' b kb .byte [(.int (own_b c0)), (.int (own_b c1))]) := by
  refine own_met (Ls := #[.val (.ref av), .val (.int si), .val (.int ln), .unset, .unset, .unset]) own_pn5 hs0 (fun m => by first  | (simp [entryFrame, mkF, argsToLocals, Value.category]; done) | rfl) ?_
  intro p e s m below meth c T X
  have K0 := Keep.refl h0 []
  have hi_av : h0.size > av := Aa.lt
  subst hsi
  subst hln
  refine own_iloadN X 1 (2 : Int32) own_d5_0 rfl rfl ?_
  refine own_newP X 3 2 2 own_d5_1 rfl (hw _ (List.mem_of_getElem? (i := 24) rfl)) (by decide) (by decide) (by decide) (by decide) (by decide) (by decide) ?_
  intro T h1 b2 kc_b2 g_b2 X E_h1 A_b2
  have zs_h1 : h0.size ≤ h1.size := E_h1.1
  have Aa := Aa.ext E_h1
  have K0 := K0.ext E_h1
  have lo_b2 : h0.size ≤ b2 := Nat.le_of_eq g_b2.symm
  have hi_b2 : h1.size > b2 := A_b2.lt
  have A_b2 : own_A Z h1 b2 kc_b2 .byte [(.int (0 : Int32)), (.int (0 : Int32))] := A_b2
  refine own_astoreN X 4 #[.val (.ref av), .val (.int (0 : Int32)), .val (.int (2 : Int32)), .val (.ref b2), .unset, .unset] own_d5_3 rfl rfl rfl ?_
  refine own_aloadN X 5 (.ref av) own_d5_4 rfl rfl rfl ?_
  refine own_iloadN X 6 (0 : Int32) own_d5_5 rfl rfl ?_
  refine own_aloadN X 7 (.ref b2) own_d5_6 rfl rfl rfl ?_
  refine own_iconst X 8 (0 : Int32) own_d5_7 rfl rfl ?_
  refine own_iloadN X 9 (2 : Int32) own_d5_8 rfl rfl ?_
  refine own_callS X 12 [(.ref av), (.int (0 : Int32)), (.ref b2), (.int (0 : Int32)), (.int (2 : Int32))] [] own_d5_9 rfl (hw _ (List.mem_of_getElem? (i := 25) rfl)) (hw _ (List.mem_of_getElem? (i := 26) rfl)) (hw _ (List.mem_of_getElem? (i := 22) rfl)) (hw _ (List.mem_of_getElem? (i := 27) rfl)) (by decide) (own_cmp5_2 l Z a0 hw av (0 : Int32) b2 (0 : Int32) (2 : Int32) ka kc_b2 c0 c1 h1 n0 X.sz Aa A_b2 (by omega) (by show @Ne Nat _ _; omega) ok0 ok1 rfl rfl rfl) (fun _ _ q => q.1.1) rfl own_pd5 rfl rfl rfl (by decide) (Nat.le_of_ble_eq_true rfl) (by decide) (by decide) ?_
  rintro v9 T h3 X ⟨K_, rfl, A2_⟩
  have zs_h3 : h1.size ≤ h3.size := K_.1
  have Aa := Aa.keep K_ (ninS (by show @Ne Nat _ _; omega) nin0)
  have K0 := K0.trans K_ (allS (Or.inr (by omega)) all0)
  have A_b2 := A2_
  show own_Ends p e below _ (T.setTop (mkF m 12 #[.val (.ref av), .val (.int (0 : Int32)), .val (.int (2 : Int32)), .val (.ref b2), .unset, .unset] [(.int (2 : Int32))]))
  refine own_istore X 14 #[.val (.ref av), .val (.int (0 : Int32)), .val (.int (2 : Int32)), .val (.ref b2), .val (.int (2 : Int32)), .unset] own_d5_12 rfl rfl ?_
  refine own_iload X 16 (2 : Int32) own_d5_14 rfl rfl ?_
  refine own_iloadN X 17 (2 : Int32) own_d5_16 rfl rfl ?_
  refine own_icY X 57 own_d5_17 (by decide) (by decide) (XT.ii_eq_t rfl) ?_
  refine own_aloadN X 58 (.ref b2) own_d5_57 rfl rfl rfl ?_
  exact own_retA X (.array .byte) own_d5_58 rfl rfl rfl rfl (by decide) (by decide) (⟨K0, b2, kc_b2, rfl, by omega, A_b2.lt, A_b2⟩)
set_option maxRecDepth 65536 in
set_option maxHeartbeats 40000000 in
theorem own_cdr_2 (l : Launch) (Z : State) (a0 : Array Value) (hw : ∀ d ∈ tables_1, d.before a0 Z = true) (b : Addr) (ln : Int32) (kb : ClassId) (c0 : Int32) (c1 : Int32) (h0 : Heap) (n0 : Nat) (hs0 : n0 ≤ h0.size) (Ab : own_A Z h0 b kb .byte [(.int (own_b c0)), (.int (own_b c1))]) (hln : ln = 2) :
    own_Met l (⟨"java/lang/StringUTF16", "coderFromArrayLen", "([BI)B"⟩ : MethodName) jdk_52_method_15_code 2 (some .byte) ({ frames := 0, cells := 0, slots := 0, locals := 0 } : Room) Z #[(.ref b), (.int ln)] h0 n0 (fun v h' => h' = h0 ∧ v = some (.int (0 : Int32))) := by
  refine own_met (Ls := #[.val (.ref b), .val (.int ln)]) own_pn7 hs0 (fun m => by first  | (simp [entryFrame, mkF, argsToLocals, Value.category]; done) | rfl) ?_
  intro p e s m below meth c T X
  have hi_b : h0.size > b := Ab.lt
  subst hln
  refine own_iloadN X 1 (2 : Int32) own_d7_0 rfl rfl ?_
  refine own_aloadN X 2 (.ref b) own_d7_1 rfl rfl rfl ?_
  refine own_len X 3 (2 : Int32) own_d7_2 rfl Ab rfl ?_
  refine own_isub X 4 own_d7_3 rfl ?_
  refine own_bipush X 6 (31 : Int32) own_d7_4 rfl (by decide) ?_
  refine own_iushr X 7 own_d7_6 rfl ?_
  refine own_i2b X 8 own_d7_7 rfl ?_
  exact own_retN X .byte own_d7_8 rfl (by simp) (by decide) (by decide) (⟨rfl, by decide⟩)
set_option maxRecDepth 65536 in
set_option maxHeartbeats 40000000 in
theorem own_sn4_2 (l : Launch) (Z : State) (a0 : Array Value) (hw : ∀ d ∈ tables_1, d.before a0 Z = true) (a : Addr) (av : Addr) (of : Int32) (ln : Int32) (cs : Int32) (ka : ClassId) (c0 : Int32) (c1 : Int32) (h0 : Heap) (n0 : Nat) (hs0 : n0 ≤ h0.size) (OL : Old Z n0 h0) (z_cs : Sta Z Z.heap "java/lang/String" "COMPACT_STRINGS" "Z" (.int cs)) (hcs : ¬ cs = 0) (Es_a : Exa Z h0 a "java/lang/String") (Fc_a : Fld Z h0 a "java/lang/String" "coder" "B" (.int 0)) (Fv_a : Fld Z h0 a "java/lang/String" "value" "[B" .null) (ga : n0 ≤ a) (Aa : own_A Z h0 av ka .char [(.int c0), (.int c1)]) (naa : @Ne Nat a av) (ok0 : own_ok c0) (ok1 : own_ok c1) (hof : of = 0) (hln : ln = 2) :
    own_Met l (⟨"java/lang/String", "<init>", "([CIILjava/lang/Void;)V"⟩ : MethodName) jdk_42_method_149_code 6 none ({ frames := 2, cells := 1, slots := 2, locals := 35 } : Room) Z #[(.ref a), (.ref av), (.int of), (.int ln), .null] h0 n0 (fun v h' => Keep h0 h' [a] ∧ v = none ∧ ∃ b kb, h0.size ≤ b ∧ h'.size > b ∧ own_A Z h' b kb .byte [(.int (own_b c0)), (.int (own_b c1))] ∧ Fld Z h' a "java/lang/String" "coder" "B" (.int 0) ∧ Fld Z h' a "java/lang/String" "value" "[B" (.ref b)) := by
  refine own_met (Ls := #[.val (.ref a), .val (.ref av), .val (.int of), .val (.int ln), .val .null, .unset]) own_pn3 hs0 (fun m => by first  | (simp [entryFrame, mkF, argsToLocals, Value.category]; done) | rfl) ?_
  intro p e s m below meth c T X
  have K0 := Keep.refl h0 [a]
  have hi_a : h0.size > a := Es_a.lt
  have hi_av : h0.size > av := Aa.lt
  subst hof
  subst hln
  refine own_aloadN X 1 (.ref a) own_d3_0 rfl rfl rfl ?_
  refine own_initO X 4 own_d3_1 rfl (hw _ (List.mem_of_getElem? (i := 16) rfl)) (hw _ (List.mem_of_getElem? (i := 17) rfl)) (hw _ (List.mem_of_getElem? (i := 18) rfl)) rfl (by decide) (Nat.le_of_ble_eq_true rfl) ?_
  intro T X
  refine own_iloadN X 5 (2 : Int32) own_d3_4 rfl rfl ?_
  refine own_ifY X 27 own_d3_5 (by decide) (by decide) (XT.i0_ne_t (by decide)) ?_
  refine own_getS X 30 own_d3_27 rfl (hw _ (List.mem_of_getElem? (i := 19) rfl)) Via.refl (Sta.ext OL.2 z_cs) ?_
  intro T X
  refine own_ifN X 33 own_d3_30 rfl (XT.i0_eq_f hcs) ?_
  refine own_aloadN X 34 (.ref av) own_d3_33 rfl rfl rfl ?_
  refine own_iloadN X 35 (0 : Int32) own_d3_34 rfl rfl ?_
  refine own_iloadN X 36 (2 : Int32) own_d3_35 rfl rfl ?_
  refine own_callS X 39 [(.ref av), (.int (0 : Int32)), (.int (2 : Int32))] [] own_d3_36 rfl (hw _ (List.mem_of_getElem? (i := 20) rfl)) (hw _ (List.mem_of_getElem? (i := 21) rfl)) (hw _ (List.mem_of_getElem? (i := 22) rfl)) (hw _ (List.mem_of_getElem? (i := 23) rfl)) (by decide) (own_cmp3_2 l Z a0 hw av (0 : Int32) (2 : Int32) ka c0 c1 h0 n0 X.sz Aa ok0 ok1 rfl rfl) (fun _ _ q => q.1.1) rfl own_pd6 rfl rfl rfl (by decide) (Nat.le_of_ble_eq_true rfl) (by decide) (by decide) ?_
  rintro v36 T h2 X ⟨K_, b1, kb_b1, rfl, lo_b1, hi_b1, A_b1⟩
  have zs_h2 : h0.size ≤ h2.size := K_.1
  have OL := OL.keep K_ all0
  have K0 := K0.trans K_ all0
  have Es_a := Es_a.keep K_
  have Fc_a := Fc_a.keep K_ nin0
  have Fv_a := Fv_a.keep K_ nin0
  have Aa := Aa.keep K_ nin0
  show own_Ends p e below _ (T.setTop (mkF m 39 #[.val (.ref a), .val (.ref av), .val (.int (0 : Int32)), .val (.int (2 : Int32)), .val .null, .unset] [(.ref b1)]))
  refine own_astore X 41 #[.val (.ref a), .val (.ref av), .val (.int (0 : Int32)), .val (.int (2 : Int32)), .val .null, .val (.ref b1)] own_d3_39 rfl rfl rfl ?_
  refine own_aloadN X 42 (.ref a) own_d3_41 rfl rfl rfl ?_
  refine own_aload X 44 (.ref b1) own_d3_42 rfl rfl rfl ?_
  refine own_iloadN X 45 (2 : Int32) own_d3_44 rfl rfl ?_
  refine own_callS X 48 [(.ref b1), (.int (2 : Int32))] [(.ref a)] own_d3_45 rfl (hw _ (List.mem_of_getElem? (i := 28) rfl)) (hw _ (List.mem_of_getElem? (i := 29) rfl)) (hw _ (List.mem_of_getElem? (i := 22) rfl)) (hw _ (List.mem_of_getElem? (i := 30) rfl)) (by decide) (own_cdr_2 l Z a0 hw b1 (2 : Int32) kb_b1 c0 c1 h2 n0 X.sz A_b1 rfl) (fun _ _ q => Nat.le_of_eq (congrArg Array.size q.1.symm)) rfl own_pd7 rfl rfl rfl (by decide) (Nat.le_of_ble_eq_true rfl) (by decide) (by decide) ?_
  rintro v45 T h_ X ⟨eh_, rfl⟩
  rw [eh_] at X
  show own_Ends p e below _ (T.setTop (mkF m 48 #[.val (.ref a), .val (.ref av), .val (.int (0 : Int32)), .val (.int (2 : Int32)), .val .null, .val (.ref b1)] [(.int (0 : Int32)), (.ref a)]))
  refine own_putFN X 51 .byte (v' := .int (0 : Int32)) own_d3_48 rfl (hw _ (List.mem_of_getElem? (i := 31) rfl)) Via.refl Fc_a Es_a (Or.inr ⟨(hw _ (List.mem_of_getElem? (i := 32) rfl)), rfl, rfl⟩) (hw _ (List.mem_of_getElem? (i := 7) rfl)) (by decide) (by decide) (by decide) (by omega) ?_
  intro T h3 X W_h3
  have nw_h3 := Fld.same W_h3 Fc_a
  have zs_h3 : h2.size ≤ h3.size := (Nat.le_of_eq W_h3.size.symm)
  have OL := OL.wr W_h3 (by omega)
  have K0 := K0.wr W_h3 (Or.inl (by simp))
  have Es_a := Exa.wr W_h3 Es_a
  have Fv_a := Fld.other W_h3 Fv_a (Or.inr (slot_ne (Or.inr (hw _ (List.mem_of_getElem? (i := 34) rfl))) (Or.inr (hw _ (List.mem_of_getElem? (i := 32) rfl))) (by decide) (t := (.array .byte)) (t' := .byte) (by decide) (by decide)))
  have Aa := Aa.other W_h3 (by show @Ne Nat _ _; omega)
  have A_b1 := A_b1.other W_h3 (by show @Ne Nat _ _; omega)
  have Fc_a := nw_h3
  refine own_aloadN X 52 (.ref a) own_d3_51 rfl rfl rfl ?_
  refine own_aload X 54 (.ref b1) own_d3_52 rfl rfl rfl ?_
  refine own_putF X 57 (.array .byte) own_d3_54 rfl (hw _ (List.mem_of_getElem? (i := 33) rfl)) Via.refl Fv_a Es_a (Or.inr ⟨(hw _ (List.mem_of_getElem? (i := 34) rfl)), rfl, rfl⟩) (hw _ (List.mem_of_getElem? (i := 7) rfl)) (by decide) rfl rfl (by omega) ?_
  intro T h4 X W_h4
  have nw_h4 := Fld.same W_h4 Fv_a
  have zs_h4 : h3.size ≤ h4.size := (Nat.le_of_eq W_h4.size.symm)
  have OL := OL.wr W_h4 (by omega)
  have K0 := K0.wr W_h4 (Or.inl (by simp))
  have Es_a := Exa.wr W_h4 Es_a
  have Aa := Aa.other W_h4 (by show @Ne Nat _ _; omega)
  have A_b1 := A_b1.other W_h4 (by show @Ne Nat _ _; omega)
  have Fc_a := Fld.other W_h4 Fc_a (Or.inr (slot_ne (Or.inr (hw _ (List.mem_of_getElem? (i := 32) rfl))) (Or.inr (hw _ (List.mem_of_getElem? (i := 34) rfl))) (by decide) (t := .byte) (t' := (.array .byte)) (by decide) (by decide)))
  have Fv_a := nw_h4
  exact own_retV X own_d3_57 rfl (by decide) (by decide) (⟨K0, rfl, b1, kb_b1, by omega, A_b1.lt, A_b1, Fc_a, Fv_a⟩)
set_option maxRecDepth 65536 in
set_option maxHeartbeats 40000000 in
theorem own_sn_2 (l : Launch) (Z : State) (a0 : Array Value) (hw : ∀ d ∈ tables_1, d.before a0 Z = true) (a : Addr) (av : Addr) (cs : Int32) (ka : ClassId) (c0 : Int32) (c1 : Int32) (h0 : Heap) (n0 : Nat) (hs0 : n0 ≤ h0.size) (OL : Old Z n0 h0) (z_cs : Sta Z Z.heap "java/lang/String" "COMPACT_STRINGS" "Z" (.int cs)) (hcs : ¬ cs = 0) (Es_a : Exa Z h0 a "java/lang/String") (Fc_a : Fld Z h0 a "java/lang/String" "coder" "B" (.int 0)) (Fv_a : Fld Z h0 a "java/lang/String" "value" "[B" .null) (ga : n0 ≤ a) (Aa : own_A Z h0 av ka .char [(.int c0), (.int c1)]) (naa : @Ne Nat a av) (ok0 : own_ok c0) (ok1 : own_ok c1) :
    own_Met l (⟨"java/lang/String", "<init>", "([C)V"⟩ : MethodName) jdk_42_method_3_code 2 none ({ frames := 3, cells := 1, slots := 2, locals := 52 } : Room) Z #[(.ref a), (.ref av)] h0 n0 (fun v h' => Keep h0 h' [a] ∧ v = none ∧ ∃ b kb, h0.size ≤ b ∧ h'.size > b ∧ own_A Z h' b kb .byte [(.int (own_b c0)), (.int (own_b c1))] ∧ Fld Z h' a "java/lang/String" "coder" "B" (.int 0) ∧ Fld Z h' a "java/lang/String" "value" "[B" (.ref b)) := by
  refine own_met (Ls := #[.val (.ref a), .val (.ref av)]) own_pn2 hs0 (fun m => by first  | (simp [entryFrame, mkF, argsToLocals, Value.category]; done) | rfl) ?_
  intro p e s m below meth c T X
  have K0 := Keep.refl h0 [a]
  have hi_a : h0.size > a := Es_a.lt
  have hi_av : h0.size > av := Aa.lt
  refine own_aloadN X 1 (.ref a) own_d2_0 rfl rfl rfl ?_
  refine own_aloadN X 2 (.ref av) own_d2_1 rfl rfl rfl ?_
  refine own_iconst X 3 (0 : Int32) own_d2_2 rfl rfl ?_
  refine own_aloadN X 4 (.ref av) own_d2_3 rfl rfl rfl ?_
  refine own_len X 5 (2 : Int32) own_d2_4 rfl Aa rfl ?_
  refine own_anull X 6 own_d2_5 rfl ?_
  refine own_init X 9 [(.ref av), (.int (0 : Int32)), (.int (2 : Int32)), .null] [] own_d2_6 rfl (hw _ (List.mem_of_getElem? (i := 12) rfl)) (hw _ (List.mem_of_getElem? (i := 13) rfl)) (hw _ (List.mem_of_getElem? (i := 8) rfl)) (hw _ (List.mem_of_getElem? (i := 15) rfl)) (by decide) rfl (own_sn4_2 l Z a0 hw a av (0 : Int32) (2 : Int32) cs ka c0 c1 h0 n0 X.sz OL z_cs hcs Es_a Fc_a Fv_a (by omega) Aa (by show @Ne Nat _ _; omega) ok0 ok1 rfl rfl) (fun _ _ q => q.1.1) rfl own_pd8 rfl rfl rfl (by decide) (Nat.le_of_ble_eq_true rfl) (by decide) (by decide) ?_
  rintro v6 T h2 X ⟨K_, rfl, b1, kb_b1, lo_b1, hi_b1, A_b1, Fc_a, Fv_a⟩
  have zs_h2 : h0.size ≤ h2.size := K_.1
  have OL := OL.keep K_ (allS (by omega) all0)
  have K0 := K0.trans K_ (allS (Or.inl (by simp)) all0)
  have Es_a := Es_a.keep K_
  have Aa := Aa.keep K_ (ninS (by show @Ne Nat _ _; omega) nin0)
  show own_Ends p e below _ (T.setTop (mkF m 9 #[.val (.ref a), .val (.ref av)] []))
  exact own_retV X own_d2_9 rfl (by decide) (by decide) (⟨K0, rfl, b1, kb_b1, by omega, A_b1.lt, A_b1, Fc_a, Fv_a⟩)
set_option maxRecDepth 65536 in
set_option maxHeartbeats 40000000 in
theorem own_cmp5_3 (l : Launch) (Z : State) (a0 : Array Value) (hw : ∀ d ∈ tables_1, d.before a0 Z = true) (av : Addr) (si : Int32) (bv : Addr) (di : Int32) (ln : Int32) (ka : ClassId) (kb : ClassId) (c0 : Int32) (c1 : Int32) (c2 : Int32) (h0 : Heap) (n0 : Nat) (hs0 : n0 ≤ h0.size) (Aa : own_A Z h0 av ka .char [(.int c0), (.int c1), (.int c2)]) (Ab : own_A Z h0 bv kb .byte [(.int (0 : Int32)), (.int (0 : Int32)), (.int (0 : Int32))]) (gb : n0 ≤ bv) (nab : @Ne Nat av bv) (ok0 : own_ok c0) (ok1 : own_ok c1) (ok2 : own_ok c2) (hsi : si = 0) (hdi : di = 0) (hln : ln = 3) :
    own_Met l (⟨"java/lang/StringUTF16", "compress", "([CI[BII)I"⟩ : MethodName) jdk_52_method_21_code 7 (some .int) ({ frames := 0, cells := 0, slots := 0, locals := 0 } : Room) Z #[(.ref av), (.int si), (.ref bv), (.int di), (.int ln)] h0 n0 (fun v h' => Keep h0 h' [bv] ∧ v = some (.int 3) ∧ own_A Z h' bv kb .byte [(.int (own_b c0)), (.int (own_b c1)), (.int (own_b c2))]) := by
  refine own_met (Ls := #[.val (.ref av), .val (.int si), .val (.ref bv), .val (.int di), .val (.int ln), .unset, .unset]) own_pn6 hs0 (fun m => by first  | (simp [entryFrame, mkF, argsToLocals, Value.category]; done) | rfl) ?_
  intro p e s m below meth c T X
  have K0 := Keep.refl h0 [bv]
  have hi_av : h0.size > av := Aa.lt
  have hi_bv : h0.size > bv := Ab.lt
  subst hsi
  subst hdi
  subst hln
  refine own_iconst X 1 (0 : Int32) own_d6_0 rfl rfl ?_
  refine own_istore X 3 #[.val (.ref av), .val (.int (0 : Int32)), .val (.ref bv), .val (.int (0 : Int32)), .val (.int (3 : Int32)), .val (.int (0 : Int32)), .unset] own_d6_1 rfl rfl ?_
  refine own_iload X 5 (0 : Int32) own_d6_3 rfl rfl ?_
  refine own_iload X 7 (3 : Int32) own_d6_5 rfl rfl ?_
  refine own_icN X 10 own_d6_7 rfl (XT.ii_ge_f (by decide)) ?_
  refine own_aloadN X 11 (.ref av) own_d6_10 rfl rfl rfl ?_
  refine own_iloadN X 12 (0 : Int32) own_d6_11 rfl rfl ?_
  refine own_caload X 13 0 (.int c0) own_d6_12 rfl Aa (by decide) (by decide) rfl ?_
  refine own_istore X 15 #[.val (.ref av), .val (.int (0 : Int32)), .val (.ref bv), .val (.int (0 : Int32)), .val (.int (3 : Int32)), .val (.int (0 : Int32)), .val (.int c0)] own_d6_13 rfl rfl ?_
  refine own_iload X 17 c0 own_d6_15 rfl rfl ?_
  refine own_sipush X 20 (255 : Int32) own_d6_17 rfl (by decide) ?_
  refine own_icY X 26 own_d6_20 (by decide) (by decide) (XT.ii_le_t (own_le255 ok0)) ?_
  refine own_aloadN X 27 (.ref bv) own_d6_26 rfl rfl rfl ?_
  refine own_iloadN X 28 (0 : Int32) own_d6_27 rfl rfl ?_
  refine own_iload X 30 c0 own_d6_28 rfl rfl ?_
  refine own_i2b X 31 own_d6_30 rfl ?_
  refine own_bastore X 32 0 own_d6_31 rfl Ab (by decide) (by decide) (Nat.le_of_ble_eq_true rfl) (by omega) ?_
  intro T h1 X W_h1
  rw [show nar .byte c0.toInt8.toInt32 = own_b c0 from rfl] at W_h1
  have nw_h1 : own_A Z h1 bv kb .byte [(.int (own_b c0)), (.int (0 : Int32)), (.int (0 : Int32))] := Ab.same W_h1 (fits_nar_byte _)
  have zs_h1 : h0.size ≤ h1.size := (Nat.le_of_eq W_h1.size.symm)
  have Aa := Aa.other W_h1 (by show @Ne Nat _ _; omega)
  have K0 := K0.wr W_h1 (Or.inl (by simp))
  have Ab := nw_h1
  refine own_iinc X 35 (1 : Int32) #[.val (.ref av), .val (.int ((0 : Int32) + (1 : Int32))), .val (.ref bv), .val (.int (0 : Int32)), .val (.int (3 : Int32)), .val (.int (0 : Int32)), .val (.int c0)] own_d6_32 rfl rfl rfl rfl ?_
  refine own_iinc X 38 (1 : Int32) #[.val (.ref av), .val (.int ((0 : Int32) + (1 : Int32))), .val (.ref bv), .val (.int ((0 : Int32) + (1 : Int32))), .val (.int (3 : Int32)), .val (.int (0 : Int32)), .val (.int c0)] own_d6_35 rfl rfl rfl rfl ?_
  refine own_iinc X 41 (1 : Int32) #[.val (.ref av), .val (.int ((0 : Int32) + (1 : Int32))), .val (.ref bv), .val (.int ((0 : Int32) + (1 : Int32))), .val (.int (3 : Int32)), .val (.int ((0 : Int32) + (1 : Int32))), .val (.int c0)] own_d6_38 rfl rfl rfl rfl ?_
  rw [show (0 : Int32) + (1 : Int32) = (1 : Int32) from by decide]
  refine own_goto X 3 own_d6_41 (by decide) (by decide) ?_
  refine own_iload X 5 (1 : Int32) own_d6_3 rfl rfl ?_
  refine own_iload X 7 (3 : Int32) own_d6_5 rfl rfl ?_
  refine own_icN X 10 own_d6_7 rfl (XT.ii_ge_f (by decide)) ?_
  refine own_aloadN X 11 (.ref av) own_d6_10 rfl rfl rfl ?_
  refine own_iloadN X 12 (1 : Int32) own_d6_11 rfl rfl ?_
  refine own_caload X 13 1 (.int c1) own_d6_12 rfl Aa (by decide) (by decide) rfl ?_
  refine own_istore X 15 #[.val (.ref av), .val (.int (1 : Int32)), .val (.ref bv), .val (.int (1 : Int32)), .val (.int (3 : Int32)), .val (.int (1 : Int32)), .val (.int c1)] own_d6_13 rfl rfl ?_
  refine own_iload X 17 c1 own_d6_15 rfl rfl ?_
  refine own_sipush X 20 (255 : Int32) own_d6_17 rfl (by decide) ?_
  refine own_icY X 26 own_d6_20 (by decide) (by decide) (XT.ii_le_t (own_le255 ok1)) ?_
  refine own_aloadN X 27 (.ref bv) own_d6_26 rfl rfl rfl ?_
  refine own_iloadN X 28 (1 : Int32) own_d6_27 rfl rfl ?_
  refine own_iload X 30 c1 own_d6_28 rfl rfl ?_
  refine own_i2b X 31 own_d6_30 rfl ?_
  refine own_bastore X 32 1 own_d6_31 rfl Ab (by decide) (by decide) (Nat.le_of_ble_eq_true rfl) (by omega) ?_
  intro T h2 X W_h2
  rw [show nar .byte c1.toInt8.toInt32 = own_b c1 from rfl] at W_h2
  have nw_h2 : own_A Z h2 bv kb .byte [(.int (own_b c0)), (.int (own_b c1)), (.int (0 : Int32))] := Ab.same W_h2 (fits_nar_byte _)
  have zs_h2 : h1.size ≤ h2.size := (Nat.le_of_eq W_h2.size.symm)
  have Aa := Aa.other W_h2 (by show @Ne Nat _ _; omega)
  have K0 := K0.wr W_h2 (Or.inl (by simp))
  have Ab := nw_h2
  refine own_iinc X 35 (1 : Int32) #[.val (.ref av), .val (.int ((1 : Int32) + (1 : Int32))), .val (.ref bv), .val (.int (1 : Int32)), .val (.int (3 : Int32)), .val (.int (1 : Int32)), .val (.int c1)] own_d6_32 rfl rfl rfl rfl ?_
  refine own_iinc X 38 (1 : Int32) #[.val (.ref av), .val (.int ((1 : Int32) + (1 : Int32))), .val (.ref bv), .val (.int ((1 : Int32) + (1 : Int32))), .val (.int (3 : Int32)), .val (.int (1 : Int32)), .val (.int c1)] own_d6_35 rfl rfl rfl rfl ?_
  refine own_iinc X 41 (1 : Int32) #[.val (.ref av), .val (.int ((1 : Int32) + (1 : Int32))), .val (.ref bv), .val (.int ((1 : Int32) + (1 : Int32))), .val (.int (3 : Int32)), .val (.int ((1 : Int32) + (1 : Int32))), .val (.int c1)] own_d6_38 rfl rfl rfl rfl ?_
  rw [show (1 : Int32) + (1 : Int32) = (2 : Int32) from by decide]
  refine own_goto X 3 own_d6_41 (by decide) (by decide) ?_
  refine own_iload X 5 (2 : Int32) own_d6_3 rfl rfl ?_
  refine own_iload X 7 (3 : Int32) own_d6_5 rfl rfl ?_
  refine own_icN X 10 own_d6_7 rfl (XT.ii_ge_f (by decide)) ?_
  refine own_aloadN X 11 (.ref av) own_d6_10 rfl rfl rfl ?_
  refine own_iloadN X 12 (2 : Int32) own_d6_11 rfl rfl ?_
  refine own_caload X 13 2 (.int c2) own_d6_12 rfl Aa (by decide) (by decide) rfl ?_
  refine own_istore X 15 #[.val (.ref av), .val (.int (2 : Int32)), .val (.ref bv), .val (.int (2 : Int32)), .val (.int (3 : Int32)), .val (.int (2 : Int32)), .val (.int c2)] own_d6_13 rfl rfl ?_
  refine own_iload X 17 c2 own_d6_15 rfl rfl ?_
  refine own_sipush X 20 (255 : Int32) own_d6_17 rfl (by decide) ?_
  refine own_icY X 26 own_d6_20 (by decide) (by decide) (XT.ii_le_t (own_le255 ok2)) ?_
  refine own_aloadN X 27 (.ref bv) own_d6_26 rfl rfl rfl ?_
  refine own_iloadN X 28 (2 : Int32) own_d6_27 rfl rfl ?_
  refine own_iload X 30 c2 own_d6_28 rfl rfl ?_
  refine own_i2b X 31 own_d6_30 rfl ?_
  refine own_bastore X 32 2 own_d6_31 rfl Ab (by decide) (by decide) (Nat.le_of_ble_eq_true rfl) (by omega) ?_
  intro T h3 X W_h3
  rw [show nar .byte c2.toInt8.toInt32 = own_b c2 from rfl] at W_h3
  have nw_h3 : own_A Z h3 bv kb .byte [(.int (own_b c0)), (.int (own_b c1)), (.int (own_b c2))] := Ab.same W_h3 (fits_nar_byte _)
  have zs_h3 : h2.size ≤ h3.size := (Nat.le_of_eq W_h3.size.symm)
  have Aa := Aa.other W_h3 (by show @Ne Nat _ _; omega)
  have K0 := K0.wr W_h3 (Or.inl (by simp))
  have Ab := nw_h3
  refine own_iinc X 35 (1 : Int32) #[.val (.ref av), .val (.int ((2 : Int32) + (1 : Int32))), .val (.ref bv), .val (.int (2 : Int32)), .val (.int (3 : Int32)), .val (.int (2 : Int32)), .val (.int c2)] own_d6_32 rfl rfl rfl rfl ?_
  refine own_iinc X 38 (1 : Int32) #[.val (.ref av), .val (.int ((2 : Int32) + (1 : Int32))), .val (.ref bv), .val (.int ((2 : Int32) + (1 : Int32))), .val (.int (3 : Int32)), .val (.int (2 : Int32)), .val (.int c2)] own_d6_35 rfl rfl rfl rfl ?_
  refine own_iinc X 41 (1 : Int32) #[.val (.ref av), .val (.int ((2 : Int32) + (1 : Int32))), .val (.ref bv), .val (.int ((2 : Int32) + (1 : Int32))), .val (.int (3 : Int32)), .val (.int ((2 : Int32) + (1 : Int32))), .val (.int c2)] own_d6_38 rfl rfl rfl rfl ?_
  rw [show (2 : Int32) + (1 : Int32) = (3 : Int32) from by decide]
  refine own_goto X 3 own_d6_41 (by decide) (by decide) ?_
  refine own_iload X 5 (3 : Int32) own_d6_3 rfl rfl ?_
  refine own_iload X 7 (3 : Int32) own_d6_5 rfl rfl ?_
  refine own_icY X 44 own_d6_7 (by decide) (by decide) (XT.ii_ge_t (by decide)) ?_
  refine own_iload X 46 (3 : Int32) own_d6_44 rfl rfl ?_
  exact own_retI X own_d6_46 rfl (by decide) (by decide) (⟨K0, rfl, Ab⟩)
set_option maxRecDepth 65536 in
set_option maxHeartbeats 40000000 in
theorem own_cmp3_3 (l : Launch) (Z : State) (a0 : Array Value) (hw : ∀ d ∈ tables_1, d.before a0 Z = true) (av : Addr) (si : Int32) (ln : Int32) (ka : ClassId) (c0 : Int32) (c1 : Int32) (c2 : Int32) (h0 : Heap) (n0 : Nat) (hs0 : n0 ≤ h0.size) (Aa : own_A Z h0 av ka .char [(.int c0), (.int c1), (.int c2)]) (ok0 : own_ok c0) (ok1 : own_ok c1) (ok2 : own_ok c2) (hsi : si = 0) (hln : ln = 3) :
    own_Met l (⟨"java/lang/StringUTF16", "compress", "([CII)[B"⟩ : MethodName) jdk_52_method_16_code 6 (some (.array .byte)) ({ frames := 1, cells := 1, slots := 3, locals := 18 } : Room) Z #[(.ref av), (.int si), (.int ln)] h0 n0 (fun v h' => Keep h0 h' [] ∧ ∃ b kb, v = some (.ref b) ∧ h0.size ≤ b ∧ h'.size > b ∧ own_A Z h' b kb .byte [(.int (own_b c0)), (.int (own_b c1)), (.int (own_b c2))]) := by
  refine own_met (Ls := #[.val (.ref av), .val (.int si), .val (.int ln), .unset, .unset, .unset]) own_pn5 hs0 (fun m => by first  | (simp [entryFrame, mkF, argsToLocals, Value.category]; done) | rfl) ?_
  intro p e s m below meth c T X
  have K0 := Keep.refl h0 []
  have hi_av : h0.size > av := Aa.lt
  subst hsi
  subst hln
  refine own_iloadN X 1 (3 : Int32) own_d5_0 rfl rfl ?_
  refine own_newP X 3 3 3 own_d5_1 rfl (hw _ (List.mem_of_getElem? (i := 24) rfl)) (by decide) (by decide) (by decide) (by decide) (by decide) (by decide) ?_
  intro T h1 b2 kc_b2 g_b2 X E_h1 A_b2
  have zs_h1 : h0.size ≤ h1.size := E_h1.1
  have Aa := Aa.ext E_h1
  have K0 := K0.ext E_h1
  have lo_b2 : h0.size ≤ b2 := Nat.le_of_eq g_b2.symm
  have hi_b2 : h1.size > b2 := A_b2.lt
  have A_b2 : own_A Z h1 b2 kc_b2 .byte [(.int (0 : Int32)), (.int (0 : Int32)), (.int (0 : Int32))] := A_b2
  refine own_astoreN X 4 #[.val (.ref av), .val (.int (0 : Int32)), .val (.int (3 : Int32)), .val (.ref b2), .unset, .unset] own_d5_3 rfl rfl rfl ?_
  refine own_aloadN X 5 (.ref av) own_d5_4 rfl rfl rfl ?_
  refine own_iloadN X 6 (0 : Int32) own_d5_5 rfl rfl ?_
  refine own_aloadN X 7 (.ref b2) own_d5_6 rfl rfl rfl ?_
  refine own_iconst X 8 (0 : Int32) own_d5_7 rfl rfl ?_
  refine own_iloadN X 9 (3 : Int32) own_d5_8 rfl rfl ?_
  refine own_callS X 12 [(.ref av), (.int (0 : Int32)), (.ref b2), (.int (0 : Int32)), (.int (3 : Int32))] [] own_d5_9 rfl (hw _ (List.mem_of_getElem? (i := 25) rfl)) (hw _ (List.mem_of_getElem? (i := 26) rfl)) (hw _ (List.mem_of_getElem? (i := 22) rfl)) (hw _ (List.mem_of_getElem? (i := 27) rfl)) (by decide) (own_cmp5_3 l Z a0 hw av (0 : Int32) b2 (0 : Int32) (3 : Int32) ka kc_b2 c0 c1 c2 h1 n0 X.sz Aa A_b2 (by omega) (by show @Ne Nat _ _; omega) ok0 ok1 ok2 rfl rfl rfl) (fun _ _ q => q.1.1) rfl own_pd5 rfl rfl rfl (by decide) (Nat.le_of_ble_eq_true rfl) (by decide) (by decide) ?_
  rintro v9 T h3 X ⟨K_, rfl, A2_⟩
  have zs_h3 : h1.size ≤ h3.size := K_.1
  have Aa := Aa.keep K_ (ninS (by show @Ne Nat _ _; omega) nin0)
  have K0 := K0.trans K_ (allS (Or.inr (by omega)) all0)
  have A_b2 := A2_
  show own_Ends p e below _ (T.setTop (mkF m 12 #[.val (.ref av), .val (.int (0 : Int32)), .val (.int (3 : Int32)), .val (.ref b2), .unset, .unset] [(.int (3 : Int32))]))
  refine own_istore X 14 #[.val (.ref av), .val (.int (0 : Int32)), .val (.int (3 : Int32)), .val (.ref b2), .val (.int (3 : Int32)), .unset] own_d5_12 rfl rfl ?_
  refine own_iload X 16 (3 : Int32) own_d5_14 rfl rfl ?_
  refine own_iloadN X 17 (3 : Int32) own_d5_16 rfl rfl ?_
  refine own_icY X 57 own_d5_17 (by decide) (by decide) (XT.ii_eq_t rfl) ?_
  refine own_aloadN X 58 (.ref b2) own_d5_57 rfl rfl rfl ?_
  exact own_retA X (.array .byte) own_d5_58 rfl rfl rfl rfl (by decide) (by decide) (⟨K0, b2, kc_b2, rfl, by omega, A_b2.lt, A_b2⟩)
set_option maxRecDepth 65536 in
set_option maxHeartbeats 40000000 in
theorem own_cdr_3 (l : Launch) (Z : State) (a0 : Array Value) (hw : ∀ d ∈ tables_1, d.before a0 Z = true) (b : Addr) (ln : Int32) (kb : ClassId) (c0 : Int32) (c1 : Int32) (c2 : Int32) (h0 : Heap) (n0 : Nat) (hs0 : n0 ≤ h0.size) (Ab : own_A Z h0 b kb .byte [(.int (own_b c0)), (.int (own_b c1)), (.int (own_b c2))]) (hln : ln = 3) :
    own_Met l (⟨"java/lang/StringUTF16", "coderFromArrayLen", "([BI)B"⟩ : MethodName) jdk_52_method_15_code 2 (some .byte) ({ frames := 0, cells := 0, slots := 0, locals := 0 } : Room) Z #[(.ref b), (.int ln)] h0 n0 (fun v h' => h' = h0 ∧ v = some (.int (0 : Int32))) := by
  refine own_met (Ls := #[.val (.ref b), .val (.int ln)]) own_pn7 hs0 (fun m => by first  | (simp [entryFrame, mkF, argsToLocals, Value.category]; done) | rfl) ?_
  intro p e s m below meth c T X
  have hi_b : h0.size > b := Ab.lt
  subst hln
  refine own_iloadN X 1 (3 : Int32) own_d7_0 rfl rfl ?_
  refine own_aloadN X 2 (.ref b) own_d7_1 rfl rfl rfl ?_
  refine own_len X 3 (3 : Int32) own_d7_2 rfl Ab rfl ?_
  refine own_isub X 4 own_d7_3 rfl ?_
  refine own_bipush X 6 (31 : Int32) own_d7_4 rfl (by decide) ?_
  refine own_iushr X 7 own_d7_6 rfl ?_
  refine own_i2b X 8 own_d7_7 rfl ?_
  exact own_retN X .byte own_d7_8 rfl (by simp) (by decide) (by decide) (⟨rfl, by decide⟩)
set_option maxRecDepth 65536 in
set_option maxHeartbeats 40000000 in
theorem own_sn4_3 (l : Launch) (Z : State) (a0 : Array Value) (hw : ∀ d ∈ tables_1, d.before a0 Z = true) (a : Addr) (av : Addr) (of : Int32) (ln : Int32) (cs : Int32) (ka : ClassId) (c0 : Int32) (c1 : Int32) (c2 : Int32) (h0 : Heap) (n0 : Nat) (hs0 : n0 ≤ h0.size) (OL : Old Z n0 h0) (z_cs : Sta Z Z.heap "java/lang/String" "COMPACT_STRINGS" "Z" (.int cs)) (hcs : ¬ cs = 0) (Es_a : Exa Z h0 a "java/lang/String") (Fc_a : Fld Z h0 a "java/lang/String" "coder" "B" (.int 0)) (Fv_a : Fld Z h0 a "java/lang/String" "value" "[B" .null) (ga : n0 ≤ a) (Aa : own_A Z h0 av ka .char [(.int c0), (.int c1), (.int c2)]) (naa : @Ne Nat a av) (ok0 : own_ok c0) (ok1 : own_ok c1) (ok2 : own_ok c2) (hof : of = 0) (hln : ln = 3) :
    own_Met l (⟨"java/lang/String", "<init>", "([CIILjava/lang/Void;)V"⟩ : MethodName) jdk_42_method_149_code 6 none ({ frames := 2, cells := 1, slots := 3, locals := 35 } : Room) Z #[(.ref a), (.ref av), (.int of), (.int ln), .null] h0 n0 (fun v h' => Keep h0 h' [a] ∧ v = none ∧ ∃ b kb, h0.size ≤ b ∧ h'.size > b ∧ own_A Z h' b kb .byte [(.int (own_b c0)), (.int (own_b c1)), (.int (own_b c2))] ∧ Fld Z h' a "java/lang/String" "coder" "B" (.int 0) ∧ Fld Z h' a "java/lang/String" "value" "[B" (.ref b)) := by
  refine own_met (Ls := #[.val (.ref a), .val (.ref av), .val (.int of), .val (.int ln), .val .null, .unset]) own_pn3 hs0 (fun m => by first  | (simp [entryFrame, mkF, argsToLocals, Value.category]; done) | rfl) ?_
  intro p e s m below meth c T X
  have K0 := Keep.refl h0 [a]
  have hi_a : h0.size > a := Es_a.lt
  have hi_av : h0.size > av := Aa.lt
  subst hof
  subst hln
  refine own_aloadN X 1 (.ref a) own_d3_0 rfl rfl rfl ?_
  refine own_initO X 4 own_d3_1 rfl (hw _ (List.mem_of_getElem? (i := 16) rfl)) (hw _ (List.mem_of_getElem? (i := 17) rfl)) (hw _ (List.mem_of_getElem? (i := 18) rfl)) rfl (by decide) (Nat.le_of_ble_eq_true rfl) ?_
  intro T X
  refine own_iloadN X 5 (3 : Int32) own_d3_4 rfl rfl ?_
  refine own_ifY X 27 own_d3_5 (by decide) (by decide) (XT.i0_ne_t (by decide)) ?_
  refine own_getS X 30 own_d3_27 rfl (hw _ (List.mem_of_getElem? (i := 19) rfl)) Via.refl (Sta.ext OL.2 z_cs) ?_
  intro T X
  refine own_ifN X 33 own_d3_30 rfl (XT.i0_eq_f hcs) ?_
  refine own_aloadN X 34 (.ref av) own_d3_33 rfl rfl rfl ?_
  refine own_iloadN X 35 (0 : Int32) own_d3_34 rfl rfl ?_
  refine own_iloadN X 36 (3 : Int32) own_d3_35 rfl rfl ?_
  refine own_callS X 39 [(.ref av), (.int (0 : Int32)), (.int (3 : Int32))] [] own_d3_36 rfl (hw _ (List.mem_of_getElem? (i := 20) rfl)) (hw _ (List.mem_of_getElem? (i := 21) rfl)) (hw _ (List.mem_of_getElem? (i := 22) rfl)) (hw _ (List.mem_of_getElem? (i := 23) rfl)) (by decide) (own_cmp3_3 l Z a0 hw av (0 : Int32) (3 : Int32) ka c0 c1 c2 h0 n0 X.sz Aa ok0 ok1 ok2 rfl rfl) (fun _ _ q => q.1.1) rfl own_pd6 rfl rfl rfl (by decide) (Nat.le_of_ble_eq_true rfl) (by decide) (by decide) ?_
  rintro v36 T h2 X ⟨K_, b1, kb_b1, rfl, lo_b1, hi_b1, A_b1⟩
  have zs_h2 : h0.size ≤ h2.size := K_.1
  have OL := OL.keep K_ all0
  have K0 := K0.trans K_ all0
  have Es_a := Es_a.keep K_
  have Fc_a := Fc_a.keep K_ nin0
  have Fv_a := Fv_a.keep K_ nin0
  have Aa := Aa.keep K_ nin0
  show own_Ends p e below _ (T.setTop (mkF m 39 #[.val (.ref a), .val (.ref av), .val (.int (0 : Int32)), .val (.int (3 : Int32)), .val .null, .unset] [(.ref b1)]))
  refine own_astore X 41 #[.val (.ref a), .val (.ref av), .val (.int (0 : Int32)), .val (.int (3 : Int32)), .val .null, .val (.ref b1)] own_d3_39 rfl rfl rfl ?_
  refine own_aloadN X 42 (.ref a) own_d3_41 rfl rfl rfl ?_
  refine own_aload X 44 (.ref b1) own_d3_42 rfl rfl rfl ?_
  refine own_iloadN X 45 (3 : Int32) own_d3_44 rfl rfl ?_
  refine own_callS X 48 [(.ref b1), (.int (3 : Int32))] [(.ref a)] own_d3_45 rfl (hw _ (List.mem_of_getElem? (i := 28) rfl)) (hw _ (List.mem_of_getElem? (i := 29) rfl)) (hw _ (List.mem_of_getElem? (i := 22) rfl)) (hw _ (List.mem_of_getElem? (i := 30) rfl)) (by decide) (own_cdr_3 l Z a0 hw b1 (3 : Int32) kb_b1 c0 c1 c2 h2 n0 X.sz A_b1 rfl) (fun _ _ q => Nat.le_of_eq (congrArg Array.size q.1.symm)) rfl own_pd7 rfl rfl rfl (by decide) (Nat.le_of_ble_eq_true rfl) (by decide) (by decide) ?_
  rintro v45 T h_ X ⟨eh_, rfl⟩
  rw [eh_] at X
  show own_Ends p e below _ (T.setTop (mkF m 48 #[.val (.ref a), .val (.ref av), .val (.int (0 : Int32)), .val (.int (3 : Int32)), .val .null, .val (.ref b1)] [(.int (0 : Int32)), (.ref a)]))
  refine own_putFN X 51 .byte (v' := .int (0 : Int32)) own_d3_48 rfl (hw _ (List.mem_of_getElem? (i := 31) rfl)) Via.refl Fc_a Es_a (Or.inr ⟨(hw _ (List.mem_of_getElem? (i := 32) rfl)), rfl, rfl⟩) (hw _ (List.mem_of_getElem? (i := 7) rfl)) (by decide) (by decide) (by decide) (by omega) ?_
  intro T h3 X W_h3
  have nw_h3 := Fld.same W_h3 Fc_a
  have zs_h3 : h2.size ≤ h3.size := (Nat.le_of_eq W_h3.size.symm)
  have OL := OL.wr W_h3 (by omega)
  have K0 := K0.wr W_h3 (Or.inl (by simp))
  have Es_a := Exa.wr W_h3 Es_a
  have Fv_a := Fld.other W_h3 Fv_a (Or.inr (slot_ne (Or.inr (hw _ (List.mem_of_getElem? (i := 34) rfl))) (Or.inr (hw _ (List.mem_of_getElem? (i := 32) rfl))) (by decide) (t := (.array .byte)) (t' := .byte) (by decide) (by decide)))
  have Aa := Aa.other W_h3 (by show @Ne Nat _ _; omega)
  have A_b1 := A_b1.other W_h3 (by show @Ne Nat _ _; omega)
  have Fc_a := nw_h3
  refine own_aloadN X 52 (.ref a) own_d3_51 rfl rfl rfl ?_
  refine own_aload X 54 (.ref b1) own_d3_52 rfl rfl rfl ?_
  refine own_putF X 57 (.array .byte) own_d3_54 rfl (hw _ (List.mem_of_getElem? (i := 33) rfl)) Via.refl Fv_a Es_a (Or.inr ⟨(hw _ (List.mem_of_getElem? (i := 34) rfl)), rfl, rfl⟩) (hw _ (List.mem_of_getElem? (i := 7) rfl)) (by decide) rfl rfl (by omega) ?_
  intro T h4 X W_h4
  have nw_h4 := Fld.same W_h4 Fv_a
  have zs_h4 : h3.size ≤ h4.size := (Nat.le_of_eq W_h4.size.symm)
  have OL := OL.wr W_h4 (by omega)
  have K0 := K0.wr W_h4 (Or.inl (by simp))
  have Es_a := Exa.wr W_h4 Es_a
  have Aa := Aa.other W_h4 (by show @Ne Nat _ _; omega)
  have A_b1 := A_b1.other W_h4 (by show @Ne Nat _ _; omega)
  have Fc_a := Fld.other W_h4 Fc_a (Or.inr (slot_ne (Or.inr (hw _ (List.mem_of_getElem? (i := 32) rfl))) (Or.inr (hw _ (List.mem_of_getElem? (i := 34) rfl))) (by decide) (t := .byte) (t' := (.array .byte)) (by decide) (by decide)))
  have Fv_a := nw_h4
  exact own_retV X own_d3_57 rfl (by decide) (by decide) (⟨K0, rfl, b1, kb_b1, by omega, A_b1.lt, A_b1, Fc_a, Fv_a⟩)
set_option maxRecDepth 65536 in
set_option maxHeartbeats 40000000 in
theorem own_sn_3 (l : Launch) (Z : State) (a0 : Array Value) (hw : ∀ d ∈ tables_1, d.before a0 Z = true) (a : Addr) (av : Addr) (cs : Int32) (ka : ClassId) (c0 : Int32) (c1 : Int32) (c2 : Int32) (h0 : Heap) (n0 : Nat) (hs0 : n0 ≤ h0.size) (OL : Old Z n0 h0) (z_cs : Sta Z Z.heap "java/lang/String" "COMPACT_STRINGS" "Z" (.int cs)) (hcs : ¬ cs = 0) (Es_a : Exa Z h0 a "java/lang/String") (Fc_a : Fld Z h0 a "java/lang/String" "coder" "B" (.int 0)) (Fv_a : Fld Z h0 a "java/lang/String" "value" "[B" .null) (ga : n0 ≤ a) (Aa : own_A Z h0 av ka .char [(.int c0), (.int c1), (.int c2)]) (naa : @Ne Nat a av) (ok0 : own_ok c0) (ok1 : own_ok c1) (ok2 : own_ok c2) :
    own_Met l (⟨"java/lang/String", "<init>", "([C)V"⟩ : MethodName) jdk_42_method_3_code 2 none ({ frames := 3, cells := 1, slots := 3, locals := 52 } : Room) Z #[(.ref a), (.ref av)] h0 n0 (fun v h' => Keep h0 h' [a] ∧ v = none ∧ ∃ b kb, h0.size ≤ b ∧ h'.size > b ∧ own_A Z h' b kb .byte [(.int (own_b c0)), (.int (own_b c1)), (.int (own_b c2))] ∧ Fld Z h' a "java/lang/String" "coder" "B" (.int 0) ∧ Fld Z h' a "java/lang/String" "value" "[B" (.ref b)) := by
  refine own_met (Ls := #[.val (.ref a), .val (.ref av)]) own_pn2 hs0 (fun m => by first  | (simp [entryFrame, mkF, argsToLocals, Value.category]; done) | rfl) ?_
  intro p e s m below meth c T X
  have K0 := Keep.refl h0 [a]
  have hi_a : h0.size > a := Es_a.lt
  have hi_av : h0.size > av := Aa.lt
  refine own_aloadN X 1 (.ref a) own_d2_0 rfl rfl rfl ?_
  refine own_aloadN X 2 (.ref av) own_d2_1 rfl rfl rfl ?_
  refine own_iconst X 3 (0 : Int32) own_d2_2 rfl rfl ?_
  refine own_aloadN X 4 (.ref av) own_d2_3 rfl rfl rfl ?_
  refine own_len X 5 (3 : Int32) own_d2_4 rfl Aa rfl ?_
  refine own_anull X 6 own_d2_5 rfl ?_
  refine own_init X 9 [(.ref av), (.int (0 : Int32)), (.int (3 : Int32)), .null] [] own_d2_6 rfl (hw _ (List.mem_of_getElem? (i := 12) rfl)) (hw _ (List.mem_of_getElem? (i := 13) rfl)) (hw _ (List.mem_of_getElem? (i := 8) rfl)) (hw _ (List.mem_of_getElem? (i := 15) rfl)) (by decide) rfl (own_sn4_3 l Z a0 hw a av (0 : Int32) (3 : Int32) cs ka c0 c1 c2 h0 n0 X.sz OL z_cs hcs Es_a Fc_a Fv_a (by omega) Aa (by show @Ne Nat _ _; omega) ok0 ok1 ok2 rfl rfl) (fun _ _ q => q.1.1) rfl own_pd8 rfl rfl rfl (by decide) (Nat.le_of_ble_eq_true rfl) (by decide) (by decide) ?_
  rintro v6 T h2 X ⟨K_, rfl, b1, kb_b1, lo_b1, hi_b1, A_b1, Fc_a, Fv_a⟩
  have zs_h2 : h0.size ≤ h2.size := K_.1
  have OL := OL.keep K_ (allS (by omega) all0)
  have K0 := K0.trans K_ (allS (Or.inl (by simp)) all0)
  have Es_a := Es_a.keep K_
  have Aa := Aa.keep K_ (ninS (by show @Ne Nat _ _; omega) nin0)
  show own_Ends p e below _ (T.setTop (mkF m 9 #[.val (.ref a), .val (.ref av)] []))
  exact own_retV X own_d2_9 rfl (by decide) (by decide) (⟨K0, rfl, b1, kb_b1, by omega, A_b1.lt, A_b1, Fc_a, Fv_a⟩)
set_option maxRecDepth 65536 in
set_option maxHeartbeats 40000000 in
theorem own_cmp5_4 (l : Launch) (Z : State) (a0 : Array Value) (hw : ∀ d ∈ tables_1, d.before a0 Z = true) (av : Addr) (si : Int32) (bv : Addr) (di : Int32) (ln : Int32) (ka : ClassId) (kb : ClassId) (c0 : Int32) (c1 : Int32) (c2 : Int32) (c3 : Int32) (h0 : Heap) (n0 : Nat) (hs0 : n0 ≤ h0.size) (Aa : own_A Z h0 av ka .char [(.int c0), (.int c1), (.int c2), (.int c3)]) (Ab : own_A Z h0 bv kb .byte [(.int (0 : Int32)), (.int (0 : Int32)), (.int (0 : Int32)), (.int (0 : Int32))]) (gb : n0 ≤ bv) (nab : @Ne Nat av bv) (ok0 : own_ok c0) (ok1 : own_ok c1) (ok2 : own_ok c2) (ok3 : own_ok c3) (hsi : si = 0) (hdi : di = 0) (hln : ln = 4) :
    own_Met l (⟨"java/lang/StringUTF16", "compress", "([CI[BII)I"⟩ : MethodName) jdk_52_method_21_code 7 (some .int) ({ frames := 0, cells := 0, slots := 0, locals := 0 } : Room) Z #[(.ref av), (.int si), (.ref bv), (.int di), (.int ln)] h0 n0 (fun v h' => Keep h0 h' [bv] ∧ v = some (.int 4) ∧ own_A Z h' bv kb .byte [(.int (own_b c0)), (.int (own_b c1)), (.int (own_b c2)), (.int (own_b c3))]) := by
  refine own_met (Ls := #[.val (.ref av), .val (.int si), .val (.ref bv), .val (.int di), .val (.int ln), .unset, .unset]) own_pn6 hs0 (fun m => by first  | (simp [entryFrame, mkF, argsToLocals, Value.category]; done) | rfl) ?_
  intro p e s m below meth c T X
  have K0 := Keep.refl h0 [bv]
  have hi_av : h0.size > av := Aa.lt
  have hi_bv : h0.size > bv := Ab.lt
  subst hsi
  subst hdi
  subst hln
  refine own_iconst X 1 (0 : Int32) own_d6_0 rfl rfl ?_
  refine own_istore X 3 #[.val (.ref av), .val (.int (0 : Int32)), .val (.ref bv), .val (.int (0 : Int32)), .val (.int (4 : Int32)), .val (.int (0 : Int32)), .unset] own_d6_1 rfl rfl ?_
  refine own_iload X 5 (0 : Int32) own_d6_3 rfl rfl ?_
  refine own_iload X 7 (4 : Int32) own_d6_5 rfl rfl ?_
  refine own_icN X 10 own_d6_7 rfl (XT.ii_ge_f (by decide)) ?_
  refine own_aloadN X 11 (.ref av) own_d6_10 rfl rfl rfl ?_
  refine own_iloadN X 12 (0 : Int32) own_d6_11 rfl rfl ?_
  refine own_caload X 13 0 (.int c0) own_d6_12 rfl Aa (by decide) (by decide) rfl ?_
  refine own_istore X 15 #[.val (.ref av), .val (.int (0 : Int32)), .val (.ref bv), .val (.int (0 : Int32)), .val (.int (4 : Int32)), .val (.int (0 : Int32)), .val (.int c0)] own_d6_13 rfl rfl ?_
  refine own_iload X 17 c0 own_d6_15 rfl rfl ?_
  refine own_sipush X 20 (255 : Int32) own_d6_17 rfl (by decide) ?_
  refine own_icY X 26 own_d6_20 (by decide) (by decide) (XT.ii_le_t (own_le255 ok0)) ?_
  refine own_aloadN X 27 (.ref bv) own_d6_26 rfl rfl rfl ?_
  refine own_iloadN X 28 (0 : Int32) own_d6_27 rfl rfl ?_
  refine own_iload X 30 c0 own_d6_28 rfl rfl ?_
  refine own_i2b X 31 own_d6_30 rfl ?_
  refine own_bastore X 32 0 own_d6_31 rfl Ab (by decide) (by decide) (Nat.le_of_ble_eq_true rfl) (by omega) ?_
  intro T h1 X W_h1
  rw [show nar .byte c0.toInt8.toInt32 = own_b c0 from rfl] at W_h1
  have nw_h1 : own_A Z h1 bv kb .byte [(.int (own_b c0)), (.int (0 : Int32)), (.int (0 : Int32)), (.int (0 : Int32))] := Ab.same W_h1 (fits_nar_byte _)
  have zs_h1 : h0.size ≤ h1.size := (Nat.le_of_eq W_h1.size.symm)
  have Aa := Aa.other W_h1 (by show @Ne Nat _ _; omega)
  have K0 := K0.wr W_h1 (Or.inl (by simp))
  have Ab := nw_h1
  refine own_iinc X 35 (1 : Int32) #[.val (.ref av), .val (.int ((0 : Int32) + (1 : Int32))), .val (.ref bv), .val (.int (0 : Int32)), .val (.int (4 : Int32)), .val (.int (0 : Int32)), .val (.int c0)] own_d6_32 rfl rfl rfl rfl ?_
  refine own_iinc X 38 (1 : Int32) #[.val (.ref av), .val (.int ((0 : Int32) + (1 : Int32))), .val (.ref bv), .val (.int ((0 : Int32) + (1 : Int32))), .val (.int (4 : Int32)), .val (.int (0 : Int32)), .val (.int c0)] own_d6_35 rfl rfl rfl rfl ?_
  refine own_iinc X 41 (1 : Int32) #[.val (.ref av), .val (.int ((0 : Int32) + (1 : Int32))), .val (.ref bv), .val (.int ((0 : Int32) + (1 : Int32))), .val (.int (4 : Int32)), .val (.int ((0 : Int32) + (1 : Int32))), .val (.int c0)] own_d6_38 rfl rfl rfl rfl ?_
  rw [show (0 : Int32) + (1 : Int32) = (1 : Int32) from by decide]
  refine own_goto X 3 own_d6_41 (by decide) (by decide) ?_
  refine own_iload X 5 (1 : Int32) own_d6_3 rfl rfl ?_
  refine own_iload X 7 (4 : Int32) own_d6_5 rfl rfl ?_
  refine own_icN X 10 own_d6_7 rfl (XT.ii_ge_f (by decide)) ?_
  refine own_aloadN X 11 (.ref av) own_d6_10 rfl rfl rfl ?_
  refine own_iloadN X 12 (1 : Int32) own_d6_11 rfl rfl ?_
  refine own_caload X 13 1 (.int c1) own_d6_12 rfl Aa (by decide) (by decide) rfl ?_
  refine own_istore X 15 #[.val (.ref av), .val (.int (1 : Int32)), .val (.ref bv), .val (.int (1 : Int32)), .val (.int (4 : Int32)), .val (.int (1 : Int32)), .val (.int c1)] own_d6_13 rfl rfl ?_
  refine own_iload X 17 c1 own_d6_15 rfl rfl ?_
  refine own_sipush X 20 (255 : Int32) own_d6_17 rfl (by decide) ?_
  refine own_icY X 26 own_d6_20 (by decide) (by decide) (XT.ii_le_t (own_le255 ok1)) ?_
  refine own_aloadN X 27 (.ref bv) own_d6_26 rfl rfl rfl ?_
  refine own_iloadN X 28 (1 : Int32) own_d6_27 rfl rfl ?_
  refine own_iload X 30 c1 own_d6_28 rfl rfl ?_
  refine own_i2b X 31 own_d6_30 rfl ?_
  refine own_bastore X 32 1 own_d6_31 rfl Ab (by decide) (by decide) (Nat.le_of_ble_eq_true rfl) (by omega) ?_
  intro T h2 X W_h2
  rw [show nar .byte c1.toInt8.toInt32 = own_b c1 from rfl] at W_h2
  have nw_h2 : own_A Z h2 bv kb .byte [(.int (own_b c0)), (.int (own_b c1)), (.int (0 : Int32)), (.int (0 : Int32))] := Ab.same W_h2 (fits_nar_byte _)
  have zs_h2 : h1.size ≤ h2.size := (Nat.le_of_eq W_h2.size.symm)
  have Aa := Aa.other W_h2 (by show @Ne Nat _ _; omega)
  have K0 := K0.wr W_h2 (Or.inl (by simp))
  have Ab := nw_h2
  refine own_iinc X 35 (1 : Int32) #[.val (.ref av), .val (.int ((1 : Int32) + (1 : Int32))), .val (.ref bv), .val (.int (1 : Int32)), .val (.int (4 : Int32)), .val (.int (1 : Int32)), .val (.int c1)] own_d6_32 rfl rfl rfl rfl ?_
  refine own_iinc X 38 (1 : Int32) #[.val (.ref av), .val (.int ((1 : Int32) + (1 : Int32))), .val (.ref bv), .val (.int ((1 : Int32) + (1 : Int32))), .val (.int (4 : Int32)), .val (.int (1 : Int32)), .val (.int c1)] own_d6_35 rfl rfl rfl rfl ?_
  refine own_iinc X 41 (1 : Int32) #[.val (.ref av), .val (.int ((1 : Int32) + (1 : Int32))), .val (.ref bv), .val (.int ((1 : Int32) + (1 : Int32))), .val (.int (4 : Int32)), .val (.int ((1 : Int32) + (1 : Int32))), .val (.int c1)] own_d6_38 rfl rfl rfl rfl ?_
  rw [show (1 : Int32) + (1 : Int32) = (2 : Int32) from by decide]
  refine own_goto X 3 own_d6_41 (by decide) (by decide) ?_
  refine own_iload X 5 (2 : Int32) own_d6_3 rfl rfl ?_
  refine own_iload X 7 (4 : Int32) own_d6_5 rfl rfl ?_
  refine own_icN X 10 own_d6_7 rfl (XT.ii_ge_f (by decide)) ?_
  refine own_aloadN X 11 (.ref av) own_d6_10 rfl rfl rfl ?_
  refine own_iloadN X 12 (2 : Int32) own_d6_11 rfl rfl ?_
  refine own_caload X 13 2 (.int c2) own_d6_12 rfl Aa (by decide) (by decide) rfl ?_
  refine own_istore X 15 #[.val (.ref av), .val (.int (2 : Int32)), .val (.ref bv), .val (.int (2 : Int32)), .val (.int (4 : Int32)), .val (.int (2 : Int32)), .val (.int c2)] own_d6_13 rfl rfl ?_
  refine own_iload X 17 c2 own_d6_15 rfl rfl ?_
  refine own_sipush X 20 (255 : Int32) own_d6_17 rfl (by decide) ?_
  refine own_icY X 26 own_d6_20 (by decide) (by decide) (XT.ii_le_t (own_le255 ok2)) ?_
  refine own_aloadN X 27 (.ref bv) own_d6_26 rfl rfl rfl ?_
  refine own_iloadN X 28 (2 : Int32) own_d6_27 rfl rfl ?_
  refine own_iload X 30 c2 own_d6_28 rfl rfl ?_
  refine own_i2b X 31 own_d6_30 rfl ?_
  refine own_bastore X 32 2 own_d6_31 rfl Ab (by decide) (by decide) (Nat.le_of_ble_eq_true rfl) (by omega) ?_
  intro T h3 X W_h3
  rw [show nar .byte c2.toInt8.toInt32 = own_b c2 from rfl] at W_h3
  have nw_h3 : own_A Z h3 bv kb .byte [(.int (own_b c0)), (.int (own_b c1)), (.int (own_b c2)), (.int (0 : Int32))] := Ab.same W_h3 (fits_nar_byte _)
  have zs_h3 : h2.size ≤ h3.size := (Nat.le_of_eq W_h3.size.symm)
  have Aa := Aa.other W_h3 (by show @Ne Nat _ _; omega)
  have K0 := K0.wr W_h3 (Or.inl (by simp))
  have Ab := nw_h3
  refine own_iinc X 35 (1 : Int32) #[.val (.ref av), .val (.int ((2 : Int32) + (1 : Int32))), .val (.ref bv), .val (.int (2 : Int32)), .val (.int (4 : Int32)), .val (.int (2 : Int32)), .val (.int c2)] own_d6_32 rfl rfl rfl rfl ?_
  refine own_iinc X 38 (1 : Int32) #[.val (.ref av), .val (.int ((2 : Int32) + (1 : Int32))), .val (.ref bv), .val (.int ((2 : Int32) + (1 : Int32))), .val (.int (4 : Int32)), .val (.int (2 : Int32)), .val (.int c2)] own_d6_35 rfl rfl rfl rfl ?_
  refine own_iinc X 41 (1 : Int32) #[.val (.ref av), .val (.int ((2 : Int32) + (1 : Int32))), .val (.ref bv), .val (.int ((2 : Int32) + (1 : Int32))), .val (.int (4 : Int32)), .val (.int ((2 : Int32) + (1 : Int32))), .val (.int c2)] own_d6_38 rfl rfl rfl rfl ?_
  rw [show (2 : Int32) + (1 : Int32) = (3 : Int32) from by decide]
  refine own_goto X 3 own_d6_41 (by decide) (by decide) ?_
  refine own_iload X 5 (3 : Int32) own_d6_3 rfl rfl ?_
  refine own_iload X 7 (4 : Int32) own_d6_5 rfl rfl ?_
  refine own_icN X 10 own_d6_7 rfl (XT.ii_ge_f (by decide)) ?_
  refine own_aloadN X 11 (.ref av) own_d6_10 rfl rfl rfl ?_
  refine own_iloadN X 12 (3 : Int32) own_d6_11 rfl rfl ?_
  refine own_caload X 13 3 (.int c3) own_d6_12 rfl Aa (by decide) (by decide) rfl ?_
  refine own_istore X 15 #[.val (.ref av), .val (.int (3 : Int32)), .val (.ref bv), .val (.int (3 : Int32)), .val (.int (4 : Int32)), .val (.int (3 : Int32)), .val (.int c3)] own_d6_13 rfl rfl ?_
  refine own_iload X 17 c3 own_d6_15 rfl rfl ?_
  refine own_sipush X 20 (255 : Int32) own_d6_17 rfl (by decide) ?_
  refine own_icY X 26 own_d6_20 (by decide) (by decide) (XT.ii_le_t (own_le255 ok3)) ?_
  refine own_aloadN X 27 (.ref bv) own_d6_26 rfl rfl rfl ?_
  refine own_iloadN X 28 (3 : Int32) own_d6_27 rfl rfl ?_
  refine own_iload X 30 c3 own_d6_28 rfl rfl ?_
  refine own_i2b X 31 own_d6_30 rfl ?_
  refine own_bastore X 32 3 own_d6_31 rfl Ab (by decide) (by decide) (Nat.le_of_ble_eq_true rfl) (by omega) ?_
  intro T h4 X W_h4
  rw [show nar .byte c3.toInt8.toInt32 = own_b c3 from rfl] at W_h4
  have nw_h4 : own_A Z h4 bv kb .byte [(.int (own_b c0)), (.int (own_b c1)), (.int (own_b c2)), (.int (own_b c3))] := Ab.same W_h4 (fits_nar_byte _)
  have zs_h4 : h3.size ≤ h4.size := (Nat.le_of_eq W_h4.size.symm)
  have Aa := Aa.other W_h4 (by show @Ne Nat _ _; omega)
  have K0 := K0.wr W_h4 (Or.inl (by simp))
  have Ab := nw_h4
  refine own_iinc X 35 (1 : Int32) #[.val (.ref av), .val (.int ((3 : Int32) + (1 : Int32))), .val (.ref bv), .val (.int (3 : Int32)), .val (.int (4 : Int32)), .val (.int (3 : Int32)), .val (.int c3)] own_d6_32 rfl rfl rfl rfl ?_
  refine own_iinc X 38 (1 : Int32) #[.val (.ref av), .val (.int ((3 : Int32) + (1 : Int32))), .val (.ref bv), .val (.int ((3 : Int32) + (1 : Int32))), .val (.int (4 : Int32)), .val (.int (3 : Int32)), .val (.int c3)] own_d6_35 rfl rfl rfl rfl ?_
  refine own_iinc X 41 (1 : Int32) #[.val (.ref av), .val (.int ((3 : Int32) + (1 : Int32))), .val (.ref bv), .val (.int ((3 : Int32) + (1 : Int32))), .val (.int (4 : Int32)), .val (.int ((3 : Int32) + (1 : Int32))), .val (.int c3)] own_d6_38 rfl rfl rfl rfl ?_
  rw [show (3 : Int32) + (1 : Int32) = (4 : Int32) from by decide]
  refine own_goto X 3 own_d6_41 (by decide) (by decide) ?_
  refine own_iload X 5 (4 : Int32) own_d6_3 rfl rfl ?_
  refine own_iload X 7 (4 : Int32) own_d6_5 rfl rfl ?_
  refine own_icY X 44 own_d6_7 (by decide) (by decide) (XT.ii_ge_t (by decide)) ?_
  refine own_iload X 46 (4 : Int32) own_d6_44 rfl rfl ?_
  exact own_retI X own_d6_46 rfl (by decide) (by decide) (⟨K0, rfl, Ab⟩)
set_option maxRecDepth 65536 in
set_option maxHeartbeats 40000000 in
theorem own_cmp3_4 (l : Launch) (Z : State) (a0 : Array Value) (hw : ∀ d ∈ tables_1, d.before a0 Z = true) (av : Addr) (si : Int32) (ln : Int32) (ka : ClassId) (c0 : Int32) (c1 : Int32) (c2 : Int32) (c3 : Int32) (h0 : Heap) (n0 : Nat) (hs0 : n0 ≤ h0.size) (Aa : own_A Z h0 av ka .char [(.int c0), (.int c1), (.int c2), (.int c3)]) (ok0 : own_ok c0) (ok1 : own_ok c1) (ok2 : own_ok c2) (ok3 : own_ok c3) (hsi : si = 0) (hln : ln = 4) :
    own_Met l (⟨"java/lang/StringUTF16", "compress", "([CII)[B"⟩ : MethodName) jdk_52_method_16_code 6 (some (.array .byte)) ({ frames := 1, cells := 1, slots := 4, locals := 18 } : Room) Z #[(.ref av), (.int si), (.int ln)] h0 n0 (fun v h' => Keep h0 h' [] ∧ ∃ b kb, v = some (.ref b) ∧ h0.size ≤ b ∧ h'.size > b ∧ own_A Z h' b kb .byte [(.int (own_b c0)), (.int (own_b c1)), (.int (own_b c2)), (.int (own_b c3))]) := by
  refine own_met (Ls := #[.val (.ref av), .val (.int si), .val (.int ln), .unset, .unset, .unset]) own_pn5 hs0 (fun m => by first  | (simp [entryFrame, mkF, argsToLocals, Value.category]; done) | rfl) ?_
  intro p e s m below meth c T X
  have K0 := Keep.refl h0 []
  have hi_av : h0.size > av := Aa.lt
  subst hsi
  subst hln
  refine own_iloadN X 1 (4 : Int32) own_d5_0 rfl rfl ?_
  refine own_newP X 3 4 4 own_d5_1 rfl (hw _ (List.mem_of_getElem? (i := 24) rfl)) (by decide) (by decide) (by decide) (by decide) (by decide) (by decide) ?_
  intro T h1 b2 kc_b2 g_b2 X E_h1 A_b2
  have zs_h1 : h0.size ≤ h1.size := E_h1.1
  have Aa := Aa.ext E_h1
  have K0 := K0.ext E_h1
  have lo_b2 : h0.size ≤ b2 := Nat.le_of_eq g_b2.symm
  have hi_b2 : h1.size > b2 := A_b2.lt
  have A_b2 : own_A Z h1 b2 kc_b2 .byte [(.int (0 : Int32)), (.int (0 : Int32)), (.int (0 : Int32)), (.int (0 : Int32))] := A_b2
  refine own_astoreN X 4 #[.val (.ref av), .val (.int (0 : Int32)), .val (.int (4 : Int32)), .val (.ref b2), .unset, .unset] own_d5_3 rfl rfl rfl ?_
  refine own_aloadN X 5 (.ref av) own_d5_4 rfl rfl rfl ?_
  refine own_iloadN X 6 (0 : Int32) own_d5_5 rfl rfl ?_
  refine own_aloadN X 7 (.ref b2) own_d5_6 rfl rfl rfl ?_
  refine own_iconst X 8 (0 : Int32) own_d5_7 rfl rfl ?_
  refine own_iloadN X 9 (4 : Int32) own_d5_8 rfl rfl ?_
  refine own_callS X 12 [(.ref av), (.int (0 : Int32)), (.ref b2), (.int (0 : Int32)), (.int (4 : Int32))] [] own_d5_9 rfl (hw _ (List.mem_of_getElem? (i := 25) rfl)) (hw _ (List.mem_of_getElem? (i := 26) rfl)) (hw _ (List.mem_of_getElem? (i := 22) rfl)) (hw _ (List.mem_of_getElem? (i := 27) rfl)) (by decide) (own_cmp5_4 l Z a0 hw av (0 : Int32) b2 (0 : Int32) (4 : Int32) ka kc_b2 c0 c1 c2 c3 h1 n0 X.sz Aa A_b2 (by omega) (by show @Ne Nat _ _; omega) ok0 ok1 ok2 ok3 rfl rfl rfl) (fun _ _ q => q.1.1) rfl own_pd5 rfl rfl rfl (by decide) (Nat.le_of_ble_eq_true rfl) (by decide) (by decide) ?_
  rintro v9 T h3 X ⟨K_, rfl, A2_⟩
  have zs_h3 : h1.size ≤ h3.size := K_.1
  have Aa := Aa.keep K_ (ninS (by show @Ne Nat _ _; omega) nin0)
  have K0 := K0.trans K_ (allS (Or.inr (by omega)) all0)
  have A_b2 := A2_
  show own_Ends p e below _ (T.setTop (mkF m 12 #[.val (.ref av), .val (.int (0 : Int32)), .val (.int (4 : Int32)), .val (.ref b2), .unset, .unset] [(.int (4 : Int32))]))
  refine own_istore X 14 #[.val (.ref av), .val (.int (0 : Int32)), .val (.int (4 : Int32)), .val (.ref b2), .val (.int (4 : Int32)), .unset] own_d5_12 rfl rfl ?_
  refine own_iload X 16 (4 : Int32) own_d5_14 rfl rfl ?_
  refine own_iloadN X 17 (4 : Int32) own_d5_16 rfl rfl ?_
  refine own_icY X 57 own_d5_17 (by decide) (by decide) (XT.ii_eq_t rfl) ?_
  refine own_aloadN X 58 (.ref b2) own_d5_57 rfl rfl rfl ?_
  exact own_retA X (.array .byte) own_d5_58 rfl rfl rfl rfl (by decide) (by decide) (⟨K0, b2, kc_b2, rfl, by omega, A_b2.lt, A_b2⟩)
set_option maxRecDepth 65536 in
set_option maxHeartbeats 40000000 in
theorem own_cdr_4 (l : Launch) (Z : State) (a0 : Array Value) (hw : ∀ d ∈ tables_1, d.before a0 Z = true) (b : Addr) (ln : Int32) (kb : ClassId) (c0 : Int32) (c1 : Int32) (c2 : Int32) (c3 : Int32) (h0 : Heap) (n0 : Nat) (hs0 : n0 ≤ h0.size) (Ab : own_A Z h0 b kb .byte [(.int (own_b c0)), (.int (own_b c1)), (.int (own_b c2)), (.int (own_b c3))]) (hln : ln = 4) :
    own_Met l (⟨"java/lang/StringUTF16", "coderFromArrayLen", "([BI)B"⟩ : MethodName) jdk_52_method_15_code 2 (some .byte) ({ frames := 0, cells := 0, slots := 0, locals := 0 } : Room) Z #[(.ref b), (.int ln)] h0 n0 (fun v h' => h' = h0 ∧ v = some (.int (0 : Int32))) := by
  refine own_met (Ls := #[.val (.ref b), .val (.int ln)]) own_pn7 hs0 (fun m => by first  | (simp [entryFrame, mkF, argsToLocals, Value.category]; done) | rfl) ?_
  intro p e s m below meth c T X
  have hi_b : h0.size > b := Ab.lt
  subst hln
  refine own_iloadN X 1 (4 : Int32) own_d7_0 rfl rfl ?_
  refine own_aloadN X 2 (.ref b) own_d7_1 rfl rfl rfl ?_
  refine own_len X 3 (4 : Int32) own_d7_2 rfl Ab rfl ?_
  refine own_isub X 4 own_d7_3 rfl ?_
  refine own_bipush X 6 (31 : Int32) own_d7_4 rfl (by decide) ?_
  refine own_iushr X 7 own_d7_6 rfl ?_
  refine own_i2b X 8 own_d7_7 rfl ?_
  exact own_retN X .byte own_d7_8 rfl (by simp) (by decide) (by decide) (⟨rfl, by decide⟩)
set_option maxRecDepth 65536 in
set_option maxHeartbeats 40000000 in
theorem own_sn4_4 (l : Launch) (Z : State) (a0 : Array Value) (hw : ∀ d ∈ tables_1, d.before a0 Z = true) (a : Addr) (av : Addr) (of : Int32) (ln : Int32) (cs : Int32) (ka : ClassId) (c0 : Int32) (c1 : Int32) (c2 : Int32) (c3 : Int32) (h0 : Heap) (n0 : Nat) (hs0 : n0 ≤ h0.size) (OL : Old Z n0 h0) (z_cs : Sta Z Z.heap "java/lang/String" "COMPACT_STRINGS" "Z" (.int cs)) (hcs : ¬ cs = 0) (Es_a : Exa Z h0 a "java/lang/String") (Fc_a : Fld Z h0 a "java/lang/String" "coder" "B" (.int 0)) (Fv_a : Fld Z h0 a "java/lang/String" "value" "[B" .null) (ga : n0 ≤ a) (Aa : own_A Z h0 av ka .char [(.int c0), (.int c1), (.int c2), (.int c3)]) (naa : @Ne Nat a av) (ok0 : own_ok c0) (ok1 : own_ok c1) (ok2 : own_ok c2) (ok3 : own_ok c3) (hof : of = 0) (hln : ln = 4) :
    own_Met l (⟨"java/lang/String", "<init>", "([CIILjava/lang/Void;)V"⟩ : MethodName) jdk_42_method_149_code 6 none ({ frames := 2, cells := 1, slots := 4, locals := 35 } : Room) Z #[(.ref a), (.ref av), (.int of), (.int ln), .null] h0 n0 (fun v h' => Keep h0 h' [a] ∧ v = none ∧ ∃ b kb, h0.size ≤ b ∧ h'.size > b ∧ own_A Z h' b kb .byte [(.int (own_b c0)), (.int (own_b c1)), (.int (own_b c2)), (.int (own_b c3))] ∧ Fld Z h' a "java/lang/String" "coder" "B" (.int 0) ∧ Fld Z h' a "java/lang/String" "value" "[B" (.ref b)) := by
  refine own_met (Ls := #[.val (.ref a), .val (.ref av), .val (.int of), .val (.int ln), .val .null, .unset]) own_pn3 hs0 (fun m => by first  | (simp [entryFrame, mkF, argsToLocals, Value.category]; done) | rfl) ?_
  intro p e s m below meth c T X
  have K0 := Keep.refl h0 [a]
  have hi_a : h0.size > a := Es_a.lt
  have hi_av : h0.size > av := Aa.lt
  subst hof
  subst hln
  refine own_aloadN X 1 (.ref a) own_d3_0 rfl rfl rfl ?_
  refine own_initO X 4 own_d3_1 rfl (hw _ (List.mem_of_getElem? (i := 16) rfl)) (hw _ (List.mem_of_getElem? (i := 17) rfl)) (hw _ (List.mem_of_getElem? (i := 18) rfl)) rfl (by decide) (Nat.le_of_ble_eq_true rfl) ?_
  intro T X
  refine own_iloadN X 5 (4 : Int32) own_d3_4 rfl rfl ?_
  refine own_ifY X 27 own_d3_5 (by decide) (by decide) (XT.i0_ne_t (by decide)) ?_
  refine own_getS X 30 own_d3_27 rfl (hw _ (List.mem_of_getElem? (i := 19) rfl)) Via.refl (Sta.ext OL.2 z_cs) ?_
  intro T X
  refine own_ifN X 33 own_d3_30 rfl (XT.i0_eq_f hcs) ?_
  refine own_aloadN X 34 (.ref av) own_d3_33 rfl rfl rfl ?_
  refine own_iloadN X 35 (0 : Int32) own_d3_34 rfl rfl ?_
  refine own_iloadN X 36 (4 : Int32) own_d3_35 rfl rfl ?_
  refine own_callS X 39 [(.ref av), (.int (0 : Int32)), (.int (4 : Int32))] [] own_d3_36 rfl (hw _ (List.mem_of_getElem? (i := 20) rfl)) (hw _ (List.mem_of_getElem? (i := 21) rfl)) (hw _ (List.mem_of_getElem? (i := 22) rfl)) (hw _ (List.mem_of_getElem? (i := 23) rfl)) (by decide) (own_cmp3_4 l Z a0 hw av (0 : Int32) (4 : Int32) ka c0 c1 c2 c3 h0 n0 X.sz Aa ok0 ok1 ok2 ok3 rfl rfl) (fun _ _ q => q.1.1) rfl own_pd6 rfl rfl rfl (by decide) (Nat.le_of_ble_eq_true rfl) (by decide) (by decide) ?_
  rintro v36 T h2 X ⟨K_, b1, kb_b1, rfl, lo_b1, hi_b1, A_b1⟩
  have zs_h2 : h0.size ≤ h2.size := K_.1
  have OL := OL.keep K_ all0
  have K0 := K0.trans K_ all0
  have Es_a := Es_a.keep K_
  have Fc_a := Fc_a.keep K_ nin0
  have Fv_a := Fv_a.keep K_ nin0
  have Aa := Aa.keep K_ nin0
  show own_Ends p e below _ (T.setTop (mkF m 39 #[.val (.ref a), .val (.ref av), .val (.int (0 : Int32)), .val (.int (4 : Int32)), .val .null, .unset] [(.ref b1)]))
  refine own_astore X 41 #[.val (.ref a), .val (.ref av), .val (.int (0 : Int32)), .val (.int (4 : Int32)), .val .null, .val (.ref b1)] own_d3_39 rfl rfl rfl ?_
  refine own_aloadN X 42 (.ref a) own_d3_41 rfl rfl rfl ?_
  refine own_aload X 44 (.ref b1) own_d3_42 rfl rfl rfl ?_
  refine own_iloadN X 45 (4 : Int32) own_d3_44 rfl rfl ?_
  refine own_callS X 48 [(.ref b1), (.int (4 : Int32))] [(.ref a)] own_d3_45 rfl (hw _ (List.mem_of_getElem? (i := 28) rfl)) (hw _ (List.mem_of_getElem? (i := 29) rfl)) (hw _ (List.mem_of_getElem? (i := 22) rfl)) (hw _ (List.mem_of_getElem? (i := 30) rfl)) (by decide) (own_cdr_4 l Z a0 hw b1 (4 : Int32) kb_b1 c0 c1 c2 c3 h2 n0 X.sz A_b1 rfl) (fun _ _ q => Nat.le_of_eq (congrArg Array.size q.1.symm)) rfl own_pd7 rfl rfl rfl (by decide) (Nat.le_of_ble_eq_true rfl) (by decide) (by decide) ?_
  rintro v45 T h_ X ⟨eh_, rfl⟩
  rw [eh_] at X
  show own_Ends p e below _ (T.setTop (mkF m 48 #[.val (.ref a), .val (.ref av), .val (.int (0 : Int32)), .val (.int (4 : Int32)), .val .null, .val (.ref b1)] [(.int (0 : Int32)), (.ref a)]))
  refine own_putFN X 51 .byte (v' := .int (0 : Int32)) own_d3_48 rfl (hw _ (List.mem_of_getElem? (i := 31) rfl)) Via.refl Fc_a Es_a (Or.inr ⟨(hw _ (List.mem_of_getElem? (i := 32) rfl)), rfl, rfl⟩) (hw _ (List.mem_of_getElem? (i := 7) rfl)) (by decide) (by decide) (by decide) (by omega) ?_
  intro T h3 X W_h3
  have nw_h3 := Fld.same W_h3 Fc_a
  have zs_h3 : h2.size ≤ h3.size := (Nat.le_of_eq W_h3.size.symm)
  have OL := OL.wr W_h3 (by omega)
  have K0 := K0.wr W_h3 (Or.inl (by simp))
  have Es_a := Exa.wr W_h3 Es_a
  have Fv_a := Fld.other W_h3 Fv_a (Or.inr (slot_ne (Or.inr (hw _ (List.mem_of_getElem? (i := 34) rfl))) (Or.inr (hw _ (List.mem_of_getElem? (i := 32) rfl))) (by decide) (t := (.array .byte)) (t' := .byte) (by decide) (by decide)))
  have Aa := Aa.other W_h3 (by show @Ne Nat _ _; omega)
  have A_b1 := A_b1.other W_h3 (by show @Ne Nat _ _; omega)
  have Fc_a := nw_h3
  refine own_aloadN X 52 (.ref a) own_d3_51 rfl rfl rfl ?_
  refine own_aload X 54 (.ref b1) own_d3_52 rfl rfl rfl ?_
  refine own_putF X 57 (.array .byte) own_d3_54 rfl (hw _ (List.mem_of_getElem? (i := 33) rfl)) Via.refl Fv_a Es_a (Or.inr ⟨(hw _ (List.mem_of_getElem? (i := 34) rfl)), rfl, rfl⟩) (hw _ (List.mem_of_getElem? (i := 7) rfl)) (by decide) rfl rfl (by omega) ?_
  intro T h4 X W_h4
  have nw_h4 := Fld.same W_h4 Fv_a
  have zs_h4 : h3.size ≤ h4.size := (Nat.le_of_eq W_h4.size.symm)
  have OL := OL.wr W_h4 (by omega)
  have K0 := K0.wr W_h4 (Or.inl (by simp))
  have Es_a := Exa.wr W_h4 Es_a
  have Aa := Aa.other W_h4 (by show @Ne Nat _ _; omega)
  have A_b1 := A_b1.other W_h4 (by show @Ne Nat _ _; omega)
  have Fc_a := Fld.other W_h4 Fc_a (Or.inr (slot_ne (Or.inr (hw _ (List.mem_of_getElem? (i := 32) rfl))) (Or.inr (hw _ (List.mem_of_getElem? (i := 34) rfl))) (by decide) (t := .byte) (t' := (.array .byte)) (by decide) (by decide)))
  have Fv_a := nw_h4
  exact own_retV X own_d3_57 rfl (by decide) (by decide) (⟨K0, rfl, b1, kb_b1, by omega, A_b1.lt, A_b1, Fc_a, Fv_a⟩)
set_option maxRecDepth 65536 in
set_option maxHeartbeats 40000000 in
theorem own_sn_4 (l : Launch) (Z : State) (a0 : Array Value) (hw : ∀ d ∈ tables_1, d.before a0 Z = true) (a : Addr) (av : Addr) (cs : Int32) (ka : ClassId) (c0 : Int32) (c1 : Int32) (c2 : Int32) (c3 : Int32) (h0 : Heap) (n0 : Nat) (hs0 : n0 ≤ h0.size) (OL : Old Z n0 h0) (z_cs : Sta Z Z.heap "java/lang/String" "COMPACT_STRINGS" "Z" (.int cs)) (hcs : ¬ cs = 0) (Es_a : Exa Z h0 a "java/lang/String") (Fc_a : Fld Z h0 a "java/lang/String" "coder" "B" (.int 0)) (Fv_a : Fld Z h0 a "java/lang/String" "value" "[B" .null) (ga : n0 ≤ a) (Aa : own_A Z h0 av ka .char [(.int c0), (.int c1), (.int c2), (.int c3)]) (naa : @Ne Nat a av) (ok0 : own_ok c0) (ok1 : own_ok c1) (ok2 : own_ok c2) (ok3 : own_ok c3) :
    own_Met l (⟨"java/lang/String", "<init>", "([C)V"⟩ : MethodName) jdk_42_method_3_code 2 none ({ frames := 3, cells := 1, slots := 4, locals := 52 } : Room) Z #[(.ref a), (.ref av)] h0 n0 (fun v h' => Keep h0 h' [a] ∧ v = none ∧ ∃ b kb, h0.size ≤ b ∧ h'.size > b ∧ own_A Z h' b kb .byte [(.int (own_b c0)), (.int (own_b c1)), (.int (own_b c2)), (.int (own_b c3))] ∧ Fld Z h' a "java/lang/String" "coder" "B" (.int 0) ∧ Fld Z h' a "java/lang/String" "value" "[B" (.ref b)) := by
  refine own_met (Ls := #[.val (.ref a), .val (.ref av)]) own_pn2 hs0 (fun m => by first  | (simp [entryFrame, mkF, argsToLocals, Value.category]; done) | rfl) ?_
  intro p e s m below meth c T X
  have K0 := Keep.refl h0 [a]
  have hi_a : h0.size > a := Es_a.lt
  have hi_av : h0.size > av := Aa.lt
  refine own_aloadN X 1 (.ref a) own_d2_0 rfl rfl rfl ?_
  refine own_aloadN X 2 (.ref av) own_d2_1 rfl rfl rfl ?_
  refine own_iconst X 3 (0 : Int32) own_d2_2 rfl rfl ?_
  refine own_aloadN X 4 (.ref av) own_d2_3 rfl rfl rfl ?_
  refine own_len X 5 (4 : Int32) own_d2_4 rfl Aa rfl ?_
  refine own_anull X 6 own_d2_5 rfl ?_
  refine own_init X 9 [(.ref av), (.int (0 : Int32)), (.int (4 : Int32)), .null] [] own_d2_6 rfl (hw _ (List.mem_of_getElem? (i := 12) rfl)) (hw _ (List.mem_of_getElem? (i := 13) rfl)) (hw _ (List.mem_of_getElem? (i := 8) rfl)) (hw _ (List.mem_of_getElem? (i := 15) rfl)) (by decide) rfl (own_sn4_4 l Z a0 hw a av (0 : Int32) (4 : Int32) cs ka c0 c1 c2 c3 h0 n0 X.sz OL z_cs hcs Es_a Fc_a Fv_a (by omega) Aa (by show @Ne Nat _ _; omega) ok0 ok1 ok2 ok3 rfl rfl) (fun _ _ q => q.1.1) rfl own_pd8 rfl rfl rfl (by decide) (Nat.le_of_ble_eq_true rfl) (by decide) (by decide) ?_
  rintro v6 T h2 X ⟨K_, rfl, b1, kb_b1, lo_b1, hi_b1, A_b1, Fc_a, Fv_a⟩
  have zs_h2 : h0.size ≤ h2.size := K_.1
  have OL := OL.keep K_ (allS (by omega) all0)
  have K0 := K0.trans K_ (allS (Or.inl (by simp)) all0)
  have Es_a := Es_a.keep K_
  have Aa := Aa.keep K_ (ninS (by show @Ne Nat _ _; omega) nin0)
  show own_Ends p e below _ (T.setTop (mkF m 9 #[.val (.ref a), .val (.ref av)] []))
  exact own_retV X own_d2_9 rfl (by decide) (by decide) (⟨K0, rfl, b1, kb_b1, by omega, A_b1.lt, A_b1, Fc_a, Fv_a⟩)
theorem own_d9_0 : decode jdk_43_method_3_code 0 = .ok (.iload_n 0, 1) := by decide +kernel
theorem own_d9_1 : decode jdk_43_method_3_code 1 = .ok (.sipush 255, 3) := by decide +kernel
theorem own_d9_4 : decode jdk_43_method_3_code 4 = .ok (.if_icmp .gt 7, 3) := by decide +kernel
theorem own_d9_7 : decode jdk_43_method_3_code 7 = .ok (.iconst 1, 1) := by decide +kernel
theorem own_d9_8 : decode jdk_43_method_3_code 8 = .ok (.goto 4, 3) := by decide +kernel
theorem own_d9_12 : decode jdk_43_method_3_code 12 = .ok (.ireturn, 1) := by decide +kernel
theorem own_pn9 : plainFor (⟨"java/lang/StringLatin1", "canEncode", "(C)Z"⟩ : MethodName) = true := plainFor_of_name (by first | (simp [plainName, overriddenIn]; done) | decide +kernel)
set_option maxRecDepth 65536 in
set_option maxHeartbeats 40000000 in
theorem own_ce (l : Launch) (Z : State) (a0 : Array Value) (hw : ∀ d ∈ tables_1, d.before a0 Z = true) (cc : Int32) (h0 : Heap) (n0 : Nat) (hs0 : n0 ≤ h0.size) (h1 : ¬ (255 : Int32) < cc) :
    own_Met l (⟨"java/lang/StringLatin1", "canEncode", "(C)Z"⟩ : MethodName) jdk_43_method_3_code 1 (some .boolean) ({ frames := 0, cells := 0, slots := 0, locals := 0 } : Room) Z #[(.int cc)] h0 n0 (fun v h' => h' = h0 ∧ v = some (.int (1 : Int32))) := by
  refine own_met (Ls := #[.val (.int cc)]) own_pn9 hs0 (fun m => by first  | (simp [entryFrame, mkF, argsToLocals, Value.category]; done) | rfl) ?_
  intro p e s m below meth c T X
  refine own_iloadN X 1 cc own_d9_0 rfl rfl ?_
  refine own_sipush X 4 (255 : Int32) own_d9_1 rfl (by decide) ?_
  refine own_icN X 7 own_d9_4 rfl (XT.ii_gt_f h1) ?_
  refine own_iconst X 8 (1 : Int32) own_d9_7 rfl rfl ?_
  refine own_goto X 12 own_d9_8 (by decide) (by decide) ?_
  exact own_retN X .boolean own_d9_12 rfl (by simp) (by decide) (by decide) (⟨rfl, rfl⟩)
theorem own_d10_0 : decode jdk_43_method_46_code 0 = .ok (.iconst 1, 1) := by decide +kernel
theorem own_d10_1 : decode jdk_43_method_46_code 1 = .ok (.newarray .byte, 2) := by decide +kernel
theorem own_d10_3 : decode jdk_43_method_46_code 3 = .ok (.dup, 1) := by decide +kernel
theorem own_d10_4 : decode jdk_43_method_46_code 4 = .ok (.iconst 0, 1) := by decide +kernel
theorem own_d10_5 : decode jdk_43_method_46_code 5 = .ok (.iload_n 0, 1) := by decide +kernel
theorem own_d10_6 : decode jdk_43_method_46_code 6 = .ok (.i2b, 1) := by decide +kernel
theorem own_d10_7 : decode jdk_43_method_46_code 7 = .ok (.bastore, 1) := by decide +kernel
theorem own_d10_8 : decode jdk_43_method_46_code 8 = .ok (.areturn, 1) := by decide +kernel
theorem own_pn10 : plainFor (⟨"java/lang/StringLatin1", "toBytes", "(C)[B"⟩ : MethodName) = true := plainFor_of_name (by first | (simp [plainName, overriddenIn]; done) | decide +kernel)
set_option maxRecDepth 65536 in
set_option maxHeartbeats 40000000 in
theorem own_tb (l : Launch) (Z : State) (a0 : Array Value) (hw : ∀ d ∈ tables_1, d.before a0 Z = true) (cc : Int32) (h0 : Heap) (n0 : Nat) (hs0 : n0 ≤ h0.size) :
    own_Met l (⟨"java/lang/StringLatin1", "toBytes", "(C)[B"⟩ : MethodName) jdk_43_method_46_code 1 (some (.array .byte)) ({ frames := 0, cells := 1, slots := 1, locals := 0 } : Room) Z #[(.int cc)] h0 n0 (fun v h' => Keep h0 h' [] ∧ ∃ b, v = some (.ref b) ∧ h0.size ≤ b ∧ h'.size > b) := by
  refine own_met (Ls := #[.val (.int cc)]) own_pn10 hs0 (fun m => by first  | (simp [entryFrame, mkF, argsToLocals, Value.category]; done) | rfl) ?_
  intro p e s m below meth c T X
  have K0 := Keep.refl h0 []
  refine own_iconst X 1 (1 : Int32) own_d10_0 rfl rfl ?_
  refine own_newP X 3 1 1 own_d10_1 rfl (hw _ (List.mem_of_getElem? (i := 24) rfl)) (by decide) (by decide) (by decide) (by decide) (by decide) (by decide) ?_
  intro T h1 b2 kc_b2 g_b2 X E_h1 A_b2
  have zs_h1 : h0.size ≤ h1.size := E_h1.1
  have K0 := K0.ext E_h1
  have lo_b2 : h0.size ≤ b2 := Nat.le_of_eq g_b2.symm
  have hi_b2 : h1.size > b2 := A_b2.lt
  have A_b2 : own_A Z h1 b2 kc_b2 .byte [(.int (0 : Int32))] := A_b2
  refine own_dup X 4 own_d10_3 rfl rfl ?_
  refine own_iconst X 5 (0 : Int32) own_d10_4 rfl rfl ?_
  refine own_iloadN X 6 cc own_d10_5 rfl rfl ?_
  refine own_i2b X 7 own_d10_6 rfl ?_
  refine own_bastore X 8 0 own_d10_7 rfl A_b2 (by decide) (by decide) (Nat.le_of_ble_eq_true rfl) (by omega) ?_
  intro T h3 X W_h3
  have nw_h3 : own_A Z h3 b2 kc_b2 .byte [(.int (nar .byte cc.toInt8.toInt32))] := A_b2.same W_h3 (fits_nar_byte _)
  have zs_h3 : h1.size ≤ h3.size := (Nat.le_of_eq W_h3.size.symm)
  have K0 := K0.wr W_h3 (Or.inr (by omega))
  have A_b2 := nw_h3
  exact own_retA X (.array .byte) own_d10_8 rfl rfl rfl rfl (by decide) (by decide) (⟨K0, b2, rfl, by omega, A_b2.lt⟩)
theorem own_d11_0 : decode jdk_42_method_151_code 0 = .ok (.aload_n 0, 1) := by decide +kernel
theorem own_d11_1 : decode jdk_42_method_151_code 1 = .ok (.invokespecial 1, 3) := by decide +kernel
theorem own_d11_4 : decode jdk_42_method_151_code 4 = .ok (.aload_n 0, 1) := by decide +kernel
theorem own_d11_5 : decode jdk_42_method_151_code 5 = .ok (.aload_n 1, 1) := by decide +kernel
theorem own_d11_6 : decode jdk_42_method_151_code 6 = .ok (.putfield 9, 3) := by decide +kernel
theorem own_d11_9 : decode jdk_42_method_151_code 9 = .ok (.aload_n 0, 1) := by decide +kernel
theorem own_d11_10 : decode jdk_42_method_151_code 10 = .ok (.iload_n 2, 1) := by decide +kernel
theorem own_d11_11 : decode jdk_42_method_151_code 11 = .ok (.putfield 15, 3) := by decide +kernel
theorem own_d11_14 : decode jdk_42_method_151_code 14 = .ok (.return_, 1) := by decide +kernel
theorem own_pn11 : plainFor (⟨"java/lang/String", "<init>", "([BB)V"⟩ : MethodName) = true := plainFor_of_name (by first | (simp [plainName, overriddenIn]; done) | decide +kernel)
set_option maxRecDepth 65536 in
set_option maxHeartbeats 40000000 in
theorem own_bb (l : Launch) (Z : State) (a0 : Array Value) (hw : ∀ d ∈ tables_1, d.before a0 Z = true) (a : Addr) (b : Addr) (cd : Int32) (h0 : Heap) (n0 : Nat) (hs0 : n0 ≤ h0.size) (Es_a : Exa Z h0 a "java/lang/String") (Fc_a : Fld Z h0 a "java/lang/String" "coder" "B" (.int 0)) (Fv_a : Fld Z h0 a "java/lang/String" "value" "[B" .null) (ga : n0 ≤ a) :
    own_Met l (⟨"java/lang/String", "<init>", "([BB)V"⟩ : MethodName) jdk_42_method_151_code 3 none ({ frames := 1, cells := 0, slots := 0, locals := 12 } : Room) Z #[(.ref a), (.ref b), (.int cd)] h0 n0 (fun v h' => Keep h0 h' [a] ∧ v = none) := by
  refine own_met (Ls := #[.val (.ref a), .val (.ref b), .val (.int cd)]) own_pn11 hs0 (fun m => by first  | (simp [entryFrame, mkF, argsToLocals, Value.category]; done) | rfl) ?_
  intro p e s m below meth c T X
  have K0 := Keep.refl h0 [a]
  have hi_a : h0.size > a := Es_a.lt
  refine own_aloadN X 1 (.ref a) own_d11_0 rfl rfl rfl ?_
  refine own_initO X 4 own_d11_1 rfl (hw _ (List.mem_of_getElem? (i := 16) rfl)) (hw _ (List.mem_of_getElem? (i := 17) rfl)) (hw _ (List.mem_of_getElem? (i := 18) rfl)) rfl (by decide) (Nat.le_of_ble_eq_true rfl) ?_
  intro T X
  refine own_aloadN X 5 (.ref a) own_d11_4 rfl rfl rfl ?_
  refine own_aloadN X 6 (.ref b) own_d11_5 rfl rfl rfl ?_
  refine own_putF X 9 (.array .byte) own_d11_6 rfl (hw _ (List.mem_of_getElem? (i := 33) rfl)) Via.refl Fv_a Es_a (Or.inr ⟨(hw _ (List.mem_of_getElem? (i := 34) rfl)), rfl, rfl⟩) (hw _ (List.mem_of_getElem? (i := 7) rfl)) (by decide) rfl rfl (by omega) ?_
  intro T h1 X W_h1
  have nw_h1 := Fld.same W_h1 Fv_a
  have zs_h1 : h0.size ≤ h1.size := (Nat.le_of_eq W_h1.size.symm)
  have Es_a := Exa.wr W_h1 Es_a
  have Fc_a := Fld.other W_h1 Fc_a (Or.inr (slot_ne (Or.inr (hw _ (List.mem_of_getElem? (i := 32) rfl))) (Or.inr (hw _ (List.mem_of_getElem? (i := 34) rfl))) (by decide) (t := .byte) (t' := (.array .byte)) (by decide) (by decide)))
  have K0 := K0.wr W_h1 (Or.inl (by simp))
  have Fv_a := nw_h1
  refine own_aloadN X 10 (.ref a) own_d11_9 rfl rfl rfl ?_
  refine own_iloadN X 11 cd own_d11_10 rfl rfl ?_
  refine own_putFN X 14 .byte (v' := .int (nar .byte cd)) own_d11_11 rfl (hw _ (List.mem_of_getElem? (i := 31) rfl)) Via.refl Fc_a Es_a (Or.inr ⟨(hw _ (List.mem_of_getElem? (i := 32) rfl)), rfl, rfl⟩) (hw _ (List.mem_of_getElem? (i := 7) rfl)) (by decide) rfl (fits_nar_byte _) (by omega) ?_
  intro T h2 X W_h2
  have nw_h2 := Fld.same W_h2 Fc_a
  have zs_h2 : h1.size ≤ h2.size := (Nat.le_of_eq W_h2.size.symm)
  have Es_a := Exa.wr W_h2 Es_a
  have K0 := K0.wr W_h2 (Or.inl (by simp))
  have Fv_a := Fld.other W_h2 Fv_a (Or.inr (slot_ne (Or.inr (hw _ (List.mem_of_getElem? (i := 34) rfl))) (Or.inr (hw _ (List.mem_of_getElem? (i := 32) rfl))) (by decide) (t := (.array .byte)) (t' := .byte) (by decide) (by decide)))
  have Fc_a := nw_h2
  exact own_retV X own_d11_14 rfl (by decide) (by decide) (⟨K0, rfl⟩)
theorem own_d8_0 : decode jdk_42_method_139_code 0 = .ok (.getstatic 38, 3) := by decide +kernel
theorem own_d8_3 : decode jdk_42_method_139_code 3 = .ok (.ifCond .eq 23, 3) := by decide +kernel
theorem own_d8_6 : decode jdk_42_method_139_code 6 = .ok (.iload_n 0, 1) := by decide +kernel
theorem own_d8_7 : decode jdk_42_method_139_code 7 = .ok (.invokestatic 1015, 3) := by decide +kernel
theorem own_pd9 : parseMethodDescriptor "(C)Z" = some ⟨[.char], some .boolean⟩ := by decide +kernel
theorem own_d8_10 : decode jdk_42_method_139_code 10 = .ok (.ifCond .eq 16, 3) := by decide +kernel
theorem own_d8_13 : decode jdk_42_method_139_code 13 = .ok (.new 10, 3) := by decide +kernel
theorem own_d8_16 : decode jdk_42_method_139_code 16 = .ok (.dup, 1) := by decide +kernel
theorem own_d8_17 : decode jdk_42_method_139_code 17 = .ok (.iload_n 0, 1) := by decide +kernel
theorem own_d8_18 : decode jdk_42_method_139_code 18 = .ok (.invokestatic 1018, 3) := by decide +kernel
theorem own_pd10 : parseMethodDescriptor "(C)[B" = some ⟨[.char], some (.array .byte)⟩ := by decide +kernel
theorem own_d8_21 : decode jdk_42_method_139_code 21 = .ok (.iconst 0, 1) := by decide +kernel
theorem own_d8_22 : decode jdk_42_method_139_code 22 = .ok (.invokespecial 209, 3) := by decide +kernel
theorem own_pd11 : parseMethodDescriptor "([BB)V" = some ⟨[(.array .byte), .byte], none⟩ := by decide +kernel
theorem own_d8_25 : decode jdk_42_method_139_code 25 = .ok (.areturn, 1) := by decide +kernel
theorem own_pn8 : plainFor (⟨"java/lang/String", "valueOf", "(C)Ljava/lang/String;"⟩ : MethodName) = true := plainFor_of_name (by first | (simp [plainName, overriddenIn]; done) | decide +kernel)
set_option maxRecDepth 65536 in
set_option maxHeartbeats 40000000 in
theorem own_vo (l : Launch) (Z : State) (a0 : Array Value) (hw : ∀ d ∈ tables_1, d.before a0 Z = true) (cc : Int32) (cs : Int32) (h0 : Heap) (n0 : Nat) (hs0 : n0 ≤ h0.size) (OL : Old Z n0 h0) (z_cs : Sta Z Z.heap "java/lang/String" "COMPACT_STRINGS" "Z" (.int cs)) (hcs : ¬ cs = 0) (h1 : ¬ (255 : Int32) < cc) :
    own_Met l (⟨"java/lang/String", "valueOf", "(C)Ljava/lang/String;"⟩ : MethodName) jdk_42_method_139_code 1 (some (.object "java/lang/String")) ({ frames := 2, cells := 2, slots := 5, locals := 27 } : Room) Z #[(.int cc)] h0 n0 (fun v h' => Keep h0 h' [] ∧ ∃ b, v = some (.ref b) ∧ h0.size ≤ b ∧ h'.size > b) := by
  refine own_met (Ls := #[.val (.int cc)]) own_pn8 hs0 (fun m => by first  | (simp [entryFrame, mkF, argsToLocals, Value.category]; done) | rfl) ?_
  intro p e s m below meth c T X
  have K0 := Keep.refl h0 []
  refine own_getS X 3 own_d8_0 rfl (hw _ (List.mem_of_getElem? (i := 19) rfl)) Via.refl (Sta.ext OL.2 z_cs) ?_
  intro T X
  refine own_ifN X 6 own_d8_3 rfl (XT.i0_eq_f hcs) ?_
  refine own_iloadN X 7 cc own_d8_6 rfl rfl ?_
  refine own_callS X 10 [(.int cc)] [] own_d8_7 rfl (hw _ (List.mem_of_getElem? (i := 38) rfl)) (hw _ (List.mem_of_getElem? (i := 39) rfl)) (hw _ (List.mem_of_getElem? (i := 40) rfl)) (hw _ (List.mem_of_getElem? (i := 41) rfl)) (by decide) (own_ce l Z a0 hw cc h0 n0 X.sz h1) (fun _ _ q => Nat.le_of_eq (congrArg Array.size q.1.symm)) rfl own_pd9 rfl rfl rfl (by decide) (Nat.le_of_ble_eq_true rfl) (by decide) (by decide) ?_
  rintro v7 T h_ X ⟨eh_, rfl⟩
  rw [eh_] at X
  show own_Ends p e below _ (T.setTop (mkF m 10 #[.val (.int cc)] [(.int (1 : Int32))]))
  refine own_ifN X 13 own_d8_10 rfl (XT.i0_eq_f (by decide)) ?_
  refine own_new X 16 own_d8_13 rfl (hw _ (List.mem_of_getElem? (i := 42) rfl)) (hw _ (List.mem_of_getElem? (i := 7) rfl)) (hw _ (List.mem_of_getElem? (i := 8) rfl)) (by decide) (by decide) ?_
  intro T h1 b2 g_b2 X E_h1 A_b2 D_b2
  have zs_h1 : h0.size ≤ h1.size := E_h1.1
  have OL := OL.ext E_h1
  have K0 := K0.ext E_h1
  have lo_b2 : h0.size ≤ b2 := Nat.le_of_eq g_b2.symm
  have hi_b2 : h1.size > b2 := A_b2.lt
  have F_coder_b2 : Fld Z h1 b2 "java/lang/String" "coder" "B" (.int (0 : Int32)) := D_b2 (Or.inr (hw _ (List.mem_of_getElem? (i := 32) rfl))) (ty := .byte) (by decide)
  have F_value_b2 : Fld Z h1 b2 "java/lang/String" "value" "[B" .null := D_b2 (Or.inr (hw _ (List.mem_of_getElem? (i := 34) rfl))) (ty := (.array .byte)) (by decide)
  refine own_dup X 17 own_d8_16 rfl rfl ?_
  refine own_iloadN X 18 cc own_d8_17 rfl rfl ?_
  refine own_callS X 21 [(.int cc)] [(.ref b2), (.ref b2)] own_d8_18 rfl (hw _ (List.mem_of_getElem? (i := 43) rfl)) (hw _ (List.mem_of_getElem? (i := 44) rfl)) (hw _ (List.mem_of_getElem? (i := 40) rfl)) (hw _ (List.mem_of_getElem? (i := 45) rfl)) (by decide) (own_tb l Z a0 hw cc h1 n0 X.sz) (fun _ _ q => q.1.1) rfl own_pd10 rfl rfl rfl (by decide) (Nat.le_of_ble_eq_true rfl) (by decide) (by decide) ?_
  rintro v18 T h4 X ⟨K_, b3, rfl, lo_b3, hi_b3⟩
  have zs_h4 : h1.size ≤ h4.size := K_.1
  have OL := OL.keep K_ all0
  have K0 := K0.trans K_ all0
  have A_b2 := A_b2.keep K_
  have F_coder_b2 := F_coder_b2.keep K_ nin0
  have F_value_b2 := F_value_b2.keep K_ nin0
  show own_Ends p e below _ (T.setTop (mkF m 21 #[.val (.int cc)] [(.ref b3), (.ref b2), (.ref b2)]))
  refine own_iconst X 22 (0 : Int32) own_d8_21 rfl rfl ?_
  refine own_init X 25 [(.ref b3), (.int (0 : Int32))] [(.ref b2)] own_d8_22 rfl (hw _ (List.mem_of_getElem? (i := 46) rfl)) (hw _ (List.mem_of_getElem? (i := 47) rfl)) (hw _ (List.mem_of_getElem? (i := 8) rfl)) (hw _ (List.mem_of_getElem? (i := 48) rfl)) (by decide) rfl (own_bb l Z a0 hw b2 b3 (0 : Int32) h4 n0 X.sz A_b2 F_coder_b2 F_value_b2 (by omega)) (fun _ _ q => q.1.1) rfl own_pd11 rfl rfl rfl (by decide) (Nat.le_of_ble_eq_true rfl) (by decide) (by decide) ?_
  rintro v22 T h5 X ⟨K_, rfl⟩
  have zs_h5 : h4.size ≤ h5.size := K_.1
  have OL := OL.keep K_ (allS (by omega) all0)
  have K0 := K0.trans K_ (allS (Or.inr (by omega)) all0)
  have A_b2 := A_b2.keep K_
  show own_Ends p e below _ (T.setTop (mkF m 25 #[.val (.int cc)] [(.ref b2)]))
  exact own_retA X (.object "java/lang/String") own_d8_25 rfl rfl rfl rfl (by decide) (by decide) (⟨K0, b2, rfl, by omega, A_b2.lt⟩)
theorem own_d13_35 : decode prog_8_method_3_code 35 = .ok (.iload_n 2, 1) := by decide +kernel
theorem own_d13_36 : decode prog_8_method_3_code 36 = .ok (.bipush 65, 2) := by decide +kernel
theorem own_d13_38 : decode prog_8_method_3_code 38 = .ok (.if_icmp .lt 9, 3) := by decide +kernel
theorem own_d13_47 : decode prog_8_method_3_code 47 = .ok (.iload_n 2, 1) := by decide +kernel
theorem own_d13_48 : decode prog_8_method_3_code 48 = .ok (.bipush 97, 2) := by decide +kernel
theorem own_d13_50 : decode prog_8_method_3_code 50 = .ok (.if_icmp .lt 9, 3) := by decide +kernel
theorem own_d13_59 : decode prog_8_method_3_code 59 = .ok (.iload_n 2, 1) := by decide +kernel
theorem own_d13_60 : decode prog_8_method_3_code 60 = .ok (.bipush 48, 2) := by decide +kernel
theorem own_d13_62 : decode prog_8_method_3_code 62 = .ok (.if_icmp .lt 13, 3) := by decide +kernel
theorem own_d13_75 : decode prog_8_method_3_code 75 = .ok (.iconst 0, 1) := by decide +kernel
theorem own_d13_76 : decode prog_8_method_3_code 76 = .ok (.istore_n 3, 1) := by decide +kernel
theorem own_d13_77 : decode prog_8_method_3_code 77 = .ok (.iload_n 3, 1) := by decide +kernel
theorem own_d13_78 : decode prog_8_method_3_code 78 = .ok (.ifCond .ne 23, 3) := by decide +kernel
theorem own_d13_81 : decode prog_8_method_3_code 81 = .ok (.iload_n 2, 1) := by decide +kernel
theorem own_d13_82 : decode prog_8_method_3_code 82 = .ok (.bipush 46, 2) := by decide +kernel
theorem own_d13_84 : decode prog_8_method_3_code 84 = .ok (.if_icmp .eq 17, 3) := by decide +kernel
theorem own_d13_87 : decode prog_8_method_3_code 87 = .ok (.iload_n 2, 1) := by decide +kernel
theorem own_d13_88 : decode prog_8_method_3_code 88 = .ok (.bipush 95, 2) := by decide +kernel
theorem own_d13_90 : decode prog_8_method_3_code 90 = .ok (.if_icmp .eq 11, 3) := by decide +kernel
theorem own_d13_93 : decode prog_8_method_3_code 93 = .ok (.iload_n 2, 1) := by decide +kernel
theorem own_d13_94 : decode prog_8_method_3_code 94 = .ok (.bipush 45, 2) := by decide +kernel
theorem own_d13_96 : decode prog_8_method_3_code 96 = .ok (.if_icmp .eq 5, 3) := by decide +kernel
theorem own_d13_65 : decode prog_8_method_3_code 65 = .ok (.iload_n 2, 1) := by decide +kernel
theorem own_d13_66 : decode prog_8_method_3_code 66 = .ok (.bipush 57, 2) := by decide +kernel
theorem own_d13_68 : decode prog_8_method_3_code 68 = .ok (.if_icmp .gt 7, 3) := by decide +kernel
theorem own_d13_71 : decode prog_8_method_3_code 71 = .ok (.iconst 1, 1) := by decide +kernel
theorem own_d13_72 : decode prog_8_method_3_code 72 = .ok (.goto 4, 3) := by decide +kernel
theorem own_d13_53 : decode prog_8_method_3_code 53 = .ok (.iload_n 2, 1) := by decide +kernel
theorem own_d13_54 : decode prog_8_method_3_code 54 = .ok (.bipush 122, 2) := by decide +kernel
theorem own_d13_56 : decode prog_8_method_3_code 56 = .ok (.if_icmp .le 15, 3) := by decide +kernel
theorem own_d13_41 : decode prog_8_method_3_code 41 = .ok (.iload_n 2, 1) := by decide +kernel
theorem own_d13_42 : decode prog_8_method_3_code 42 = .ok (.bipush 90, 2) := by decide +kernel
theorem own_d13_44 : decode prog_8_method_3_code 44 = .ok (.if_icmp .le 27, 3) := by decide +kernel
set_option maxRecDepth 65536 in
set_option maxHeartbeats 40000000 in
theorem own_turnU {p : Program} {l : Launch} {e : Env} {R : Room} {s : State} {m : MethodId} {args : Array Value} {below : List Frame} {meth : Method} {cd : Code} {Z T : State} {n0 k n : Nat} {h : Heap} {G : State → Outcome → Prop} {a : Addr} {i c : Int32} (X : own_W p l e R s m args below meth cd Z n0 (⟨"com/example/modgud/modgud/core/Names", "isName", "(Ljava/lang/String;)Z"⟩ : MethodName) prog_8_method_3_code 4 (some .boolean) T h k n) (hok : own_ok c)
    (K : ∀ z : Int32, own_Ends p e below G (T.setTop (mkF m 101 #[.val (.ref a), .val (.int i), .val (.int c), .val (.int z)] []))) : own_Ends p e below G (T.setTop (mkF m 35 #[.val (.ref a), .val (.int i), .val (.int c), .unset] [])) := by
  refine own_iloadN X 36 c own_d13_35 rfl rfl ?_
  refine own_bipush X 38 (65 : Int32) own_d13_36 rfl (by decide) ?_
  by_cases hc38 : c < (65 : Int32)
  · refine own_icY X 47 own_d13_38 (by decide) (by decide) (XT.ii_lt_t hc38) ?_
    refine own_iloadN X 48 c own_d13_47 rfl rfl ?_
    refine own_bipush X 50 (97 : Int32) own_d13_48 rfl (by decide) ?_
    by_cases hc50 : c < (97 : Int32)
    · refine own_icY X 59 own_d13_50 (by decide) (by decide) (XT.ii_lt_t hc50) ?_
      refine own_iloadN X 60 c own_d13_59 rfl rfl ?_
      refine own_bipush X 62 (48 : Int32) own_d13_60 rfl (by decide) ?_
      by_cases hc62 : c < (48 : Int32)
      · refine own_icY X 75 own_d13_62 (by decide) (by decide) (XT.ii_lt_t hc62) ?_
        refine own_iconst X 76 (0 : Int32) own_d13_75 rfl rfl ?_
        refine own_istoreN X 77 #[.val (.ref a), .val (.int i), .val (.int c), .val (.int (0 : Int32))] own_d13_76 rfl rfl ?_
        refine own_iloadN X 78 (0 : Int32) own_d13_77 rfl rfl ?_
        refine own_ifN X 81 own_d13_78 rfl (XT.i0_ne_f (by decide)) ?_
        refine own_iloadN X 82 c own_d13_81 rfl rfl ?_
        refine own_bipush X 84 (46 : Int32) own_d13_82 rfl (by decide) ?_
        by_cases hc84 : c = (46 : Int32)
        · refine own_icY X 101 own_d13_84 (by decide) (by decide) (XT.ii_eq_t hc84) ?_
          exact K _
        · refine own_icN X 87 own_d13_84 rfl (XT.ii_eq_f hc84) ?_
          refine own_iloadN X 88 c own_d13_87 rfl rfl ?_
          refine own_bipush X 90 (95 : Int32) own_d13_88 rfl (by decide) ?_
          by_cases hc90 : c = (95 : Int32)
          · refine own_icY X 101 own_d13_90 (by decide) (by decide) (XT.ii_eq_t hc90) ?_
            exact K _
          · refine own_icN X 93 own_d13_90 rfl (XT.ii_eq_f hc90) ?_
            refine own_iloadN X 94 c own_d13_93 rfl rfl ?_
            refine own_bipush X 96 (45 : Int32) own_d13_94 rfl (by decide) ?_
            by_cases hc96 : c = (45 : Int32)
            · refine own_icY X 101 own_d13_96 (by decide) (by decide) (XT.ii_eq_t hc96) ?_
              exact K _
            · refine own_icN X 99 own_d13_96 rfl (XT.ii_eq_f hc96) ?_
              exact absurd (own_no hok (Or.inl hc38) (Or.inl hc50) (Or.inl hc62) hc84 hc90 hc96) id
      · refine own_icN X 65 own_d13_62 rfl (XT.ii_lt_f hc62) ?_
        refine own_iloadN X 66 c own_d13_65 rfl rfl ?_
        refine own_bipush X 68 (57 : Int32) own_d13_66 rfl (by decide) ?_
        by_cases hc68 : (57 : Int32) < c
        · refine own_icY X 75 own_d13_68 (by decide) (by decide) (XT.ii_gt_t hc68) ?_
          refine own_iconst X 76 (0 : Int32) own_d13_75 rfl rfl ?_
          refine own_istoreN X 77 #[.val (.ref a), .val (.int i), .val (.int c), .val (.int (0 : Int32))] own_d13_76 rfl rfl ?_
          refine own_iloadN X 78 (0 : Int32) own_d13_77 rfl rfl ?_
          refine own_ifN X 81 own_d13_78 rfl (XT.i0_ne_f (by decide)) ?_
          refine own_iloadN X 82 c own_d13_81 rfl rfl ?_
          refine own_bipush X 84 (46 : Int32) own_d13_82 rfl (by decide) ?_
          by_cases hc84 : c = (46 : Int32)
          · refine own_icY X 101 own_d13_84 (by decide) (by decide) (XT.ii_eq_t hc84) ?_
            exact K _
          · refine own_icN X 87 own_d13_84 rfl (XT.ii_eq_f hc84) ?_
            refine own_iloadN X 88 c own_d13_87 rfl rfl ?_
            refine own_bipush X 90 (95 : Int32) own_d13_88 rfl (by decide) ?_
            by_cases hc90 : c = (95 : Int32)
            · refine own_icY X 101 own_d13_90 (by decide) (by decide) (XT.ii_eq_t hc90) ?_
              exact K _
            · refine own_icN X 93 own_d13_90 rfl (XT.ii_eq_f hc90) ?_
              refine own_iloadN X 94 c own_d13_93 rfl rfl ?_
              refine own_bipush X 96 (45 : Int32) own_d13_94 rfl (by decide) ?_
              by_cases hc96 : c = (45 : Int32)
              · refine own_icY X 101 own_d13_96 (by decide) (by decide) (XT.ii_eq_t hc96) ?_
                exact K _
              · refine own_icN X 99 own_d13_96 rfl (XT.ii_eq_f hc96) ?_
                exact absurd (own_no hok (Or.inl hc38) (Or.inl hc50) (Or.inr hc68) hc84 hc90 hc96) id
        · refine own_icN X 71 own_d13_68 rfl (XT.ii_gt_f hc68) ?_
          refine own_iconst X 72 (1 : Int32) own_d13_71 rfl rfl ?_
          refine own_goto X 76 own_d13_72 (by decide) (by decide) ?_
          refine own_istoreN X 77 #[.val (.ref a), .val (.int i), .val (.int c), .val (.int (1 : Int32))] own_d13_76 rfl rfl ?_
          refine own_iloadN X 78 (1 : Int32) own_d13_77 rfl rfl ?_
          refine own_ifY X 101 own_d13_78 (by decide) (by decide) (XT.i0_ne_t (by decide)) ?_
          exact K _
    · refine own_icN X 53 own_d13_50 rfl (XT.ii_lt_f hc50) ?_
      refine own_iloadN X 54 c own_d13_53 rfl rfl ?_
      refine own_bipush X 56 (122 : Int32) own_d13_54 rfl (by decide) ?_
      by_cases hc56 : (122 : Int32) < c
      · refine own_icN X 59 own_d13_56 rfl (XT.ii_le_f hc56) ?_
        refine own_iloadN X 60 c own_d13_59 rfl rfl ?_
        refine own_bipush X 62 (48 : Int32) own_d13_60 rfl (by decide) ?_
        by_cases hc62 : c < (48 : Int32)
        · refine own_icY X 75 own_d13_62 (by decide) (by decide) (XT.ii_lt_t hc62) ?_
          refine own_iconst X 76 (0 : Int32) own_d13_75 rfl rfl ?_
          refine own_istoreN X 77 #[.val (.ref a), .val (.int i), .val (.int c), .val (.int (0 : Int32))] own_d13_76 rfl rfl ?_
          refine own_iloadN X 78 (0 : Int32) own_d13_77 rfl rfl ?_
          refine own_ifN X 81 own_d13_78 rfl (XT.i0_ne_f (by decide)) ?_
          refine own_iloadN X 82 c own_d13_81 rfl rfl ?_
          refine own_bipush X 84 (46 : Int32) own_d13_82 rfl (by decide) ?_
          by_cases hc84 : c = (46 : Int32)
          · refine own_icY X 101 own_d13_84 (by decide) (by decide) (XT.ii_eq_t hc84) ?_
            exact K _
          · refine own_icN X 87 own_d13_84 rfl (XT.ii_eq_f hc84) ?_
            refine own_iloadN X 88 c own_d13_87 rfl rfl ?_
            refine own_bipush X 90 (95 : Int32) own_d13_88 rfl (by decide) ?_
            by_cases hc90 : c = (95 : Int32)
            · refine own_icY X 101 own_d13_90 (by decide) (by decide) (XT.ii_eq_t hc90) ?_
              exact K _
            · refine own_icN X 93 own_d13_90 rfl (XT.ii_eq_f hc90) ?_
              refine own_iloadN X 94 c own_d13_93 rfl rfl ?_
              refine own_bipush X 96 (45 : Int32) own_d13_94 rfl (by decide) ?_
              by_cases hc96 : c = (45 : Int32)
              · refine own_icY X 101 own_d13_96 (by decide) (by decide) (XT.ii_eq_t hc96) ?_
                exact K _
              · refine own_icN X 99 own_d13_96 rfl (XT.ii_eq_f hc96) ?_
                exact absurd (own_no hok (Or.inl hc38) (Or.inr hc56) (Or.inl hc62) hc84 hc90 hc96) id
        · refine own_icN X 65 own_d13_62 rfl (XT.ii_lt_f hc62) ?_
          refine own_iloadN X 66 c own_d13_65 rfl rfl ?_
          refine own_bipush X 68 (57 : Int32) own_d13_66 rfl (by decide) ?_
          by_cases hc68 : (57 : Int32) < c
          · refine own_icY X 75 own_d13_68 (by decide) (by decide) (XT.ii_gt_t hc68) ?_
            refine own_iconst X 76 (0 : Int32) own_d13_75 rfl rfl ?_
            refine own_istoreN X 77 #[.val (.ref a), .val (.int i), .val (.int c), .val (.int (0 : Int32))] own_d13_76 rfl rfl ?_
            refine own_iloadN X 78 (0 : Int32) own_d13_77 rfl rfl ?_
            refine own_ifN X 81 own_d13_78 rfl (XT.i0_ne_f (by decide)) ?_
            refine own_iloadN X 82 c own_d13_81 rfl rfl ?_
            refine own_bipush X 84 (46 : Int32) own_d13_82 rfl (by decide) ?_
            by_cases hc84 : c = (46 : Int32)
            · refine own_icY X 101 own_d13_84 (by decide) (by decide) (XT.ii_eq_t hc84) ?_
              exact K _
            · refine own_icN X 87 own_d13_84 rfl (XT.ii_eq_f hc84) ?_
              refine own_iloadN X 88 c own_d13_87 rfl rfl ?_
              refine own_bipush X 90 (95 : Int32) own_d13_88 rfl (by decide) ?_
              by_cases hc90 : c = (95 : Int32)
              · refine own_icY X 101 own_d13_90 (by decide) (by decide) (XT.ii_eq_t hc90) ?_
                exact K _
              · refine own_icN X 93 own_d13_90 rfl (XT.ii_eq_f hc90) ?_
                refine own_iloadN X 94 c own_d13_93 rfl rfl ?_
                refine own_bipush X 96 (45 : Int32) own_d13_94 rfl (by decide) ?_
                by_cases hc96 : c = (45 : Int32)
                · refine own_icY X 101 own_d13_96 (by decide) (by decide) (XT.ii_eq_t hc96) ?_
                  exact K _
                · refine own_icN X 99 own_d13_96 rfl (XT.ii_eq_f hc96) ?_
                  exact absurd (own_no hok (Or.inl hc38) (Or.inr hc56) (Or.inr hc68) hc84 hc90 hc96) id
          · refine own_icN X 71 own_d13_68 rfl (XT.ii_gt_f hc68) ?_
            refine own_iconst X 72 (1 : Int32) own_d13_71 rfl rfl ?_
            refine own_goto X 76 own_d13_72 (by decide) (by decide) ?_
            refine own_istoreN X 77 #[.val (.ref a), .val (.int i), .val (.int c), .val (.int (1 : Int32))] own_d13_76 rfl rfl ?_
            refine own_iloadN X 78 (1 : Int32) own_d13_77 rfl rfl ?_
            refine own_ifY X 101 own_d13_78 (by decide) (by decide) (XT.i0_ne_t (by decide)) ?_
            exact K _
      · refine own_icY X 71 own_d13_56 (by decide) (by decide) (XT.ii_le_t hc56) ?_
        refine own_iconst X 72 (1 : Int32) own_d13_71 rfl rfl ?_
        refine own_goto X 76 own_d13_72 (by decide) (by decide) ?_
        refine own_istoreN X 77 #[.val (.ref a), .val (.int i), .val (.int c), .val (.int (1 : Int32))] own_d13_76 rfl rfl ?_
        refine own_iloadN X 78 (1 : Int32) own_d13_77 rfl rfl ?_
        refine own_ifY X 101 own_d13_78 (by decide) (by decide) (XT.i0_ne_t (by decide)) ?_
        exact K _
  · refine own_icN X 41 own_d13_38 rfl (XT.ii_lt_f hc38) ?_
    refine own_iloadN X 42 c own_d13_41 rfl rfl ?_
    refine own_bipush X 44 (90 : Int32) own_d13_42 rfl (by decide) ?_
    by_cases hc44 : (90 : Int32) < c
    · refine own_icN X 47 own_d13_44 rfl (XT.ii_le_f hc44) ?_
      refine own_iloadN X 48 c own_d13_47 rfl rfl ?_
      refine own_bipush X 50 (97 : Int32) own_d13_48 rfl (by decide) ?_
      by_cases hc50 : c < (97 : Int32)
      · refine own_icY X 59 own_d13_50 (by decide) (by decide) (XT.ii_lt_t hc50) ?_
        refine own_iloadN X 60 c own_d13_59 rfl rfl ?_
        refine own_bipush X 62 (48 : Int32) own_d13_60 rfl (by decide) ?_
        by_cases hc62 : c < (48 : Int32)
        · refine own_icY X 75 own_d13_62 (by decide) (by decide) (XT.ii_lt_t hc62) ?_
          refine own_iconst X 76 (0 : Int32) own_d13_75 rfl rfl ?_
          refine own_istoreN X 77 #[.val (.ref a), .val (.int i), .val (.int c), .val (.int (0 : Int32))] own_d13_76 rfl rfl ?_
          refine own_iloadN X 78 (0 : Int32) own_d13_77 rfl rfl ?_
          refine own_ifN X 81 own_d13_78 rfl (XT.i0_ne_f (by decide)) ?_
          refine own_iloadN X 82 c own_d13_81 rfl rfl ?_
          refine own_bipush X 84 (46 : Int32) own_d13_82 rfl (by decide) ?_
          by_cases hc84 : c = (46 : Int32)
          · refine own_icY X 101 own_d13_84 (by decide) (by decide) (XT.ii_eq_t hc84) ?_
            exact K _
          · refine own_icN X 87 own_d13_84 rfl (XT.ii_eq_f hc84) ?_
            refine own_iloadN X 88 c own_d13_87 rfl rfl ?_
            refine own_bipush X 90 (95 : Int32) own_d13_88 rfl (by decide) ?_
            by_cases hc90 : c = (95 : Int32)
            · refine own_icY X 101 own_d13_90 (by decide) (by decide) (XT.ii_eq_t hc90) ?_
              exact K _
            · refine own_icN X 93 own_d13_90 rfl (XT.ii_eq_f hc90) ?_
              refine own_iloadN X 94 c own_d13_93 rfl rfl ?_
              refine own_bipush X 96 (45 : Int32) own_d13_94 rfl (by decide) ?_
              by_cases hc96 : c = (45 : Int32)
              · refine own_icY X 101 own_d13_96 (by decide) (by decide) (XT.ii_eq_t hc96) ?_
                exact K _
              · refine own_icN X 99 own_d13_96 rfl (XT.ii_eq_f hc96) ?_
                exact absurd (own_no hok (Or.inr hc44) (Or.inl hc50) (Or.inl hc62) hc84 hc90 hc96) id
        · refine own_icN X 65 own_d13_62 rfl (XT.ii_lt_f hc62) ?_
          refine own_iloadN X 66 c own_d13_65 rfl rfl ?_
          refine own_bipush X 68 (57 : Int32) own_d13_66 rfl (by decide) ?_
          by_cases hc68 : (57 : Int32) < c
          · refine own_icY X 75 own_d13_68 (by decide) (by decide) (XT.ii_gt_t hc68) ?_
            refine own_iconst X 76 (0 : Int32) own_d13_75 rfl rfl ?_
            refine own_istoreN X 77 #[.val (.ref a), .val (.int i), .val (.int c), .val (.int (0 : Int32))] own_d13_76 rfl rfl ?_
            refine own_iloadN X 78 (0 : Int32) own_d13_77 rfl rfl ?_
            refine own_ifN X 81 own_d13_78 rfl (XT.i0_ne_f (by decide)) ?_
            refine own_iloadN X 82 c own_d13_81 rfl rfl ?_
            refine own_bipush X 84 (46 : Int32) own_d13_82 rfl (by decide) ?_
            by_cases hc84 : c = (46 : Int32)
            · refine own_icY X 101 own_d13_84 (by decide) (by decide) (XT.ii_eq_t hc84) ?_
              exact K _
            · refine own_icN X 87 own_d13_84 rfl (XT.ii_eq_f hc84) ?_
              refine own_iloadN X 88 c own_d13_87 rfl rfl ?_
              refine own_bipush X 90 (95 : Int32) own_d13_88 rfl (by decide) ?_
              by_cases hc90 : c = (95 : Int32)
              · refine own_icY X 101 own_d13_90 (by decide) (by decide) (XT.ii_eq_t hc90) ?_
                exact K _
              · refine own_icN X 93 own_d13_90 rfl (XT.ii_eq_f hc90) ?_
                refine own_iloadN X 94 c own_d13_93 rfl rfl ?_
                refine own_bipush X 96 (45 : Int32) own_d13_94 rfl (by decide) ?_
                by_cases hc96 : c = (45 : Int32)
                · refine own_icY X 101 own_d13_96 (by decide) (by decide) (XT.ii_eq_t hc96) ?_
                  exact K _
                · refine own_icN X 99 own_d13_96 rfl (XT.ii_eq_f hc96) ?_
                  exact absurd (own_no hok (Or.inr hc44) (Or.inl hc50) (Or.inr hc68) hc84 hc90 hc96) id
          · refine own_icN X 71 own_d13_68 rfl (XT.ii_gt_f hc68) ?_
            refine own_iconst X 72 (1 : Int32) own_d13_71 rfl rfl ?_
            refine own_goto X 76 own_d13_72 (by decide) (by decide) ?_
            refine own_istoreN X 77 #[.val (.ref a), .val (.int i), .val (.int c), .val (.int (1 : Int32))] own_d13_76 rfl rfl ?_
            refine own_iloadN X 78 (1 : Int32) own_d13_77 rfl rfl ?_
            refine own_ifY X 101 own_d13_78 (by decide) (by decide) (XT.i0_ne_t (by decide)) ?_
            exact K _
      · refine own_icN X 53 own_d13_50 rfl (XT.ii_lt_f hc50) ?_
        refine own_iloadN X 54 c own_d13_53 rfl rfl ?_
        refine own_bipush X 56 (122 : Int32) own_d13_54 rfl (by decide) ?_
        by_cases hc56 : (122 : Int32) < c
        · refine own_icN X 59 own_d13_56 rfl (XT.ii_le_f hc56) ?_
          refine own_iloadN X 60 c own_d13_59 rfl rfl ?_
          refine own_bipush X 62 (48 : Int32) own_d13_60 rfl (by decide) ?_
          by_cases hc62 : c < (48 : Int32)
          · refine own_icY X 75 own_d13_62 (by decide) (by decide) (XT.ii_lt_t hc62) ?_
            refine own_iconst X 76 (0 : Int32) own_d13_75 rfl rfl ?_
            refine own_istoreN X 77 #[.val (.ref a), .val (.int i), .val (.int c), .val (.int (0 : Int32))] own_d13_76 rfl rfl ?_
            refine own_iloadN X 78 (0 : Int32) own_d13_77 rfl rfl ?_
            refine own_ifN X 81 own_d13_78 rfl (XT.i0_ne_f (by decide)) ?_
            refine own_iloadN X 82 c own_d13_81 rfl rfl ?_
            refine own_bipush X 84 (46 : Int32) own_d13_82 rfl (by decide) ?_
            by_cases hc84 : c = (46 : Int32)
            · refine own_icY X 101 own_d13_84 (by decide) (by decide) (XT.ii_eq_t hc84) ?_
              exact K _
            · refine own_icN X 87 own_d13_84 rfl (XT.ii_eq_f hc84) ?_
              refine own_iloadN X 88 c own_d13_87 rfl rfl ?_
              refine own_bipush X 90 (95 : Int32) own_d13_88 rfl (by decide) ?_
              by_cases hc90 : c = (95 : Int32)
              · refine own_icY X 101 own_d13_90 (by decide) (by decide) (XT.ii_eq_t hc90) ?_
                exact K _
              · refine own_icN X 93 own_d13_90 rfl (XT.ii_eq_f hc90) ?_
                refine own_iloadN X 94 c own_d13_93 rfl rfl ?_
                refine own_bipush X 96 (45 : Int32) own_d13_94 rfl (by decide) ?_
                by_cases hc96 : c = (45 : Int32)
                · refine own_icY X 101 own_d13_96 (by decide) (by decide) (XT.ii_eq_t hc96) ?_
                  exact K _
                · refine own_icN X 99 own_d13_96 rfl (XT.ii_eq_f hc96) ?_
                  exact absurd (own_no hok (Or.inr hc44) (Or.inr hc56) (Or.inl hc62) hc84 hc90 hc96) id
          · refine own_icN X 65 own_d13_62 rfl (XT.ii_lt_f hc62) ?_
            refine own_iloadN X 66 c own_d13_65 rfl rfl ?_
            refine own_bipush X 68 (57 : Int32) own_d13_66 rfl (by decide) ?_
            by_cases hc68 : (57 : Int32) < c
            · refine own_icY X 75 own_d13_68 (by decide) (by decide) (XT.ii_gt_t hc68) ?_
              refine own_iconst X 76 (0 : Int32) own_d13_75 rfl rfl ?_
              refine own_istoreN X 77 #[.val (.ref a), .val (.int i), .val (.int c), .val (.int (0 : Int32))] own_d13_76 rfl rfl ?_
              refine own_iloadN X 78 (0 : Int32) own_d13_77 rfl rfl ?_
              refine own_ifN X 81 own_d13_78 rfl (XT.i0_ne_f (by decide)) ?_
              refine own_iloadN X 82 c own_d13_81 rfl rfl ?_
              refine own_bipush X 84 (46 : Int32) own_d13_82 rfl (by decide) ?_
              by_cases hc84 : c = (46 : Int32)
              · refine own_icY X 101 own_d13_84 (by decide) (by decide) (XT.ii_eq_t hc84) ?_
                exact K _
              · refine own_icN X 87 own_d13_84 rfl (XT.ii_eq_f hc84) ?_
                refine own_iloadN X 88 c own_d13_87 rfl rfl ?_
                refine own_bipush X 90 (95 : Int32) own_d13_88 rfl (by decide) ?_
                by_cases hc90 : c = (95 : Int32)
                · refine own_icY X 101 own_d13_90 (by decide) (by decide) (XT.ii_eq_t hc90) ?_
                  exact K _
                · refine own_icN X 93 own_d13_90 rfl (XT.ii_eq_f hc90) ?_
                  refine own_iloadN X 94 c own_d13_93 rfl rfl ?_
                  refine own_bipush X 96 (45 : Int32) own_d13_94 rfl (by decide) ?_
                  by_cases hc96 : c = (45 : Int32)
                  · refine own_icY X 101 own_d13_96 (by decide) (by decide) (XT.ii_eq_t hc96) ?_
                    exact K _
                  · refine own_icN X 99 own_d13_96 rfl (XT.ii_eq_f hc96) ?_
                    exact absurd (own_no hok (Or.inr hc44) (Or.inr hc56) (Or.inr hc68) hc84 hc90 hc96) id
            · refine own_icN X 71 own_d13_68 rfl (XT.ii_gt_f hc68) ?_
              refine own_iconst X 72 (1 : Int32) own_d13_71 rfl rfl ?_
              refine own_goto X 76 own_d13_72 (by decide) (by decide) ?_
              refine own_istoreN X 77 #[.val (.ref a), .val (.int i), .val (.int c), .val (.int (1 : Int32))] own_d13_76 rfl rfl ?_
              refine own_iloadN X 78 (1 : Int32) own_d13_77 rfl rfl ?_
              refine own_ifY X 101 own_d13_78 (by decide) (by decide) (XT.i0_ne_t (by decide)) ?_
              exact K _
        · refine own_icY X 71 own_d13_56 (by decide) (by decide) (XT.ii_le_t hc56) ?_
          refine own_iconst X 72 (1 : Int32) own_d13_71 rfl rfl ?_
          refine own_goto X 76 own_d13_72 (by decide) (by decide) ?_
          refine own_istoreN X 77 #[.val (.ref a), .val (.int i), .val (.int c), .val (.int (1 : Int32))] own_d13_76 rfl rfl ?_
          refine own_iloadN X 78 (1 : Int32) own_d13_77 rfl rfl ?_
          refine own_ifY X 101 own_d13_78 (by decide) (by decide) (XT.i0_ne_t (by decide)) ?_
          exact K _
    · refine own_icY X 71 own_d13_44 (by decide) (by decide) (XT.ii_le_t hc44) ?_
      refine own_iconst X 72 (1 : Int32) own_d13_71 rfl rfl ?_
      refine own_goto X 76 own_d13_72 (by decide) (by decide) ?_
      refine own_istoreN X 77 #[.val (.ref a), .val (.int i), .val (.int c), .val (.int (1 : Int32))] own_d13_76 rfl rfl ?_
      refine own_iloadN X 78 (1 : Int32) own_d13_77 rfl rfl ?_
      refine own_ifY X 101 own_d13_78 (by decide) (by decide) (XT.i0_ne_t (by decide)) ?_
      exact K _
set_option maxRecDepth 65536 in
set_option maxHeartbeats 40000000 in
theorem own_turnV {p : Program} {l : Launch} {e : Env} {R : Room} {s : State} {m : MethodId} {args : Array Value} {below : List Frame} {meth : Method} {cd : Code} {Z T : State} {n0 k n : Nat} {h : Heap} {G : State → Outcome → Prop} {a : Addr} {i c z0 : Int32} (X : own_W p l e R s m args below meth cd Z n0 (⟨"com/example/modgud/modgud/core/Names", "isName", "(Ljava/lang/String;)Z"⟩ : MethodName) prog_8_method_3_code 4 (some .boolean) T h k n) (hok : own_ok c)
    (K : ∀ z : Int32, own_Ends p e below G (T.setTop (mkF m 101 #[.val (.ref a), .val (.int i), .val (.int c), .val (.int z)] []))) : own_Ends p e below G (T.setTop (mkF m 35 #[.val (.ref a), .val (.int i), .val (.int c), .val (.int z0)] [])) := by
  refine own_iloadN X 36 c own_d13_35 rfl rfl ?_
  refine own_bipush X 38 (65 : Int32) own_d13_36 rfl (by decide) ?_
  by_cases hc38 : c < (65 : Int32)
  · refine own_icY X 47 own_d13_38 (by decide) (by decide) (XT.ii_lt_t hc38) ?_
    refine own_iloadN X 48 c own_d13_47 rfl rfl ?_
    refine own_bipush X 50 (97 : Int32) own_d13_48 rfl (by decide) ?_
    by_cases hc50 : c < (97 : Int32)
    · refine own_icY X 59 own_d13_50 (by decide) (by decide) (XT.ii_lt_t hc50) ?_
      refine own_iloadN X 60 c own_d13_59 rfl rfl ?_
      refine own_bipush X 62 (48 : Int32) own_d13_60 rfl (by decide) ?_
      by_cases hc62 : c < (48 : Int32)
      · refine own_icY X 75 own_d13_62 (by decide) (by decide) (XT.ii_lt_t hc62) ?_
        refine own_iconst X 76 (0 : Int32) own_d13_75 rfl rfl ?_
        refine own_istoreN X 77 #[.val (.ref a), .val (.int i), .val (.int c), .val (.int (0 : Int32))] own_d13_76 rfl rfl ?_
        refine own_iloadN X 78 (0 : Int32) own_d13_77 rfl rfl ?_
        refine own_ifN X 81 own_d13_78 rfl (XT.i0_ne_f (by decide)) ?_
        refine own_iloadN X 82 c own_d13_81 rfl rfl ?_
        refine own_bipush X 84 (46 : Int32) own_d13_82 rfl (by decide) ?_
        by_cases hc84 : c = (46 : Int32)
        · refine own_icY X 101 own_d13_84 (by decide) (by decide) (XT.ii_eq_t hc84) ?_
          exact K _
        · refine own_icN X 87 own_d13_84 rfl (XT.ii_eq_f hc84) ?_
          refine own_iloadN X 88 c own_d13_87 rfl rfl ?_
          refine own_bipush X 90 (95 : Int32) own_d13_88 rfl (by decide) ?_
          by_cases hc90 : c = (95 : Int32)
          · refine own_icY X 101 own_d13_90 (by decide) (by decide) (XT.ii_eq_t hc90) ?_
            exact K _
          · refine own_icN X 93 own_d13_90 rfl (XT.ii_eq_f hc90) ?_
            refine own_iloadN X 94 c own_d13_93 rfl rfl ?_
            refine own_bipush X 96 (45 : Int32) own_d13_94 rfl (by decide) ?_
            by_cases hc96 : c = (45 : Int32)
            · refine own_icY X 101 own_d13_96 (by decide) (by decide) (XT.ii_eq_t hc96) ?_
              exact K _
            · refine own_icN X 99 own_d13_96 rfl (XT.ii_eq_f hc96) ?_
              exact absurd (own_no hok (Or.inl hc38) (Or.inl hc50) (Or.inl hc62) hc84 hc90 hc96) id
      · refine own_icN X 65 own_d13_62 rfl (XT.ii_lt_f hc62) ?_
        refine own_iloadN X 66 c own_d13_65 rfl rfl ?_
        refine own_bipush X 68 (57 : Int32) own_d13_66 rfl (by decide) ?_
        by_cases hc68 : (57 : Int32) < c
        · refine own_icY X 75 own_d13_68 (by decide) (by decide) (XT.ii_gt_t hc68) ?_
          refine own_iconst X 76 (0 : Int32) own_d13_75 rfl rfl ?_
          refine own_istoreN X 77 #[.val (.ref a), .val (.int i), .val (.int c), .val (.int (0 : Int32))] own_d13_76 rfl rfl ?_
          refine own_iloadN X 78 (0 : Int32) own_d13_77 rfl rfl ?_
          refine own_ifN X 81 own_d13_78 rfl (XT.i0_ne_f (by decide)) ?_
          refine own_iloadN X 82 c own_d13_81 rfl rfl ?_
          refine own_bipush X 84 (46 : Int32) own_d13_82 rfl (by decide) ?_
          by_cases hc84 : c = (46 : Int32)
          · refine own_icY X 101 own_d13_84 (by decide) (by decide) (XT.ii_eq_t hc84) ?_
            exact K _
          · refine own_icN X 87 own_d13_84 rfl (XT.ii_eq_f hc84) ?_
            refine own_iloadN X 88 c own_d13_87 rfl rfl ?_
            refine own_bipush X 90 (95 : Int32) own_d13_88 rfl (by decide) ?_
            by_cases hc90 : c = (95 : Int32)
            · refine own_icY X 101 own_d13_90 (by decide) (by decide) (XT.ii_eq_t hc90) ?_
              exact K _
            · refine own_icN X 93 own_d13_90 rfl (XT.ii_eq_f hc90) ?_
              refine own_iloadN X 94 c own_d13_93 rfl rfl ?_
              refine own_bipush X 96 (45 : Int32) own_d13_94 rfl (by decide) ?_
              by_cases hc96 : c = (45 : Int32)
              · refine own_icY X 101 own_d13_96 (by decide) (by decide) (XT.ii_eq_t hc96) ?_
                exact K _
              · refine own_icN X 99 own_d13_96 rfl (XT.ii_eq_f hc96) ?_
                exact absurd (own_no hok (Or.inl hc38) (Or.inl hc50) (Or.inr hc68) hc84 hc90 hc96) id
        · refine own_icN X 71 own_d13_68 rfl (XT.ii_gt_f hc68) ?_
          refine own_iconst X 72 (1 : Int32) own_d13_71 rfl rfl ?_
          refine own_goto X 76 own_d13_72 (by decide) (by decide) ?_
          refine own_istoreN X 77 #[.val (.ref a), .val (.int i), .val (.int c), .val (.int (1 : Int32))] own_d13_76 rfl rfl ?_
          refine own_iloadN X 78 (1 : Int32) own_d13_77 rfl rfl ?_
          refine own_ifY X 101 own_d13_78 (by decide) (by decide) (XT.i0_ne_t (by decide)) ?_
          exact K _
    · refine own_icN X 53 own_d13_50 rfl (XT.ii_lt_f hc50) ?_
      refine own_iloadN X 54 c own_d13_53 rfl rfl ?_
      refine own_bipush X 56 (122 : Int32) own_d13_54 rfl (by decide) ?_
      by_cases hc56 : (122 : Int32) < c
      · refine own_icN X 59 own_d13_56 rfl (XT.ii_le_f hc56) ?_
        refine own_iloadN X 60 c own_d13_59 rfl rfl ?_
        refine own_bipush X 62 (48 : Int32) own_d13_60 rfl (by decide) ?_
        by_cases hc62 : c < (48 : Int32)
        · refine own_icY X 75 own_d13_62 (by decide) (by decide) (XT.ii_lt_t hc62) ?_
          refine own_iconst X 76 (0 : Int32) own_d13_75 rfl rfl ?_
          refine own_istoreN X 77 #[.val (.ref a), .val (.int i), .val (.int c), .val (.int (0 : Int32))] own_d13_76 rfl rfl ?_
          refine own_iloadN X 78 (0 : Int32) own_d13_77 rfl rfl ?_
          refine own_ifN X 81 own_d13_78 rfl (XT.i0_ne_f (by decide)) ?_
          refine own_iloadN X 82 c own_d13_81 rfl rfl ?_
          refine own_bipush X 84 (46 : Int32) own_d13_82 rfl (by decide) ?_
          by_cases hc84 : c = (46 : Int32)
          · refine own_icY X 101 own_d13_84 (by decide) (by decide) (XT.ii_eq_t hc84) ?_
            exact K _
          · refine own_icN X 87 own_d13_84 rfl (XT.ii_eq_f hc84) ?_
            refine own_iloadN X 88 c own_d13_87 rfl rfl ?_
            refine own_bipush X 90 (95 : Int32) own_d13_88 rfl (by decide) ?_
            by_cases hc90 : c = (95 : Int32)
            · refine own_icY X 101 own_d13_90 (by decide) (by decide) (XT.ii_eq_t hc90) ?_
              exact K _
            · refine own_icN X 93 own_d13_90 rfl (XT.ii_eq_f hc90) ?_
              refine own_iloadN X 94 c own_d13_93 rfl rfl ?_
              refine own_bipush X 96 (45 : Int32) own_d13_94 rfl (by decide) ?_
              by_cases hc96 : c = (45 : Int32)
              · refine own_icY X 101 own_d13_96 (by decide) (by decide) (XT.ii_eq_t hc96) ?_
                exact K _
              · refine own_icN X 99 own_d13_96 rfl (XT.ii_eq_f hc96) ?_
                exact absurd (own_no hok (Or.inl hc38) (Or.inr hc56) (Or.inl hc62) hc84 hc90 hc96) id
        · refine own_icN X 65 own_d13_62 rfl (XT.ii_lt_f hc62) ?_
          refine own_iloadN X 66 c own_d13_65 rfl rfl ?_
          refine own_bipush X 68 (57 : Int32) own_d13_66 rfl (by decide) ?_
          by_cases hc68 : (57 : Int32) < c
          · refine own_icY X 75 own_d13_68 (by decide) (by decide) (XT.ii_gt_t hc68) ?_
            refine own_iconst X 76 (0 : Int32) own_d13_75 rfl rfl ?_
            refine own_istoreN X 77 #[.val (.ref a), .val (.int i), .val (.int c), .val (.int (0 : Int32))] own_d13_76 rfl rfl ?_
            refine own_iloadN X 78 (0 : Int32) own_d13_77 rfl rfl ?_
            refine own_ifN X 81 own_d13_78 rfl (XT.i0_ne_f (by decide)) ?_
            refine own_iloadN X 82 c own_d13_81 rfl rfl ?_
            refine own_bipush X 84 (46 : Int32) own_d13_82 rfl (by decide) ?_
            by_cases hc84 : c = (46 : Int32)
            · refine own_icY X 101 own_d13_84 (by decide) (by decide) (XT.ii_eq_t hc84) ?_
              exact K _
            · refine own_icN X 87 own_d13_84 rfl (XT.ii_eq_f hc84) ?_
              refine own_iloadN X 88 c own_d13_87 rfl rfl ?_
              refine own_bipush X 90 (95 : Int32) own_d13_88 rfl (by decide) ?_
              by_cases hc90 : c = (95 : Int32)
              · refine own_icY X 101 own_d13_90 (by decide) (by decide) (XT.ii_eq_t hc90) ?_
                exact K _
              · refine own_icN X 93 own_d13_90 rfl (XT.ii_eq_f hc90) ?_
                refine own_iloadN X 94 c own_d13_93 rfl rfl ?_
                refine own_bipush X 96 (45 : Int32) own_d13_94 rfl (by decide) ?_
                by_cases hc96 : c = (45 : Int32)
                · refine own_icY X 101 own_d13_96 (by decide) (by decide) (XT.ii_eq_t hc96) ?_
                  exact K _
                · refine own_icN X 99 own_d13_96 rfl (XT.ii_eq_f hc96) ?_
                  exact absurd (own_no hok (Or.inl hc38) (Or.inr hc56) (Or.inr hc68) hc84 hc90 hc96) id
          · refine own_icN X 71 own_d13_68 rfl (XT.ii_gt_f hc68) ?_
            refine own_iconst X 72 (1 : Int32) own_d13_71 rfl rfl ?_
            refine own_goto X 76 own_d13_72 (by decide) (by decide) ?_
            refine own_istoreN X 77 #[.val (.ref a), .val (.int i), .val (.int c), .val (.int (1 : Int32))] own_d13_76 rfl rfl ?_
            refine own_iloadN X 78 (1 : Int32) own_d13_77 rfl rfl ?_
            refine own_ifY X 101 own_d13_78 (by decide) (by decide) (XT.i0_ne_t (by decide)) ?_
            exact K _
      · refine own_icY X 71 own_d13_56 (by decide) (by decide) (XT.ii_le_t hc56) ?_
        refine own_iconst X 72 (1 : Int32) own_d13_71 rfl rfl ?_
        refine own_goto X 76 own_d13_72 (by decide) (by decide) ?_
        refine own_istoreN X 77 #[.val (.ref a), .val (.int i), .val (.int c), .val (.int (1 : Int32))] own_d13_76 rfl rfl ?_
        refine own_iloadN X 78 (1 : Int32) own_d13_77 rfl rfl ?_
        refine own_ifY X 101 own_d13_78 (by decide) (by decide) (XT.i0_ne_t (by decide)) ?_
        exact K _
  · refine own_icN X 41 own_d13_38 rfl (XT.ii_lt_f hc38) ?_
    refine own_iloadN X 42 c own_d13_41 rfl rfl ?_
    refine own_bipush X 44 (90 : Int32) own_d13_42 rfl (by decide) ?_
    by_cases hc44 : (90 : Int32) < c
    · refine own_icN X 47 own_d13_44 rfl (XT.ii_le_f hc44) ?_
      refine own_iloadN X 48 c own_d13_47 rfl rfl ?_
      refine own_bipush X 50 (97 : Int32) own_d13_48 rfl (by decide) ?_
      by_cases hc50 : c < (97 : Int32)
      · refine own_icY X 59 own_d13_50 (by decide) (by decide) (XT.ii_lt_t hc50) ?_
        refine own_iloadN X 60 c own_d13_59 rfl rfl ?_
        refine own_bipush X 62 (48 : Int32) own_d13_60 rfl (by decide) ?_
        by_cases hc62 : c < (48 : Int32)
        · refine own_icY X 75 own_d13_62 (by decide) (by decide) (XT.ii_lt_t hc62) ?_
          refine own_iconst X 76 (0 : Int32) own_d13_75 rfl rfl ?_
          refine own_istoreN X 77 #[.val (.ref a), .val (.int i), .val (.int c), .val (.int (0 : Int32))] own_d13_76 rfl rfl ?_
          refine own_iloadN X 78 (0 : Int32) own_d13_77 rfl rfl ?_
          refine own_ifN X 81 own_d13_78 rfl (XT.i0_ne_f (by decide)) ?_
          refine own_iloadN X 82 c own_d13_81 rfl rfl ?_
          refine own_bipush X 84 (46 : Int32) own_d13_82 rfl (by decide) ?_
          by_cases hc84 : c = (46 : Int32)
          · refine own_icY X 101 own_d13_84 (by decide) (by decide) (XT.ii_eq_t hc84) ?_
            exact K _
          · refine own_icN X 87 own_d13_84 rfl (XT.ii_eq_f hc84) ?_
            refine own_iloadN X 88 c own_d13_87 rfl rfl ?_
            refine own_bipush X 90 (95 : Int32) own_d13_88 rfl (by decide) ?_
            by_cases hc90 : c = (95 : Int32)
            · refine own_icY X 101 own_d13_90 (by decide) (by decide) (XT.ii_eq_t hc90) ?_
              exact K _
            · refine own_icN X 93 own_d13_90 rfl (XT.ii_eq_f hc90) ?_
              refine own_iloadN X 94 c own_d13_93 rfl rfl ?_
              refine own_bipush X 96 (45 : Int32) own_d13_94 rfl (by decide) ?_
              by_cases hc96 : c = (45 : Int32)
              · refine own_icY X 101 own_d13_96 (by decide) (by decide) (XT.ii_eq_t hc96) ?_
                exact K _
              · refine own_icN X 99 own_d13_96 rfl (XT.ii_eq_f hc96) ?_
                exact absurd (own_no hok (Or.inr hc44) (Or.inl hc50) (Or.inl hc62) hc84 hc90 hc96) id
        · refine own_icN X 65 own_d13_62 rfl (XT.ii_lt_f hc62) ?_
          refine own_iloadN X 66 c own_d13_65 rfl rfl ?_
          refine own_bipush X 68 (57 : Int32) own_d13_66 rfl (by decide) ?_
          by_cases hc68 : (57 : Int32) < c
          · refine own_icY X 75 own_d13_68 (by decide) (by decide) (XT.ii_gt_t hc68) ?_
            refine own_iconst X 76 (0 : Int32) own_d13_75 rfl rfl ?_
            refine own_istoreN X 77 #[.val (.ref a), .val (.int i), .val (.int c), .val (.int (0 : Int32))] own_d13_76 rfl rfl ?_
            refine own_iloadN X 78 (0 : Int32) own_d13_77 rfl rfl ?_
            refine own_ifN X 81 own_d13_78 rfl (XT.i0_ne_f (by decide)) ?_
            refine own_iloadN X 82 c own_d13_81 rfl rfl ?_
            refine own_bipush X 84 (46 : Int32) own_d13_82 rfl (by decide) ?_
            by_cases hc84 : c = (46 : Int32)
            · refine own_icY X 101 own_d13_84 (by decide) (by decide) (XT.ii_eq_t hc84) ?_
              exact K _
            · refine own_icN X 87 own_d13_84 rfl (XT.ii_eq_f hc84) ?_
              refine own_iloadN X 88 c own_d13_87 rfl rfl ?_
              refine own_bipush X 90 (95 : Int32) own_d13_88 rfl (by decide) ?_
              by_cases hc90 : c = (95 : Int32)
              · refine own_icY X 101 own_d13_90 (by decide) (by decide) (XT.ii_eq_t hc90) ?_
                exact K _
              · refine own_icN X 93 own_d13_90 rfl (XT.ii_eq_f hc90) ?_
                refine own_iloadN X 94 c own_d13_93 rfl rfl ?_
                refine own_bipush X 96 (45 : Int32) own_d13_94 rfl (by decide) ?_
                by_cases hc96 : c = (45 : Int32)
                · refine own_icY X 101 own_d13_96 (by decide) (by decide) (XT.ii_eq_t hc96) ?_
                  exact K _
                · refine own_icN X 99 own_d13_96 rfl (XT.ii_eq_f hc96) ?_
                  exact absurd (own_no hok (Or.inr hc44) (Or.inl hc50) (Or.inr hc68) hc84 hc90 hc96) id
          · refine own_icN X 71 own_d13_68 rfl (XT.ii_gt_f hc68) ?_
            refine own_iconst X 72 (1 : Int32) own_d13_71 rfl rfl ?_
            refine own_goto X 76 own_d13_72 (by decide) (by decide) ?_
            refine own_istoreN X 77 #[.val (.ref a), .val (.int i), .val (.int c), .val (.int (1 : Int32))] own_d13_76 rfl rfl ?_
            refine own_iloadN X 78 (1 : Int32) own_d13_77 rfl rfl ?_
            refine own_ifY X 101 own_d13_78 (by decide) (by decide) (XT.i0_ne_t (by decide)) ?_
            exact K _
      · refine own_icN X 53 own_d13_50 rfl (XT.ii_lt_f hc50) ?_
        refine own_iloadN X 54 c own_d13_53 rfl rfl ?_
        refine own_bipush X 56 (122 : Int32) own_d13_54 rfl (by decide) ?_
        by_cases hc56 : (122 : Int32) < c
        · refine own_icN X 59 own_d13_56 rfl (XT.ii_le_f hc56) ?_
          refine own_iloadN X 60 c own_d13_59 rfl rfl ?_
          refine own_bipush X 62 (48 : Int32) own_d13_60 rfl (by decide) ?_
          by_cases hc62 : c < (48 : Int32)
          · refine own_icY X 75 own_d13_62 (by decide) (by decide) (XT.ii_lt_t hc62) ?_
            refine own_iconst X 76 (0 : Int32) own_d13_75 rfl rfl ?_
            refine own_istoreN X 77 #[.val (.ref a), .val (.int i), .val (.int c), .val (.int (0 : Int32))] own_d13_76 rfl rfl ?_
            refine own_iloadN X 78 (0 : Int32) own_d13_77 rfl rfl ?_
            refine own_ifN X 81 own_d13_78 rfl (XT.i0_ne_f (by decide)) ?_
            refine own_iloadN X 82 c own_d13_81 rfl rfl ?_
            refine own_bipush X 84 (46 : Int32) own_d13_82 rfl (by decide) ?_
            by_cases hc84 : c = (46 : Int32)
            · refine own_icY X 101 own_d13_84 (by decide) (by decide) (XT.ii_eq_t hc84) ?_
              exact K _
            · refine own_icN X 87 own_d13_84 rfl (XT.ii_eq_f hc84) ?_
              refine own_iloadN X 88 c own_d13_87 rfl rfl ?_
              refine own_bipush X 90 (95 : Int32) own_d13_88 rfl (by decide) ?_
              by_cases hc90 : c = (95 : Int32)
              · refine own_icY X 101 own_d13_90 (by decide) (by decide) (XT.ii_eq_t hc90) ?_
                exact K _
              · refine own_icN X 93 own_d13_90 rfl (XT.ii_eq_f hc90) ?_
                refine own_iloadN X 94 c own_d13_93 rfl rfl ?_
                refine own_bipush X 96 (45 : Int32) own_d13_94 rfl (by decide) ?_
                by_cases hc96 : c = (45 : Int32)
                · refine own_icY X 101 own_d13_96 (by decide) (by decide) (XT.ii_eq_t hc96) ?_
                  exact K _
                · refine own_icN X 99 own_d13_96 rfl (XT.ii_eq_f hc96) ?_
                  exact absurd (own_no hok (Or.inr hc44) (Or.inr hc56) (Or.inl hc62) hc84 hc90 hc96) id
          · refine own_icN X 65 own_d13_62 rfl (XT.ii_lt_f hc62) ?_
            refine own_iloadN X 66 c own_d13_65 rfl rfl ?_
            refine own_bipush X 68 (57 : Int32) own_d13_66 rfl (by decide) ?_
            by_cases hc68 : (57 : Int32) < c
            · refine own_icY X 75 own_d13_68 (by decide) (by decide) (XT.ii_gt_t hc68) ?_
              refine own_iconst X 76 (0 : Int32) own_d13_75 rfl rfl ?_
              refine own_istoreN X 77 #[.val (.ref a), .val (.int i), .val (.int c), .val (.int (0 : Int32))] own_d13_76 rfl rfl ?_
              refine own_iloadN X 78 (0 : Int32) own_d13_77 rfl rfl ?_
              refine own_ifN X 81 own_d13_78 rfl (XT.i0_ne_f (by decide)) ?_
              refine own_iloadN X 82 c own_d13_81 rfl rfl ?_
              refine own_bipush X 84 (46 : Int32) own_d13_82 rfl (by decide) ?_
              by_cases hc84 : c = (46 : Int32)
              · refine own_icY X 101 own_d13_84 (by decide) (by decide) (XT.ii_eq_t hc84) ?_
                exact K _
              · refine own_icN X 87 own_d13_84 rfl (XT.ii_eq_f hc84) ?_
                refine own_iloadN X 88 c own_d13_87 rfl rfl ?_
                refine own_bipush X 90 (95 : Int32) own_d13_88 rfl (by decide) ?_
                by_cases hc90 : c = (95 : Int32)
                · refine own_icY X 101 own_d13_90 (by decide) (by decide) (XT.ii_eq_t hc90) ?_
                  exact K _
                · refine own_icN X 93 own_d13_90 rfl (XT.ii_eq_f hc90) ?_
                  refine own_iloadN X 94 c own_d13_93 rfl rfl ?_
                  refine own_bipush X 96 (45 : Int32) own_d13_94 rfl (by decide) ?_
                  by_cases hc96 : c = (45 : Int32)
                  · refine own_icY X 101 own_d13_96 (by decide) (by decide) (XT.ii_eq_t hc96) ?_
                    exact K _
                  · refine own_icN X 99 own_d13_96 rfl (XT.ii_eq_f hc96) ?_
                    exact absurd (own_no hok (Or.inr hc44) (Or.inr hc56) (Or.inr hc68) hc84 hc90 hc96) id
            · refine own_icN X 71 own_d13_68 rfl (XT.ii_gt_f hc68) ?_
              refine own_iconst X 72 (1 : Int32) own_d13_71 rfl rfl ?_
              refine own_goto X 76 own_d13_72 (by decide) (by decide) ?_
              refine own_istoreN X 77 #[.val (.ref a), .val (.int i), .val (.int c), .val (.int (1 : Int32))] own_d13_76 rfl rfl ?_
              refine own_iloadN X 78 (1 : Int32) own_d13_77 rfl rfl ?_
              refine own_ifY X 101 own_d13_78 (by decide) (by decide) (XT.i0_ne_t (by decide)) ?_
              exact K _
        · refine own_icY X 71 own_d13_56 (by decide) (by decide) (XT.ii_le_t hc56) ?_
          refine own_iconst X 72 (1 : Int32) own_d13_71 rfl rfl ?_
          refine own_goto X 76 own_d13_72 (by decide) (by decide) ?_
          refine own_istoreN X 77 #[.val (.ref a), .val (.int i), .val (.int c), .val (.int (1 : Int32))] own_d13_76 rfl rfl ?_
          refine own_iloadN X 78 (1 : Int32) own_d13_77 rfl rfl ?_
          refine own_ifY X 101 own_d13_78 (by decide) (by decide) (XT.i0_ne_t (by decide)) ?_
          exact K _
    · refine own_icY X 71 own_d13_44 (by decide) (by decide) (XT.ii_le_t hc44) ?_
      refine own_iconst X 72 (1 : Int32) own_d13_71 rfl rfl ?_
      refine own_goto X 76 own_d13_72 (by decide) (by decide) ?_
      refine own_istoreN X 77 #[.val (.ref a), .val (.int i), .val (.int c), .val (.int (1 : Int32))] own_d13_76 rfl rfl ?_
      refine own_iloadN X 78 (1 : Int32) own_d13_77 rfl rfl ?_
      refine own_ifY X 101 own_d13_78 (by decide) (by decide) (XT.i0_ne_t (by decide)) ?_
      exact K _
theorem own_d13_0 : decode prog_8_method_3_code 0 = .ok (.aload_n 0, 1) := by decide +kernel
theorem own_d13_1 : decode prog_8_method_3_code 1 = .ok (.invokevirtual 22, 3) := by decide +kernel
theorem own_d13_4 : decode prog_8_method_3_code 4 = .ok (.ifCond .ne 13, 3) := by decide +kernel
theorem own_d13_7 : decode prog_8_method_3_code 7 = .ok (.aload_n 0, 1) := by decide +kernel
theorem own_d13_8 : decode prog_8_method_3_code 8 = .ok (.invokevirtual 28, 3) := by decide +kernel
theorem own_pd12 : parseMethodDescriptor "()I" = some ⟨[], some .int⟩ := by decide +kernel
theorem own_d13_11 : decode prog_8_method_3_code 11 = .ok (.sipush 128, 3) := by decide +kernel
theorem own_d13_14 : decode prog_8_method_3_code 14 = .ok (.if_icmp .le 5, 3) := by decide +kernel
theorem own_d13_19 : decode prog_8_method_3_code 19 = .ok (.iconst 0, 1) := by decide +kernel
theorem own_d13_20 : decode prog_8_method_3_code 20 = .ok (.istore_n 1, 1) := by decide +kernel
theorem own_d13_21 : decode prog_8_method_3_code 21 = .ok (.iload_n 1, 1) := by decide +kernel
theorem own_d13_22 : decode prog_8_method_3_code 22 = .ok (.aload_n 0, 1) := by decide +kernel
theorem own_d13_23 : decode prog_8_method_3_code 23 = .ok (.invokevirtual 28, 3) := by decide +kernel
theorem own_d13_26 : decode prog_8_method_3_code 26 = .ok (.if_icmp .ge 81, 3) := by decide +kernel
theorem own_d13_29 : decode prog_8_method_3_code 29 = .ok (.aload_n 0, 1) := by decide +kernel
theorem own_d13_30 : decode prog_8_method_3_code 30 = .ok (.iload_n 1, 1) := by decide +kernel
theorem own_d13_31 : decode prog_8_method_3_code 31 = .ok (.invokevirtual 32, 3) := by decide +kernel
theorem own_pd13 : parseMethodDescriptor "(I)C" = some ⟨[.int], some .char⟩ := by decide +kernel
theorem own_d13_34 : decode prog_8_method_3_code 34 = .ok (.istore_n 2, 1) := by decide +kernel
theorem own_d13_101 : decode prog_8_method_3_code 101 = .ok (.iinc 1 1, 3) := by decide +kernel
theorem own_d13_104 : decode prog_8_method_3_code 104 = .ok (.goto (-83), 3) := by decide +kernel
theorem own_d13_107 : decode prog_8_method_3_code 107 = .ok (.iconst 1, 1) := by decide +kernel
theorem own_d13_108 : decode prog_8_method_3_code 108 = .ok (.ireturn, 1) := by decide +kernel
theorem own_pn13 : plainFor (⟨"com/example/modgud/modgud/core/Names", "isName", "(Ljava/lang/String;)Z"⟩ : MethodName) = true := plainFor_of_name (by first | (simp [plainName, overriddenIn]; done) | decide +kernel)
set_option maxRecDepth 65536 in
set_option maxHeartbeats 40000000 in
theorem own_isn1 (l : Launch) (Z : State) (a0 : Array Value) (hw : ∀ d ∈ tables_1, d.before a0 Z = true) (a : Addr) (cs : Int32) (fo : Value) (sv : Addr) (ks : ClassId) (c0 : Int32) (h0 : Heap) (n0 : Nat) (hs0 : n0 ≤ h0.size) (OL : Old Z n0 h0) (z_cs : Sta Z Z.heap "java/lang/String" "COMPACT_STRINGS" "Z" (.int cs)) (hcs : ¬ cs = 0) (z_fo : Sta Z Z.heap "jdk/internal/util/Preconditions" "SIOOBE_FORMATTER" "Ljava/util/function/BiFunction;" fo) (hfo : fo.isRef = true) (Es_a : Exa Z h0 a "java/lang/String") (Fc_a : Fld Z h0 a "java/lang/String" "coder" "B" (.int 0)) (Fv_a : Fld Z h0 a "java/lang/String" "value" "[B" (.ref sv)) (As : own_A Z h0 sv ks .byte [(.int (own_b c0))]) (ok0 : own_ok c0) :
    own_Met l (⟨"com/example/modgud/modgud/core/Names", "isName", "(Ljava/lang/String;)Z"⟩ : MethodName) prog_8_method_3_code 4 (some .boolean) ({ frames := 4, cells := 0, slots := 0, locals := 53 } : Room) Z #[(.ref a)] h0 n0 (fun v h' => h' = h0 ∧ v = some (.int (1 : Int32))) := by
  refine own_met (Ls := #[.val (.ref a), .unset, .unset, .unset]) own_pn13 hs0 (fun m => by first  | (simp [entryFrame, mkF, argsToLocals, Value.category]; done) | rfl) ?_
  intro p e s m below meth c T X
  have hi_sv : h0.size > sv := As.lt
  have hi_a : h0.size > a := Es_a.lt
  refine own_aloadN X 1 (.ref a) own_d13_0 rfl rfl rfl ?_
  refine own_callV X 4 [] [] own_d13_1 rfl (hw _ (List.mem_of_getElem? (i := 56) rfl)) (hw _ (List.mem_of_getElem? (i := 57) rfl)) (own_nf X.2.2.2.2.1 (hw _ (List.mem_of_getElem? (i := 59) rfl))) (hw _ (List.mem_of_getElem? (i := 59) rfl)) (hw _ (List.mem_of_getElem? (i := 58) rfl)) (hw _ (List.mem_of_getElem? (i := 8) rfl)) (hw _ (List.mem_of_getElem? (i := 60) rfl)) (by decide) Es_a (own_semp l Z a0 hw a cs sv ks [(.int (own_b c0))] h0 n0 X.sz OL z_cs hcs Es_a Fc_a Fv_a As (show ¬ (1 : Int32) = 0 by decide)) (fun _ _ q => Nat.le_of_eq (congrArg Array.size q.1.symm)) rfl own_pd3 rfl rfl rfl (by decide) (Nat.le_of_ble_eq_true rfl) (by decide) (by decide) ?_
  rintro v1 T h_ X ⟨eh_, rfl⟩
  rw [eh_] at X
  show own_Ends p e below _ (T.setTop (mkF m 4 #[.val (.ref a), .unset, .unset, .unset] [(.int (0 : Int32))]))
  refine own_ifN X 7 own_d13_4 rfl (XT.i0_ne_f rfl) ?_
  refine own_aloadN X 8 (.ref a) own_d13_7 rfl rfl rfl ?_
  refine own_callV X 11 [] [] own_d13_8 rfl (hw _ (List.mem_of_getElem? (i := 61) rfl)) (hw _ (List.mem_of_getElem? (i := 62) rfl)) (own_nf X.2.2.2.2.1 (hw _ (List.mem_of_getElem? (i := 64) rfl))) (hw _ (List.mem_of_getElem? (i := 64) rfl)) (hw _ (List.mem_of_getElem? (i := 63) rfl)) (hw _ (List.mem_of_getElem? (i := 8) rfl)) (hw _ (List.mem_of_getElem? (i := 65) rfl)) (by decide) Es_a (own_slen l Z a0 hw a cs sv ks [(.int (own_b c0))] (1 : Int32) h0 n0 X.sz OL z_cs hcs Es_a Fc_a Fv_a As rfl) (fun _ _ q => Nat.le_of_eq (congrArg Array.size q.1.symm)) rfl own_pd12 rfl rfl rfl (by decide) (Nat.le_of_ble_eq_true rfl) (by decide) (by decide) ?_
  rintro v8 T h_ X ⟨eh_, rfl⟩
  rw [eh_] at X
  show own_Ends p e below _ (T.setTop (mkF m 11 #[.val (.ref a), .unset, .unset, .unset] [(.int (1 : Int32))]))
  refine own_sipush X 14 (128 : Int32) own_d13_11 rfl (by decide) ?_
  refine own_icY X 19 own_d13_14 (by decide) (by decide) (XT.ii_le_t (by decide)) ?_
  refine own_iconst X 20 (0 : Int32) own_d13_19 rfl rfl ?_
  refine own_istoreN X 21 #[.val (.ref a), .val (.int (0 : Int32)), .unset, .unset] own_d13_20 rfl rfl ?_
  refine own_iloadN X 22 (0 : Int32) own_d13_21 rfl rfl ?_
  refine own_aloadN X 23 (.ref a) own_d13_22 rfl rfl rfl ?_
  refine own_callV X 26 [] [(.int (0 : Int32))] own_d13_23 rfl (hw _ (List.mem_of_getElem? (i := 61) rfl)) (hw _ (List.mem_of_getElem? (i := 62) rfl)) (own_nf X.2.2.2.2.1 (hw _ (List.mem_of_getElem? (i := 64) rfl))) (hw _ (List.mem_of_getElem? (i := 64) rfl)) (hw _ (List.mem_of_getElem? (i := 63) rfl)) (hw _ (List.mem_of_getElem? (i := 8) rfl)) (hw _ (List.mem_of_getElem? (i := 65) rfl)) (by decide) Es_a (own_slen l Z a0 hw a cs sv ks [(.int (own_b c0))] (1 : Int32) h0 n0 X.sz OL z_cs hcs Es_a Fc_a Fv_a As rfl) (fun _ _ q => Nat.le_of_eq (congrArg Array.size q.1.symm)) rfl own_pd12 rfl rfl rfl (by decide) (Nat.le_of_ble_eq_true rfl) (by decide) (by decide) ?_
  rintro v23 T h_ X ⟨eh_, rfl⟩
  rw [eh_] at X
  show own_Ends p e below _ (T.setTop (mkF m 26 #[.val (.ref a), .val (.int (0 : Int32)), .unset, .unset] [(.int (1 : Int32)), (.int (0 : Int32))]))
  refine own_icN X 29 own_d13_26 rfl (XT.ii_ge_f (by decide)) ?_
  refine own_aloadN X 30 (.ref a) own_d13_29 rfl rfl rfl ?_
  refine own_iloadN X 31 (0 : Int32) own_d13_30 rfl rfl ?_
  refine own_callV X 34 [(.int (0 : Int32))] [] own_d13_31 rfl (hw _ (List.mem_of_getElem? (i := 71) rfl)) (hw _ (List.mem_of_getElem? (i := 72) rfl)) (own_nf X.2.2.2.2.1 (hw _ (List.mem_of_getElem? (i := 74) rfl))) (hw _ (List.mem_of_getElem? (i := 74) rfl)) (hw _ (List.mem_of_getElem? (i := 73) rfl)) (hw _ (List.mem_of_getElem? (i := 8) rfl)) (hw _ (List.mem_of_getElem? (i := 75) rfl)) (by decide) Es_a (own_sch l Z a0 hw a (0 : Int32) cs sv ks [(.int (own_b c0))] 0 (own_b c0) fo h0 n0 X.sz OL z_cs hcs z_fo hfo Es_a Fc_a Fv_a As (by decide) (by decide) (show (0 : Int32) < (1 : Int32) by decide) rfl) (fun _ _ q => Nat.le_of_eq (congrArg Array.size q.1.symm)) rfl own_pd13 rfl rfl rfl (by decide) (Nat.le_of_ble_eq_true rfl) (by decide) (by decide) ?_
  rintro v31 T h_ X ⟨eh_, rfl⟩
  rw [eh_] at X
  show own_Ends p e below _ (T.setTop (mkF m 34 #[.val (.ref a), .val (.int (0 : Int32)), .unset, .unset] [(.int (own_c2 (own_b c0)))]))
  rw [own_c2b ok0]
  refine own_istoreN X 35 #[.val (.ref a), .val (.int (0 : Int32)), .val (.int c0), .unset] own_d13_34 rfl rfl ?_
  refine own_turnU X ok0 ?_
  intro z0
  refine own_iinc X 104 (1 : Int32) #[.val (.ref a), .val (.int ((0 : Int32) + (1 : Int32))), .val (.int c0), .val (.int z0)] own_d13_101 rfl rfl rfl rfl ?_
  rw [show (0 : Int32) + (1 : Int32) = (1 : Int32) from by decide]
  refine own_goto X 21 own_d13_104 (by decide) (by decide) ?_
  refine own_iloadN X 22 (1 : Int32) own_d13_21 rfl rfl ?_
  refine own_aloadN X 23 (.ref a) own_d13_22 rfl rfl rfl ?_
  refine own_callV X 26 [] [(.int (1 : Int32))] own_d13_23 rfl (hw _ (List.mem_of_getElem? (i := 61) rfl)) (hw _ (List.mem_of_getElem? (i := 62) rfl)) (own_nf X.2.2.2.2.1 (hw _ (List.mem_of_getElem? (i := 64) rfl))) (hw _ (List.mem_of_getElem? (i := 64) rfl)) (hw _ (List.mem_of_getElem? (i := 63) rfl)) (hw _ (List.mem_of_getElem? (i := 8) rfl)) (hw _ (List.mem_of_getElem? (i := 65) rfl)) (by decide) Es_a (own_slen l Z a0 hw a cs sv ks [(.int (own_b c0))] (1 : Int32) h0 n0 X.sz OL z_cs hcs Es_a Fc_a Fv_a As rfl) (fun _ _ q => Nat.le_of_eq (congrArg Array.size q.1.symm)) rfl own_pd12 rfl rfl rfl (by decide) (Nat.le_of_ble_eq_true rfl) (by decide) (by decide) ?_
  rintro v23 T h_ X ⟨eh_, rfl⟩
  rw [eh_] at X
  show own_Ends p e below _ (T.setTop (mkF m 26 #[.val (.ref a), .val (.int (1 : Int32)), .val (.int c0), .val (.int z0)] [(.int (1 : Int32)), (.int (1 : Int32))]))
  refine own_icY X 107 own_d13_26 (by decide) (by decide) (XT.ii_ge_t (by decide)) ?_
  refine own_iconst X 108 (1 : Int32) own_d13_107 rfl rfl ?_
  exact own_retN X .boolean own_d13_108 rfl (by simp) (by decide) (by decide) (⟨rfl, rfl⟩)
theorem own_d12_0 : decode prog_8_method_2_code 0 = .ok (.aload_n 1, 1) := by decide +kernel
theorem own_d12_1 : decode prog_8_method_2_code 1 = .ok (.invokestatic 7, 3) := by decide +kernel
theorem own_pd14 : parseMethodDescriptor "(Ljava/lang/String;)Z" = some ⟨[(.object "java/lang/String")], some .boolean⟩ := by decide +kernel
theorem own_d12_4 : decode prog_8_method_2_code 4 = .ok (.ifCond .ne 17, 3) := by decide +kernel
theorem own_d12_21 : decode prog_8_method_2_code 21 = .ok (.aload_n 1, 1) := by decide +kernel
theorem own_d12_22 : decode prog_8_method_2_code 22 = .ok (.areturn, 1) := by decide +kernel
theorem own_pn12 : plainFor (⟨"com/example/modgud/modgud/core/Names", "require", "(Ljava/lang/String;Ljava/lang/String;)Ljava/lang/String;"⟩ : MethodName) = true := plainFor_of_name (by first | (simp [plainName, overriddenIn]; done) | decide +kernel)
set_option maxRecDepth 65536 in
set_option maxHeartbeats 40000000 in
theorem own_rq1 (l : Launch) (Z : State) (a0 : Array Value) (hw : ∀ d ∈ tables_1, d.before a0 Z = true) (wh : Addr) (a : Addr) (cs : Int32) (fo : Value) (sv : Addr) (ks : ClassId) (c0 : Int32) (h0 : Heap) (n0 : Nat) (hs0 : n0 ≤ h0.size) (OL : Old Z n0 h0) (z_cs : Sta Z Z.heap "java/lang/String" "COMPACT_STRINGS" "Z" (.int cs)) (hcs : ¬ cs = 0) (z_fo : Sta Z Z.heap "jdk/internal/util/Preconditions" "SIOOBE_FORMATTER" "Ljava/util/function/BiFunction;" fo) (hfo : fo.isRef = true) (Es_a : Exa Z h0 a "java/lang/String") (Fc_a : Fld Z h0 a "java/lang/String" "coder" "B" (.int 0)) (Fv_a : Fld Z h0 a "java/lang/String" "value" "[B" (.ref sv)) (As : own_A Z h0 sv ks .byte [(.int (own_b c0))]) (ok0 : own_ok c0) :
    own_Met l (⟨"com/example/modgud/modgud/core/Names", "require", "(Ljava/lang/String;Ljava/lang/String;)Ljava/lang/String;"⟩ : MethodName) prog_8_method_2_code 2 (some (.object "java/lang/String")) ({ frames := 5, cells := 0, slots := 0, locals := 68 } : Room) Z #[(.ref wh), (.ref a)] h0 n0 (fun v h' => h' = h0 ∧ v = some (.ref a)) := by
  refine own_met (Ls := #[.val (.ref wh), .val (.ref a)]) own_pn12 hs0 (fun m => by first  | (simp [entryFrame, mkF, argsToLocals, Value.category]; done) | rfl) ?_
  intro p e s m below meth c T X
  have hi_sv : h0.size > sv := As.lt
  have hi_a : h0.size > a := Es_a.lt
  refine own_aloadN X 1 (.ref a) own_d12_0 rfl rfl rfl ?_
  refine own_callS X 4 [(.ref a)] [] own_d12_1 rfl (hw _ (List.mem_of_getElem? (i := 53) rfl)) (hw _ (List.mem_of_getElem? (i := 54) rfl)) (hw _ (List.mem_of_getElem? (i := 51) rfl)) (hw _ (List.mem_of_getElem? (i := 55) rfl)) (by decide) (own_isn1 l Z a0 hw a cs fo sv ks c0 h0 n0 X.sz OL z_cs hcs z_fo hfo Es_a Fc_a Fv_a As ok0) (fun _ _ q => Nat.le_of_eq (congrArg Array.size q.1.symm)) rfl own_pd14 rfl rfl rfl (by decide) (Nat.le_of_ble_eq_true rfl) (by decide) (by decide) ?_
  rintro v1 T h_ X ⟨eh_, rfl⟩
  rw [eh_] at X
  show own_Ends p e below _ (T.setTop (mkF m 4 #[.val (.ref wh), .val (.ref a)] [(.int (1 : Int32))]))
  refine own_ifY X 21 own_d12_4 (by decide) (by decide) (XT.i0_ne_t (by decide)) ?_
  refine own_aloadN X 22 (.ref a) own_d12_21 rfl rfl rfl ?_
  exact own_retA X (.object "java/lang/String") own_d12_22 rfl rfl rfl rfl (by decide) (by decide) (⟨rfl, rfl⟩)
set_option maxRecDepth 65536 in
set_option maxHeartbeats 40000000 in
theorem own_isn2 (l : Launch) (Z : State) (a0 : Array Value) (hw : ∀ d ∈ tables_1, d.before a0 Z = true) (a : Addr) (cs : Int32) (fo : Value) (sv : Addr) (ks : ClassId) (c0 : Int32) (c1 : Int32) (h0 : Heap) (n0 : Nat) (hs0 : n0 ≤ h0.size) (OL : Old Z n0 h0) (z_cs : Sta Z Z.heap "java/lang/String" "COMPACT_STRINGS" "Z" (.int cs)) (hcs : ¬ cs = 0) (z_fo : Sta Z Z.heap "jdk/internal/util/Preconditions" "SIOOBE_FORMATTER" "Ljava/util/function/BiFunction;" fo) (hfo : fo.isRef = true) (Es_a : Exa Z h0 a "java/lang/String") (Fc_a : Fld Z h0 a "java/lang/String" "coder" "B" (.int 0)) (Fv_a : Fld Z h0 a "java/lang/String" "value" "[B" (.ref sv)) (As : own_A Z h0 sv ks .byte [(.int (own_b c0)), (.int (own_b c1))]) (ok0 : own_ok c0) (ok1 : own_ok c1) :
    own_Met l (⟨"com/example/modgud/modgud/core/Names", "isName", "(Ljava/lang/String;)Z"⟩ : MethodName) prog_8_method_3_code 4 (some .boolean) ({ frames := 4, cells := 0, slots := 0, locals := 53 } : Room) Z #[(.ref a)] h0 n0 (fun v h' => h' = h0 ∧ v = some (.int (1 : Int32))) := by
  refine own_met (Ls := #[.val (.ref a), .unset, .unset, .unset]) own_pn13 hs0 (fun m => by first  | (simp [entryFrame, mkF, argsToLocals, Value.category]; done) | rfl) ?_
  intro p e s m below meth c T X
  have hi_sv : h0.size > sv := As.lt
  have hi_a : h0.size > a := Es_a.lt
  refine own_aloadN X 1 (.ref a) own_d13_0 rfl rfl rfl ?_
  refine own_callV X 4 [] [] own_d13_1 rfl (hw _ (List.mem_of_getElem? (i := 56) rfl)) (hw _ (List.mem_of_getElem? (i := 57) rfl)) (own_nf X.2.2.2.2.1 (hw _ (List.mem_of_getElem? (i := 59) rfl))) (hw _ (List.mem_of_getElem? (i := 59) rfl)) (hw _ (List.mem_of_getElem? (i := 58) rfl)) (hw _ (List.mem_of_getElem? (i := 8) rfl)) (hw _ (List.mem_of_getElem? (i := 60) rfl)) (by decide) Es_a (own_semp l Z a0 hw a cs sv ks [(.int (own_b c0)), (.int (own_b c1))] h0 n0 X.sz OL z_cs hcs Es_a Fc_a Fv_a As (show ¬ (2 : Int32) = 0 by decide)) (fun _ _ q => Nat.le_of_eq (congrArg Array.size q.1.symm)) rfl own_pd3 rfl rfl rfl (by decide) (Nat.le_of_ble_eq_true rfl) (by decide) (by decide) ?_
  rintro v1 T h_ X ⟨eh_, rfl⟩
  rw [eh_] at X
  show own_Ends p e below _ (T.setTop (mkF m 4 #[.val (.ref a), .unset, .unset, .unset] [(.int (0 : Int32))]))
  refine own_ifN X 7 own_d13_4 rfl (XT.i0_ne_f rfl) ?_
  refine own_aloadN X 8 (.ref a) own_d13_7 rfl rfl rfl ?_
  refine own_callV X 11 [] [] own_d13_8 rfl (hw _ (List.mem_of_getElem? (i := 61) rfl)) (hw _ (List.mem_of_getElem? (i := 62) rfl)) (own_nf X.2.2.2.2.1 (hw _ (List.mem_of_getElem? (i := 64) rfl))) (hw _ (List.mem_of_getElem? (i := 64) rfl)) (hw _ (List.mem_of_getElem? (i := 63) rfl)) (hw _ (List.mem_of_getElem? (i := 8) rfl)) (hw _ (List.mem_of_getElem? (i := 65) rfl)) (by decide) Es_a (own_slen l Z a0 hw a cs sv ks [(.int (own_b c0)), (.int (own_b c1))] (2 : Int32) h0 n0 X.sz OL z_cs hcs Es_a Fc_a Fv_a As rfl) (fun _ _ q => Nat.le_of_eq (congrArg Array.size q.1.symm)) rfl own_pd12 rfl rfl rfl (by decide) (Nat.le_of_ble_eq_true rfl) (by decide) (by decide) ?_
  rintro v8 T h_ X ⟨eh_, rfl⟩
  rw [eh_] at X
  show own_Ends p e below _ (T.setTop (mkF m 11 #[.val (.ref a), .unset, .unset, .unset] [(.int (2 : Int32))]))
  refine own_sipush X 14 (128 : Int32) own_d13_11 rfl (by decide) ?_
  refine own_icY X 19 own_d13_14 (by decide) (by decide) (XT.ii_le_t (by decide)) ?_
  refine own_iconst X 20 (0 : Int32) own_d13_19 rfl rfl ?_
  refine own_istoreN X 21 #[.val (.ref a), .val (.int (0 : Int32)), .unset, .unset] own_d13_20 rfl rfl ?_
  refine own_iloadN X 22 (0 : Int32) own_d13_21 rfl rfl ?_
  refine own_aloadN X 23 (.ref a) own_d13_22 rfl rfl rfl ?_
  refine own_callV X 26 [] [(.int (0 : Int32))] own_d13_23 rfl (hw _ (List.mem_of_getElem? (i := 61) rfl)) (hw _ (List.mem_of_getElem? (i := 62) rfl)) (own_nf X.2.2.2.2.1 (hw _ (List.mem_of_getElem? (i := 64) rfl))) (hw _ (List.mem_of_getElem? (i := 64) rfl)) (hw _ (List.mem_of_getElem? (i := 63) rfl)) (hw _ (List.mem_of_getElem? (i := 8) rfl)) (hw _ (List.mem_of_getElem? (i := 65) rfl)) (by decide) Es_a (own_slen l Z a0 hw a cs sv ks [(.int (own_b c0)), (.int (own_b c1))] (2 : Int32) h0 n0 X.sz OL z_cs hcs Es_a Fc_a Fv_a As rfl) (fun _ _ q => Nat.le_of_eq (congrArg Array.size q.1.symm)) rfl own_pd12 rfl rfl rfl (by decide) (Nat.le_of_ble_eq_true rfl) (by decide) (by decide) ?_
  rintro v23 T h_ X ⟨eh_, rfl⟩
  rw [eh_] at X
  show own_Ends p e below _ (T.setTop (mkF m 26 #[.val (.ref a), .val (.int (0 : Int32)), .unset, .unset] [(.int (2 : Int32)), (.int (0 : Int32))]))
  refine own_icN X 29 own_d13_26 rfl (XT.ii_ge_f (by decide)) ?_
  refine own_aloadN X 30 (.ref a) own_d13_29 rfl rfl rfl ?_
  refine own_iloadN X 31 (0 : Int32) own_d13_30 rfl rfl ?_
  refine own_callV X 34 [(.int (0 : Int32))] [] own_d13_31 rfl (hw _ (List.mem_of_getElem? (i := 71) rfl)) (hw _ (List.mem_of_getElem? (i := 72) rfl)) (own_nf X.2.2.2.2.1 (hw _ (List.mem_of_getElem? (i := 74) rfl))) (hw _ (List.mem_of_getElem? (i := 74) rfl)) (hw _ (List.mem_of_getElem? (i := 73) rfl)) (hw _ (List.mem_of_getElem? (i := 8) rfl)) (hw _ (List.mem_of_getElem? (i := 75) rfl)) (by decide) Es_a (own_sch l Z a0 hw a (0 : Int32) cs sv ks [(.int (own_b c0)), (.int (own_b c1))] 0 (own_b c0) fo h0 n0 X.sz OL z_cs hcs z_fo hfo Es_a Fc_a Fv_a As (by decide) (by decide) (show (0 : Int32) < (2 : Int32) by decide) rfl) (fun _ _ q => Nat.le_of_eq (congrArg Array.size q.1.symm)) rfl own_pd13 rfl rfl rfl (by decide) (Nat.le_of_ble_eq_true rfl) (by decide) (by decide) ?_
  rintro v31 T h_ X ⟨eh_, rfl⟩
  rw [eh_] at X
  show own_Ends p e below _ (T.setTop (mkF m 34 #[.val (.ref a), .val (.int (0 : Int32)), .unset, .unset] [(.int (own_c2 (own_b c0)))]))
  rw [own_c2b ok0]
  refine own_istoreN X 35 #[.val (.ref a), .val (.int (0 : Int32)), .val (.int c0), .unset] own_d13_34 rfl rfl ?_
  refine own_turnU X ok0 ?_
  intro z0
  refine own_iinc X 104 (1 : Int32) #[.val (.ref a), .val (.int ((0 : Int32) + (1 : Int32))), .val (.int c0), .val (.int z0)] own_d13_101 rfl rfl rfl rfl ?_
  rw [show (0 : Int32) + (1 : Int32) = (1 : Int32) from by decide]
  refine own_goto X 21 own_d13_104 (by decide) (by decide) ?_
  refine own_iloadN X 22 (1 : Int32) own_d13_21 rfl rfl ?_
  refine own_aloadN X 23 (.ref a) own_d13_22 rfl rfl rfl ?_
  refine own_callV X 26 [] [(.int (1 : Int32))] own_d13_23 rfl (hw _ (List.mem_of_getElem? (i := 61) rfl)) (hw _ (List.mem_of_getElem? (i := 62) rfl)) (own_nf X.2.2.2.2.1 (hw _ (List.mem_of_getElem? (i := 64) rfl))) (hw _ (List.mem_of_getElem? (i := 64) rfl)) (hw _ (List.mem_of_getElem? (i := 63) rfl)) (hw _ (List.mem_of_getElem? (i := 8) rfl)) (hw _ (List.mem_of_getElem? (i := 65) rfl)) (by decide) Es_a (own_slen l Z a0 hw a cs sv ks [(.int (own_b c0)), (.int (own_b c1))] (2 : Int32) h0 n0 X.sz OL z_cs hcs Es_a Fc_a Fv_a As rfl) (fun _ _ q => Nat.le_of_eq (congrArg Array.size q.1.symm)) rfl own_pd12 rfl rfl rfl (by decide) (Nat.le_of_ble_eq_true rfl) (by decide) (by decide) ?_
  rintro v23 T h_ X ⟨eh_, rfl⟩
  rw [eh_] at X
  show own_Ends p e below _ (T.setTop (mkF m 26 #[.val (.ref a), .val (.int (1 : Int32)), .val (.int c0), .val (.int z0)] [(.int (2 : Int32)), (.int (1 : Int32))]))
  refine own_icN X 29 own_d13_26 rfl (XT.ii_ge_f (by decide)) ?_
  refine own_aloadN X 30 (.ref a) own_d13_29 rfl rfl rfl ?_
  refine own_iloadN X 31 (1 : Int32) own_d13_30 rfl rfl ?_
  refine own_callV X 34 [(.int (1 : Int32))] [] own_d13_31 rfl (hw _ (List.mem_of_getElem? (i := 71) rfl)) (hw _ (List.mem_of_getElem? (i := 72) rfl)) (own_nf X.2.2.2.2.1 (hw _ (List.mem_of_getElem? (i := 74) rfl))) (hw _ (List.mem_of_getElem? (i := 74) rfl)) (hw _ (List.mem_of_getElem? (i := 73) rfl)) (hw _ (List.mem_of_getElem? (i := 8) rfl)) (hw _ (List.mem_of_getElem? (i := 75) rfl)) (by decide) Es_a (own_sch l Z a0 hw a (1 : Int32) cs sv ks [(.int (own_b c0)), (.int (own_b c1))] 1 (own_b c1) fo h0 n0 X.sz OL z_cs hcs z_fo hfo Es_a Fc_a Fv_a As (by decide) (by decide) (show (1 : Int32) < (2 : Int32) by decide) rfl) (fun _ _ q => Nat.le_of_eq (congrArg Array.size q.1.symm)) rfl own_pd13 rfl rfl rfl (by decide) (Nat.le_of_ble_eq_true rfl) (by decide) (by decide) ?_
  rintro v31 T h_ X ⟨eh_, rfl⟩
  rw [eh_] at X
  show own_Ends p e below _ (T.setTop (mkF m 34 #[.val (.ref a), .val (.int (1 : Int32)), .val (.int c0), .val (.int z0)] [(.int (own_c2 (own_b c1)))]))
  rw [own_c2b ok1]
  refine own_istoreN X 35 #[.val (.ref a), .val (.int (1 : Int32)), .val (.int c1), .val (.int z0)] own_d13_34 rfl rfl ?_
  refine own_turnV X ok1 ?_
  intro z1
  refine own_iinc X 104 (1 : Int32) #[.val (.ref a), .val (.int ((1 : Int32) + (1 : Int32))), .val (.int c1), .val (.int z1)] own_d13_101 rfl rfl rfl rfl ?_
  rw [show (1 : Int32) + (1 : Int32) = (2 : Int32) from by decide]
  refine own_goto X 21 own_d13_104 (by decide) (by decide) ?_
  refine own_iloadN X 22 (2 : Int32) own_d13_21 rfl rfl ?_
  refine own_aloadN X 23 (.ref a) own_d13_22 rfl rfl rfl ?_
  refine own_callV X 26 [] [(.int (2 : Int32))] own_d13_23 rfl (hw _ (List.mem_of_getElem? (i := 61) rfl)) (hw _ (List.mem_of_getElem? (i := 62) rfl)) (own_nf X.2.2.2.2.1 (hw _ (List.mem_of_getElem? (i := 64) rfl))) (hw _ (List.mem_of_getElem? (i := 64) rfl)) (hw _ (List.mem_of_getElem? (i := 63) rfl)) (hw _ (List.mem_of_getElem? (i := 8) rfl)) (hw _ (List.mem_of_getElem? (i := 65) rfl)) (by decide) Es_a (own_slen l Z a0 hw a cs sv ks [(.int (own_b c0)), (.int (own_b c1))] (2 : Int32) h0 n0 X.sz OL z_cs hcs Es_a Fc_a Fv_a As rfl) (fun _ _ q => Nat.le_of_eq (congrArg Array.size q.1.symm)) rfl own_pd12 rfl rfl rfl (by decide) (Nat.le_of_ble_eq_true rfl) (by decide) (by decide) ?_
  rintro v23 T h_ X ⟨eh_, rfl⟩
  rw [eh_] at X
  show own_Ends p e below _ (T.setTop (mkF m 26 #[.val (.ref a), .val (.int (2 : Int32)), .val (.int c1), .val (.int z1)] [(.int (2 : Int32)), (.int (2 : Int32))]))
  refine own_icY X 107 own_d13_26 (by decide) (by decide) (XT.ii_ge_t (by decide)) ?_
  refine own_iconst X 108 (1 : Int32) own_d13_107 rfl rfl ?_
  exact own_retN X .boolean own_d13_108 rfl (by simp) (by decide) (by decide) (⟨rfl, rfl⟩)
set_option maxRecDepth 65536 in
set_option maxHeartbeats 40000000 in
theorem own_rq2 (l : Launch) (Z : State) (a0 : Array Value) (hw : ∀ d ∈ tables_1, d.before a0 Z = true) (wh : Addr) (a : Addr) (cs : Int32) (fo : Value) (sv : Addr) (ks : ClassId) (c0 : Int32) (c1 : Int32) (h0 : Heap) (n0 : Nat) (hs0 : n0 ≤ h0.size) (OL : Old Z n0 h0) (z_cs : Sta Z Z.heap "java/lang/String" "COMPACT_STRINGS" "Z" (.int cs)) (hcs : ¬ cs = 0) (z_fo : Sta Z Z.heap "jdk/internal/util/Preconditions" "SIOOBE_FORMATTER" "Ljava/util/function/BiFunction;" fo) (hfo : fo.isRef = true) (Es_a : Exa Z h0 a "java/lang/String") (Fc_a : Fld Z h0 a "java/lang/String" "coder" "B" (.int 0)) (Fv_a : Fld Z h0 a "java/lang/String" "value" "[B" (.ref sv)) (As : own_A Z h0 sv ks .byte [(.int (own_b c0)), (.int (own_b c1))]) (ok0 : own_ok c0) (ok1 : own_ok c1) :
    own_Met l (⟨"com/example/modgud/modgud/core/Names", "require", "(Ljava/lang/String;Ljava/lang/String;)Ljava/lang/String;"⟩ : MethodName) prog_8_method_2_code 2 (some (.object "java/lang/String")) ({ frames := 5, cells := 0, slots := 0, locals := 68 } : Room) Z #[(.ref wh), (.ref a)] h0 n0 (fun v h' => h' = h0 ∧ v = some (.ref a)) := by
  refine own_met (Ls := #[.val (.ref wh), .val (.ref a)]) own_pn12 hs0 (fun m => by first  | (simp [entryFrame, mkF, argsToLocals, Value.category]; done) | rfl) ?_
  intro p e s m below meth c T X
  have hi_sv : h0.size > sv := As.lt
  have hi_a : h0.size > a := Es_a.lt
  refine own_aloadN X 1 (.ref a) own_d12_0 rfl rfl rfl ?_
  refine own_callS X 4 [(.ref a)] [] own_d12_1 rfl (hw _ (List.mem_of_getElem? (i := 53) rfl)) (hw _ (List.mem_of_getElem? (i := 54) rfl)) (hw _ (List.mem_of_getElem? (i := 51) rfl)) (hw _ (List.mem_of_getElem? (i := 55) rfl)) (by decide) (own_isn2 l Z a0 hw a cs fo sv ks c0 c1 h0 n0 X.sz OL z_cs hcs z_fo hfo Es_a Fc_a Fv_a As ok0 ok1) (fun _ _ q => Nat.le_of_eq (congrArg Array.size q.1.symm)) rfl own_pd14 rfl rfl rfl (by decide) (Nat.le_of_ble_eq_true rfl) (by decide) (by decide) ?_
  rintro v1 T h_ X ⟨eh_, rfl⟩
  rw [eh_] at X
  show own_Ends p e below _ (T.setTop (mkF m 4 #[.val (.ref wh), .val (.ref a)] [(.int (1 : Int32))]))
  refine own_ifY X 21 own_d12_4 (by decide) (by decide) (XT.i0_ne_t (by decide)) ?_
  refine own_aloadN X 22 (.ref a) own_d12_21 rfl rfl rfl ?_
  exact own_retA X (.object "java/lang/String") own_d12_22 rfl rfl rfl rfl (by decide) (by decide) (⟨rfl, rfl⟩)
set_option maxRecDepth 65536 in
set_option maxHeartbeats 40000000 in
theorem own_isn3 (l : Launch) (Z : State) (a0 : Array Value) (hw : ∀ d ∈ tables_1, d.before a0 Z = true) (a : Addr) (cs : Int32) (fo : Value) (sv : Addr) (ks : ClassId) (c0 : Int32) (c1 : Int32) (c2 : Int32) (h0 : Heap) (n0 : Nat) (hs0 : n0 ≤ h0.size) (OL : Old Z n0 h0) (z_cs : Sta Z Z.heap "java/lang/String" "COMPACT_STRINGS" "Z" (.int cs)) (hcs : ¬ cs = 0) (z_fo : Sta Z Z.heap "jdk/internal/util/Preconditions" "SIOOBE_FORMATTER" "Ljava/util/function/BiFunction;" fo) (hfo : fo.isRef = true) (Es_a : Exa Z h0 a "java/lang/String") (Fc_a : Fld Z h0 a "java/lang/String" "coder" "B" (.int 0)) (Fv_a : Fld Z h0 a "java/lang/String" "value" "[B" (.ref sv)) (As : own_A Z h0 sv ks .byte [(.int (own_b c0)), (.int (own_b c1)), (.int (own_b c2))]) (ok0 : own_ok c0) (ok1 : own_ok c1) (ok2 : own_ok c2) :
    own_Met l (⟨"com/example/modgud/modgud/core/Names", "isName", "(Ljava/lang/String;)Z"⟩ : MethodName) prog_8_method_3_code 4 (some .boolean) ({ frames := 4, cells := 0, slots := 0, locals := 53 } : Room) Z #[(.ref a)] h0 n0 (fun v h' => h' = h0 ∧ v = some (.int (1 : Int32))) := by
  refine own_met (Ls := #[.val (.ref a), .unset, .unset, .unset]) own_pn13 hs0 (fun m => by first  | (simp [entryFrame, mkF, argsToLocals, Value.category]; done) | rfl) ?_
  intro p e s m below meth c T X
  have hi_sv : h0.size > sv := As.lt
  have hi_a : h0.size > a := Es_a.lt
  refine own_aloadN X 1 (.ref a) own_d13_0 rfl rfl rfl ?_
  refine own_callV X 4 [] [] own_d13_1 rfl (hw _ (List.mem_of_getElem? (i := 56) rfl)) (hw _ (List.mem_of_getElem? (i := 57) rfl)) (own_nf X.2.2.2.2.1 (hw _ (List.mem_of_getElem? (i := 59) rfl))) (hw _ (List.mem_of_getElem? (i := 59) rfl)) (hw _ (List.mem_of_getElem? (i := 58) rfl)) (hw _ (List.mem_of_getElem? (i := 8) rfl)) (hw _ (List.mem_of_getElem? (i := 60) rfl)) (by decide) Es_a (own_semp l Z a0 hw a cs sv ks [(.int (own_b c0)), (.int (own_b c1)), (.int (own_b c2))] h0 n0 X.sz OL z_cs hcs Es_a Fc_a Fv_a As (show ¬ (3 : Int32) = 0 by decide)) (fun _ _ q => Nat.le_of_eq (congrArg Array.size q.1.symm)) rfl own_pd3 rfl rfl rfl (by decide) (Nat.le_of_ble_eq_true rfl) (by decide) (by decide) ?_
  rintro v1 T h_ X ⟨eh_, rfl⟩
  rw [eh_] at X
  show own_Ends p e below _ (T.setTop (mkF m 4 #[.val (.ref a), .unset, .unset, .unset] [(.int (0 : Int32))]))
  refine own_ifN X 7 own_d13_4 rfl (XT.i0_ne_f rfl) ?_
  refine own_aloadN X 8 (.ref a) own_d13_7 rfl rfl rfl ?_
  refine own_callV X 11 [] [] own_d13_8 rfl (hw _ (List.mem_of_getElem? (i := 61) rfl)) (hw _ (List.mem_of_getElem? (i := 62) rfl)) (own_nf X.2.2.2.2.1 (hw _ (List.mem_of_getElem? (i := 64) rfl))) (hw _ (List.mem_of_getElem? (i := 64) rfl)) (hw _ (List.mem_of_getElem? (i := 63) rfl)) (hw _ (List.mem_of_getElem? (i := 8) rfl)) (hw _ (List.mem_of_getElem? (i := 65) rfl)) (by decide) Es_a (own_slen l Z a0 hw a cs sv ks [(.int (own_b c0)), (.int (own_b c1)), (.int (own_b c2))] (3 : Int32) h0 n0 X.sz OL z_cs hcs Es_a Fc_a Fv_a As rfl) (fun _ _ q => Nat.le_of_eq (congrArg Array.size q.1.symm)) rfl own_pd12 rfl rfl rfl (by decide) (Nat.le_of_ble_eq_true rfl) (by decide) (by decide) ?_
  rintro v8 T h_ X ⟨eh_, rfl⟩
  rw [eh_] at X
  show own_Ends p e below _ (T.setTop (mkF m 11 #[.val (.ref a), .unset, .unset, .unset] [(.int (3 : Int32))]))
  refine own_sipush X 14 (128 : Int32) own_d13_11 rfl (by decide) ?_
  refine own_icY X 19 own_d13_14 (by decide) (by decide) (XT.ii_le_t (by decide)) ?_
  refine own_iconst X 20 (0 : Int32) own_d13_19 rfl rfl ?_
  refine own_istoreN X 21 #[.val (.ref a), .val (.int (0 : Int32)), .unset, .unset] own_d13_20 rfl rfl ?_
  refine own_iloadN X 22 (0 : Int32) own_d13_21 rfl rfl ?_
  refine own_aloadN X 23 (.ref a) own_d13_22 rfl rfl rfl ?_
  refine own_callV X 26 [] [(.int (0 : Int32))] own_d13_23 rfl (hw _ (List.mem_of_getElem? (i := 61) rfl)) (hw _ (List.mem_of_getElem? (i := 62) rfl)) (own_nf X.2.2.2.2.1 (hw _ (List.mem_of_getElem? (i := 64) rfl))) (hw _ (List.mem_of_getElem? (i := 64) rfl)) (hw _ (List.mem_of_getElem? (i := 63) rfl)) (hw _ (List.mem_of_getElem? (i := 8) rfl)) (hw _ (List.mem_of_getElem? (i := 65) rfl)) (by decide) Es_a (own_slen l Z a0 hw a cs sv ks [(.int (own_b c0)), (.int (own_b c1)), (.int (own_b c2))] (3 : Int32) h0 n0 X.sz OL z_cs hcs Es_a Fc_a Fv_a As rfl) (fun _ _ q => Nat.le_of_eq (congrArg Array.size q.1.symm)) rfl own_pd12 rfl rfl rfl (by decide) (Nat.le_of_ble_eq_true rfl) (by decide) (by decide) ?_
  rintro v23 T h_ X ⟨eh_, rfl⟩
  rw [eh_] at X
  show own_Ends p e below _ (T.setTop (mkF m 26 #[.val (.ref a), .val (.int (0 : Int32)), .unset, .unset] [(.int (3 : Int32)), (.int (0 : Int32))]))
  refine own_icN X 29 own_d13_26 rfl (XT.ii_ge_f (by decide)) ?_
  refine own_aloadN X 30 (.ref a) own_d13_29 rfl rfl rfl ?_
  refine own_iloadN X 31 (0 : Int32) own_d13_30 rfl rfl ?_
  refine own_callV X 34 [(.int (0 : Int32))] [] own_d13_31 rfl (hw _ (List.mem_of_getElem? (i := 71) rfl)) (hw _ (List.mem_of_getElem? (i := 72) rfl)) (own_nf X.2.2.2.2.1 (hw _ (List.mem_of_getElem? (i := 74) rfl))) (hw _ (List.mem_of_getElem? (i := 74) rfl)) (hw _ (List.mem_of_getElem? (i := 73) rfl)) (hw _ (List.mem_of_getElem? (i := 8) rfl)) (hw _ (List.mem_of_getElem? (i := 75) rfl)) (by decide) Es_a (own_sch l Z a0 hw a (0 : Int32) cs sv ks [(.int (own_b c0)), (.int (own_b c1)), (.int (own_b c2))] 0 (own_b c0) fo h0 n0 X.sz OL z_cs hcs z_fo hfo Es_a Fc_a Fv_a As (by decide) (by decide) (show (0 : Int32) < (3 : Int32) by decide) rfl) (fun _ _ q => Nat.le_of_eq (congrArg Array.size q.1.symm)) rfl own_pd13 rfl rfl rfl (by decide) (Nat.le_of_ble_eq_true rfl) (by decide) (by decide) ?_
  rintro v31 T h_ X ⟨eh_, rfl⟩
  rw [eh_] at X
  show own_Ends p e below _ (T.setTop (mkF m 34 #[.val (.ref a), .val (.int (0 : Int32)), .unset, .unset] [(.int (own_c2 (own_b c0)))]))
  rw [own_c2b ok0]
  refine own_istoreN X 35 #[.val (.ref a), .val (.int (0 : Int32)), .val (.int c0), .unset] own_d13_34 rfl rfl ?_
  refine own_turnU X ok0 ?_
  intro z0
  refine own_iinc X 104 (1 : Int32) #[.val (.ref a), .val (.int ((0 : Int32) + (1 : Int32))), .val (.int c0), .val (.int z0)] own_d13_101 rfl rfl rfl rfl ?_
  rw [show (0 : Int32) + (1 : Int32) = (1 : Int32) from by decide]
  refine own_goto X 21 own_d13_104 (by decide) (by decide) ?_
  refine own_iloadN X 22 (1 : Int32) own_d13_21 rfl rfl ?_
  refine own_aloadN X 23 (.ref a) own_d13_22 rfl rfl rfl ?_
  refine own_callV X 26 [] [(.int (1 : Int32))] own_d13_23 rfl (hw _ (List.mem_of_getElem? (i := 61) rfl)) (hw _ (List.mem_of_getElem? (i := 62) rfl)) (own_nf X.2.2.2.2.1 (hw _ (List.mem_of_getElem? (i := 64) rfl))) (hw _ (List.mem_of_getElem? (i := 64) rfl)) (hw _ (List.mem_of_getElem? (i := 63) rfl)) (hw _ (List.mem_of_getElem? (i := 8) rfl)) (hw _ (List.mem_of_getElem? (i := 65) rfl)) (by decide) Es_a (own_slen l Z a0 hw a cs sv ks [(.int (own_b c0)), (.int (own_b c1)), (.int (own_b c2))] (3 : Int32) h0 n0 X.sz OL z_cs hcs Es_a Fc_a Fv_a As rfl) (fun _ _ q => Nat.le_of_eq (congrArg Array.size q.1.symm)) rfl own_pd12 rfl rfl rfl (by decide) (Nat.le_of_ble_eq_true rfl) (by decide) (by decide) ?_
  rintro v23 T h_ X ⟨eh_, rfl⟩
  rw [eh_] at X
  show own_Ends p e below _ (T.setTop (mkF m 26 #[.val (.ref a), .val (.int (1 : Int32)), .val (.int c0), .val (.int z0)] [(.int (3 : Int32)), (.int (1 : Int32))]))
  refine own_icN X 29 own_d13_26 rfl (XT.ii_ge_f (by decide)) ?_
  refine own_aloadN X 30 (.ref a) own_d13_29 rfl rfl rfl ?_
  refine own_iloadN X 31 (1 : Int32) own_d13_30 rfl rfl ?_
  refine own_callV X 34 [(.int (1 : Int32))] [] own_d13_31 rfl (hw _ (List.mem_of_getElem? (i := 71) rfl)) (hw _ (List.mem_of_getElem? (i := 72) rfl)) (own_nf X.2.2.2.2.1 (hw _ (List.mem_of_getElem? (i := 74) rfl))) (hw _ (List.mem_of_getElem? (i := 74) rfl)) (hw _ (List.mem_of_getElem? (i := 73) rfl)) (hw _ (List.mem_of_getElem? (i := 8) rfl)) (hw _ (List.mem_of_getElem? (i := 75) rfl)) (by decide) Es_a (own_sch l Z a0 hw a (1 : Int32) cs sv ks [(.int (own_b c0)), (.int (own_b c1)), (.int (own_b c2))] 1 (own_b c1) fo h0 n0 X.sz OL z_cs hcs z_fo hfo Es_a Fc_a Fv_a As (by decide) (by decide) (show (1 : Int32) < (3 : Int32) by decide) rfl) (fun _ _ q => Nat.le_of_eq (congrArg Array.size q.1.symm)) rfl own_pd13 rfl rfl rfl (by decide) (Nat.le_of_ble_eq_true rfl) (by decide) (by decide) ?_
  rintro v31 T h_ X ⟨eh_, rfl⟩
  rw [eh_] at X
  show own_Ends p e below _ (T.setTop (mkF m 34 #[.val (.ref a), .val (.int (1 : Int32)), .val (.int c0), .val (.int z0)] [(.int (own_c2 (own_b c1)))]))
  rw [own_c2b ok1]
  refine own_istoreN X 35 #[.val (.ref a), .val (.int (1 : Int32)), .val (.int c1), .val (.int z0)] own_d13_34 rfl rfl ?_
  refine own_turnV X ok1 ?_
  intro z1
  refine own_iinc X 104 (1 : Int32) #[.val (.ref a), .val (.int ((1 : Int32) + (1 : Int32))), .val (.int c1), .val (.int z1)] own_d13_101 rfl rfl rfl rfl ?_
  rw [show (1 : Int32) + (1 : Int32) = (2 : Int32) from by decide]
  refine own_goto X 21 own_d13_104 (by decide) (by decide) ?_
  refine own_iloadN X 22 (2 : Int32) own_d13_21 rfl rfl ?_
  refine own_aloadN X 23 (.ref a) own_d13_22 rfl rfl rfl ?_
  refine own_callV X 26 [] [(.int (2 : Int32))] own_d13_23 rfl (hw _ (List.mem_of_getElem? (i := 61) rfl)) (hw _ (List.mem_of_getElem? (i := 62) rfl)) (own_nf X.2.2.2.2.1 (hw _ (List.mem_of_getElem? (i := 64) rfl))) (hw _ (List.mem_of_getElem? (i := 64) rfl)) (hw _ (List.mem_of_getElem? (i := 63) rfl)) (hw _ (List.mem_of_getElem? (i := 8) rfl)) (hw _ (List.mem_of_getElem? (i := 65) rfl)) (by decide) Es_a (own_slen l Z a0 hw a cs sv ks [(.int (own_b c0)), (.int (own_b c1)), (.int (own_b c2))] (3 : Int32) h0 n0 X.sz OL z_cs hcs Es_a Fc_a Fv_a As rfl) (fun _ _ q => Nat.le_of_eq (congrArg Array.size q.1.symm)) rfl own_pd12 rfl rfl rfl (by decide) (Nat.le_of_ble_eq_true rfl) (by decide) (by decide) ?_
  rintro v23 T h_ X ⟨eh_, rfl⟩
  rw [eh_] at X
  show own_Ends p e below _ (T.setTop (mkF m 26 #[.val (.ref a), .val (.int (2 : Int32)), .val (.int c1), .val (.int z1)] [(.int (3 : Int32)), (.int (2 : Int32))]))
  refine own_icN X 29 own_d13_26 rfl (XT.ii_ge_f (by decide)) ?_
  refine own_aloadN X 30 (.ref a) own_d13_29 rfl rfl rfl ?_
  refine own_iloadN X 31 (2 : Int32) own_d13_30 rfl rfl ?_
  refine own_callV X 34 [(.int (2 : Int32))] [] own_d13_31 rfl (hw _ (List.mem_of_getElem? (i := 71) rfl)) (hw _ (List.mem_of_getElem? (i := 72) rfl)) (own_nf X.2.2.2.2.1 (hw _ (List.mem_of_getElem? (i := 74) rfl))) (hw _ (List.mem_of_getElem? (i := 74) rfl)) (hw _ (List.mem_of_getElem? (i := 73) rfl)) (hw _ (List.mem_of_getElem? (i := 8) rfl)) (hw _ (List.mem_of_getElem? (i := 75) rfl)) (by decide) Es_a (own_sch l Z a0 hw a (2 : Int32) cs sv ks [(.int (own_b c0)), (.int (own_b c1)), (.int (own_b c2))] 2 (own_b c2) fo h0 n0 X.sz OL z_cs hcs z_fo hfo Es_a Fc_a Fv_a As (by decide) (by decide) (show (2 : Int32) < (3 : Int32) by decide) rfl) (fun _ _ q => Nat.le_of_eq (congrArg Array.size q.1.symm)) rfl own_pd13 rfl rfl rfl (by decide) (Nat.le_of_ble_eq_true rfl) (by decide) (by decide) ?_
  rintro v31 T h_ X ⟨eh_, rfl⟩
  rw [eh_] at X
  show own_Ends p e below _ (T.setTop (mkF m 34 #[.val (.ref a), .val (.int (2 : Int32)), .val (.int c1), .val (.int z1)] [(.int (own_c2 (own_b c2)))]))
  rw [own_c2b ok2]
  refine own_istoreN X 35 #[.val (.ref a), .val (.int (2 : Int32)), .val (.int c2), .val (.int z1)] own_d13_34 rfl rfl ?_
  refine own_turnV X ok2 ?_
  intro z2
  refine own_iinc X 104 (1 : Int32) #[.val (.ref a), .val (.int ((2 : Int32) + (1 : Int32))), .val (.int c2), .val (.int z2)] own_d13_101 rfl rfl rfl rfl ?_
  rw [show (2 : Int32) + (1 : Int32) = (3 : Int32) from by decide]
  refine own_goto X 21 own_d13_104 (by decide) (by decide) ?_
  refine own_iloadN X 22 (3 : Int32) own_d13_21 rfl rfl ?_
  refine own_aloadN X 23 (.ref a) own_d13_22 rfl rfl rfl ?_
  refine own_callV X 26 [] [(.int (3 : Int32))] own_d13_23 rfl (hw _ (List.mem_of_getElem? (i := 61) rfl)) (hw _ (List.mem_of_getElem? (i := 62) rfl)) (own_nf X.2.2.2.2.1 (hw _ (List.mem_of_getElem? (i := 64) rfl))) (hw _ (List.mem_of_getElem? (i := 64) rfl)) (hw _ (List.mem_of_getElem? (i := 63) rfl)) (hw _ (List.mem_of_getElem? (i := 8) rfl)) (hw _ (List.mem_of_getElem? (i := 65) rfl)) (by decide) Es_a (own_slen l Z a0 hw a cs sv ks [(.int (own_b c0)), (.int (own_b c1)), (.int (own_b c2))] (3 : Int32) h0 n0 X.sz OL z_cs hcs Es_a Fc_a Fv_a As rfl) (fun _ _ q => Nat.le_of_eq (congrArg Array.size q.1.symm)) rfl own_pd12 rfl rfl rfl (by decide) (Nat.le_of_ble_eq_true rfl) (by decide) (by decide) ?_
  rintro v23 T h_ X ⟨eh_, rfl⟩
  rw [eh_] at X
  show own_Ends p e below _ (T.setTop (mkF m 26 #[.val (.ref a), .val (.int (3 : Int32)), .val (.int c2), .val (.int z2)] [(.int (3 : Int32)), (.int (3 : Int32))]))
  refine own_icY X 107 own_d13_26 (by decide) (by decide) (XT.ii_ge_t (by decide)) ?_
  refine own_iconst X 108 (1 : Int32) own_d13_107 rfl rfl ?_
  exact own_retN X .boolean own_d13_108 rfl (by simp) (by decide) (by decide) (⟨rfl, rfl⟩)
set_option maxRecDepth 65536 in
set_option maxHeartbeats 40000000 in
theorem own_rq3 (l : Launch) (Z : State) (a0 : Array Value) (hw : ∀ d ∈ tables_1, d.before a0 Z = true) (wh : Addr) (a : Addr) (cs : Int32) (fo : Value) (sv : Addr) (ks : ClassId) (c0 : Int32) (c1 : Int32) (c2 : Int32) (h0 : Heap) (n0 : Nat) (hs0 : n0 ≤ h0.size) (OL : Old Z n0 h0) (z_cs : Sta Z Z.heap "java/lang/String" "COMPACT_STRINGS" "Z" (.int cs)) (hcs : ¬ cs = 0) (z_fo : Sta Z Z.heap "jdk/internal/util/Preconditions" "SIOOBE_FORMATTER" "Ljava/util/function/BiFunction;" fo) (hfo : fo.isRef = true) (Es_a : Exa Z h0 a "java/lang/String") (Fc_a : Fld Z h0 a "java/lang/String" "coder" "B" (.int 0)) (Fv_a : Fld Z h0 a "java/lang/String" "value" "[B" (.ref sv)) (As : own_A Z h0 sv ks .byte [(.int (own_b c0)), (.int (own_b c1)), (.int (own_b c2))]) (ok0 : own_ok c0) (ok1 : own_ok c1) (ok2 : own_ok c2) :
    own_Met l (⟨"com/example/modgud/modgud/core/Names", "require", "(Ljava/lang/String;Ljava/lang/String;)Ljava/lang/String;"⟩ : MethodName) prog_8_method_2_code 2 (some (.object "java/lang/String")) ({ frames := 5, cells := 0, slots := 0, locals := 68 } : Room) Z #[(.ref wh), (.ref a)] h0 n0 (fun v h' => h' = h0 ∧ v = some (.ref a)) := by
  refine own_met (Ls := #[.val (.ref wh), .val (.ref a)]) own_pn12 hs0 (fun m => by first  | (simp [entryFrame, mkF, argsToLocals, Value.category]; done) | rfl) ?_
  intro p e s m below meth c T X
  have hi_sv : h0.size > sv := As.lt
  have hi_a : h0.size > a := Es_a.lt
  refine own_aloadN X 1 (.ref a) own_d12_0 rfl rfl rfl ?_
  refine own_callS X 4 [(.ref a)] [] own_d12_1 rfl (hw _ (List.mem_of_getElem? (i := 53) rfl)) (hw _ (List.mem_of_getElem? (i := 54) rfl)) (hw _ (List.mem_of_getElem? (i := 51) rfl)) (hw _ (List.mem_of_getElem? (i := 55) rfl)) (by decide) (own_isn3 l Z a0 hw a cs fo sv ks c0 c1 c2 h0 n0 X.sz OL z_cs hcs z_fo hfo Es_a Fc_a Fv_a As ok0 ok1 ok2) (fun _ _ q => Nat.le_of_eq (congrArg Array.size q.1.symm)) rfl own_pd14 rfl rfl rfl (by decide) (Nat.le_of_ble_eq_true rfl) (by decide) (by decide) ?_
  rintro v1 T h_ X ⟨eh_, rfl⟩
  rw [eh_] at X
  show own_Ends p e below _ (T.setTop (mkF m 4 #[.val (.ref wh), .val (.ref a)] [(.int (1 : Int32))]))
  refine own_ifY X 21 own_d12_4 (by decide) (by decide) (XT.i0_ne_t (by decide)) ?_
  refine own_aloadN X 22 (.ref a) own_d12_21 rfl rfl rfl ?_
  exact own_retA X (.object "java/lang/String") own_d12_22 rfl rfl rfl rfl (by decide) (by decide) (⟨rfl, rfl⟩)
set_option maxRecDepth 65536 in
set_option maxHeartbeats 40000000 in
theorem own_isn4 (l : Launch) (Z : State) (a0 : Array Value) (hw : ∀ d ∈ tables_1, d.before a0 Z = true) (a : Addr) (cs : Int32) (fo : Value) (sv : Addr) (ks : ClassId) (c0 : Int32) (c1 : Int32) (c2 : Int32) (c3 : Int32) (h0 : Heap) (n0 : Nat) (hs0 : n0 ≤ h0.size) (OL : Old Z n0 h0) (z_cs : Sta Z Z.heap "java/lang/String" "COMPACT_STRINGS" "Z" (.int cs)) (hcs : ¬ cs = 0) (z_fo : Sta Z Z.heap "jdk/internal/util/Preconditions" "SIOOBE_FORMATTER" "Ljava/util/function/BiFunction;" fo) (hfo : fo.isRef = true) (Es_a : Exa Z h0 a "java/lang/String") (Fc_a : Fld Z h0 a "java/lang/String" "coder" "B" (.int 0)) (Fv_a : Fld Z h0 a "java/lang/String" "value" "[B" (.ref sv)) (As : own_A Z h0 sv ks .byte [(.int (own_b c0)), (.int (own_b c1)), (.int (own_b c2)), (.int (own_b c3))]) (ok0 : own_ok c0) (ok1 : own_ok c1) (ok2 : own_ok c2) (ok3 : own_ok c3) :
    own_Met l (⟨"com/example/modgud/modgud/core/Names", "isName", "(Ljava/lang/String;)Z"⟩ : MethodName) prog_8_method_3_code 4 (some .boolean) ({ frames := 4, cells := 0, slots := 0, locals := 53 } : Room) Z #[(.ref a)] h0 n0 (fun v h' => h' = h0 ∧ v = some (.int (1 : Int32))) := by
  refine own_met (Ls := #[.val (.ref a), .unset, .unset, .unset]) own_pn13 hs0 (fun m => by first  | (simp [entryFrame, mkF, argsToLocals, Value.category]; done) | rfl) ?_
  intro p e s m below meth c T X
  have hi_sv : h0.size > sv := As.lt
  have hi_a : h0.size > a := Es_a.lt
  refine own_aloadN X 1 (.ref a) own_d13_0 rfl rfl rfl ?_
  refine own_callV X 4 [] [] own_d13_1 rfl (hw _ (List.mem_of_getElem? (i := 56) rfl)) (hw _ (List.mem_of_getElem? (i := 57) rfl)) (own_nf X.2.2.2.2.1 (hw _ (List.mem_of_getElem? (i := 59) rfl))) (hw _ (List.mem_of_getElem? (i := 59) rfl)) (hw _ (List.mem_of_getElem? (i := 58) rfl)) (hw _ (List.mem_of_getElem? (i := 8) rfl)) (hw _ (List.mem_of_getElem? (i := 60) rfl)) (by decide) Es_a (own_semp l Z a0 hw a cs sv ks [(.int (own_b c0)), (.int (own_b c1)), (.int (own_b c2)), (.int (own_b c3))] h0 n0 X.sz OL z_cs hcs Es_a Fc_a Fv_a As (show ¬ (4 : Int32) = 0 by decide)) (fun _ _ q => Nat.le_of_eq (congrArg Array.size q.1.symm)) rfl own_pd3 rfl rfl rfl (by decide) (Nat.le_of_ble_eq_true rfl) (by decide) (by decide) ?_
  rintro v1 T h_ X ⟨eh_, rfl⟩
  rw [eh_] at X
  show own_Ends p e below _ (T.setTop (mkF m 4 #[.val (.ref a), .unset, .unset, .unset] [(.int (0 : Int32))]))
  refine own_ifN X 7 own_d13_4 rfl (XT.i0_ne_f rfl) ?_
  refine own_aloadN X 8 (.ref a) own_d13_7 rfl rfl rfl ?_
  refine own_callV X 11 [] [] own_d13_8 rfl (hw _ (List.mem_of_getElem? (i := 61) rfl)) (hw _ (List.mem_of_getElem? (i := 62) rfl)) (own_nf X.2.2.2.2.1 (hw _ (List.mem_of_getElem? (i := 64) rfl))) (hw _ (List.mem_of_getElem? (i := 64) rfl)) (hw _ (List.mem_of_getElem? (i := 63) rfl)) (hw _ (List.mem_of_getElem? (i := 8) rfl)) (hw _ (List.mem_of_getElem? (i := 65) rfl)) (by decide) Es_a (own_slen l Z a0 hw a cs sv ks [(.int (own_b c0)), (.int (own_b c1)), (.int (own_b c2)), (.int (own_b c3))] (4 : Int32) h0 n0 X.sz OL z_cs hcs Es_a Fc_a Fv_a As rfl) (fun _ _ q => Nat.le_of_eq (congrArg Array.size q.1.symm)) rfl own_pd12 rfl rfl rfl (by decide) (Nat.le_of_ble_eq_true rfl) (by decide) (by decide) ?_
  rintro v8 T h_ X ⟨eh_, rfl⟩
  rw [eh_] at X
  show own_Ends p e below _ (T.setTop (mkF m 11 #[.val (.ref a), .unset, .unset, .unset] [(.int (4 : Int32))]))
  refine own_sipush X 14 (128 : Int32) own_d13_11 rfl (by decide) ?_
  refine own_icY X 19 own_d13_14 (by decide) (by decide) (XT.ii_le_t (by decide)) ?_
  refine own_iconst X 20 (0 : Int32) own_d13_19 rfl rfl ?_
  refine own_istoreN X 21 #[.val (.ref a), .val (.int (0 : Int32)), .unset, .unset] own_d13_20 rfl rfl ?_
  refine own_iloadN X 22 (0 : Int32) own_d13_21 rfl rfl ?_
  refine own_aloadN X 23 (.ref a) own_d13_22 rfl rfl rfl ?_
  refine own_callV X 26 [] [(.int (0 : Int32))] own_d13_23 rfl (hw _ (List.mem_of_getElem? (i := 61) rfl)) (hw _ (List.mem_of_getElem? (i := 62) rfl)) (own_nf X.2.2.2.2.1 (hw _ (List.mem_of_getElem? (i := 64) rfl))) (hw _ (List.mem_of_getElem? (i := 64) rfl)) (hw _ (List.mem_of_getElem? (i := 63) rfl)) (hw _ (List.mem_of_getElem? (i := 8) rfl)) (hw _ (List.mem_of_getElem? (i := 65) rfl)) (by decide) Es_a (own_slen l Z a0 hw a cs sv ks [(.int (own_b c0)), (.int (own_b c1)), (.int (own_b c2)), (.int (own_b c3))] (4 : Int32) h0 n0 X.sz OL z_cs hcs Es_a Fc_a Fv_a As rfl) (fun _ _ q => Nat.le_of_eq (congrArg Array.size q.1.symm)) rfl own_pd12 rfl rfl rfl (by decide) (Nat.le_of_ble_eq_true rfl) (by decide) (by decide) ?_
  rintro v23 T h_ X ⟨eh_, rfl⟩
  rw [eh_] at X
  show own_Ends p e below _ (T.setTop (mkF m 26 #[.val (.ref a), .val (.int (0 : Int32)), .unset, .unset] [(.int (4 : Int32)), (.int (0 : Int32))]))
  refine own_icN X 29 own_d13_26 rfl (XT.ii_ge_f (by decide)) ?_
  refine own_aloadN X 30 (.ref a) own_d13_29 rfl rfl rfl ?_
  refine own_iloadN X 31 (0 : Int32) own_d13_30 rfl rfl ?_
  refine own_callV X 34 [(.int (0 : Int32))] [] own_d13_31 rfl (hw _ (List.mem_of_getElem? (i := 71) rfl)) (hw _ (List.mem_of_getElem? (i := 72) rfl)) (own_nf X.2.2.2.2.1 (hw _ (List.mem_of_getElem? (i := 74) rfl))) (hw _ (List.mem_of_getElem? (i := 74) rfl)) (hw _ (List.mem_of_getElem? (i := 73) rfl)) (hw _ (List.mem_of_getElem? (i := 8) rfl)) (hw _ (List.mem_of_getElem? (i := 75) rfl)) (by decide) Es_a (own_sch l Z a0 hw a (0 : Int32) cs sv ks [(.int (own_b c0)), (.int (own_b c1)), (.int (own_b c2)), (.int (own_b c3))] 0 (own_b c0) fo h0 n0 X.sz OL z_cs hcs z_fo hfo Es_a Fc_a Fv_a As (by decide) (by decide) (show (0 : Int32) < (4 : Int32) by decide) rfl) (fun _ _ q => Nat.le_of_eq (congrArg Array.size q.1.symm)) rfl own_pd13 rfl rfl rfl (by decide) (Nat.le_of_ble_eq_true rfl) (by decide) (by decide) ?_
  rintro v31 T h_ X ⟨eh_, rfl⟩
  rw [eh_] at X
  show own_Ends p e below _ (T.setTop (mkF m 34 #[.val (.ref a), .val (.int (0 : Int32)), .unset, .unset] [(.int (own_c2 (own_b c0)))]))
  rw [own_c2b ok0]
  refine own_istoreN X 35 #[.val (.ref a), .val (.int (0 : Int32)), .val (.int c0), .unset] own_d13_34 rfl rfl ?_
  refine own_turnU X ok0 ?_
  intro z0
  refine own_iinc X 104 (1 : Int32) #[.val (.ref a), .val (.int ((0 : Int32) + (1 : Int32))), .val (.int c0), .val (.int z0)] own_d13_101 rfl rfl rfl rfl ?_
  rw [show (0 : Int32) + (1 : Int32) = (1 : Int32) from by decide]
  refine own_goto X 21 own_d13_104 (by decide) (by decide) ?_
  refine own_iloadN X 22 (1 : Int32) own_d13_21 rfl rfl ?_
  refine own_aloadN X 23 (.ref a) own_d13_22 rfl rfl rfl ?_
  refine own_callV X 26 [] [(.int (1 : Int32))] own_d13_23 rfl (hw _ (List.mem_of_getElem? (i := 61) rfl)) (hw _ (List.mem_of_getElem? (i := 62) rfl)) (own_nf X.2.2.2.2.1 (hw _ (List.mem_of_getElem? (i := 64) rfl))) (hw _ (List.mem_of_getElem? (i := 64) rfl)) (hw _ (List.mem_of_getElem? (i := 63) rfl)) (hw _ (List.mem_of_getElem? (i := 8) rfl)) (hw _ (List.mem_of_getElem? (i := 65) rfl)) (by decide) Es_a (own_slen l Z a0 hw a cs sv ks [(.int (own_b c0)), (.int (own_b c1)), (.int (own_b c2)), (.int (own_b c3))] (4 : Int32) h0 n0 X.sz OL z_cs hcs Es_a Fc_a Fv_a As rfl) (fun _ _ q => Nat.le_of_eq (congrArg Array.size q.1.symm)) rfl own_pd12 rfl rfl rfl (by decide) (Nat.le_of_ble_eq_true rfl) (by decide) (by decide) ?_
  rintro v23 T h_ X ⟨eh_, rfl⟩
  rw [eh_] at X
  show own_Ends p e below _ (T.setTop (mkF m 26 #[.val (.ref a), .val (.int (1 : Int32)), .val (.int c0), .val (.int z0)] [(.int (4 : Int32)), (.int (1 : Int32))]))
  refine own_icN X 29 own_d13_26 rfl (XT.ii_ge_f (by decide)) ?_
  refine own_aloadN X 30 (.ref a) own_d13_29 rfl rfl rfl ?_
  refine own_iloadN X 31 (1 : Int32) own_d13_30 rfl rfl ?_
  refine own_callV X 34 [(.int (1 : Int32))] [] own_d13_31 rfl (hw _ (List.mem_of_getElem? (i := 71) rfl)) (hw _ (List.mem_of_getElem? (i := 72) rfl)) (own_nf X.2.2.2.2.1 (hw _ (List.mem_of_getElem? (i := 74) rfl))) (hw _ (List.mem_of_getElem? (i := 74) rfl)) (hw _ (List.mem_of_getElem? (i := 73) rfl)) (hw _ (List.mem_of_getElem? (i := 8) rfl)) (hw _ (List.mem_of_getElem? (i := 75) rfl)) (by decide) Es_a (own_sch l Z a0 hw a (1 : Int32) cs sv ks [(.int (own_b c0)), (.int (own_b c1)), (.int (own_b c2)), (.int (own_b c3))] 1 (own_b c1) fo h0 n0 X.sz OL z_cs hcs z_fo hfo Es_a Fc_a Fv_a As (by decide) (by decide) (show (1 : Int32) < (4 : Int32) by decide) rfl) (fun _ _ q => Nat.le_of_eq (congrArg Array.size q.1.symm)) rfl own_pd13 rfl rfl rfl (by decide) (Nat.le_of_ble_eq_true rfl) (by decide) (by decide) ?_
  rintro v31 T h_ X ⟨eh_, rfl⟩
  rw [eh_] at X
  show own_Ends p e below _ (T.setTop (mkF m 34 #[.val (.ref a), .val (.int (1 : Int32)), .val (.int c0), .val (.int z0)] [(.int (own_c2 (own_b c1)))]))
  rw [own_c2b ok1]
  refine own_istoreN X 35 #[.val (.ref a), .val (.int (1 : Int32)), .val (.int c1), .val (.int z0)] own_d13_34 rfl rfl ?_
  refine own_turnV X ok1 ?_
  intro z1
  refine own_iinc X 104 (1 : Int32) #[.val (.ref a), .val (.int ((1 : Int32) + (1 : Int32))), .val (.int c1), .val (.int z1)] own_d13_101 rfl rfl rfl rfl ?_
  rw [show (1 : Int32) + (1 : Int32) = (2 : Int32) from by decide]
  refine own_goto X 21 own_d13_104 (by decide) (by decide) ?_
  refine own_iloadN X 22 (2 : Int32) own_d13_21 rfl rfl ?_
  refine own_aloadN X 23 (.ref a) own_d13_22 rfl rfl rfl ?_
  refine own_callV X 26 [] [(.int (2 : Int32))] own_d13_23 rfl (hw _ (List.mem_of_getElem? (i := 61) rfl)) (hw _ (List.mem_of_getElem? (i := 62) rfl)) (own_nf X.2.2.2.2.1 (hw _ (List.mem_of_getElem? (i := 64) rfl))) (hw _ (List.mem_of_getElem? (i := 64) rfl)) (hw _ (List.mem_of_getElem? (i := 63) rfl)) (hw _ (List.mem_of_getElem? (i := 8) rfl)) (hw _ (List.mem_of_getElem? (i := 65) rfl)) (by decide) Es_a (own_slen l Z a0 hw a cs sv ks [(.int (own_b c0)), (.int (own_b c1)), (.int (own_b c2)), (.int (own_b c3))] (4 : Int32) h0 n0 X.sz OL z_cs hcs Es_a Fc_a Fv_a As rfl) (fun _ _ q => Nat.le_of_eq (congrArg Array.size q.1.symm)) rfl own_pd12 rfl rfl rfl (by decide) (Nat.le_of_ble_eq_true rfl) (by decide) (by decide) ?_
  rintro v23 T h_ X ⟨eh_, rfl⟩
  rw [eh_] at X
  show own_Ends p e below _ (T.setTop (mkF m 26 #[.val (.ref a), .val (.int (2 : Int32)), .val (.int c1), .val (.int z1)] [(.int (4 : Int32)), (.int (2 : Int32))]))
  refine own_icN X 29 own_d13_26 rfl (XT.ii_ge_f (by decide)) ?_
  refine own_aloadN X 30 (.ref a) own_d13_29 rfl rfl rfl ?_
  refine own_iloadN X 31 (2 : Int32) own_d13_30 rfl rfl ?_
  refine own_callV X 34 [(.int (2 : Int32))] [] own_d13_31 rfl (hw _ (List.mem_of_getElem? (i := 71) rfl)) (hw _ (List.mem_of_getElem? (i := 72) rfl)) (own_nf X.2.2.2.2.1 (hw _ (List.mem_of_getElem? (i := 74) rfl))) (hw _ (List.mem_of_getElem? (i := 74) rfl)) (hw _ (List.mem_of_getElem? (i := 73) rfl)) (hw _ (List.mem_of_getElem? (i := 8) rfl)) (hw _ (List.mem_of_getElem? (i := 75) rfl)) (by decide) Es_a (own_sch l Z a0 hw a (2 : Int32) cs sv ks [(.int (own_b c0)), (.int (own_b c1)), (.int (own_b c2)), (.int (own_b c3))] 2 (own_b c2) fo h0 n0 X.sz OL z_cs hcs z_fo hfo Es_a Fc_a Fv_a As (by decide) (by decide) (show (2 : Int32) < (4 : Int32) by decide) rfl) (fun _ _ q => Nat.le_of_eq (congrArg Array.size q.1.symm)) rfl own_pd13 rfl rfl rfl (by decide) (Nat.le_of_ble_eq_true rfl) (by decide) (by decide) ?_
  rintro v31 T h_ X ⟨eh_, rfl⟩
  rw [eh_] at X
  show own_Ends p e below _ (T.setTop (mkF m 34 #[.val (.ref a), .val (.int (2 : Int32)), .val (.int c1), .val (.int z1)] [(.int (own_c2 (own_b c2)))]))
  rw [own_c2b ok2]
  refine own_istoreN X 35 #[.val (.ref a), .val (.int (2 : Int32)), .val (.int c2), .val (.int z1)] own_d13_34 rfl rfl ?_
  refine own_turnV X ok2 ?_
  intro z2
  refine own_iinc X 104 (1 : Int32) #[.val (.ref a), .val (.int ((2 : Int32) + (1 : Int32))), .val (.int c2), .val (.int z2)] own_d13_101 rfl rfl rfl rfl ?_
  rw [show (2 : Int32) + (1 : Int32) = (3 : Int32) from by decide]
  refine own_goto X 21 own_d13_104 (by decide) (by decide) ?_
  refine own_iloadN X 22 (3 : Int32) own_d13_21 rfl rfl ?_
  refine own_aloadN X 23 (.ref a) own_d13_22 rfl rfl rfl ?_
  refine own_callV X 26 [] [(.int (3 : Int32))] own_d13_23 rfl (hw _ (List.mem_of_getElem? (i := 61) rfl)) (hw _ (List.mem_of_getElem? (i := 62) rfl)) (own_nf X.2.2.2.2.1 (hw _ (List.mem_of_getElem? (i := 64) rfl))) (hw _ (List.mem_of_getElem? (i := 64) rfl)) (hw _ (List.mem_of_getElem? (i := 63) rfl)) (hw _ (List.mem_of_getElem? (i := 8) rfl)) (hw _ (List.mem_of_getElem? (i := 65) rfl)) (by decide) Es_a (own_slen l Z a0 hw a cs sv ks [(.int (own_b c0)), (.int (own_b c1)), (.int (own_b c2)), (.int (own_b c3))] (4 : Int32) h0 n0 X.sz OL z_cs hcs Es_a Fc_a Fv_a As rfl) (fun _ _ q => Nat.le_of_eq (congrArg Array.size q.1.symm)) rfl own_pd12 rfl rfl rfl (by decide) (Nat.le_of_ble_eq_true rfl) (by decide) (by decide) ?_
  rintro v23 T h_ X ⟨eh_, rfl⟩
  rw [eh_] at X
  show own_Ends p e below _ (T.setTop (mkF m 26 #[.val (.ref a), .val (.int (3 : Int32)), .val (.int c2), .val (.int z2)] [(.int (4 : Int32)), (.int (3 : Int32))]))
  refine own_icN X 29 own_d13_26 rfl (XT.ii_ge_f (by decide)) ?_
  refine own_aloadN X 30 (.ref a) own_d13_29 rfl rfl rfl ?_
  refine own_iloadN X 31 (3 : Int32) own_d13_30 rfl rfl ?_
  refine own_callV X 34 [(.int (3 : Int32))] [] own_d13_31 rfl (hw _ (List.mem_of_getElem? (i := 71) rfl)) (hw _ (List.mem_of_getElem? (i := 72) rfl)) (own_nf X.2.2.2.2.1 (hw _ (List.mem_of_getElem? (i := 74) rfl))) (hw _ (List.mem_of_getElem? (i := 74) rfl)) (hw _ (List.mem_of_getElem? (i := 73) rfl)) (hw _ (List.mem_of_getElem? (i := 8) rfl)) (hw _ (List.mem_of_getElem? (i := 75) rfl)) (by decide) Es_a (own_sch l Z a0 hw a (3 : Int32) cs sv ks [(.int (own_b c0)), (.int (own_b c1)), (.int (own_b c2)), (.int (own_b c3))] 3 (own_b c3) fo h0 n0 X.sz OL z_cs hcs z_fo hfo Es_a Fc_a Fv_a As (by decide) (by decide) (show (3 : Int32) < (4 : Int32) by decide) rfl) (fun _ _ q => Nat.le_of_eq (congrArg Array.size q.1.symm)) rfl own_pd13 rfl rfl rfl (by decide) (Nat.le_of_ble_eq_true rfl) (by decide) (by decide) ?_
  rintro v31 T h_ X ⟨eh_, rfl⟩
  rw [eh_] at X
  show own_Ends p e below _ (T.setTop (mkF m 34 #[.val (.ref a), .val (.int (3 : Int32)), .val (.int c2), .val (.int z2)] [(.int (own_c2 (own_b c3)))]))
  rw [own_c2b ok3]
  refine own_istoreN X 35 #[.val (.ref a), .val (.int (3 : Int32)), .val (.int c3), .val (.int z2)] own_d13_34 rfl rfl ?_
  refine own_turnV X ok3 ?_
  intro z3
  refine own_iinc X 104 (1 : Int32) #[.val (.ref a), .val (.int ((3 : Int32) + (1 : Int32))), .val (.int c3), .val (.int z3)] own_d13_101 rfl rfl rfl rfl ?_
  rw [show (3 : Int32) + (1 : Int32) = (4 : Int32) from by decide]
  refine own_goto X 21 own_d13_104 (by decide) (by decide) ?_
  refine own_iloadN X 22 (4 : Int32) own_d13_21 rfl rfl ?_
  refine own_aloadN X 23 (.ref a) own_d13_22 rfl rfl rfl ?_
  refine own_callV X 26 [] [(.int (4 : Int32))] own_d13_23 rfl (hw _ (List.mem_of_getElem? (i := 61) rfl)) (hw _ (List.mem_of_getElem? (i := 62) rfl)) (own_nf X.2.2.2.2.1 (hw _ (List.mem_of_getElem? (i := 64) rfl))) (hw _ (List.mem_of_getElem? (i := 64) rfl)) (hw _ (List.mem_of_getElem? (i := 63) rfl)) (hw _ (List.mem_of_getElem? (i := 8) rfl)) (hw _ (List.mem_of_getElem? (i := 65) rfl)) (by decide) Es_a (own_slen l Z a0 hw a cs sv ks [(.int (own_b c0)), (.int (own_b c1)), (.int (own_b c2)), (.int (own_b c3))] (4 : Int32) h0 n0 X.sz OL z_cs hcs Es_a Fc_a Fv_a As rfl) (fun _ _ q => Nat.le_of_eq (congrArg Array.size q.1.symm)) rfl own_pd12 rfl rfl rfl (by decide) (Nat.le_of_ble_eq_true rfl) (by decide) (by decide) ?_
  rintro v23 T h_ X ⟨eh_, rfl⟩
  rw [eh_] at X
  show own_Ends p e below _ (T.setTop (mkF m 26 #[.val (.ref a), .val (.int (4 : Int32)), .val (.int c3), .val (.int z3)] [(.int (4 : Int32)), (.int (4 : Int32))]))
  refine own_icY X 107 own_d13_26 (by decide) (by decide) (XT.ii_ge_t (by decide)) ?_
  refine own_iconst X 108 (1 : Int32) own_d13_107 rfl rfl ?_
  exact own_retN X .boolean own_d13_108 rfl (by simp) (by decide) (by decide) (⟨rfl, rfl⟩)
set_option maxRecDepth 65536 in
set_option maxHeartbeats 40000000 in
theorem own_rq4 (l : Launch) (Z : State) (a0 : Array Value) (hw : ∀ d ∈ tables_1, d.before a0 Z = true) (wh : Addr) (a : Addr) (cs : Int32) (fo : Value) (sv : Addr) (ks : ClassId) (c0 : Int32) (c1 : Int32) (c2 : Int32) (c3 : Int32) (h0 : Heap) (n0 : Nat) (hs0 : n0 ≤ h0.size) (OL : Old Z n0 h0) (z_cs : Sta Z Z.heap "java/lang/String" "COMPACT_STRINGS" "Z" (.int cs)) (hcs : ¬ cs = 0) (z_fo : Sta Z Z.heap "jdk/internal/util/Preconditions" "SIOOBE_FORMATTER" "Ljava/util/function/BiFunction;" fo) (hfo : fo.isRef = true) (Es_a : Exa Z h0 a "java/lang/String") (Fc_a : Fld Z h0 a "java/lang/String" "coder" "B" (.int 0)) (Fv_a : Fld Z h0 a "java/lang/String" "value" "[B" (.ref sv)) (As : own_A Z h0 sv ks .byte [(.int (own_b c0)), (.int (own_b c1)), (.int (own_b c2)), (.int (own_b c3))]) (ok0 : own_ok c0) (ok1 : own_ok c1) (ok2 : own_ok c2) (ok3 : own_ok c3) :
    own_Met l (⟨"com/example/modgud/modgud/core/Names", "require", "(Ljava/lang/String;Ljava/lang/String;)Ljava/lang/String;"⟩ : MethodName) prog_8_method_2_code 2 (some (.object "java/lang/String")) ({ frames := 5, cells := 0, slots := 0, locals := 68 } : Room) Z #[(.ref wh), (.ref a)] h0 n0 (fun v h' => h' = h0 ∧ v = some (.ref a)) := by
  refine own_met (Ls := #[.val (.ref wh), .val (.ref a)]) own_pn12 hs0 (fun m => by first  | (simp [entryFrame, mkF, argsToLocals, Value.category]; done) | rfl) ?_
  intro p e s m below meth c T X
  have hi_sv : h0.size > sv := As.lt
  have hi_a : h0.size > a := Es_a.lt
  refine own_aloadN X 1 (.ref a) own_d12_0 rfl rfl rfl ?_
  refine own_callS X 4 [(.ref a)] [] own_d12_1 rfl (hw _ (List.mem_of_getElem? (i := 53) rfl)) (hw _ (List.mem_of_getElem? (i := 54) rfl)) (hw _ (List.mem_of_getElem? (i := 51) rfl)) (hw _ (List.mem_of_getElem? (i := 55) rfl)) (by decide) (own_isn4 l Z a0 hw a cs fo sv ks c0 c1 c2 c3 h0 n0 X.sz OL z_cs hcs z_fo hfo Es_a Fc_a Fv_a As ok0 ok1 ok2 ok3) (fun _ _ q => Nat.le_of_eq (congrArg Array.size q.1.symm)) rfl own_pd14 rfl rfl rfl (by decide) (Nat.le_of_ble_eq_true rfl) (by decide) (by decide) ?_
  rintro v1 T h_ X ⟨eh_, rfl⟩
  rw [eh_] at X
  show own_Ends p e below _ (T.setTop (mkF m 4 #[.val (.ref wh), .val (.ref a)] [(.int (1 : Int32))]))
  refine own_ifY X 21 own_d12_4 (by decide) (by decide) (XT.i0_ne_t (by decide)) ?_
  refine own_aloadN X 22 (.ref a) own_d12_21 rfl rfl rfl ?_
  exact own_retA X (.object "java/lang/String") own_d12_22 rfl rfl rfl rfl (by decide) (by decide) (⟨rfl, rfl⟩)
theorem own_pd15 : parseMethodDescriptor "([C)V" = some ⟨[(.array .char)], none⟩ := by decide +kernel
theorem own_pd16 : parseMethodDescriptor "(C)Ljava/lang/String;" = some ⟨[.char], some (.object "java/lang/String")⟩ := by decide +kernel
theorem own_pd17 : parseMethodDescriptor "(Ljava/lang/String;Ljava/lang/String;)Ljava/lang/String;" = some ⟨[(.object "java/lang/String"), (.object "java/lang/String")], some (.object "java/lang/String")⟩ := by decide +kernel
theorem own_pn0 : plainFor x = true := plainFor_of_name (by first | (simp [plainName, overriddenIn]; done) | decide +kernel)
set_option maxRecDepth 65536 in
set_option maxHeartbeats 40000000 in
theorem own_m0 (l : Launch) (Z : State) (a0 : Array Value) (hw : ∀ d ∈ tables_1, d.before a0 Z = true) (pn : Int32) (pa : Int32) (pb : Int32) (pc : Int32) (pd : Int32) (pw : Int32) (cs : Int32) (fo : Value) (h0 : Heap) (n0 : Nat) (hs0 : n0 ≤ h0.size) (OL : Old Z n0 h0) (z_cs : Sta Z Z.heap "java/lang/String" "COMPACT_STRINGS" "Z" (.int cs)) (hcs : ¬ cs = 0) (z_fo : Sta Z Z.heap "jdk/internal/util/Preconditions" "SIOOBE_FORMATTER" "Ljava/util/function/BiFunction;" fo) (hfo : fo.isRef = true) :
    own_Met l x code maxLocals ret room_1 Z #[(.int pn), (.int pa), (.int pb), (.int pc), (.int pd), (.int pw)] h0 n0 (fun v h' => v = some (.int 1)) := by
  refine own_met (Ls := #[.val (.int pn), .val (.int pa), .val (.int pb), .val (.int pc), .val (.int pd), .val (.int pw), .unset, .unset, .unset, .unset, .unset, .unset, .unset, .unset, .unset]) own_pn0 hs0 (fun m => by first  | (simp [entryFrame, mkF, argsToLocals, Value.category, maxLocals]; done) | rfl) ?_
  intro p e s m below meth c T X
  refine own_iloadN X 1 pa at_0 rfl rfl ?_
  refine own_callS X 4 [(.int pa)] [] at_1 rfl (hw _ (List.mem_of_getElem? (i := 0) rfl)) (hw _ (List.mem_of_getElem? (i := 1) rfl)) (hw _ (List.mem_of_getElem? (i := 2) rfl)) (hw _ (List.mem_of_getElem? (i := 3) rfl)) (by decide) (own_ncm l Z a0 hw pa h0 n0 X.sz) (fun _ _ q => Nat.le_of_eq (congrArg Array.size q.1.symm)) rfl own_pd13 rfl rfl rfl (by decide) (Nat.le_of_ble_eq_true rfl) (by decide) (by decide) ?_
  rintro v1 T h_ X ⟨eh_, c1, rfl, ok_c1⟩
  rw [eh_] at X
  show own_Ends p e below _ (T.setTop (mkF m 4 #[.val (.int pn), .val (.int pa), .val (.int pb), .val (.int pc), .val (.int pd), .val (.int pw), .unset, .unset, .unset, .unset, .unset, .unset, .unset, .unset, .unset] [(.int c1)]))
  refine own_istore X 6 #[.val (.int pn), .val (.int pa), .val (.int pb), .val (.int pc), .val (.int pd), .val (.int pw), .val (.int c1), .unset, .unset, .unset, .unset, .unset, .unset, .unset, .unset] at_4 rfl rfl ?_
  refine own_iloadN X 7 pb at_6 rfl rfl ?_
  refine own_callS X 10 [(.int pb)] [] at_7 rfl (hw _ (List.mem_of_getElem? (i := 0) rfl)) (hw _ (List.mem_of_getElem? (i := 1) rfl)) (hw _ (List.mem_of_getElem? (i := 2) rfl)) (hw _ (List.mem_of_getElem? (i := 3) rfl)) (by decide) (own_ncm l Z a0 hw pb h0 n0 X.sz) (fun _ _ q => Nat.le_of_eq (congrArg Array.size q.1.symm)) rfl own_pd13 rfl rfl rfl (by decide) (Nat.le_of_ble_eq_true rfl) (by decide) (by decide) ?_
  rintro v7 T h_ X ⟨eh_, c2, rfl, ok_c2⟩
  rw [eh_] at X
  show own_Ends p e below _ (T.setTop (mkF m 10 #[.val (.int pn), .val (.int pa), .val (.int pb), .val (.int pc), .val (.int pd), .val (.int pw), .val (.int c1), .unset, .unset, .unset, .unset, .unset, .unset, .unset, .unset] [(.int c2)]))
  refine own_istore X 12 #[.val (.int pn), .val (.int pa), .val (.int pb), .val (.int pc), .val (.int pd), .val (.int pw), .val (.int c1), .val (.int c2), .unset, .unset, .unset, .unset, .unset, .unset, .unset] at_10 rfl rfl ?_
  refine own_iloadN X 13 pc at_12 rfl rfl ?_
  refine own_callS X 16 [(.int pc)] [] at_13 rfl (hw _ (List.mem_of_getElem? (i := 0) rfl)) (hw _ (List.mem_of_getElem? (i := 1) rfl)) (hw _ (List.mem_of_getElem? (i := 2) rfl)) (hw _ (List.mem_of_getElem? (i := 3) rfl)) (by decide) (own_ncm l Z a0 hw pc h0 n0 X.sz) (fun _ _ q => Nat.le_of_eq (congrArg Array.size q.1.symm)) rfl own_pd13 rfl rfl rfl (by decide) (Nat.le_of_ble_eq_true rfl) (by decide) (by decide) ?_
  rintro v13 T h_ X ⟨eh_, c3, rfl, ok_c3⟩
  rw [eh_] at X
  show own_Ends p e below _ (T.setTop (mkF m 16 #[.val (.int pn), .val (.int pa), .val (.int pb), .val (.int pc), .val (.int pd), .val (.int pw), .val (.int c1), .val (.int c2), .unset, .unset, .unset, .unset, .unset, .unset, .unset] [(.int c3)]))
  refine own_istore X 18 #[.val (.int pn), .val (.int pa), .val (.int pb), .val (.int pc), .val (.int pd), .val (.int pw), .val (.int c1), .val (.int c2), .val (.int c3), .unset, .unset, .unset, .unset, .unset, .unset] at_16 rfl rfl ?_
  refine own_iload X 20 pd at_18 rfl rfl ?_
  refine own_callS X 23 [(.int pd)] [] at_20 rfl (hw _ (List.mem_of_getElem? (i := 0) rfl)) (hw _ (List.mem_of_getElem? (i := 1) rfl)) (hw _ (List.mem_of_getElem? (i := 2) rfl)) (hw _ (List.mem_of_getElem? (i := 3) rfl)) (by decide) (own_ncm l Z a0 hw pd h0 n0 X.sz) (fun _ _ q => Nat.le_of_eq (congrArg Array.size q.1.symm)) rfl own_pd13 rfl rfl rfl (by decide) (Nat.le_of_ble_eq_true rfl) (by decide) (by decide) ?_
  rintro v20 T h_ X ⟨eh_, c4, rfl, ok_c4⟩
  rw [eh_] at X
  show own_Ends p e below _ (T.setTop (mkF m 23 #[.val (.int pn), .val (.int pa), .val (.int pb), .val (.int pc), .val (.int pd), .val (.int pw), .val (.int c1), .val (.int c2), .val (.int c3), .unset, .unset, .unset, .unset, .unset, .unset] [(.int c4)]))
  refine own_istore X 25 #[.val (.int pn), .val (.int pa), .val (.int pb), .val (.int pc), .val (.int pd), .val (.int pw), .val (.int c1), .val (.int c2), .val (.int c3), .val (.int c4), .unset, .unset, .unset, .unset, .unset] at_23 rfl rfl ?_
  refine own_iconst X 26 (1 : Int32) at_25 rfl rfl ?_
  refine own_iloadN X 27 pn at_26 rfl rfl ?_
  refine own_iconst X 28 (3 : Int32) at_27 rfl rfl ?_
  refine own_iand X 29 at_28 rfl ?_
  refine own_iadd X 30 at_29 rfl ?_
  rcases own_and3 pn with hn_ | hn_ | hn_ | hn_
  · rw [hn_, show (1 : Int32) + (0 : Int32) = (1 : Int32) from by decide]
    refine own_istore X 32 #[.val (.int pn), .val (.int pa), .val (.int pb), .val (.int pc), .val (.int pd), .val (.int pw), .val (.int c1), .val (.int c2), .val (.int c3), .val (.int c4), .val (.int (1 : Int32)), .unset, .unset, .unset, .unset] at_30 rfl rfl ?_
    refine own_iload X 34 (1 : Int32) at_32 rfl rfl ?_
    refine own_iconst X 35 (1 : Int32) at_34 rfl rfl ?_
    refine own_icN X 38 at_35 rfl (XT.ii_ne_f (by decide)) ?_
    refine own_iconst X 39 (1 : Int32) at_38 rfl rfl ?_
    refine own_newP X 41 1 1 at_39 rfl (hw _ (List.mem_of_getElem? (i := 5) rfl)) (by decide) (by decide) (by decide) (by decide) (by decide) (by decide) ?_
    intro T h5 b6 kc_b6 g_b6 X E_h5 A_b6
    have zs_h5 : h0.size ≤ h5.size := E_h5.1
    have OL := OL.ext E_h5
    have lo_b6 : h0.size ≤ b6 := Nat.le_of_eq g_b6.symm
    have hi_b6 : h5.size > b6 := A_b6.lt
    have A_b6 : own_A Z h5 b6 kc_b6 .char [(.int (0 : Int32))] := A_b6
    refine own_dup X 42 at_41 rfl rfl ?_
    refine own_iconst X 43 (0 : Int32) at_42 rfl rfl ?_
    refine own_iload X 45 c1 at_43 rfl rfl ?_
    refine own_castore X 46 0 at_45 rfl A_b6 (by decide) (by decide) (Nat.le_of_ble_eq_true rfl) (by omega) ?_
    intro T h7 X W_h7
    rw [own_narc ok_c1] at W_h7
    have nw_h7 : own_A Z h7 b6 kc_b6 .char [(.int c1)] := A_b6.same W_h7 (own_fitc ok_c1)
    have zs_h7 : h5.size ≤ h7.size := (Nat.le_of_eq W_h7.size.symm)
    have OL := OL.wr W_h7 (by omega)
    have A_b6 := nw_h7
    refine own_astore X 48 #[.val (.int pn), .val (.int pa), .val (.int pb), .val (.int pc), .val (.int pd), .val (.int pw), .val (.int c1), .val (.int c2), .val (.int c3), .val (.int c4), .val (.int (1 : Int32)), .val (.ref b6), .unset, .unset, .unset] at_46 rfl rfl rfl ?_
    refine own_goto X 129 at_48 (by decide) (by decide) ?_
    refine own_new X 132 at_129 rfl (hw _ (List.mem_of_getElem? (i := 6) rfl)) (hw _ (List.mem_of_getElem? (i := 7) rfl)) (hw _ (List.mem_of_getElem? (i := 8) rfl)) (by decide) (by decide) ?_
    intro T h8 b9 g_b9 X E_h8 A_b9 D_b9
    have zs_h8 : h7.size ≤ h8.size := E_h8.1
    have OL := OL.ext E_h8
    have A_b6 := A_b6.ext E_h8
    have lo_b9 : h7.size ≤ b9 := Nat.le_of_eq g_b9.symm
    have hi_b9 : h8.size > b9 := A_b9.lt
    have F_coder_b9 : Fld Z h8 b9 "java/lang/String" "coder" "B" (.int (0 : Int32)) := D_b9 (Or.inr (hw _ (List.mem_of_getElem? (i := 32) rfl))) (ty := .byte) (by decide)
    have F_value_b9 : Fld Z h8 b9 "java/lang/String" "value" "[B" .null := D_b9 (Or.inr (hw _ (List.mem_of_getElem? (i := 34) rfl))) (ty := (.array .byte)) (by decide)
    refine own_dup X 133 at_132 rfl rfl ?_
    refine own_aload X 135 (.ref b6) at_133 rfl rfl rfl ?_
    refine own_init X 138 [(.ref b6)] [(.ref b9)] at_135 rfl (hw _ (List.mem_of_getElem? (i := 9) rfl)) (hw _ (List.mem_of_getElem? (i := 10) rfl)) (hw _ (List.mem_of_getElem? (i := 8) rfl)) (hw _ (List.mem_of_getElem? (i := 11) rfl)) (by decide) rfl (own_sn_1 l Z a0 hw b9 b6 cs kc_b6 c1 h8 n0 X.sz OL z_cs hcs A_b9 F_coder_b9 F_value_b9 (by omega) A_b6 (by show @Ne Nat _ _; omega) ok_c1) (fun _ _ q => q.1.1) rfl own_pd15 rfl rfl rfl (by decide) (Nat.le_of_ble_eq_true rfl) (by decide) (by decide) ?_
    rintro v135 T h11 X ⟨K_, rfl, b10, kb_b10, lo_b10, hi_b10, A_b10, Fc_b9, Fv_b9⟩
    have zs_h11 : h8.size ≤ h11.size := K_.1
    have OL := OL.keep K_ (allS (by omega) all0)
    have A_b6 := A_b6.keep K_ (ninS (by show @Ne Nat _ _; omega) nin0)
    have A_b9 := A_b9.keep K_
    show own_Ends p e below _ (T.setTop (mkF m 138 #[.val (.int pn), .val (.int pa), .val (.int pb), .val (.int pc), .val (.int pd), .val (.int pw), .val (.int c1), .val (.int c2), .val (.int c3), .val (.int c4), .val (.int (1 : Int32)), .val (.ref b6), .unset, .unset, .unset] [(.ref b9)]))
    refine own_astore X 140 #[.val (.int pn), .val (.int pa), .val (.int pb), .val (.int pc), .val (.int pd), .val (.int pw), .val (.int c1), .val (.int c2), .val (.int c3), .val (.int c4), .val (.int (1 : Int32)), .val (.ref b6), .val (.ref b9), .unset, .unset] at_138 rfl rfl rfl ?_
    refine own_iload X 142 pw at_140 rfl rfl ?_
    refine own_sipush X 145 (255 : Int32) at_142 rfl (by decide) ?_
    refine own_iand X 146 at_145 rfl ?_
    refine own_i2c X 147 at_146 rfl ?_
    refine own_callS X 150 [(.int (pw &&& (255 : Int32)).toUInt32.toUInt16.toUInt32.toInt32)] [] at_147 rfl (hw _ (List.mem_of_getElem? (i := 35) rfl)) (hw _ (List.mem_of_getElem? (i := 36) rfl)) (hw _ (List.mem_of_getElem? (i := 8) rfl)) (hw _ (List.mem_of_getElem? (i := 37) rfl)) (by decide) (own_vo l Z a0 hw (pw &&& (255 : Int32)).toUInt32.toUInt16.toUInt32.toInt32 cs h11 n0 X.sz OL z_cs hcs (own_i2c_le pw)) (fun _ _ q => q.1.1) rfl own_pd16 rfl rfl rfl (by decide) (Nat.le_of_ble_eq_true rfl) (by decide) (by decide) ?_
    rintro v147 T h13 X ⟨K_, b12, rfl, lo_b12, hi_b12⟩
    have zs_h13 : h11.size ≤ h13.size := K_.1
    have OL := OL.keep K_ all0
    have A_b6 := A_b6.keep K_ nin0
    have A_b9 := A_b9.keep K_
    have A_b10 := A_b10.keep K_ nin0
    have Fc_b9 := Fc_b9.keep K_ nin0
    have Fv_b9 := Fv_b9.keep K_ nin0
    show own_Ends p e below _ (T.setTop (mkF m 150 #[.val (.int pn), .val (.int pa), .val (.int pb), .val (.int pc), .val (.int pd), .val (.int pw), .val (.int c1), .val (.int c2), .val (.int c3), .val (.int c4), .val (.int (1 : Int32)), .val (.ref b6), .val (.ref b9), .unset, .unset] [(.ref b12)]))
    refine own_astore X 152 #[.val (.int pn), .val (.int pa), .val (.int pb), .val (.int pc), .val (.int pd), .val (.int pw), .val (.int c1), .val (.int c2), .val (.int c3), .val (.int c4), .val (.int (1 : Int32)), .val (.ref b6), .val (.ref b9), .val (.ref b12), .unset] at_150 rfl rfl rfl ?_
    refine own_aload X 154 (.ref b12) at_152 rfl rfl rfl ?_
    refine own_aload X 156 (.ref b9) at_154 rfl rfl rfl ?_
    refine own_callS X 159 [(.ref b12), (.ref b9)] [] at_156 rfl (hw _ (List.mem_of_getElem? (i := 49) rfl)) (hw _ (List.mem_of_getElem? (i := 50) rfl)) (hw _ (List.mem_of_getElem? (i := 51) rfl)) (hw _ (List.mem_of_getElem? (i := 52) rfl)) (by decide) (own_rq1 l Z a0 hw b12 b9 cs fo b10 kb_b10 c1 h13 n0 X.sz OL z_cs hcs z_fo hfo A_b9 Fc_b9 Fv_b9 A_b10 ok_c1) (fun _ _ q => Nat.le_of_eq (congrArg Array.size q.1.symm)) rfl own_pd17 rfl rfl rfl (by decide) (Nat.le_of_ble_eq_true rfl) (by decide) (by decide) ?_
    rintro v156 T h_ X ⟨eh_, rfl⟩
    rw [eh_] at X
    show own_Ends p e below _ (T.setTop (mkF m 159 #[.val (.int pn), .val (.int pa), .val (.int pb), .val (.int pc), .val (.int pd), .val (.int pw), .val (.int c1), .val (.int c2), .val (.int c3), .val (.int c4), .val (.int (1 : Int32)), .val (.ref b6), .val (.ref b9), .val (.ref b12), .unset] [(.ref b9)]))
    refine own_astore X 161 #[.val (.int pn), .val (.int pa), .val (.int pb), .val (.int pc), .val (.int pd), .val (.int pw), .val (.int c1), .val (.int c2), .val (.int c3), .val (.int c4), .val (.int (1 : Int32)), .val (.ref b6), .val (.ref b9), .val (.ref b12), .val (.ref b9)] at_159 rfl rfl rfl ?_
    refine own_aload X 163 (.ref b9) at_161 rfl rfl rfl ?_
    refine own_aload X 165 (.ref b9) at_163 rfl rfl rfl ?_
    refine own_acN X 168 at_165 rfl rfl rfl (XT.aa_ne_f rfl) ?_
    refine own_iconst X 169 (1 : Int32) at_168 rfl rfl ?_
    refine own_goto X 173 at_169 (by decide) (by decide) ?_
    exact own_retN X .boolean at_173 rfl (by simp) (by decide) (by decide) (by decide)
  · rw [hn_, show (1 : Int32) + (1 : Int32) = (2 : Int32) from by decide]
    refine own_istore X 32 #[.val (.int pn), .val (.int pa), .val (.int pb), .val (.int pc), .val (.int pd), .val (.int pw), .val (.int c1), .val (.int c2), .val (.int c3), .val (.int c4), .val (.int (2 : Int32)), .unset, .unset, .unset, .unset] at_30 rfl rfl ?_
    refine own_iload X 34 (2 : Int32) at_32 rfl rfl ?_
    refine own_iconst X 35 (1 : Int32) at_34 rfl rfl ?_
    refine own_icY X 51 at_35 (by decide) (by decide) (XT.ii_ne_t (by decide)) ?_
    refine own_iload X 53 (2 : Int32) at_51 rfl rfl ?_
    refine own_iconst X 54 (2 : Int32) at_53 rfl rfl ?_
    refine own_icN X 57 at_54 rfl (XT.ii_ne_f (by decide)) ?_
    refine own_iconst X 58 (2 : Int32) at_57 rfl rfl ?_
    refine own_newP X 60 2 2 at_58 rfl (hw _ (List.mem_of_getElem? (i := 5) rfl)) (by decide) (by decide) (by decide) (by decide) (by decide) (by decide) ?_
    intro T h14 b15 kc_b15 g_b15 X E_h14 A_b15
    have zs_h14 : h0.size ≤ h14.size := E_h14.1
    have OL := OL.ext E_h14
    have lo_b15 : h0.size ≤ b15 := Nat.le_of_eq g_b15.symm
    have hi_b15 : h14.size > b15 := A_b15.lt
    have A_b15 : own_A Z h14 b15 kc_b15 .char [(.int (0 : Int32)), (.int (0 : Int32))] := A_b15
    refine own_dup X 61 at_60 rfl rfl ?_
    refine own_iconst X 62 (0 : Int32) at_61 rfl rfl ?_
    refine own_iload X 64 c1 at_62 rfl rfl ?_
    refine own_castore X 65 0 at_64 rfl A_b15 (by decide) (by decide) (Nat.le_of_ble_eq_true rfl) (by omega) ?_
    intro T h16 X W_h16
    rw [own_narc ok_c1] at W_h16
    have nw_h16 : own_A Z h16 b15 kc_b15 .char [(.int c1), (.int (0 : Int32))] := A_b15.same W_h16 (own_fitc ok_c1)
    have zs_h16 : h14.size ≤ h16.size := (Nat.le_of_eq W_h16.size.symm)
    have OL := OL.wr W_h16 (by omega)
    have A_b15 := nw_h16
    refine own_dup X 66 at_65 rfl rfl ?_
    refine own_iconst X 67 (1 : Int32) at_66 rfl rfl ?_
    refine own_iload X 69 c2 at_67 rfl rfl ?_
    refine own_castore X 70 1 at_69 rfl A_b15 (by decide) (by decide) (Nat.le_of_ble_eq_true rfl) (by omega) ?_
    intro T h17 X W_h17
    rw [own_narc ok_c2] at W_h17
    have nw_h17 : own_A Z h17 b15 kc_b15 .char [(.int c1), (.int c2)] := A_b15.same W_h17 (own_fitc ok_c2)
    have zs_h17 : h16.size ≤ h17.size := (Nat.le_of_eq W_h17.size.symm)
    have OL := OL.wr W_h17 (by omega)
    have A_b15 := nw_h17
    refine own_astore X 72 #[.val (.int pn), .val (.int pa), .val (.int pb), .val (.int pc), .val (.int pd), .val (.int pw), .val (.int c1), .val (.int c2), .val (.int c3), .val (.int c4), .val (.int (2 : Int32)), .val (.ref b15), .unset, .unset, .unset] at_70 rfl rfl rfl ?_
    refine own_goto X 129 at_72 (by decide) (by decide) ?_
    refine own_new X 132 at_129 rfl (hw _ (List.mem_of_getElem? (i := 6) rfl)) (hw _ (List.mem_of_getElem? (i := 7) rfl)) (hw _ (List.mem_of_getElem? (i := 8) rfl)) (by decide) (by decide) ?_
    intro T h18 b19 g_b19 X E_h18 A_b19 D_b19
    have zs_h18 : h17.size ≤ h18.size := E_h18.1
    have OL := OL.ext E_h18
    have A_b15 := A_b15.ext E_h18
    have lo_b19 : h17.size ≤ b19 := Nat.le_of_eq g_b19.symm
    have hi_b19 : h18.size > b19 := A_b19.lt
    have F_coder_b19 : Fld Z h18 b19 "java/lang/String" "coder" "B" (.int (0 : Int32)) := D_b19 (Or.inr (hw _ (List.mem_of_getElem? (i := 32) rfl))) (ty := .byte) (by decide)
    have F_value_b19 : Fld Z h18 b19 "java/lang/String" "value" "[B" .null := D_b19 (Or.inr (hw _ (List.mem_of_getElem? (i := 34) rfl))) (ty := (.array .byte)) (by decide)
    refine own_dup X 133 at_132 rfl rfl ?_
    refine own_aload X 135 (.ref b15) at_133 rfl rfl rfl ?_
    refine own_init X 138 [(.ref b15)] [(.ref b19)] at_135 rfl (hw _ (List.mem_of_getElem? (i := 9) rfl)) (hw _ (List.mem_of_getElem? (i := 10) rfl)) (hw _ (List.mem_of_getElem? (i := 8) rfl)) (hw _ (List.mem_of_getElem? (i := 11) rfl)) (by decide) rfl (own_sn_2 l Z a0 hw b19 b15 cs kc_b15 c1 c2 h18 n0 X.sz OL z_cs hcs A_b19 F_coder_b19 F_value_b19 (by omega) A_b15 (by show @Ne Nat _ _; omega) ok_c1 ok_c2) (fun _ _ q => q.1.1) rfl own_pd15 rfl rfl rfl (by decide) (Nat.le_of_ble_eq_true rfl) (by decide) (by decide) ?_
    rintro v135 T h21 X ⟨K_, rfl, b20, kb_b20, lo_b20, hi_b20, A_b20, Fc_b19, Fv_b19⟩
    have zs_h21 : h18.size ≤ h21.size := K_.1
    have OL := OL.keep K_ (allS (by omega) all0)
    have A_b15 := A_b15.keep K_ (ninS (by show @Ne Nat _ _; omega) nin0)
    have A_b19 := A_b19.keep K_
    show own_Ends p e below _ (T.setTop (mkF m 138 #[.val (.int pn), .val (.int pa), .val (.int pb), .val (.int pc), .val (.int pd), .val (.int pw), .val (.int c1), .val (.int c2), .val (.int c3), .val (.int c4), .val (.int (2 : Int32)), .val (.ref b15), .unset, .unset, .unset] [(.ref b19)]))
    refine own_astore X 140 #[.val (.int pn), .val (.int pa), .val (.int pb), .val (.int pc), .val (.int pd), .val (.int pw), .val (.int c1), .val (.int c2), .val (.int c3), .val (.int c4), .val (.int (2 : Int32)), .val (.ref b15), .val (.ref b19), .unset, .unset] at_138 rfl rfl rfl ?_
    refine own_iload X 142 pw at_140 rfl rfl ?_
    refine own_sipush X 145 (255 : Int32) at_142 rfl (by decide) ?_
    refine own_iand X 146 at_145 rfl ?_
    refine own_i2c X 147 at_146 rfl ?_
    refine own_callS X 150 [(.int (pw &&& (255 : Int32)).toUInt32.toUInt16.toUInt32.toInt32)] [] at_147 rfl (hw _ (List.mem_of_getElem? (i := 35) rfl)) (hw _ (List.mem_of_getElem? (i := 36) rfl)) (hw _ (List.mem_of_getElem? (i := 8) rfl)) (hw _ (List.mem_of_getElem? (i := 37) rfl)) (by decide) (own_vo l Z a0 hw (pw &&& (255 : Int32)).toUInt32.toUInt16.toUInt32.toInt32 cs h21 n0 X.sz OL z_cs hcs (own_i2c_le pw)) (fun _ _ q => q.1.1) rfl own_pd16 rfl rfl rfl (by decide) (Nat.le_of_ble_eq_true rfl) (by decide) (by decide) ?_
    rintro v147 T h23 X ⟨K_, b22, rfl, lo_b22, hi_b22⟩
    have zs_h23 : h21.size ≤ h23.size := K_.1
    have OL := OL.keep K_ all0
    have A_b15 := A_b15.keep K_ nin0
    have A_b19 := A_b19.keep K_
    have A_b20 := A_b20.keep K_ nin0
    have Fc_b19 := Fc_b19.keep K_ nin0
    have Fv_b19 := Fv_b19.keep K_ nin0
    show own_Ends p e below _ (T.setTop (mkF m 150 #[.val (.int pn), .val (.int pa), .val (.int pb), .val (.int pc), .val (.int pd), .val (.int pw), .val (.int c1), .val (.int c2), .val (.int c3), .val (.int c4), .val (.int (2 : Int32)), .val (.ref b15), .val (.ref b19), .unset, .unset] [(.ref b22)]))
    refine own_astore X 152 #[.val (.int pn), .val (.int pa), .val (.int pb), .val (.int pc), .val (.int pd), .val (.int pw), .val (.int c1), .val (.int c2), .val (.int c3), .val (.int c4), .val (.int (2 : Int32)), .val (.ref b15), .val (.ref b19), .val (.ref b22), .unset] at_150 rfl rfl rfl ?_
    refine own_aload X 154 (.ref b22) at_152 rfl rfl rfl ?_
    refine own_aload X 156 (.ref b19) at_154 rfl rfl rfl ?_
    refine own_callS X 159 [(.ref b22), (.ref b19)] [] at_156 rfl (hw _ (List.mem_of_getElem? (i := 49) rfl)) (hw _ (List.mem_of_getElem? (i := 50) rfl)) (hw _ (List.mem_of_getElem? (i := 51) rfl)) (hw _ (List.mem_of_getElem? (i := 52) rfl)) (by decide) (own_rq2 l Z a0 hw b22 b19 cs fo b20 kb_b20 c1 c2 h23 n0 X.sz OL z_cs hcs z_fo hfo A_b19 Fc_b19 Fv_b19 A_b20 ok_c1 ok_c2) (fun _ _ q => Nat.le_of_eq (congrArg Array.size q.1.symm)) rfl own_pd17 rfl rfl rfl (by decide) (Nat.le_of_ble_eq_true rfl) (by decide) (by decide) ?_
    rintro v156 T h_ X ⟨eh_, rfl⟩
    rw [eh_] at X
    show own_Ends p e below _ (T.setTop (mkF m 159 #[.val (.int pn), .val (.int pa), .val (.int pb), .val (.int pc), .val (.int pd), .val (.int pw), .val (.int c1), .val (.int c2), .val (.int c3), .val (.int c4), .val (.int (2 : Int32)), .val (.ref b15), .val (.ref b19), .val (.ref b22), .unset] [(.ref b19)]))
    refine own_astore X 161 #[.val (.int pn), .val (.int pa), .val (.int pb), .val (.int pc), .val (.int pd), .val (.int pw), .val (.int c1), .val (.int c2), .val (.int c3), .val (.int c4), .val (.int (2 : Int32)), .val (.ref b15), .val (.ref b19), .val (.ref b22), .val (.ref b19)] at_159 rfl rfl rfl ?_
    refine own_aload X 163 (.ref b19) at_161 rfl rfl rfl ?_
    refine own_aload X 165 (.ref b19) at_163 rfl rfl rfl ?_
    refine own_acN X 168 at_165 rfl rfl rfl (XT.aa_ne_f rfl) ?_
    refine own_iconst X 169 (1 : Int32) at_168 rfl rfl ?_
    refine own_goto X 173 at_169 (by decide) (by decide) ?_
    exact own_retN X .boolean at_173 rfl (by simp) (by decide) (by decide) (by decide)
  · rw [hn_, show (1 : Int32) + (2 : Int32) = (3 : Int32) from by decide]
    refine own_istore X 32 #[.val (.int pn), .val (.int pa), .val (.int pb), .val (.int pc), .val (.int pd), .val (.int pw), .val (.int c1), .val (.int c2), .val (.int c3), .val (.int c4), .val (.int (3 : Int32)), .unset, .unset, .unset, .unset] at_30 rfl rfl ?_
    refine own_iload X 34 (3 : Int32) at_32 rfl rfl ?_
    refine own_iconst X 35 (1 : Int32) at_34 rfl rfl ?_
    refine own_icY X 51 at_35 (by decide) (by decide) (XT.ii_ne_t (by decide)) ?_
    refine own_iload X 53 (3 : Int32) at_51 rfl rfl ?_
    refine own_iconst X 54 (2 : Int32) at_53 rfl rfl ?_
    refine own_icY X 75 at_54 (by decide) (by decide) (XT.ii_ne_t (by decide)) ?_
    refine own_iload X 77 (3 : Int32) at_75 rfl rfl ?_
    refine own_iconst X 78 (3 : Int32) at_77 rfl rfl ?_
    refine own_icN X 81 at_78 rfl (XT.ii_ne_f (by decide)) ?_
    refine own_iconst X 82 (3 : Int32) at_81 rfl rfl ?_
    refine own_newP X 84 3 3 at_82 rfl (hw _ (List.mem_of_getElem? (i := 5) rfl)) (by decide) (by decide) (by decide) (by decide) (by decide) (by decide) ?_
    intro T h24 b25 kc_b25 g_b25 X E_h24 A_b25
    have zs_h24 : h0.size ≤ h24.size := E_h24.1
    have OL := OL.ext E_h24
    have lo_b25 : h0.size ≤ b25 := Nat.le_of_eq g_b25.symm
    have hi_b25 : h24.size > b25 := A_b25.lt
    have A_b25 : own_A Z h24 b25 kc_b25 .char [(.int (0 : Int32)), (.int (0 : Int32)), (.int (0 : Int32))] := A_b25
    refine own_dup X 85 at_84 rfl rfl ?_
    refine own_iconst X 86 (0 : Int32) at_85 rfl rfl ?_
    refine own_iload X 88 c1 at_86 rfl rfl ?_
    refine own_castore X 89 0 at_88 rfl A_b25 (by decide) (by decide) (Nat.le_of_ble_eq_true rfl) (by omega) ?_
    intro T h26 X W_h26
    rw [own_narc ok_c1] at W_h26
    have nw_h26 : own_A Z h26 b25 kc_b25 .char [(.int c1), (.int (0 : Int32)), (.int (0 : Int32))] := A_b25.same W_h26 (own_fitc ok_c1)
    have zs_h26 : h24.size ≤ h26.size := (Nat.le_of_eq W_h26.size.symm)
    have OL := OL.wr W_h26 (by omega)
    have A_b25 := nw_h26
    refine own_dup X 90 at_89 rfl rfl ?_
    refine own_iconst X 91 (1 : Int32) at_90 rfl rfl ?_
    refine own_iload X 93 c2 at_91 rfl rfl ?_
    refine own_castore X 94 1 at_93 rfl A_b25 (by decide) (by decide) (Nat.le_of_ble_eq_true rfl) (by omega) ?_
    intro T h27 X W_h27
    rw [own_narc ok_c2] at W_h27
    have nw_h27 : own_A Z h27 b25 kc_b25 .char [(.int c1), (.int c2), (.int (0 : Int32))] := A_b25.same W_h27 (own_fitc ok_c2)
    have zs_h27 : h26.size ≤ h27.size := (Nat.le_of_eq W_h27.size.symm)
    have OL := OL.wr W_h27 (by omega)
    have A_b25 := nw_h27
    refine own_dup X 95 at_94 rfl rfl ?_
    refine own_iconst X 96 (2 : Int32) at_95 rfl rfl ?_
    refine own_iload X 98 c3 at_96 rfl rfl ?_
    refine own_castore X 99 2 at_98 rfl A_b25 (by decide) (by decide) (Nat.le_of_ble_eq_true rfl) (by omega) ?_
    intro T h28 X W_h28
    rw [own_narc ok_c3] at W_h28
    have nw_h28 : own_A Z h28 b25 kc_b25 .char [(.int c1), (.int c2), (.int c3)] := A_b25.same W_h28 (own_fitc ok_c3)
    have zs_h28 : h27.size ≤ h28.size := (Nat.le_of_eq W_h28.size.symm)
    have OL := OL.wr W_h28 (by omega)
    have A_b25 := nw_h28
    refine own_astore X 101 #[.val (.int pn), .val (.int pa), .val (.int pb), .val (.int pc), .val (.int pd), .val (.int pw), .val (.int c1), .val (.int c2), .val (.int c3), .val (.int c4), .val (.int (3 : Int32)), .val (.ref b25), .unset, .unset, .unset] at_99 rfl rfl rfl ?_
    refine own_goto X 129 at_101 (by decide) (by decide) ?_
    refine own_new X 132 at_129 rfl (hw _ (List.mem_of_getElem? (i := 6) rfl)) (hw _ (List.mem_of_getElem? (i := 7) rfl)) (hw _ (List.mem_of_getElem? (i := 8) rfl)) (by decide) (by decide) ?_
    intro T h29 b30 g_b30 X E_h29 A_b30 D_b30
    have zs_h29 : h28.size ≤ h29.size := E_h29.1
    have OL := OL.ext E_h29
    have A_b25 := A_b25.ext E_h29
    have lo_b30 : h28.size ≤ b30 := Nat.le_of_eq g_b30.symm
    have hi_b30 : h29.size > b30 := A_b30.lt
    have F_coder_b30 : Fld Z h29 b30 "java/lang/String" "coder" "B" (.int (0 : Int32)) := D_b30 (Or.inr (hw _ (List.mem_of_getElem? (i := 32) rfl))) (ty := .byte) (by decide)
    have F_value_b30 : Fld Z h29 b30 "java/lang/String" "value" "[B" .null := D_b30 (Or.inr (hw _ (List.mem_of_getElem? (i := 34) rfl))) (ty := (.array .byte)) (by decide)
    refine own_dup X 133 at_132 rfl rfl ?_
    refine own_aload X 135 (.ref b25) at_133 rfl rfl rfl ?_
    refine own_init X 138 [(.ref b25)] [(.ref b30)] at_135 rfl (hw _ (List.mem_of_getElem? (i := 9) rfl)) (hw _ (List.mem_of_getElem? (i := 10) rfl)) (hw _ (List.mem_of_getElem? (i := 8) rfl)) (hw _ (List.mem_of_getElem? (i := 11) rfl)) (by decide) rfl (own_sn_3 l Z a0 hw b30 b25 cs kc_b25 c1 c2 c3 h29 n0 X.sz OL z_cs hcs A_b30 F_coder_b30 F_value_b30 (by omega) A_b25 (by show @Ne Nat _ _; omega) ok_c1 ok_c2 ok_c3) (fun _ _ q => q.1.1) rfl own_pd15 rfl rfl rfl (by decide) (Nat.le_of_ble_eq_true rfl) (by decide) (by decide) ?_
    rintro v135 T h32 X ⟨K_, rfl, b31, kb_b31, lo_b31, hi_b31, A_b31, Fc_b30, Fv_b30⟩
    have zs_h32 : h29.size ≤ h32.size := K_.1
    have OL := OL.keep K_ (allS (by omega) all0)
    have A_b25 := A_b25.keep K_ (ninS (by show @Ne Nat _ _; omega) nin0)
    have A_b30 := A_b30.keep K_
    show own_Ends p e below _ (T.setTop (mkF m 138 #[.val (.int pn), .val (.int pa), .val (.int pb), .val (.int pc), .val (.int pd), .val (.int pw), .val (.int c1), .val (.int c2), .val (.int c3), .val (.int c4), .val (.int (3 : Int32)), .val (.ref b25), .unset, .unset, .unset] [(.ref b30)]))
    refine own_astore X 140 #[.val (.int pn), .val (.int pa), .val (.int pb), .val (.int pc), .val (.int pd), .val (.int pw), .val (.int c1), .val (.int c2), .val (.int c3), .val (.int c4), .val (.int (3 : Int32)), .val (.ref b25), .val (.ref b30), .unset, .unset] at_138 rfl rfl rfl ?_
    refine own_iload X 142 pw at_140 rfl rfl ?_
    refine own_sipush X 145 (255 : Int32) at_142 rfl (by decide) ?_
    refine own_iand X 146 at_145 rfl ?_
    refine own_i2c X 147 at_146 rfl ?_
    refine own_callS X 150 [(.int (pw &&& (255 : Int32)).toUInt32.toUInt16.toUInt32.toInt32)] [] at_147 rfl (hw _ (List.mem_of_getElem? (i := 35) rfl)) (hw _ (List.mem_of_getElem? (i := 36) rfl)) (hw _ (List.mem_of_getElem? (i := 8) rfl)) (hw _ (List.mem_of_getElem? (i := 37) rfl)) (by decide) (own_vo l Z a0 hw (pw &&& (255 : Int32)).toUInt32.toUInt16.toUInt32.toInt32 cs h32 n0 X.sz OL z_cs hcs (own_i2c_le pw)) (fun _ _ q => q.1.1) rfl own_pd16 rfl rfl rfl (by decide) (Nat.le_of_ble_eq_true rfl) (by decide) (by decide) ?_
    rintro v147 T h34 X ⟨K_, b33, rfl, lo_b33, hi_b33⟩
    have zs_h34 : h32.size ≤ h34.size := K_.1
    have OL := OL.keep K_ all0
    have A_b25 := A_b25.keep K_ nin0
    have A_b30 := A_b30.keep K_
    have A_b31 := A_b31.keep K_ nin0
    have Fc_b30 := Fc_b30.keep K_ nin0
    have Fv_b30 := Fv_b30.keep K_ nin0
    show own_Ends p e below _ (T.setTop (mkF m 150 #[.val (.int pn), .val (.int pa), .val (.int pb), .val (.int pc), .val (.int pd), .val (.int pw), .val (.int c1), .val (.int c2), .val (.int c3), .val (.int c4), .val (.int (3 : Int32)), .val (.ref b25), .val (.ref b30), .unset, .unset] [(.ref b33)]))
    refine own_astore X 152 #[.val (.int pn), .val (.int pa), .val (.int pb), .val (.int pc), .val (.int pd), .val (.int pw), .val (.int c1), .val (.int c2), .val (.int c3), .val (.int c4), .val (.int (3 : Int32)), .val (.ref b25), .val (.ref b30), .val (.ref b33), .unset] at_150 rfl rfl rfl ?_
    refine own_aload X 154 (.ref b33) at_152 rfl rfl rfl ?_
    refine own_aload X 156 (.ref b30) at_154 rfl rfl rfl ?_
    refine own_callS X 159 [(.ref b33), (.ref b30)] [] at_156 rfl (hw _ (List.mem_of_getElem? (i := 49) rfl)) (hw _ (List.mem_of_getElem? (i := 50) rfl)) (hw _ (List.mem_of_getElem? (i := 51) rfl)) (hw _ (List.mem_of_getElem? (i := 52) rfl)) (by decide) (own_rq3 l Z a0 hw b33 b30 cs fo b31 kb_b31 c1 c2 c3 h34 n0 X.sz OL z_cs hcs z_fo hfo A_b30 Fc_b30 Fv_b30 A_b31 ok_c1 ok_c2 ok_c3) (fun _ _ q => Nat.le_of_eq (congrArg Array.size q.1.symm)) rfl own_pd17 rfl rfl rfl (by decide) (Nat.le_of_ble_eq_true rfl) (by decide) (by decide) ?_
    rintro v156 T h_ X ⟨eh_, rfl⟩
    rw [eh_] at X
    show own_Ends p e below _ (T.setTop (mkF m 159 #[.val (.int pn), .val (.int pa), .val (.int pb), .val (.int pc), .val (.int pd), .val (.int pw), .val (.int c1), .val (.int c2), .val (.int c3), .val (.int c4), .val (.int (3 : Int32)), .val (.ref b25), .val (.ref b30), .val (.ref b33), .unset] [(.ref b30)]))
    refine own_astore X 161 #[.val (.int pn), .val (.int pa), .val (.int pb), .val (.int pc), .val (.int pd), .val (.int pw), .val (.int c1), .val (.int c2), .val (.int c3), .val (.int c4), .val (.int (3 : Int32)), .val (.ref b25), .val (.ref b30), .val (.ref b33), .val (.ref b30)] at_159 rfl rfl rfl ?_
    refine own_aload X 163 (.ref b30) at_161 rfl rfl rfl ?_
    refine own_aload X 165 (.ref b30) at_163 rfl rfl rfl ?_
    refine own_acN X 168 at_165 rfl rfl rfl (XT.aa_ne_f rfl) ?_
    refine own_iconst X 169 (1 : Int32) at_168 rfl rfl ?_
    refine own_goto X 173 at_169 (by decide) (by decide) ?_
    exact own_retN X .boolean at_173 rfl (by simp) (by decide) (by decide) (by decide)
  · rw [hn_, show (1 : Int32) + (3 : Int32) = (4 : Int32) from by decide]
    refine own_istore X 32 #[.val (.int pn), .val (.int pa), .val (.int pb), .val (.int pc), .val (.int pd), .val (.int pw), .val (.int c1), .val (.int c2), .val (.int c3), .val (.int c4), .val (.int (4 : Int32)), .unset, .unset, .unset, .unset] at_30 rfl rfl ?_
    refine own_iload X 34 (4 : Int32) at_32 rfl rfl ?_
    refine own_iconst X 35 (1 : Int32) at_34 rfl rfl ?_
    refine own_icY X 51 at_35 (by decide) (by decide) (XT.ii_ne_t (by decide)) ?_
    refine own_iload X 53 (4 : Int32) at_51 rfl rfl ?_
    refine own_iconst X 54 (2 : Int32) at_53 rfl rfl ?_
    refine own_icY X 75 at_54 (by decide) (by decide) (XT.ii_ne_t (by decide)) ?_
    refine own_iload X 77 (4 : Int32) at_75 rfl rfl ?_
    refine own_iconst X 78 (3 : Int32) at_77 rfl rfl ?_
    refine own_icY X 104 at_78 (by decide) (by decide) (XT.ii_ne_t (by decide)) ?_
    refine own_iconst X 105 (4 : Int32) at_104 rfl rfl ?_
    refine own_newP X 107 4 4 at_105 rfl (hw _ (List.mem_of_getElem? (i := 5) rfl)) (by decide) (by decide) (by decide) (by decide) (by decide) (by decide) ?_
    intro T h35 b36 kc_b36 g_b36 X E_h35 A_b36
    have zs_h35 : h0.size ≤ h35.size := E_h35.1
    have OL := OL.ext E_h35
    have lo_b36 : h0.size ≤ b36 := Nat.le_of_eq g_b36.symm
    have hi_b36 : h35.size > b36 := A_b36.lt
    have A_b36 : own_A Z h35 b36 kc_b36 .char [(.int (0 : Int32)), (.int (0 : Int32)), (.int (0 : Int32)), (.int (0 : Int32))] := A_b36
    refine own_dup X 108 at_107 rfl rfl ?_
    refine own_iconst X 109 (0 : Int32) at_108 rfl rfl ?_
    refine own_iload X 111 c1 at_109 rfl rfl ?_
    refine own_castore X 112 0 at_111 rfl A_b36 (by decide) (by decide) (Nat.le_of_ble_eq_true rfl) (by omega) ?_
    intro T h37 X W_h37
    rw [own_narc ok_c1] at W_h37
    have nw_h37 : own_A Z h37 b36 kc_b36 .char [(.int c1), (.int (0 : Int32)), (.int (0 : Int32)), (.int (0 : Int32))] := A_b36.same W_h37 (own_fitc ok_c1)
    have zs_h37 : h35.size ≤ h37.size := (Nat.le_of_eq W_h37.size.symm)
    have OL := OL.wr W_h37 (by omega)
    have A_b36 := nw_h37
    refine own_dup X 113 at_112 rfl rfl ?_
    refine own_iconst X 114 (1 : Int32) at_113 rfl rfl ?_
    refine own_iload X 116 c2 at_114 rfl rfl ?_
    refine own_castore X 117 1 at_116 rfl A_b36 (by decide) (by decide) (Nat.le_of_ble_eq_true rfl) (by omega) ?_
    intro T h38 X W_h38
    rw [own_narc ok_c2] at W_h38
    have nw_h38 : own_A Z h38 b36 kc_b36 .char [(.int c1), (.int c2), (.int (0 : Int32)), (.int (0 : Int32))] := A_b36.same W_h38 (own_fitc ok_c2)
    have zs_h38 : h37.size ≤ h38.size := (Nat.le_of_eq W_h38.size.symm)
    have OL := OL.wr W_h38 (by omega)
    have A_b36 := nw_h38
    refine own_dup X 118 at_117 rfl rfl ?_
    refine own_iconst X 119 (2 : Int32) at_118 rfl rfl ?_
    refine own_iload X 121 c3 at_119 rfl rfl ?_
    refine own_castore X 122 2 at_121 rfl A_b36 (by decide) (by decide) (Nat.le_of_ble_eq_true rfl) (by omega) ?_
    intro T h39 X W_h39
    rw [own_narc ok_c3] at W_h39
    have nw_h39 : own_A Z h39 b36 kc_b36 .char [(.int c1), (.int c2), (.int c3), (.int (0 : Int32))] := A_b36.same W_h39 (own_fitc ok_c3)
    have zs_h39 : h38.size ≤ h39.size := (Nat.le_of_eq W_h39.size.symm)
    have OL := OL.wr W_h39 (by omega)
    have A_b36 := nw_h39
    refine own_dup X 123 at_122 rfl rfl ?_
    refine own_iconst X 124 (3 : Int32) at_123 rfl rfl ?_
    refine own_iload X 126 c4 at_124 rfl rfl ?_
    refine own_castore X 127 3 at_126 rfl A_b36 (by decide) (by decide) (Nat.le_of_ble_eq_true rfl) (by omega) ?_
    intro T h40 X W_h40
    rw [own_narc ok_c4] at W_h40
    have nw_h40 : own_A Z h40 b36 kc_b36 .char [(.int c1), (.int c2), (.int c3), (.int c4)] := A_b36.same W_h40 (own_fitc ok_c4)
    have zs_h40 : h39.size ≤ h40.size := (Nat.le_of_eq W_h40.size.symm)
    have OL := OL.wr W_h40 (by omega)
    have A_b36 := nw_h40
    refine own_astore X 129 #[.val (.int pn), .val (.int pa), .val (.int pb), .val (.int pc), .val (.int pd), .val (.int pw), .val (.int c1), .val (.int c2), .val (.int c3), .val (.int c4), .val (.int (4 : Int32)), .val (.ref b36), .unset, .unset, .unset] at_127 rfl rfl rfl ?_
    refine own_new X 132 at_129 rfl (hw _ (List.mem_of_getElem? (i := 6) rfl)) (hw _ (List.mem_of_getElem? (i := 7) rfl)) (hw _ (List.mem_of_getElem? (i := 8) rfl)) (by decide) (by decide) ?_
    intro T h41 b42 g_b42 X E_h41 A_b42 D_b42
    have zs_h41 : h40.size ≤ h41.size := E_h41.1
    have OL := OL.ext E_h41
    have A_b36 := A_b36.ext E_h41
    have lo_b42 : h40.size ≤ b42 := Nat.le_of_eq g_b42.symm
    have hi_b42 : h41.size > b42 := A_b42.lt
    have F_coder_b42 : Fld Z h41 b42 "java/lang/String" "coder" "B" (.int (0 : Int32)) := D_b42 (Or.inr (hw _ (List.mem_of_getElem? (i := 32) rfl))) (ty := .byte) (by decide)
    have F_value_b42 : Fld Z h41 b42 "java/lang/String" "value" "[B" .null := D_b42 (Or.inr (hw _ (List.mem_of_getElem? (i := 34) rfl))) (ty := (.array .byte)) (by decide)
    refine own_dup X 133 at_132 rfl rfl ?_
    refine own_aload X 135 (.ref b36) at_133 rfl rfl rfl ?_
    refine own_init X 138 [(.ref b36)] [(.ref b42)] at_135 rfl (hw _ (List.mem_of_getElem? (i := 9) rfl)) (hw _ (List.mem_of_getElem? (i := 10) rfl)) (hw _ (List.mem_of_getElem? (i := 8) rfl)) (hw _ (List.mem_of_getElem? (i := 11) rfl)) (by decide) rfl (own_sn_4 l Z a0 hw b42 b36 cs kc_b36 c1 c2 c3 c4 h41 n0 X.sz OL z_cs hcs A_b42 F_coder_b42 F_value_b42 (by omega) A_b36 (by show @Ne Nat _ _; omega) ok_c1 ok_c2 ok_c3 ok_c4) (fun _ _ q => q.1.1) rfl own_pd15 rfl rfl rfl (by decide) (Nat.le_of_ble_eq_true rfl) (by decide) (by decide) ?_
    rintro v135 T h44 X ⟨K_, rfl, b43, kb_b43, lo_b43, hi_b43, A_b43, Fc_b42, Fv_b42⟩
    have zs_h44 : h41.size ≤ h44.size := K_.1
    have OL := OL.keep K_ (allS (by omega) all0)
    have A_b36 := A_b36.keep K_ (ninS (by show @Ne Nat _ _; omega) nin0)
    have A_b42 := A_b42.keep K_
    show own_Ends p e below _ (T.setTop (mkF m 138 #[.val (.int pn), .val (.int pa), .val (.int pb), .val (.int pc), .val (.int pd), .val (.int pw), .val (.int c1), .val (.int c2), .val (.int c3), .val (.int c4), .val (.int (4 : Int32)), .val (.ref b36), .unset, .unset, .unset] [(.ref b42)]))
    refine own_astore X 140 #[.val (.int pn), .val (.int pa), .val (.int pb), .val (.int pc), .val (.int pd), .val (.int pw), .val (.int c1), .val (.int c2), .val (.int c3), .val (.int c4), .val (.int (4 : Int32)), .val (.ref b36), .val (.ref b42), .unset, .unset] at_138 rfl rfl rfl ?_
    refine own_iload X 142 pw at_140 rfl rfl ?_
    refine own_sipush X 145 (255 : Int32) at_142 rfl (by decide) ?_
    refine own_iand X 146 at_145 rfl ?_
    refine own_i2c X 147 at_146 rfl ?_
    refine own_callS X 150 [(.int (pw &&& (255 : Int32)).toUInt32.toUInt16.toUInt32.toInt32)] [] at_147 rfl (hw _ (List.mem_of_getElem? (i := 35) rfl)) (hw _ (List.mem_of_getElem? (i := 36) rfl)) (hw _ (List.mem_of_getElem? (i := 8) rfl)) (hw _ (List.mem_of_getElem? (i := 37) rfl)) (by decide) (own_vo l Z a0 hw (pw &&& (255 : Int32)).toUInt32.toUInt16.toUInt32.toInt32 cs h44 n0 X.sz OL z_cs hcs (own_i2c_le pw)) (fun _ _ q => q.1.1) rfl own_pd16 rfl rfl rfl (by decide) (Nat.le_of_ble_eq_true rfl) (by decide) (by decide) ?_
    rintro v147 T h46 X ⟨K_, b45, rfl, lo_b45, hi_b45⟩
    have zs_h46 : h44.size ≤ h46.size := K_.1
    have OL := OL.keep K_ all0
    have A_b36 := A_b36.keep K_ nin0
    have A_b42 := A_b42.keep K_
    have A_b43 := A_b43.keep K_ nin0
    have Fc_b42 := Fc_b42.keep K_ nin0
    have Fv_b42 := Fv_b42.keep K_ nin0
    show own_Ends p e below _ (T.setTop (mkF m 150 #[.val (.int pn), .val (.int pa), .val (.int pb), .val (.int pc), .val (.int pd), .val (.int pw), .val (.int c1), .val (.int c2), .val (.int c3), .val (.int c4), .val (.int (4 : Int32)), .val (.ref b36), .val (.ref b42), .unset, .unset] [(.ref b45)]))
    refine own_astore X 152 #[.val (.int pn), .val (.int pa), .val (.int pb), .val (.int pc), .val (.int pd), .val (.int pw), .val (.int c1), .val (.int c2), .val (.int c3), .val (.int c4), .val (.int (4 : Int32)), .val (.ref b36), .val (.ref b42), .val (.ref b45), .unset] at_150 rfl rfl rfl ?_
    refine own_aload X 154 (.ref b45) at_152 rfl rfl rfl ?_
    refine own_aload X 156 (.ref b42) at_154 rfl rfl rfl ?_
    refine own_callS X 159 [(.ref b45), (.ref b42)] [] at_156 rfl (hw _ (List.mem_of_getElem? (i := 49) rfl)) (hw _ (List.mem_of_getElem? (i := 50) rfl)) (hw _ (List.mem_of_getElem? (i := 51) rfl)) (hw _ (List.mem_of_getElem? (i := 52) rfl)) (by decide) (own_rq4 l Z a0 hw b45 b42 cs fo b43 kb_b43 c1 c2 c3 c4 h46 n0 X.sz OL z_cs hcs z_fo hfo A_b42 Fc_b42 Fv_b42 A_b43 ok_c1 ok_c2 ok_c3 ok_c4) (fun _ _ q => Nat.le_of_eq (congrArg Array.size q.1.symm)) rfl own_pd17 rfl rfl rfl (by decide) (Nat.le_of_ble_eq_true rfl) (by decide) (by decide) ?_
    rintro v156 T h_ X ⟨eh_, rfl⟩
    rw [eh_] at X
    show own_Ends p e below _ (T.setTop (mkF m 159 #[.val (.int pn), .val (.int pa), .val (.int pb), .val (.int pc), .val (.int pd), .val (.int pw), .val (.int c1), .val (.int c2), .val (.int c3), .val (.int c4), .val (.int (4 : Int32)), .val (.ref b36), .val (.ref b42), .val (.ref b45), .unset] [(.ref b42)]))
    refine own_astore X 161 #[.val (.int pn), .val (.int pa), .val (.int pb), .val (.int pc), .val (.int pd), .val (.int pw), .val (.int c1), .val (.int c2), .val (.int c3), .val (.int c4), .val (.int (4 : Int32)), .val (.ref b36), .val (.ref b42), .val (.ref b45), .val (.ref b42)] at_159 rfl rfl rfl ?_
    refine own_aload X 163 (.ref b42) at_161 rfl rfl rfl ?_
    refine own_aload X 165 (.ref b42) at_163 rfl rfl rfl ?_
    refine own_acN X 168 at_165 rfl rfl rfl (XT.aa_ne_f rfl) ?_
    refine own_iconst X 169 (1 : Int32) at_168 rfl rfl ?_
    refine own_goto X 173 at_169 (by decide) (by decide) ?_
    exact own_retN X .boolean at_173 rfl (by simp) (by decide) (by decide) (by decide)
set_option maxRecDepth 65536 in
set_option maxHeartbeats 40000000 in
theorem comes_1 {Post : Tables → Env → Array Value → State → Outcome → State → Prop} (hpost : ∀ tb e args s v u, (limb_1_1.after args s (.returned v) u = true ∧ limb_1_2.after args s (.returned v) u = true ∧ True) → FrameEnd s (.returned v) u (Jvm.fieldLocs frame_1_writes args s ++ Jvm.arrayLocs frame_1_arrays args s ++ Jvm.staticLocs frame_1_statics s) 24 128 → Post tb e args s (.returned v) u) :
    ArmFor flags0 classFile x code maxLocals ret World_1 tables_1 room_1 Calls_1 rest_1 Pre_1 Post := by
  intro l hfl _ _ p e ha hc hk s m args below hf hA hF happ hP
  obtain ⟨hcalls, hrest, hpre⟩ := hP
  obtain ⟨-, -, -, hnamed, -, -, -, hat⟩ := (Spec.applies_iff hf).mp happ
  obtain ⟨hg, hn⟩ := and_e (Cond.before_iff.mp (show (Jvm.Cond.and given_1 narrow_1).before args s = true from hpre))
  obtain ⟨hcount, hg0⟩ := and_e hg
  obtain ⟨ha0, hg1⟩ := and_e hg0
  obtain ⟨ha1, hg2⟩ := and_e hg1
  obtain ⟨ha2, hg3⟩ := and_e hg2
  obtain ⟨ha3, hg4⟩ := and_e hg3
  obtain ⟨ha4, hg5⟩ := and_e hg4
  have ha5 := hg5
  obtain ⟨w0, w1, w2, w3, w4, w5, rfl⟩ : ∃ w0 w1 w2 w3 w4 w5 : Value, args = #[w0, w1, w2, w3, w4, w5] := by
    have hs : args.size = 6 := by simpa [Cond.value, given_1] using hcount
    obtain ⟨L⟩ := args
    match L, hs with
    | [w0, w1, w2, w3, w4, w5], _ => exact ⟨w0, w1, w2, w3, w4, w5, rfl⟩
  have hw := fun d (hd : d ∈ tables_1) => atoms_spec (ws := Jvm.Cond.code x code maxLocals ret :: tables_1) hat d (List.mem_cons_of_mem _ hd)
  have hfit : Fit s := fun {y c} hc i hi => by
    obtain ⟨ha, rfl⟩ := Array.getElem?_eq_some_iff.mp hc
    have q := List.all_eq_true.mp ((Array.all_eq_true_iff_forall_mem.mp hF) _ (Array.getElem_mem ha)) i (List.mem_range.mpr hi)
    simpa [Array.getElem?_eq_getElem hi] using q
  obtain ⟨hsets, hown0⟩ := atoms_of _ (rest_1_c_eq ▸ (show rest_1_c.before _ s = true from hrest))
  have hr0 := Cond.before_iff.mp hown0
  obtain ⟨i0, ei0⟩ := is_v ha0
  obtain rfl : w0 = (.int i0) := Option.some.inj ei0
  obtain ⟨i1, ei1⟩ := is_v ha1
  obtain rfl : w1 = (.int i1) := Option.some.inj ei1
  obtain ⟨i2, ei2⟩ := is_v ha2
  obtain rfl : w2 = (.int i2) := Option.some.inj ei2
  obtain ⟨i3, ei3⟩ := is_v ha3
  obtain rfl : w3 = (.int i3) := Option.some.inj ei3
  obtain ⟨i4, ei4⟩ := is_v ha4
  obtain rfl : w4 = (.int i4) := Option.some.inj ei4
  obtain ⟨i5, ei5⟩ := is_v ha5
  obtain rfl : w5 = (.int i5) := Option.some.inj ei5
  obtain ⟨cs, ecs⟩ := is_v (Cond.before_iff.mp (hsets _ (List.mem_of_getElem? (i := 1) rfl)))
  have S1 := Sta.start ecs (Or.inl (hsets _ (List.mem_of_getElem? (i := 0) rfl)))
  have hcs : ¬ cs = 0 := fun q => by
    have z1 := not_v (Cond.before_iff.mp (hsets _ (List.mem_of_getElem? (i := 2) rfl)))
    rw [q] at ecs
    simp [Cond.value, ecs, Term.int_eval] at z1
  obtain ⟨fo, efo, hfo⟩ := isR_v (Cond.before_iff.mp (hsets _ (List.mem_of_getElem? (i := 8) rfl)))
  have S2 := Sta.start efo (Or.inl (hsets _ (List.mem_of_getElem? (i := 7) rfl)))
  obtain ⟨n, o, h1, h2, h3, _, L, rfl, ⟨rfl, N⟩, hq⟩ := own_m0 l s _ hw i0 i1 i2 i3 i4 i5 cs fo s.heap s.heap.size (Nat.le_refl _) (Old.start s) S1 hcs S2 hfo tables_1 p e ha hc hk s m _ below hf ((Spec.applies_iff_loose hf).mp happ).1 ⟨rfl, State.Warmed39.refl s, rfl⟩ trivial
  refine ⟨n, _, h1, h2, h3, hpost _ _ _ _ _ _ ⟨Cond.after_iff.mpr rfl, Cond.after_iff.mpr (eq_i res_at (Term.int_eval (1)) rfl), trivial⟩ ⟨hq.1, hq.2.1, (hq.2.2.sift fun y hy => Or.inr (N y hy)).mono (by decide) (by decide)⟩⟩
theorem main_1_1 : Claimed_1_1 := comes_1 fun _ _ _ _ _ _ h hF => ⟨h.1, hF⟩
theorem main_1_2 : Claimed_1_2 := comes_1 fun _ _ _ _ _ _ h hF => ⟨h.2.1, hF⟩
end Jvm.Pilot.@@N@@
namespace Jvm.Pilot.@@N@@
open Jvm Jvm.ClassFile Sem Op Lib Jvm.Free Jvm.Stand Jvm.Pilot.@@N@@.Jvm.D
/-! MADE BY PROGRAM (witnessworld.py) out of the Statement's table words and the real class files: 20 classes; the members and pool entries that the words name. The judged class is class 1, her method 2. -/
namespace start1
open Jvm.ClassFile
def u (s : String) : CpInfo := .utf8 (stringToUtf16 s)
/-- a pool by its gaps: so many unusable entries, then the entry; so many at the end -/
def gap : Nat → List CpInfo → List CpInfo
  | 0, r => r
  | n + 1, r => .unusable :: gap n r
def poolList (es : List (Nat × CpInfo)) (last : Nat) : List CpInfo := es.foldr (fun e r => gap e.1 (e.2 :: r)) (gap last [])
def pool (es : List (Nat × CpInfo)) (last : Nat) : Array CpInfo := ⟨poolList es last⟩
def fileOf (pool : Array CpInfo) (this : Nat) (attrs : Array Attribute := #[]) (ms : Array MethodInfo := #[]) (fl : Nat := 33) (sup : Nat := 0) (ifs : Array Nat := #[]) (fds : Array FieldInfo := #[]) : ClassFile where
  minorVersion := 0
  majorVersion := 65
  constantPool := pool
  accessFlags := fl
  thisClass := this
  superClass := sup
  interfaces := ifs
  fields := fds
  methods := ms
  attributes := attrs
def plain (name : String) (sup : Option ClassId) : Class where
  name := name
  kind := .ordinary
  loader := none
  accessFlags := 33
  super := sup
  interfaces := #[]
  cf := none
  fields := #[]
  methods := #[]
  instanceTypes := #[]
  staticTypes := #[]
  resolved := #[]
  callSites := []
  init := .initialized
  statics := none
  mirror := none

def pool0 : Array CpInfo := pool [(5, u "<init>"), (0, u "()V"), (1, .class_ 10), (1, u "java/lang/Object")] 113

def k0c0 : Code := { maxStack := 0, maxLocals := 1, code := object_method_1_code, exceptionTable := #[], attributes := #[] }
def k0m0 : Method := { name := "<init>", desc := "()V", sig := { parameters := [], returnType := none }, accessFlags := 1, code := some k0c0 }
/-- java/lang/Object -/
def k0 : Class := { plain "java/lang/Object" none with
  accessFlags := 33
  interfaces := #[]
  cf := some (fileOf pool0 8 #[] #[{ accessFlags := 1, nameIndex := 5, descriptorIndex := 6, attributes := #[] }] 33 0 #[] #[])
  fields := #[]
  methods := #[k0m0]
  instanceTypes := #[]
  staticTypes := #[]
  resolved := Array.replicate 124 none
  statics := none }

def pool1 : Array CpInfo := pool [(2, .class_ 4), (1, u "java/lang/Object"), (0, u "<init>"), (0, u "()V"), (0, .integer 2147483647), (0, .methodref 9 10), (0, .class_ 11), (0, .nameAndType 12 13), (0, u "com/example/modgud/modgud/core/NamesRequirePinLaw"), (0, u "nameChar"), (0, u "(I)C"), (0, .class_ 15), (0, u "java/lang/String"), (0, .methodref 14 17), (0, .nameAndType 5 18), (0, u "([C)V"), (0, .methodref 14 20), (0, .nameAndType 21 22), (0, u "valueOf"), (0, u "(C)Ljava/lang/String;"), (0, .methodref 24 25), (0, .class_ 26), (0, .nameAndType 27 28), (0, u "com/example/modgud/modgud/core/Names"), (0, u "require"), (0, u "(Ljava/lang/String;Ljava/lang/String;)Ljava/lang/String;"), (3, u "law"), (0, u "(IIIIII)Z")] 4

def k1m0 : Method := { name := "<init>", desc := "()V", sig := { parameters := [], returnType := none }, accessFlags := 1, code := none }
def k1c1 : Code := { maxStack := 3, maxLocals := 2, code := method_2_code, exceptionTable := #[], attributes := #[] }
def k1m1 : Method := { name := "nameChar", desc := "(I)C", sig := { parameters := [.int], returnType := some .char }, accessFlags := 10, code := some k1c1 }
def k1c2 : Code := { maxStack := 4, maxLocals := 15, code := code, exceptionTable := #[], attributes := #[] }
def k1m2 : Method := { name := "law", desc := "(IIIIII)Z", sig := { parameters := [.int, .int, .int, .int, .int, .int], returnType := some .boolean }, accessFlags := 9, code := some k1c2 }
/-- com/example/modgud/modgud/core/NamesRequirePinLaw -/
def k1 : Class := { plain "com/example/modgud/modgud/core/NamesRequirePinLaw" (some 0) with
  accessFlags := 49
  interfaces := #[]
  cf := some (fileOf pool1 9 #[] #[{ accessFlags := 1, nameIndex := 5, descriptorIndex := 6, attributes := #[] }, { accessFlags := 10, nameIndex := 12, descriptorIndex := 13, attributes := #[] }, { accessFlags := 9, nameIndex := 32, descriptorIndex := 33, attributes := #[] }] 49 2 #[] #[])
  fields := #[]
  methods := #[k1m0, k1m1, k1m2]
  instanceTypes := #[]
  staticTypes := #[]
  resolved := Array.replicate 38 none
  statics := none }

def pool2 : Array CpInfo := pool [(1, .class_ 2), (0, u "java/io/Serializable"), (0, .class_ 4), (0, u "java/lang/Object")] 2

/-- java/io/Serializable -/
def k2 : Class := { plain "java/io/Serializable" (some 0) with
  accessFlags := 1537
  interfaces := #[]
  cf := some (fileOf pool2 1 #[] #[] 1537 3 #[] #[])
  fields := #[]
  methods := #[]
  instanceTypes := #[]
  staticTypes := #[]
  resolved := Array.replicate 7 none
  statics := none }

def pool3 : Array CpInfo := pool [(1, .class_ 2), (0, u "java/lang/Comparable"), (0, .class_ 4), (0, u "java/lang/Object")] 7

/-- java/lang/Comparable -/
def k3 : Class := { plain "java/lang/Comparable" (some 0) with
  accessFlags := 1537
  interfaces := #[]
  cf := some (fileOf pool3 1 #[] #[] 1537 3 #[] #[])
  fields := #[]
  methods := #[]
  instanceTypes := #[]
  staticTypes := #[]
  resolved := Array.replicate 12 none
  statics := none }

def pool4 : Array CpInfo := pool [(2, .class_ 4), (1, u "java/lang/CharSequence"), (42, .class_ 48), (0, u "java/lang/CharSequence$1CodePointIterator"), (10, .class_ 60), (0, u "java/lang/CharSequence$1CharIterator"), (5, .class_ 67), (0, u "java/lang/Object")] 63

/-- java/lang/CharSequence -/
def k4 : Class := { plain "java/lang/CharSequence" (some 0) with
  accessFlags := 1537
  interfaces := #[]
  cf := some (fileOf pool4 2 #[.nestMembers #[47, 59]] #[] 1537 66 #[] #[])
  fields := #[]
  methods := #[]
  instanceTypes := #[]
  staticTypes := #[]
  resolved := Array.replicate 131 none
  statics := none }

def pool5 : Array CpInfo := pool [(1, .class_ 2), (0, u "java/lang/constant/Constable"), (0, .class_ 4), (0, u "java/lang/Object")] 6

/-- java/lang/constant/Constable -/
def k5 : Class := { plain "java/lang/constant/Constable" (some 0) with
  accessFlags := 1537
  interfaces := #[]
  cf := some (fileOf pool5 1 #[] #[] 1537 3 #[] #[])
  fields := #[]
  methods := #[]
  instanceTypes := #[]
  staticTypes := #[]
  resolved := Array.replicate 11 none
  statics := none }

def pool6 : Array CpInfo := pool [(1, .class_ 2), (0, u "java/lang/constant/ConstantDesc"), (0, .class_ 4), (0, u "java/lang/Object")] 32

/-- java/lang/constant/ConstantDesc -/
def k6 : Class := { plain "java/lang/constant/ConstantDesc" (some 0) with
  accessFlags := 1537
  interfaces := #[]
  cf := some (fileOf pool6 1 #[] #[] 1537 3 #[] #[])
  fields := #[]
  methods := #[]
  instanceTypes := #[]
  staticTypes := #[]
  resolved := Array.replicate 37 none
  statics := none }

def pool7 : Array CpInfo := pool [(1, .methodref 2 3), (0, .class_ 4), (0, .nameAndType 5 6), (0, u "java/lang/Object"), (0, u "<init>"), (0, u "()V"), (2, .fieldref 10 11), (0, .class_ 12), (0, .nameAndType 13 14), (0, u "java/lang/String"), (0, u "value"), (0, u "[B"), (0, .fieldref 10 16), (0, .nameAndType 17 18), (0, u "coder"), (0, u "B"), (2, u "hash"), (0, u "I"), (2, u "hashIsZero"), (0, u "Z"), (0, .methodref 10 28), (0, .nameAndType 5 29), (0, u "([CIILjava/lang/Void;)V"), (8, .fieldref 10 39), (0, .nameAndType 40 26), (0, u "COMPACT_STRINGS"), (1, .class_ 44), (1, u "java/lang/StringUTF16"), (0, u "compress"), (1, .methodref 42 48), (0, .nameAndType 49 50), (0, u "coderFromArrayLen"), (0, u "([BI)B"), (2, u "toBytes"), (53, .class_ 109), (1, u "java/lang/StringLatin1"), (32, u "()Z"), (34, .methodref 42 178), (0, .nameAndType 45 179), (0, u "([CII)[B"), (29, .methodref 10 210), (0, .nameAndType 5 211), (0, u "([BB)V"), (122, u "()I"), (0, .methodref 10 336), (0, .nameAndType 17 337), (0, u "()B"), (25, u "([BI)C"), (5, u "(C)Z"), (21, u "(II)V"), (35, u "(I)C"), (64, .methodref 10 493), (0, .nameAndType 494 142), (0, u "isLatin1"), (0, .methodref 107 496), (0, .nameAndType 497 363), (0, u "charAt"), (3, u "checkIndex"), (5, u "length"), (67, .class_ 576), (0, u "java/lang/CharSequence"), (22, u "CASE_INSENSITIVE_ORDER"), (0, u "Ljava/util/Comparator;"), (91, u "isEmpty"), (89, u "valueOf"), (0, u "(C)Ljava/lang/String;"), (226, u "([C)V"), (4, .methodref 107 1016), (0, .nameAndType 1017 369), (0, u "canEncode"), (0, .methodref 107 1019), (0, .nameAndType 53 1020), (0, u "(C)[B"), (32, .fieldref 1054 1055), (0, .class_ 1056), (0, .nameAndType 1057 1058), (0, u "jdk/internal/util/Preconditions"), (0, u "SIOOBE_FORMATTER"), (0, u "Ljava/util/function/BiFunction;"), (0, .methodref 1054 1060), (0, .nameAndType 501 1061), (0, u "(IILjava/util/function/BiFunction;)I"), (39, u "serialPersistentFields"), (0, u "[Ljava/io/ObjectStreamField;"), (0, .class_ 1104), (0, u "java/lang/String$CaseInsensitiveComparator"), (1, .class_ 1107), (0, u "java/io/Serializable"), (0, .class_ 1109), (0, u "java/lang/Comparable"), (0, .class_ 1111), (0, u "java/lang/constant/Constable"), (0, .class_ 1113), (0, u "java/lang/constant/ConstantDesc"), (2, u "serialVersionUID"), (0, u "J"), (3, u "REPL"), (0, u "C"), (2, u "LATIN1"), (1, u "UTF16")] 323

def k7m0 : Method := { name := "<init>", desc := "()V", sig := { parameters := [], returnType := none }, accessFlags := 1, code := none }
def k7c1 : Code := { maxStack := 5, maxLocals := 2, code := jdk_42_method_3_code, exceptionTable := #[], attributes := #[] }
def k7m1 : Method := { name := "<init>", desc := "([C)V", sig := { parameters := [(.array .char)], returnType := none }, accessFlags := 1, code := some k7c1 }
def k7c2 : Code := { maxStack := 2, maxLocals := 1, code := jdk_42_method_54_code, exceptionTable := #[], attributes := #[] }
def k7m2 : Method := { name := "length", desc := "()I", sig := { parameters := [], returnType := some .int }, accessFlags := 1, code := some k7c2 }
def k7c3 : Code := { maxStack := 1, maxLocals := 1, code := jdk_42_method_55_code, exceptionTable := #[], attributes := #[] }
def k7m3 : Method := { name := "isEmpty", desc := "()Z", sig := { parameters := [], returnType := some .boolean }, accessFlags := 1, code := some k7c3 }
def k7c4 : Code := { maxStack := 2, maxLocals := 2, code := jdk_42_method_56_code, exceptionTable := #[], attributes := #[] }
def k7m4 : Method := { name := "charAt", desc := "(I)C", sig := { parameters := [.int], returnType := some .char }, accessFlags := 1, code := some k7c4 }
def k7c5 : Code := { maxStack := 4, maxLocals := 1, code := jdk_42_method_139_code, exceptionTable := #[], attributes := #[] }
def k7m5 : Method := { name := "valueOf", desc := "(C)Ljava/lang/String;", sig := { parameters := [.char], returnType := some (.object "java/lang/String") }, accessFlags := 9, code := some k7c5 }
def k7c6 : Code := { maxStack := 4, maxLocals := 6, code := jdk_42_method_149_code, exceptionTable := #[], attributes := #[] }
def k7m6 : Method := { name := "<init>", desc := "([CIILjava/lang/Void;)V", sig := { parameters := [(.array .char), .int, .int, (.object "java/lang/Void")], returnType := none }, accessFlags := 2, code := some k7c6 }
def k7c7 : Code := { maxStack := 2, maxLocals := 3, code := jdk_42_method_151_code, exceptionTable := #[], attributes := #[] }
def k7m7 : Method := { name := "<init>", desc := "([BB)V", sig := { parameters := [(.array .byte), .byte], returnType := none }, accessFlags := 0, code := some k7c7 }
def k7c8 : Code := { maxStack := 1, maxLocals := 1, code := jdk_42_method_152_code, exceptionTable := #[], attributes := #[] }
def k7m8 : Method := { name := "coder", desc := "()B", sig := { parameters := [], returnType := some .byte }, accessFlags := 0, code := some k7c8 }
def k7c9 : Code := { maxStack := 1, maxLocals := 1, code := jdk_42_method_154_code, exceptionTable := #[], attributes := #[] }
def k7m9 : Method := { name := "isLatin1", desc := "()Z", sig := { parameters := [], returnType := some .boolean }, accessFlags := 0, code := some k7c9 }
def k7c10 : Code := { maxStack := 3, maxLocals := 2, code := jdk_42_method_155_code, exceptionTable := #[], attributes := #[] }
def k7m10 : Method := { name := "checkIndex", desc := "(II)V", sig := { parameters := [.int, .int], returnType := none }, accessFlags := 8, code := some k7c10 }
/-- java/lang/String -/
def k7 : Class := { plain "java/lang/String" (some 0) with
  accessFlags := 49
  interfaces := #[2, 3, 4, 5, 6]
  cf := some (fileOf pool7 10 #[.nestMembers #[1103]] #[{ accessFlags := 1, nameIndex := 5, descriptorIndex := 6, attributes := #[] }, { accessFlags := 1, nameIndex := 5, descriptorIndex := 1010, attributes := #[] }, { accessFlags := 1, nameIndex := 507, descriptorIndex := 334, attributes := #[] }, { accessFlags := 1, nameIndex := 692, descriptorIndex := 142, attributes := #[] }, { accessFlags := 1, nameIndex := 497, descriptorIndex := 427, attributes := #[] }, { accessFlags := 9, nameIndex := 782, descriptorIndex := 783, attributes := #[] }, { accessFlags := 2, nameIndex := 5, descriptorIndex := 29, attributes := #[] }, { accessFlags := 0, nameIndex := 5, descriptorIndex := 211, attributes := #[] }, { accessFlags := 0, nameIndex := 17, descriptorIndex := 337, attributes := #[] }, { accessFlags := 0, nameIndex := 494, descriptorIndex := 142, attributes := #[] }, { accessFlags := 8, nameIndex := 501, descriptorIndex := 391, attributes := #[] }] 49 2 #[1106, 1108, 575, 1110, 1112] #[{ accessFlags := 18, nameIndex := 13, descriptorIndex := 14, attributes := #[] }, { accessFlags := 18, nameIndex := 17, descriptorIndex := 18, attributes := #[] }, { accessFlags := 2, nameIndex := 21, descriptorIndex := 22, attributes := #[] }, { accessFlags := 2, nameIndex := 25, descriptorIndex := 26, attributes := #[] }, { accessFlags := 26, nameIndex := 1116, descriptorIndex := 1117, attributes := #[] }, { accessFlags := 24, nameIndex := 40, descriptorIndex := 26, attributes := #[] }, { accessFlags := 26, nameIndex := 1101, descriptorIndex := 1102, attributes := #[] }, { accessFlags := 26, nameIndex := 1121, descriptorIndex := 1122, attributes := #[] }, { accessFlags := 25, nameIndex := 599, descriptorIndex := 600, attributes := #[] }, { accessFlags := 24, nameIndex := 1125, descriptorIndex := 18, attributes := #[] }, { accessFlags := 24, nameIndex := 1127, descriptorIndex := 18, attributes := #[] }])
  fields := #[{ name := "value", type := (.array .byte), accessFlags := 18, slot := 0, constantValue := 0 }, { name := "coder", type := .byte, accessFlags := 18, slot := 1, constantValue := 0 }, { name := "hash", type := .int, accessFlags := 2, slot := 2, constantValue := 0 }, { name := "hashIsZero", type := .boolean, accessFlags := 2, slot := 3, constantValue := 0 }, { name := "serialVersionUID", type := .long, accessFlags := 26, slot := 0, constantValue := 0 }, { name := "COMPACT_STRINGS", type := .boolean, accessFlags := 24, slot := 1, constantValue := 0 }, { name := "serialPersistentFields", type := (.array (.object "java/io/ObjectStreamField")), accessFlags := 26, slot := 2, constantValue := 0 }, { name := "REPL", type := .char, accessFlags := 26, slot := 3, constantValue := 0 }, { name := "CASE_INSENSITIVE_ORDER", type := (.object "java/util/Comparator"), accessFlags := 25, slot := 4, constantValue := 0 }, { name := "LATIN1", type := .byte, accessFlags := 24, slot := 5, constantValue := 0 }, { name := "UTF16", type := .byte, accessFlags := 24, slot := 6, constantValue := 0 }]
  methods := #[k7m0, k7m1, k7m2, k7m3, k7m4, k7m5, k7m6, k7m7, k7m8, k7m9, k7m10]
  instanceTypes := #[(.array .byte), .byte, .int, .boolean]
  staticTypes := #[.long, .boolean, (.array (.object "java/io/ObjectStreamField")), .char, (.object "java/util/Comparator"), .byte, .byte]
  resolved := Array.replicate 1451 none
  statics := some 0 }

def pool8 : Array CpInfo := pool [(6, .class_ 8), (1, u "java/lang/Object"), (0, u "<init>"), (0, u "()V"), (1, .class_ 14), (1, u "java/lang/StringUTF16"), (31, u "$assertionsDisabled"), (0, u "Z"), (13, u "HI_BYTE_SHIFT"), (0, u "I"), (2, u "LO_BYTE_SHIFT"), (49, .methodref 12 116), (0, .nameAndType 117 118), (0, u "compress"), (0, u "([CI[BII)I"), (3, u "([CII)[B"), (138, u "coderFromArrayLen"), (0, u "([BI)B"), (106, .class_ 371), (1, u "java/lang/StringUTF16$LinesSpliterator"), (58, u "MAX_LENGTH"), (196, .class_ 628), (0, u "java/lang/StringUTF16$CodePointsSpliterator"), (0, .class_ 630), (0, u "java/lang/StringUTF16$CharsSpliterator")] 4

def k8m0 : Method := { name := "<init>", desc := "()V", sig := { parameters := [], returnType := none }, accessFlags := 0, code := none }
def k8c1 : Code := { maxStack := 2, maxLocals := 2, code := jdk_52_method_15_code, exceptionTable := #[], attributes := #[] }
def k8m1 : Method := { name := "coderFromArrayLen", desc := "([BI)B", sig := { parameters := [(.array .byte), .int], returnType := some .byte }, accessFlags := 8, code := some k8c1 }
def k8c2 : Code := { maxStack := 5, maxLocals := 6, code := jdk_52_method_16_code, exceptionTable := #[], attributes := #[] }
def k8m2 : Method := { name := "compress", desc := "([CII)[B", sig := { parameters := [(.array .char), .int, .int], returnType := some (.array .byte) }, accessFlags := 9, code := some k8c2 }
def k8c3 : Code := { maxStack := 3, maxLocals := 7, code := jdk_52_method_21_code, exceptionTable := #[], attributes := #[] }
def k8m3 : Method := { name := "compress", desc := "([CI[BII)I", sig := { parameters := [(.array .char), .int, (.array .byte), .int, .int], returnType := some .int }, accessFlags := 9, code := some k8c3 }
/-- java/lang/StringUTF16 -/
def k8 : Class := { plain "java/lang/StringUTF16" (some 0) with
  accessFlags := 48
  interfaces := #[]
  cf := some (fileOf pool8 12 #[.nestMembers #[627, 629, 369]] #[{ accessFlags := 0, nameIndex := 9, descriptorIndex := 10, attributes := #[] }, { accessFlags := 8, nameIndex := 261, descriptorIndex := 262, attributes := #[] }, { accessFlags := 9, nameIndex := 117, descriptorIndex := 122, attributes := #[] }, { accessFlags := 9, nameIndex := 117, descriptorIndex := 118, attributes := #[] }] 48 6 #[] #[{ accessFlags := 26, nameIndex := 61, descriptorIndex := 62, attributes := #[] }, { accessFlags := 26, nameIndex := 65, descriptorIndex := 62, attributes := #[] }, { accessFlags := 24, nameIndex := 430, descriptorIndex := 62, attributes := #[] }, { accessFlags := 4120, nameIndex := 46, descriptorIndex := 47, attributes := #[] }])
  fields := #[{ name := "HI_BYTE_SHIFT", type := .int, accessFlags := 26, slot := 0, constantValue := 0 }, { name := "LO_BYTE_SHIFT", type := .int, accessFlags := 26, slot := 1, constantValue := 0 }, { name := "MAX_LENGTH", type := .int, accessFlags := 24, slot := 2, constantValue := 0 }, { name := "$assertionsDisabled", type := .boolean, accessFlags := 4120, slot := 3, constantValue := 0 }]
  methods := #[k8m0, k8m1, k8m2, k8m3]
  instanceTypes := #[]
  staticTypes := #[.int, .int, .int, .boolean]
  resolved := Array.replicate 635 none
  statics := none }

def pool9 : Array CpInfo := pool [(1, .class_ 2), (0, u "java/lang/String"), (1, .class_ 6), (1, u "java/lang/Object"), (0, u "<init>"), (0, u "()V"), (0, .methodref 1 10), (0, .nameAndType 11 12), (0, u "checkIndex"), (0, u "(II)V"), (1, .class_ 16), (1, u "java/lang/StringLatin1"), (36, u "([BI)C"), (36, u "canEncode"), (14, u "(C)Z"), (15, u "$assertionsDisabled"), (0, u "Z"), (98, .class_ 223), (1, u "java/lang/StringLatin1$LinesSpliterator"), (28, u "charAt"), (127, u "toBytes"), (1, u "(C)[B"), (7, .class_ 391), (0, u "java/lang/StringLatin1$CharsSpliterator")] 3

def k9m0 : Method := { name := "<init>", desc := "()V", sig := { parameters := [], returnType := none }, accessFlags := 0, code := none }
def k9c1 : Code := { maxStack := 2, maxLocals := 2, code := jdk_43_method_2_code, exceptionTable := #[], attributes := #[] }
def k9m1 : Method := { name := "charAt", desc := "([BI)C", sig := { parameters := [(.array .byte), .int], returnType := some .char }, accessFlags := 9, code := some k9c1 }
def k9c2 : Code := { maxStack := 2, maxLocals := 1, code := jdk_43_method_3_code, exceptionTable := #[], attributes := #[] }
def k9m2 : Method := { name := "canEncode", desc := "(C)Z", sig := { parameters := [.char], returnType := some .boolean }, accessFlags := 9, code := some k9c2 }
def k9c3 : Code := { maxStack := 4, maxLocals := 1, code := jdk_43_method_46_code, exceptionTable := #[], attributes := #[] }
def k9m3 : Method := { name := "toBytes", desc := "(C)[B", sig := { parameters := [.char], returnType := some (.array .byte) }, accessFlags := 9, code := some k9c3 }
/-- java/lang/StringLatin1 -/
def k9 : Class := { plain "java/lang/StringLatin1" (some 0) with
  accessFlags := 48
  interfaces := #[]
  cf := some (fileOf pool9 14 #[.nestMembers #[390, 221]] #[{ accessFlags := 0, nameIndex := 7, descriptorIndex := 8, attributes := #[] }, { accessFlags := 9, nameIndex := 252, descriptorIndex := 53, attributes := #[] }, { accessFlags := 9, nameIndex := 90, descriptorIndex := 105, attributes := #[] }, { accessFlags := 9, nameIndex := 380, descriptorIndex := 382, attributes := #[] }] 48 4 #[] #[{ accessFlags := 4120, nameIndex := 121, descriptorIndex := 122, attributes := #[] }])
  fields := #[{ name := "$assertionsDisabled", type := .boolean, accessFlags := 4120, slot := 0, constantValue := 0 }]
  methods := #[k9m0, k9m1, k9m2, k9m3]
  instanceTypes := #[]
  staticTypes := #[.boolean]
  resolved := Array.replicate 395 none
  statics := none }

def pool10 : Array CpInfo := pool [(2, .class_ 4), (1, u "java/lang/Object"), (0, u "<init>"), (0, u "()V"), (0, .methodref 8 9), (0, .class_ 10), (0, .nameAndType 11 12), (0, u "com/example/modgud/modgud/core/Names"), (0, u "isName"), (0, u "(Ljava/lang/String;)Z"), (9, .methodref 23 24), (0, .class_ 25), (0, .nameAndType 26 27), (0, u "java/lang/String"), (0, u "isEmpty"), (0, u "()Z"), (0, .methodref 23 29), (0, .nameAndType 30 31), (0, u "length"), (0, u "()I"), (0, .methodref 23 33), (0, .nameAndType 34 35), (0, u "charAt"), (0, u "(I)C"), (0, u "MAX_LENGTH"), (0, u "I"), (4, u "require"), (0, u "(Ljava/lang/String;Ljava/lang/String;)Ljava/lang/String;")] 18

def k10m0 : Method := { name := "<init>", desc := "()V", sig := { parameters := [], returnType := none }, accessFlags := 2, code := none }
def k10c1 : Code := { maxStack := 3, maxLocals := 2, code := prog_8_method_2_code, exceptionTable := #[], attributes := #[] }
def k10m1 : Method := { name := "require", desc := "(Ljava/lang/String;Ljava/lang/String;)Ljava/lang/String;", sig := { parameters := [(.object "java/lang/String"), (.object "java/lang/String")], returnType := some (.object "java/lang/String") }, accessFlags := 9, code := some k10c1 }
def k10c2 : Code := { maxStack := 2, maxLocals := 4, code := prog_8_method_3_code, exceptionTable := #[], attributes := #[] }
def k10m2 : Method := { name := "isName", desc := "(Ljava/lang/String;)Z", sig := { parameters := [(.object "java/lang/String")], returnType := some .boolean }, accessFlags := 10, code := some k10c2 }
/-- com/example/modgud/modgud/core/Names -/
def k10 : Class := { plain "com/example/modgud/modgud/core/Names" (some 0) with
  accessFlags := 49
  interfaces := #[]
  cf := some (fileOf pool10 8 #[] #[{ accessFlags := 2, nameIndex := 5, descriptorIndex := 6, attributes := #[] }, { accessFlags := 9, nameIndex := 42, descriptorIndex := 43, attributes := #[] }, { accessFlags := 10, nameIndex := 11, descriptorIndex := 12, attributes := #[] }] 49 2 #[] #[{ accessFlags := 25, nameIndex := 36, descriptorIndex := 37, attributes := #[] }])
  fields := #[{ name := "MAX_LENGTH", type := .int, accessFlags := 25, slot := 0, constantValue := 0 }]
  methods := #[k10m0, k10m1, k10m2]
  instanceTypes := #[]
  staticTypes := #[.int]
  resolved := Array.replicate 62 none
  statics := none }

def pool11 : Array CpInfo := pool [(2, .class_ 4), (1, u "java/lang/Object"), (0, u "<init>"), (0, u "()V"), (17, .class_ 26), (1, u "jdk/internal/util/Preconditions"), (6, u "checkIndex"), (21, .class_ 56), (0, u "jdk/internal/util/Preconditions$4"), (57, .class_ 115), (0, u "jdk/internal/util/Preconditions$1"), (7, u "SIOOBE_FORMATTER"), (0, u "Ljava/util/function/BiFunction;"), (0, .class_ 126), (0, u "jdk/internal/util/Preconditions$2"), (3, u "AIOOBE_FORMATTER"), (0, .class_ 132), (0, u "jdk/internal/util/Preconditions$3"), (3, u "IOOBE_FORMATTER"), (41, u "(IILjava/util/function/BiFunction;)I")] 15

def k11m0 : Method := { name := "<init>", desc := "()V", sig := { parameters := [], returnType := none }, accessFlags := 1, code := none }
def k11c1 : Code := { maxStack := 3, maxLocals := 3, code := jdk_41_method_11_code, exceptionTable := #[], attributes := #[] }
def k11m1 : Method := { name := "checkIndex", desc := "(IILjava/util/function/BiFunction;)I", sig := { parameters := [.int, .int, (.object "java/util/function/BiFunction")], returnType := some .int }, accessFlags := 9, code := some k11c1 }
/-- jdk/internal/util/Preconditions -/
def k11 : Class := { plain "jdk/internal/util/Preconditions" (some 0) with
  accessFlags := 33
  interfaces := #[]
  cf := some (fileOf pool11 24 #[.nestMembers #[55, 131, 125, 114]] #[{ accessFlags := 1, nameIndex := 5, descriptorIndex := 6, attributes := #[] }, { accessFlags := 9, nameIndex := 33, descriptorIndex := 178, attributes := #[] }] 33 2 #[] #[{ accessFlags := 25, nameIndex := 123, descriptorIndex := 124, attributes := #[] }, { accessFlags := 25, nameIndex := 130, descriptorIndex := 124, attributes := #[] }, { accessFlags := 25, nameIndex := 136, descriptorIndex := 124, attributes := #[] }])
  fields := #[{ name := "SIOOBE_FORMATTER", type := (.object "java/util/function/BiFunction"), accessFlags := 25, slot := 0, constantValue := 0 }, { name := "AIOOBE_FORMATTER", type := (.object "java/util/function/BiFunction"), accessFlags := 25, slot := 1, constantValue := 0 }, { name := "IOOBE_FORMATTER", type := (.object "java/util/function/BiFunction"), accessFlags := 25, slot := 2, constantValue := 0 }]
  methods := #[k11m0, k11m1]
  instanceTypes := #[]
  staticTypes := #[(.object "java/util/function/BiFunction"), (.object "java/util/function/BiFunction"), (.object "java/util/function/BiFunction")]
  resolved := Array.replicate 194 none
  statics := some 1 }

def pool12 : Array CpInfo := pool [(9, u "<init>"), (6, .class_ 18), (1, u "java/lang/Object"), (0, u "()V"), (1, .class_ 23), (1, u "jdk/internal/util/ArraysSupport"), (0, u "LOG2_ARRAY_LONG_INDEX_SCALE"), (0, u "I"), (2, u "U"), (0, u "Ljdk/internal/misc/Unsafe;"), (8, u "BIG_ENDIAN"), (0, u "Z"), (8, u "LOG2_BYTE_BIT_SIZE"), (4, u "LOG2_ARRAY_INT_INDEX_SCALE"), (54, u "JLA"), (0, u "Ljdk/internal/access/JavaLangAccess;"), (11, u "LOG2_ARRAY_BOOLEAN_INDEX_SCALE"), (9, u "LOG2_ARRAY_BYTE_INDEX_SCALE"), (5, u "LOG2_ARRAY_CHAR_INDEX_SCALE"), (5, u "LOG2_ARRAY_SHORT_INDEX_SCALE"), (18, u "LOG2_ARRAY_FLOAT_INDEX_SCALE"), (24, u "LOG2_ARRAY_DOUBLE_INDEX_SCALE"), (89, u "T_BOOLEAN"), (2, u "T_CHAR"), (1, u "T_FLOAT"), (1, u "T_DOUBLE"), (1, u "T_BYTE"), (1, u "T_SHORT"), (1, u "T_INT"), (1, u "T_LONG"), (1, u "SOFT_MAX_ARRAY_LENGTH")] 83

def k12m0 : Method := { name := "<init>", desc := "()V", sig := { parameters := [], returnType := none }, accessFlags := 2, code := none }
/-- jdk/internal/util/ArraysSupport -/
def k12 : Class := { plain "jdk/internal/util/ArraysSupport" (some 0) with
  accessFlags := 33
  interfaces := #[]
  cf := some (fileOf pool12 21 #[] #[{ accessFlags := 2, nameIndex := 9, descriptorIndex := 19, attributes := #[] }] 33 16 #[] #[{ accessFlags := 24, nameIndex := 28, descriptorIndex := 29, attributes := #[] }, { accessFlags := 26, nameIndex := 38, descriptorIndex := 39, attributes := #[] }, { accessFlags := 25, nameIndex := 121, descriptorIndex := 25, attributes := #[] }, { accessFlags := 25, nameIndex := 131, descriptorIndex := 25, attributes := #[] }, { accessFlags := 25, nameIndex := 137, descriptorIndex := 25, attributes := #[] }, { accessFlags := 25, nameIndex := 143, descriptorIndex := 25, attributes := #[] }, { accessFlags := 25, nameIndex := 53, descriptorIndex := 25, attributes := #[] }, { accessFlags := 25, nameIndex := 24, descriptorIndex := 25, attributes := #[] }, { accessFlags := 25, nameIndex := 162, descriptorIndex := 25, attributes := #[] }, { accessFlags := 25, nameIndex := 187, descriptorIndex := 25, attributes := #[] }, { accessFlags := 26, nameIndex := 48, descriptorIndex := 25, attributes := #[] }, { accessFlags := 25, nameIndex := 277, descriptorIndex := 25, attributes := #[] }, { accessFlags := 25, nameIndex := 280, descriptorIndex := 25, attributes := #[] }, { accessFlags := 25, nameIndex := 282, descriptorIndex := 25, attributes := #[] }, { accessFlags := 25, nameIndex := 284, descriptorIndex := 25, attributes := #[] }, { accessFlags := 25, nameIndex := 286, descriptorIndex := 25, attributes := #[] }, { accessFlags := 25, nameIndex := 288, descriptorIndex := 25, attributes := #[] }, { accessFlags := 25, nameIndex := 290, descriptorIndex := 25, attributes := #[] }, { accessFlags := 25, nameIndex := 292, descriptorIndex := 25, attributes := #[] }, { accessFlags := 26, nameIndex := 108, descriptorIndex := 109, attributes := #[] }, { accessFlags := 25, nameIndex := 294, descriptorIndex := 25, attributes := #[] }])
  fields := #[{ name := "U", type := (.object "jdk/internal/misc/Unsafe"), accessFlags := 24, slot := 0, constantValue := 0 }, { name := "BIG_ENDIAN", type := .boolean, accessFlags := 26, slot := 1, constantValue := 0 }, { name := "LOG2_ARRAY_BOOLEAN_INDEX_SCALE", type := .int, accessFlags := 25, slot := 2, constantValue := 0 }, { name := "LOG2_ARRAY_BYTE_INDEX_SCALE", type := .int, accessFlags := 25, slot := 3, constantValue := 0 }, { name := "LOG2_ARRAY_CHAR_INDEX_SCALE", type := .int, accessFlags := 25, slot := 4, constantValue := 0 }, { name := "LOG2_ARRAY_SHORT_INDEX_SCALE", type := .int, accessFlags := 25, slot := 5, constantValue := 0 }, { name := "LOG2_ARRAY_INT_INDEX_SCALE", type := .int, accessFlags := 25, slot := 6, constantValue := 0 }, { name := "LOG2_ARRAY_LONG_INDEX_SCALE", type := .int, accessFlags := 25, slot := 7, constantValue := 0 }, { name := "LOG2_ARRAY_FLOAT_INDEX_SCALE", type := .int, accessFlags := 25, slot := 8, constantValue := 0 }, { name := "LOG2_ARRAY_DOUBLE_INDEX_SCALE", type := .int, accessFlags := 25, slot := 9, constantValue := 0 }, { name := "LOG2_BYTE_BIT_SIZE", type := .int, accessFlags := 26, slot := 10, constantValue := 0 }, { name := "T_BOOLEAN", type := .int, accessFlags := 25, slot := 11, constantValue := 0 }, { name := "T_CHAR", type := .int, accessFlags := 25, slot := 12, constantValue := 0 }, { name := "T_FLOAT", type := .int, accessFlags := 25, slot := 13, constantValue := 0 }, { name := "T_DOUBLE", type := .int, accessFlags := 25, slot := 14, constantValue := 0 }, { name := "T_BYTE", type := .int, accessFlags := 25, slot := 15, constantValue := 0 }, { name := "T_SHORT", type := .int, accessFlags := 25, slot := 16, constantValue := 0 }, { name := "T_INT", type := .int, accessFlags := 25, slot := 17, constantValue := 0 }, { name := "T_LONG", type := .int, accessFlags := 25, slot := 18, constantValue := 0 }, { name := "JLA", type := (.object "jdk/internal/access/JavaLangAccess"), accessFlags := 26, slot := 19, constantValue := 0 }, { name := "SOFT_MAX_ARRAY_LENGTH", type := .int, accessFlags := 25, slot := 20, constantValue := 0 }]
  methods := #[k12m0]
  instanceTypes := #[]
  staticTypes := #[(.object "jdk/internal/misc/Unsafe"), .boolean, .int, .int, .int, .int, .int, .int, .int, .int, .int, .int, .int, .int, .int, .int, .int, .int, .int, (.object "jdk/internal/access/JavaLangAccess"), .int]
  resolved := Array.replicate 378 none
  statics := none }

def pool13 : Array CpInfo := pool [(1, u "java/lang/Cloneable"), (0, .class_ 1), (0, u "java/lang/Object"), (0, .class_ 3)] 3

/-- java/lang/Cloneable -/
def k13 : Class := { plain "java/lang/Cloneable" (some 0) with
  accessFlags := 1537
  interfaces := #[]
  cf := some (fileOf pool13 2 #[] #[] 1537 4 #[] #[])
  fields := #[]
  methods := #[]
  instanceTypes := #[]
  staticTypes := #[]
  resolved := Array.replicate 8 none
  statics := none }

/-- the primitive byte -/
def k14 : Class := { plain "byte" none with kind := .primitive 'B', accessFlags := 0x411 }
/-- [B -/
def k15 : Class := { plain "[B" (some 0) with kind := .array 14 .byte, interfaces := #[13, 2], accessFlags := 1041 }

/-- the primitive char -/
def k16 : Class := { plain "char" none with kind := .primitive 'C', accessFlags := 0x411 }
/-- [C -/
def k17 : Class := { plain "[C" (some 0) with kind := .array 16 .char, interfaces := #[13, 2], accessFlags := 1041 }

/-- the primitive int -/
def k18 : Class := { plain "int" none with kind := .primitive 'I', accessFlags := 0x411 }
/-- [I -/
def k19 : Class := { plain "[I" (some 0) with kind := .array 18 .int, interfaces := #[13, 2], accessFlags := 1041 }

def heap : Heap := #[{ cls := 7, slots := #[.long 0, .int 1, .null, .int 0, .null, .int 0, .int 0], vm := .statics 7 },
  { cls := 11, slots := #[.null, .null, .null], vm := .statics 11 }]
def classes : Array Class := #[k0, k1, k2, k3, k4, k5, k6, k7, k8, k9, k10, k11, k12, k13, k14, k15, k16, k17, k18, k19]
def interned : List (Array UInt16 × Addr) := []
def slotsUsed : Nat := 10
def theMethod : MethodId := ⟨1, 2⟩
def args0 : Array Value := #[.int 5, .int 7, .int 3, .int 40, .int 62, .int 9]
def aboutOver (below : List Frame) : State where
  vm := { classes := classes, interned := interned.toArray }
  heap := heap
  slotsUsed := slotsUsed
  threads := #[{ frames := .invoking theMethod args0 :: below }]
def below0 : List Frame := [.native { method := ⟨0, 0⟩, args := #[] }]
def about1 : State := aboutOver below0
def p0 : Program := .bare "" "" ""
def e0 : Env := launch0.env 0 0 0
theorem w_frames : about1.frames = Frame.invoking theMethod args0 :: below0 := rfl
set_option maxRecDepth 65536 in
theorem w_args : argsFit about1.vm theMethod args0 = true := by decide +kernel
set_option maxRecDepth 65536 in
theorem w_heap : heapFits about1 = true := by decide +kernel
set_option maxRecDepth 65536 in
theorem w_runnable : about1.curStatus? = some .runnable := by decide +kernel
set_option maxRecDepth 65536 in
theorem w_alone : about1.alone = true := by decide +kernel
set_option maxRecDepth 65536 in
theorem w_named : about1.methodNamed? x = some theMethod := by decide +kernel
set_option maxRecDepth 65536 in
theorem w_hears : about1.hears theMethod below0 = true := by decide +kernel
set_option maxRecDepth 65536 in
theorem w_ripe : about1.ripe theMethod args0 below0 = true := by decide +kernel
theorem w_running : about1.status = .running := rfl
set_option maxRecDepth 65536 in
theorem w_room : about1.hasRoom e0.platform room_1 = true :=
  launch0.hasRoom_least _ room_1 (by decide +kernel) (by decide +kernel) (by decide +kernel) (by decide +kernel) (by decide +kernel) (by decide +kernel)
theorem allAtoms_all (ts : List Jvm.Cond) (a : Array Jvm.Value) (st : Jvm.State) : (allAtoms ts).before a st = ts.all (fun c => c.before a st) := by
  induction ts with
  | nil => rfl
  | cons c t ih =>
    show (Jvm.Cond.and c (allAtoms t)).before a st = _
    rw [Jvm.Cond.before_and, ih, List.all_cons]
def words1 : List Jvm.Cond := Jvm.Cond.code x code maxLocals ret :: tables_1
/-- a 'code' word, met by the world's own term for the bytes: nothing is compared byte by byte -/
theorem code_word {y : MethodName} {bytes : ByteArray} {mx : Nat} {rt : Option FieldType} {a : Array Value} {s : State} {m : MethodId} {meth : Method} {c : Code} (h1 : s.methodNamed? y = some m) (h2 : s.vm.method? m = some meth) (h3 : meth.code = some c) (h4 : c.code = bytes)
    (h5 : (c.maxLocals == mx && c.exceptionTable.isEmpty && decide (c.maxStack ≤ mostOperands) && decide (meth.sig.returnType = rt) && !meth.locks && decide (parseMethodDescriptor y.desc = some meth.sig)) = true) : (Jvm.Cond.code y bytes mx rt).before a s = true := by
  simp only [Bool.and_eq_true, beq_iff_eq, Bool.not_eq_true', decide_eq_true_eq] at h5
  obtain ⟨⟨⟨⟨⟨g1, g2⟩, g3⟩, g4⟩, g5⟩, g6⟩ := h5
  simp [Cond.before, Cond.holds, Cond.value, h1, h2, h3, h4, g1, g2, g3, g4, g5, g6]
def isCode : Jvm.Cond → Bool
  | .code _ _ _ _ => true
  | _ => false
theorem all_split {L : List Jvm.Cond} {P : Jvm.Cond → Bool} (h1 : L.all (fun c => isCode c || P c) = true) (h2 : ∀ c ∈ L.filter isCode, P c = true) : L.all P = true := by
  refine List.all_eq_true.mpr fun c hc => ?_
  have h := List.all_eq_true.mp h1 c hc
  rcases Bool.eq_false_or_eq_true (isCode c) with hi | hi
  · exact h2 c (List.mem_filter.mpr ⟨hc, hi⟩)
  · simpa [hi] using h
set_option maxRecDepth 65536 in
theorem w_c0 : (Jvm.Cond.code x code maxLocals ret).before args0 about1 = true := code_word (m := ⟨1, 2⟩) (meth := k1m2) (c := k1c2) (by decide +kernel) rfl rfl rfl (by decide +kernel)
set_option maxRecDepth 65536 in
theorem w_c1 : (Jvm.Cond.code ({ cls := "com/example/modgud/modgud/core/NamesRequirePinLaw", name := "nameChar", desc := "(I)C" } : Jvm.MethodName) method_2_code (2 : Nat) (Option.some Jvm.ClassFile.FieldType.char)).before args0 about1 = true := code_word (m := ⟨1, 1⟩) (meth := k1m1) (c := k1c1) (by decide +kernel) rfl rfl rfl (by decide +kernel)
set_option maxRecDepth 65536 in
theorem w_c2 : (Jvm.Cond.code ({ cls := "java/lang/String", name := "<init>", desc := "([C)V" } : Jvm.MethodName) jdk_42_method_3_code (2 : Nat) (Option.none : Option Jvm.ClassFile.FieldType)).before args0 about1 = true := code_word (m := ⟨7, 1⟩) (meth := k7m1) (c := k7c1) (by decide +kernel) rfl rfl rfl (by decide +kernel)
set_option maxRecDepth 65536 in
theorem w_c3 : (Jvm.Cond.code ({ cls := "java/lang/String", name := "<init>", desc := "([CIILjava/lang/Void;)V" } : Jvm.MethodName) jdk_42_method_149_code (6 : Nat) (Option.none : Option Jvm.ClassFile.FieldType)).before args0 about1 = true := code_word (m := ⟨7, 6⟩) (meth := k7m6) (c := k7c6) (by decide +kernel) rfl rfl rfl (by decide +kernel)
set_option maxRecDepth 65536 in
theorem w_c4 : (Jvm.Cond.code ({ cls := "java/lang/Object", name := "<init>", desc := "()V" } : Jvm.MethodName) object_method_1_code (1 : Nat) (Option.none : Option Jvm.ClassFile.FieldType)).before args0 about1 = true := code_word (m := ⟨0, 0⟩) (meth := k0m0) (c := k0c0) (by decide +kernel) rfl rfl rfl (by decide +kernel)
set_option maxRecDepth 65536 in
theorem w_c5 : (Jvm.Cond.code ({ cls := "java/lang/StringUTF16", name := "compress", desc := "([CII)[B" } : Jvm.MethodName) jdk_52_method_16_code (6 : Nat) (Option.some (Jvm.ClassFile.FieldType.array Jvm.ClassFile.FieldType.byte))).before args0 about1 = true := code_word (m := ⟨8, 2⟩) (meth := k8m2) (c := k8c2) (by decide +kernel) rfl rfl rfl (by decide +kernel)
set_option maxRecDepth 65536 in
theorem w_c6 : (Jvm.Cond.code ({ cls := "java/lang/StringUTF16", name := "compress", desc := "([CI[BII)I" } : Jvm.MethodName) jdk_52_method_21_code (7 : Nat) (Option.some Jvm.ClassFile.FieldType.int)).before args0 about1 = true := code_word (m := ⟨8, 3⟩) (meth := k8m3) (c := k8c3) (by decide +kernel) rfl rfl rfl (by decide +kernel)
set_option maxRecDepth 65536 in
theorem w_c7 : (Jvm.Cond.code ({ cls := "java/lang/StringUTF16", name := "coderFromArrayLen", desc := "([BI)B" } : Jvm.MethodName) jdk_52_method_15_code (2 : Nat) (Option.some Jvm.ClassFile.FieldType.byte)).before args0 about1 = true := code_word (m := ⟨8, 1⟩) (meth := k8m1) (c := k8c1) (by decide +kernel) rfl rfl rfl (by decide +kernel)
set_option maxRecDepth 65536 in
theorem w_c8 : (Jvm.Cond.code ({ cls := "java/lang/String", name := "valueOf", desc := "(C)Ljava/lang/String;" } : Jvm.MethodName) jdk_42_method_139_code (1 : Nat) (Option.some (Jvm.ClassFile.FieldType.object "java/lang/String"))).before args0 about1 = true := code_word (m := ⟨7, 5⟩) (meth := k7m5) (c := k7c5) (by decide +kernel) rfl rfl rfl (by decide +kernel)
set_option maxRecDepth 65536 in
theorem w_c9 : (Jvm.Cond.code ({ cls := "java/lang/StringLatin1", name := "canEncode", desc := "(C)Z" } : Jvm.MethodName) jdk_43_method_3_code (1 : Nat) (Option.some Jvm.ClassFile.FieldType.boolean)).before args0 about1 = true := code_word (m := ⟨9, 2⟩) (meth := k9m2) (c := k9c2) (by decide +kernel) rfl rfl rfl (by decide +kernel)
set_option maxRecDepth 65536 in
theorem w_c10 : (Jvm.Cond.code ({ cls := "java/lang/StringLatin1", name := "toBytes", desc := "(C)[B" } : Jvm.MethodName) jdk_43_method_46_code (1 : Nat) (Option.some (Jvm.ClassFile.FieldType.array Jvm.ClassFile.FieldType.byte))).before args0 about1 = true := code_word (m := ⟨9, 3⟩) (meth := k9m3) (c := k9c3) (by decide +kernel) rfl rfl rfl (by decide +kernel)
set_option maxRecDepth 65536 in
theorem w_c11 : (Jvm.Cond.code ({ cls := "java/lang/String", name := "<init>", desc := "([BB)V" } : Jvm.MethodName) jdk_42_method_151_code (3 : Nat) (Option.none : Option Jvm.ClassFile.FieldType)).before args0 about1 = true := code_word (m := ⟨7, 7⟩) (meth := k7m7) (c := k7c7) (by decide +kernel) rfl rfl rfl (by decide +kernel)
set_option maxRecDepth 65536 in
theorem w_c12 : (Jvm.Cond.code ({ cls := "com/example/modgud/modgud/core/Names", name := "require", desc := "(Ljava/lang/String;Ljava/lang/String;)Ljava/lang/String;" } : Jvm.MethodName) prog_8_method_2_code (2 : Nat) (Option.some (Jvm.ClassFile.FieldType.object "java/lang/String"))).before args0 about1 = true := code_word (m := ⟨10, 1⟩) (meth := k10m1) (c := k10c1) (by decide +kernel) rfl rfl rfl (by decide +kernel)
set_option maxRecDepth 65536 in
theorem w_c13 : (Jvm.Cond.code ({ cls := "com/example/modgud/modgud/core/Names", name := "isName", desc := "(Ljava/lang/String;)Z" } : Jvm.MethodName) prog_8_method_3_code (4 : Nat) (Option.some Jvm.ClassFile.FieldType.boolean)).before args0 about1 = true := code_word (m := ⟨10, 2⟩) (meth := k10m2) (c := k10c2) (by decide +kernel) rfl rfl rfl (by decide +kernel)
set_option maxRecDepth 65536 in
theorem w_c14 : (Jvm.Cond.code ({ cls := "java/lang/String", name := "isEmpty", desc := "()Z" } : Jvm.MethodName) jdk_42_method_55_code (1 : Nat) (Option.some Jvm.ClassFile.FieldType.boolean)).before args0 about1 = true := code_word (m := ⟨7, 3⟩) (meth := k7m3) (c := k7c3) (by decide +kernel) rfl rfl rfl (by decide +kernel)
set_option maxRecDepth 65536 in
theorem w_c15 : (Jvm.Cond.code ({ cls := "java/lang/String", name := "length", desc := "()I" } : Jvm.MethodName) jdk_42_method_54_code (1 : Nat) (Option.some Jvm.ClassFile.FieldType.int)).before args0 about1 = true := code_word (m := ⟨7, 2⟩) (meth := k7m2) (c := k7c2) (by decide +kernel) rfl rfl rfl (by decide +kernel)
set_option maxRecDepth 65536 in
theorem w_c16 : (Jvm.Cond.code ({ cls := "java/lang/String", name := "coder", desc := "()B" } : Jvm.MethodName) jdk_42_method_152_code (1 : Nat) (Option.some Jvm.ClassFile.FieldType.byte)).before args0 about1 = true := code_word (m := ⟨7, 8⟩) (meth := k7m8) (c := k7c8) (by decide +kernel) rfl rfl rfl (by decide +kernel)
set_option maxRecDepth 65536 in
theorem w_c17 : (Jvm.Cond.code ({ cls := "java/lang/String", name := "charAt", desc := "(I)C" } : Jvm.MethodName) jdk_42_method_56_code (2 : Nat) (Option.some Jvm.ClassFile.FieldType.char)).before args0 about1 = true := code_word (m := ⟨7, 4⟩) (meth := k7m4) (c := k7c4) (by decide +kernel) rfl rfl rfl (by decide +kernel)
set_option maxRecDepth 65536 in
theorem w_c18 : (Jvm.Cond.code ({ cls := "java/lang/String", name := "isLatin1", desc := "()Z" } : Jvm.MethodName) jdk_42_method_154_code (1 : Nat) (Option.some Jvm.ClassFile.FieldType.boolean)).before args0 about1 = true := code_word (m := ⟨7, 9⟩) (meth := k7m9) (c := k7c9) (by decide +kernel) rfl rfl rfl (by decide +kernel)
set_option maxRecDepth 65536 in
theorem w_c19 : (Jvm.Cond.code ({ cls := "java/lang/StringLatin1", name := "charAt", desc := "([BI)C" } : Jvm.MethodName) jdk_43_method_2_code (2 : Nat) (Option.some Jvm.ClassFile.FieldType.char)).before args0 about1 = true := code_word (m := ⟨9, 1⟩) (meth := k9m1) (c := k9c1) (by decide +kernel) rfl rfl rfl (by decide +kernel)
set_option maxRecDepth 65536 in
theorem w_c20 : (Jvm.Cond.code ({ cls := "java/lang/String", name := "checkIndex", desc := "(II)V" } : Jvm.MethodName) jdk_42_method_155_code (2 : Nat) (Option.none : Option Jvm.ClassFile.FieldType)).before args0 about1 = true := code_word (m := ⟨7, 10⟩) (meth := k7m10) (c := k7c10) (by decide +kernel) rfl rfl rfl (by decide +kernel)
set_option maxRecDepth 65536 in
theorem w_c21 : (Jvm.Cond.code ({ cls := "jdk/internal/util/Preconditions", name := "checkIndex", desc := "(IILjava/util/function/BiFunction;)I" } : Jvm.MethodName) jdk_41_method_11_code (3 : Nat) (Option.some Jvm.ClassFile.FieldType.int)).before args0 about1 = true := code_word (m := ⟨11, 1⟩) (meth := k11m1) (c := k11c1) (by decide +kernel) rfl rfl rfl (by decide +kernel)
def codes1 : List Jvm.Cond := [Jvm.Cond.code x code maxLocals ret, Jvm.Cond.code ({ cls := "com/example/modgud/modgud/core/NamesRequirePinLaw", name := "nameChar", desc := "(I)C" } : Jvm.MethodName) method_2_code (2 : Nat) (Option.some Jvm.ClassFile.FieldType.char), Jvm.Cond.code ({ cls := "java/lang/String", name := "<init>", desc := "([C)V" } : Jvm.MethodName) jdk_42_method_3_code (2 : Nat) (Option.none : Option Jvm.ClassFile.FieldType), Jvm.Cond.code ({ cls := "java/lang/String", name := "<init>", desc := "([CIILjava/lang/Void;)V" } : Jvm.MethodName) jdk_42_method_149_code (6 : Nat) (Option.none : Option Jvm.ClassFile.FieldType), Jvm.Cond.code ({ cls := "java/lang/Object", name := "<init>", desc := "()V" } : Jvm.MethodName) object_method_1_code (1 : Nat) (Option.none : Option Jvm.ClassFile.FieldType), Jvm.Cond.code ({ cls := "java/lang/StringUTF16", name := "compress", desc := "([CII)[B" } : Jvm.MethodName) jdk_52_method_16_code (6 : Nat) (Option.some (Jvm.ClassFile.FieldType.array Jvm.ClassFile.FieldType.byte)), Jvm.Cond.code ({ cls := "java/lang/StringUTF16", name := "compress", desc := "([CI[BII)I" } : Jvm.MethodName) jdk_52_method_21_code (7 : Nat) (Option.some Jvm.ClassFile.FieldType.int), Jvm.Cond.code ({ cls := "java/lang/StringUTF16", name := "coderFromArrayLen", desc := "([BI)B" } : Jvm.MethodName) jdk_52_method_15_code (2 : Nat) (Option.some Jvm.ClassFile.FieldType.byte), Jvm.Cond.code ({ cls := "java/lang/String", name := "valueOf", desc := "(C)Ljava/lang/String;" } : Jvm.MethodName) jdk_42_method_139_code (1 : Nat) (Option.some (Jvm.ClassFile.FieldType.object "java/lang/String")), Jvm.Cond.code ({ cls := "java/lang/StringLatin1", name := "canEncode", desc := "(C)Z" } : Jvm.MethodName) jdk_43_method_3_code (1 : Nat) (Option.some Jvm.ClassFile.FieldType.boolean), Jvm.Cond.code ({ cls := "java/lang/StringLatin1", name := "toBytes", desc := "(C)[B" } : Jvm.MethodName) jdk_43_method_46_code (1 : Nat) (Option.some (Jvm.ClassFile.FieldType.array Jvm.ClassFile.FieldType.byte)), Jvm.Cond.code ({ cls := "java/lang/String", name := "<init>", desc := "([BB)V" } : Jvm.MethodName) jdk_42_method_151_code (3 : Nat) (Option.none : Option Jvm.ClassFile.FieldType), Jvm.Cond.code ({ cls := "com/example/modgud/modgud/core/Names", name := "require", desc := "(Ljava/lang/String;Ljava/lang/String;)Ljava/lang/String;" } : Jvm.MethodName) prog_8_method_2_code (2 : Nat) (Option.some (Jvm.ClassFile.FieldType.object "java/lang/String")), Jvm.Cond.code ({ cls := "com/example/modgud/modgud/core/Names", name := "isName", desc := "(Ljava/lang/String;)Z" } : Jvm.MethodName) prog_8_method_3_code (4 : Nat) (Option.some Jvm.ClassFile.FieldType.boolean), Jvm.Cond.code ({ cls := "java/lang/String", name := "isEmpty", desc := "()Z" } : Jvm.MethodName) jdk_42_method_55_code (1 : Nat) (Option.some Jvm.ClassFile.FieldType.boolean), Jvm.Cond.code ({ cls := "java/lang/String", name := "length", desc := "()I" } : Jvm.MethodName) jdk_42_method_54_code (1 : Nat) (Option.some Jvm.ClassFile.FieldType.int), Jvm.Cond.code ({ cls := "java/lang/String", name := "coder", desc := "()B" } : Jvm.MethodName) jdk_42_method_152_code (1 : Nat) (Option.some Jvm.ClassFile.FieldType.byte), Jvm.Cond.code ({ cls := "java/lang/String", name := "charAt", desc := "(I)C" } : Jvm.MethodName) jdk_42_method_56_code (2 : Nat) (Option.some Jvm.ClassFile.FieldType.char), Jvm.Cond.code ({ cls := "java/lang/String", name := "isLatin1", desc := "()Z" } : Jvm.MethodName) jdk_42_method_154_code (1 : Nat) (Option.some Jvm.ClassFile.FieldType.boolean), Jvm.Cond.code ({ cls := "java/lang/StringLatin1", name := "charAt", desc := "([BI)C" } : Jvm.MethodName) jdk_43_method_2_code (2 : Nat) (Option.some Jvm.ClassFile.FieldType.char), Jvm.Cond.code ({ cls := "java/lang/String", name := "checkIndex", desc := "(II)V" } : Jvm.MethodName) jdk_42_method_155_code (2 : Nat) (Option.none : Option Jvm.ClassFile.FieldType), Jvm.Cond.code ({ cls := "jdk/internal/util/Preconditions", name := "checkIndex", desc := "(IILjava/util/function/BiFunction;)I" } : Jvm.MethodName) jdk_41_method_11_code (3 : Nat) (Option.some Jvm.ClassFile.FieldType.int)]
set_option maxRecDepth 65536 in
theorem codes_eq : words1.filter isCode = codes1 := rfl
theorem w_codes : ∀ c ∈ words1.filter isCode, c.before args0 about1 = true := by
  rw [codes_eq]
  intro c hc
  simp only [codes1, List.mem_cons, List.not_mem_nil, or_false] at hc
  rcases hc with rfl | rfl | rfl | rfl | rfl | rfl | rfl | rfl | rfl | rfl | rfl | rfl | rfl | rfl | rfl | rfl | rfl | rfl | rfl | rfl | rfl | rfl
  · exact w_c0
  · exact w_c1
  · exact w_c2
  · exact w_c3
  · exact w_c4
  · exact w_c5
  · exact w_c6
  · exact w_c7
  · exact w_c8
  · exact w_c9
  · exact w_c10
  · exact w_c11
  · exact w_c12
  · exact w_c13
  · exact w_c14
  · exact w_c15
  · exact w_c16
  · exact w_c17
  · exact w_c18
  · exact w_c19
  · exact w_c20
  · exact w_c21
set_option maxRecDepth 65536 in
theorem w_t1 : (words1.take 24).all (fun c => isCode c || c.before args0 about1) = true := by decide +kernel
set_option maxRecDepth 65536 in
theorem w_t2 : ((words1.drop 24).take 24).all (fun c => isCode c || c.before args0 about1) = true := by decide +kernel
set_option maxRecDepth 65536 in
theorem w_t3 : (((words1.drop 24).drop 24).take 24).all (fun c => isCode c || c.before args0 about1) = true := by decide +kernel
set_option maxRecDepth 65536 in
theorem w_t4 : (((words1.drop 24).drop 24).drop 24).all (fun c => isCode c || c.before args0 about1) = true := by decide +kernel
theorem w_tables : (allAtoms (Jvm.Cond.code x code maxLocals ret :: tables_1)).before args0 about1 = true := by
  rw [allAtoms_all]
  show words1.all (fun c => c.before args0 about1) = true
  refine all_split ?_ w_codes
  rw [← List.take_append_drop 24 words1, List.all_append, w_t1, ← List.take_append_drop 24 (words1.drop 24), List.all_append, w_t2, ← List.take_append_drop 24 ((words1.drop 24).drop 24), List.all_append, w_t3, w_t4]
  rfl
set_option maxRecDepth 65536 in
theorem w_rest : rest_1_c.before args0 about1 = true := by decide +kernel
set_option maxRecDepth 65536 in
theorem w_case : (Jvm.Cond.and given_1 narrow_1).before args0 about1 = true := by decide +kernel
theorem w_applies : (headSpec (Jvm.Cond.code x code maxLocals ret :: tables_1) room_1).applies x e0.platform about1 = true :=
  (Spec.applies_iff w_frames).mpr ⟨w_running, w_runnable, w_alone, w_named, w_hears, w_ripe, w_room, w_tables⟩
theorem atStart : AtStart classFile x code maxLocals ret World_1 tables_1 room_1 Calls_1 rest_1 Pre_1 launch0 p0 e0 about1 theMethod args0 below0 :=
  ⟨lists_1, trivial, launch0.admits_env _ _ _, launch0.least_env, fairChoices_fair.cas, fairChoices_fair.clock, w_frames, w_args, w_heap, w_applies, trivial, w_rest, w_case⟩
end start1
theorem witness_1 : WitnessClaimed_1 := ⟨start1.p0, start1.e0, start1.about1, start1.theMethod, start1.args0, start1.below0, start1.atStart⟩
end Jvm.Pilot.@@N@@
