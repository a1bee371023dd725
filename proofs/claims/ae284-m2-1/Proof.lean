import JvmDerived
import JvmDerived.Pilot.@@N@@Statement
import JvmDerived.Pilot.@@N@@Code
set_option linter.unusedVariables false
set_option linter.unusedSimpArgs false
namespace Jvm.Pilot.@@N@@
open Jvm Jvm.ClassFile Sem Op Lib Jvm.Free Jvm.Stand Jvm.LawKit Jvm.RoadKit Bundle Jvm.Pilot.@@N@@.Jvm.D
section OwnRet
variable {p : Program} {l : Launch} {e : Env} {R : Room} {s : State} {m : MethodId} {args : Array Value} {below : List Frame} {meth : Method} {c : Code} {T : State} {locs : List Loc} {cells slots : Nat}
theorem own_retI0 (X : Stand p l e R s m args below meth c T locs cells slots) (hx : p.tables.exec = Jvm.exec) {pc : Nat} {Ls : Array Slot} {z : Int32} {rest : List Value} (hret : meth.sig.returnType = some .int) (hd : decode c.code pc = .ok (.ireturn, 1)) {fs : List Frame}
    (hl : ∀ (f : JFrame) (acts : List Action), f.method = m → f.locked = none → f.entered = [] → (doReturn e (T.setTop f) acts (some (.int z))).1 = T.setFrames fs) : Steps p.tables e below (T.setTop (mkF m pc Ls (.int z :: rest))) (T.setFrames fs) :=
  retOut X hx hret rfl (Or.inl ⟨rfl, Or.inl rfl, z, rfl⟩) hd hl
end OwnRet
/-- the array at a: of component type ty, its class k, and just these components -/
def own_A (Z : State) (h : Heap) (a : Addr) (kc : ClassId) (ty : FieldType) (vs : List Value) : Prop := ∃ c : Cell, Arr Z h a c ty ∧ c.cls = kc ∧ c.slots.toList = vs ∧ vs.length < 2 ^ 31 ∧ ∀ v ∈ vs, fits ty v = true
section OwnArr
variable {Z : State} {h h' : Heap} {a b : Addr} {kc : ClassId} {ty : FieldType} {vs : List Value} {sl : Nat} {v w : Value} {ws : List Addr}
theorem own_A.lt (F : own_A Z h a kc ty vs) : a < h.size := by obtain ⟨c, A, -⟩ := F; exact A.lt
theorem own_A.ext (F : own_A Z h a kc ty vs) (E : Ext h h') : own_A Z h' a kc ty vs := by obtain ⟨c, A, r⟩ := F; exact ⟨c, A.ext E, r⟩
theorem own_A.other (F : own_A Z h b kc ty vs) (W : Wr h h' a sl v) (q : b ≠ a) : own_A Z h' b kc ty vs := by obtain ⟨c, A, r⟩ := F; exact ⟨c, A.other W q, r⟩
theorem own_A.keep (F : own_A Z h a kc ty vs) (K : Keep h h' ws) (q : a ∉ ws) : own_A Z h' a kc ty vs := by obtain ⟨c, A, r⟩ := F; exact ⟨c, ⟨K.2.1 a c A.1 q, A.2⟩, r⟩
theorem own_A.same (F : own_A Z h a kc ty vs) (W : Wr h h' a sl v) (hf : fits ty v = true) : own_A Z h' a kc ty (vs.set sl v) := by
  obtain ⟨c, A, r1, r2, r3, r4⟩ := F
  refine ⟨_, A.same W, r1, by show (c.slots.setIfInBounds sl v).toList = _; rw [Array.toList_setIfInBounds, r2], by simpa using r3, fun u hu => ?_⟩
  rcases List.mem_or_eq_of_mem_set hu with q | q
  · exact r4 u q
  · exact q ▸ hf
theorem own_in {c : Cell} {j : Int32} {i : Nat} (r2 : c.slots.toList = vs) (hj : j.toNatClampNeg = i) (hj0 : ¬ j < 0) (hi : i < vs.length) : ¬ (j < 0 ∨ c.slots.size ≤ j.toNatClampNeg) := by
  rintro (q | q)
  · exact hj0 q
  · rw [hj, ← Array.length_toList, r2] at q; omega
theorem own_Ins_keep {C : String} (F : Ins Z h a C true) (K : Keep h h' ws) : Ins Z h' a C true := by
  obtain ⟨cell, cT, h1, h2, h3⟩ := F
  obtain ⟨c', q, r1, r2, -⟩ := K.2.2 a cell h1
  exact ⟨c', cT, q, h2, by rw [r1, r2]; exact h3⟩
theorem own_Sta_keep0 {C nm d : String} (F : Sta Z h C nm d v) (K : Keep h h' []) : Sta Z h' C nm d v := by
  obtain ⟨cf, i, k, f, st, cell, h1, h2, h3, h4, h5, r⟩ := F
  exact ⟨cf, i, k, f, st, cell, h1, h2, h3, h4, K.2.1 st cell h5 nin0, r⟩
theorem own_Sto {x : Addr} {C : String} (F : own_A Z h a kc ty vs) (O : Ovr Z kc C) (I : Ins Z h x C true) : Sto Z h a (.ref x) := by
  obtain ⟨c, A, r, -⟩ := F
  exact Sto.ofV A r O I
theorem own_Sto_keep (F : Sto Z h a v) (K : Keep h h' ws) : Sto Z h' a v := F.imp id fun ⟨c1, c2, k, kv, kc, cp, t, y, h1, h2, h3, h4, h5, h6, h7, h8, h9⟩ => by
  obtain ⟨c1', q1, r1, -, -⟩ := K.2.2 _ _ h1
  obtain ⟨c2', q2, r2, r3, -⟩ := K.2.2 _ _ h6
  exact ⟨c1', c2', k, kv, kc, cp, t, y, q1, by rw [r1]; exact h2, h3, h4, h5, q2, by rw [r3]; exact h7, by rw [r2]; exact h8, by rw [r2]; exact h9⟩
end OwnArr
section OwnKit
variable {p : Program} {l : Launch} {e : Env} {R : Room} {s : State} {m : MethodId} {args : Array Value} {below : List Frame} {meth : Method} {c : Code} {Z T : State} {n0 ml k n : Nat} {y : MethodName} {bytes : ByteArray} {ret : Option FieldType} {h : Heap} {a0 : Array Value} {G : State → Outcome → Prop} {Ls : Array Slot} {st : List Value} {pc : Nat}
/-- the run from this state ends, and G holds of the end -/
def own_Ends (p : Program) (e : Env) (below : List Frame) (G : State → Outcome → Prop) (S : State) : Prop := ∃ s₂ o, Steps p.tables e below S s₂ ∧ s₂.status = .running ∧ Ended s₂ below o ∧ G s₂ o
/-- what a method's end must say -/
def own_Fin (s : State) (n0 C S : Nat) (Q : Option Value → Heap → Prop) (s₂ : State) (o : Outcome) : Prop := ∃ v L, o = .returned v ∧ (Q v s₂.heap ∧ Fr n0 L) ∧ FrameEnd s o s₂ L C S
/-- where a walk stands: the state T, its heap h, k cells and n slots spent, nothing old written -/
def own_W (p : Program) (l : Launch) (e : Env) (R : Room) (s : State) (m : MethodId) (args : Array Value) (below : List Frame) (meth : Method) (c : Code) (Z : State) (n0 : Nat) (y : MethodName) (bytes : ByteArray) (ml : Nat) (ret : Option FieldType) (T : State) (h : Heap) (k n : Nat) : Prop :=
  (∃ locs, Stand p l e R s m args below meth c T locs k n ∧ Fr n0 locs) ∧ T.heap = h ∧ n0 ≤ h.size ∧ p.tables.exec = Jvm.exec ∧ Z.Warmed39 s.vm ∧ c.code = bytes ∧ c.maxLocals = ml ∧ s.vm.findClass y.cls = some m.cls ∧ meth.sig.returnType = ret ∧ meth.locks = false ∧ meth.name = y.name
/-- a body's contract: called with as' over the heap h it returns, Q holds of what it returns and of the heap that it leaves -/
def own_Met (l : Launch) (y : MethodName) (bytes : ByteArray) (ml : Nat) (ret : Option FieldType) (rm : Room) (Z : State) (as' : Array Value) (h : Heap) (n0 : Nat) (Q : Option Value → Heap → Prop) : Prop :=
  ∀ ws, MetFree l y (head1 (Jvm.Cond.code y bytes ml ret :: ws) rm) (fun a U => a = as' ∧ Z.Warmed39 U.vm ∧ U.heap = h) (fun _ _ _ _ _ => True) (fun _ U o U' => ∃ v L, o = .returned v ∧ (Q v U'.heap ∧ Fr n0 L) ∧ FrameEnd U o U' L rm.cells rm.slots)
theorem own_pre {S S' : State} (f : ∀ t, Steps p.tables e below S' t → Steps p.tables e below S t) (K : own_Ends p e below G S') : own_Ends p e below G S := by
  obtain ⟨s2, o, h1, h2⟩ := K
  exact ⟨s2, o, f _ h1, h2⟩
theorem own_W.more {k' n' : Nat} (X : own_W p l e R s m args below meth c Z n0 y bytes ml ret T h k n) (hk : k ≤ k') (hn : n ≤ n') : own_W p l e R s m args below meth c Z n0 y bytes ml ret T h k' n' := by
  obtain ⟨⟨locs, Y, N⟩, r⟩ := X
  exact ⟨⟨locs, Y.more hk hn, N⟩, r⟩
theorem own_W.sz (X : own_W p l e R s m args below meth c Z n0 y bytes ml ret T h k n) : n0 ≤ h.size := X.2.2.1
theorem own_met {rm : Room} {as' : Array Value} {Q : Option Value → Heap → Prop} (hpl : plainFor y = true) (hs0 : n0 ≤ h.size) (hef : ∀ m, entryFrame m as' ml = mkF m 0 Ls [])
    (body : ∀ (p : Program) (e : Env) (s : State) (m : MethodId) (below : List Frame) (meth : Method) (c : Code) (T : State), own_W p l e rm s m as' below meth c Z n0 y bytes ml ret T h 0 0 → own_Ends p e below (own_Fin s n0 rm.cells rm.slots Q) (T.setTop (mkF m 0 Ls []))) :
    own_Met l y bytes ml ret rm Z as' h n0 Q := by
  intro ws
  refine MetFree.of_bodySF hpl hisR ?_
  intro p e s m args below meth c s₁ Bd hml0 hP hK
  obtain ⟨rfl, hZ, hh⟩ := hP
  obtain ⟨s2, o, h1, h2, h3, h4⟩ := body p e s m below meth c s₁ ⟨⟨[], Stand.of_body Bd, Fr.nil n0⟩, by rw [← hh, Bd.state]; rfl, hs0, Bd.exec, hZ, Bd.bytes, hml0, findClass_of_methodNamed Bd.named, Bd.returns, Bd.notSynchronized, (name_of_methodNamed Bd.named Bd.method).1⟩
  exact ⟨s2, o, castTop (hef m) h1, h2, h3, h4⟩
theorem own_iloadN (X : own_W p l e R s m args below meth c Z n0 y bytes ml ret T h k n) (q : Nat) {i : Fin 4} (x : Int32) (hd : decode bytes pc = .ok (.iload_n i, 1)) (hq : pc + 1 = q) (hl : Ls[i.val]? = some (.val (.int x))) (K : own_Ends p e below G (T.setTop (mkF m q Ls (.int x :: st)))) : own_Ends p e below G (T.setTop (mkF m pc Ls st)) := by
  subst hq
  obtain ⟨⟨locs, Y, N⟩, eT, hs0, hx, hZ, hby, hml, hown, hret, hlk, hnm⟩ := X
  exact own_pre (fun t K => XS.iloadN Y.here hx rfl (hb hby hd) hl K) K
theorem own_iload (X : own_W p l e R s m args below meth c Z n0 y bytes ml ret T h k n) (q : Nat) {i : Nat} (x : Int32) (hd : decode bytes pc = .ok (.iload i, 2)) (hq : pc + 2 = q) (hl : Ls[i]? = some (.val (.int x))) (K : own_Ends p e below G (T.setTop (mkF m q Ls (.int x :: st)))) : own_Ends p e below G (T.setTop (mkF m pc Ls st)) := by
  subst hq
  obtain ⟨⟨locs, Y, N⟩, eT, hs0, hx, hZ, hby, hml, hown, hret, hlk, hnm⟩ := X
  exact own_pre (fun t K => XS.iload Y.here hx rfl (hb hby hd) hl K) K
theorem own_lloadN (X : own_W p l e R s m args below meth c Z n0 y bytes ml ret T h k n) (q : Nat) {i : Fin 4} (x : Int64) (hd : decode bytes pc = .ok (.lload_n i, 1)) (hq : pc + 1 = q) (hl : Ls[i.val]? = some (.val (.long x))) (K : own_Ends p e below G (T.setTop (mkF m q Ls (.long x :: st)))) : own_Ends p e below G (T.setTop (mkF m pc Ls st)) := by
  subst hq
  obtain ⟨⟨locs, Y, N⟩, eT, hs0, hx, hZ, hby, hml, hown, hret, hlk, hnm⟩ := X
  exact own_pre (fun t K => XS.lloadN Y.here hx rfl (hb hby hd) hl K) K
theorem own_lload (X : own_W p l e R s m args below meth c Z n0 y bytes ml ret T h k n) (q : Nat) {i : Nat} (x : Int64) (hd : decode bytes pc = .ok (.lload i, 2)) (hq : pc + 2 = q) (hl : Ls[i]? = some (.val (.long x))) (K : own_Ends p e below G (T.setTop (mkF m q Ls (.long x :: st)))) : own_Ends p e below G (T.setTop (mkF m pc Ls st)) := by
  subst hq
  obtain ⟨⟨locs, Y, N⟩, eT, hs0, hx, hZ, hby, hml, hown, hret, hlk, hnm⟩ := X
  exact own_pre (fun t K => XS.lload Y.here hx rfl (hb hby hd) hl K) K
theorem own_aloadN (X : own_W p l e R s m args below meth c Z n0 y bytes ml ret T h k n) (q : Nat) {i : Fin 4} (x : Value) (hd : decode bytes pc = .ok (.aload_n i, 1)) (hq : pc + 1 = q) (hl : Ls[i.val]? = some (.val x)) (hv : x.isRef = true) (K : own_Ends p e below G (T.setTop (mkF m q Ls (x :: st)))) : own_Ends p e below G (T.setTop (mkF m pc Ls st)) := by
  subst hq
  obtain ⟨⟨locs, Y, N⟩, eT, hs0, hx, hZ, hby, hml, hown, hret, hlk, hnm⟩ := X
  exact own_pre (fun t K => XS.aloadN Y.here hx rfl (hb hby hd) hl hv K) K
theorem own_aload (X : own_W p l e R s m args below meth c Z n0 y bytes ml ret T h k n) (q : Nat) {i : Nat} (x : Value) (hd : decode bytes pc = .ok (.aload i, 2)) (hq : pc + 2 = q) (hl : Ls[i]? = some (.val x)) (hv : x.isRef = true) (K : own_Ends p e below G (T.setTop (mkF m q Ls (x :: st)))) : own_Ends p e below G (T.setTop (mkF m pc Ls st)) := by
  subst hq
  obtain ⟨⟨locs, Y, N⟩, eT, hs0, hx, hZ, hby, hml, hown, hret, hlk, hnm⟩ := X
  exact own_pre (fun t K => XS.aload Y.here hx rfl (hb hby hd) hl hv K) K
theorem own_istoreN (X : own_W p l e R s m args below meth c Z n0 y bytes ml ret T h k n) (q : Nat) {i : Fin 4} {x : Int32} (l' : Array Slot) (hd : decode bytes pc = .ok (.istore_n i, 1)) (hq : pc + 1 = q) (hl : storeLocals Ls i.val (.int x) = some l') (K : own_Ends p e below G (T.setTop (mkF m q l' st))) : own_Ends p e below G (T.setTop (mkF m pc Ls (.int x :: st))) := by
  subst hq
  obtain ⟨⟨locs, Y, N⟩, eT, hs0, hx, hZ, hby, hml, hown, hret, hlk, hnm⟩ := X
  exact own_pre (fun t K => XS.istoreN Y.here hx rfl (hb hby hd) rfl hl K) K
theorem own_istore (X : own_W p l e R s m args below meth c Z n0 y bytes ml ret T h k n) (q : Nat) {i : Nat} {x : Int32} (l' : Array Slot) (hd : decode bytes pc = .ok (.istore i, 2)) (hq : pc + 2 = q) (hl : storeLocals Ls i (.int x) = some l') (K : own_Ends p e below G (T.setTop (mkF m q l' st))) : own_Ends p e below G (T.setTop (mkF m pc Ls (.int x :: st))) := by
  subst hq
  obtain ⟨⟨locs, Y, N⟩, eT, hs0, hx, hZ, hby, hml, hown, hret, hlk, hnm⟩ := X
  exact own_pre (fun t K => XS.istore Y.here hx rfl (hb hby hd) rfl hl K) K
theorem own_lstoreN (X : own_W p l e R s m args below meth c Z n0 y bytes ml ret T h k n) (q : Nat) {i : Fin 4} {x : Int64} (l' : Array Slot) (hd : decode bytes pc = .ok (.lstore_n i, 1)) (hq : pc + 1 = q) (hl : storeLocals Ls i.val (.long x) = some l') (K : own_Ends p e below G (T.setTop (mkF m q l' st))) : own_Ends p e below G (T.setTop (mkF m pc Ls (.long x :: st))) := by
  subst hq
  obtain ⟨⟨locs, Y, N⟩, eT, hs0, hx, hZ, hby, hml, hown, hret, hlk, hnm⟩ := X
  exact own_pre (fun t K => XS.lstoreN Y.here hx rfl (hb hby hd) rfl hl K) K
theorem own_lstore (X : own_W p l e R s m args below meth c Z n0 y bytes ml ret T h k n) (q : Nat) {i : Nat} {x : Int64} (l' : Array Slot) (hd : decode bytes pc = .ok (.lstore i, 2)) (hq : pc + 2 = q) (hl : storeLocals Ls i (.long x) = some l') (K : own_Ends p e below G (T.setTop (mkF m q l' st))) : own_Ends p e below G (T.setTop (mkF m pc Ls (.long x :: st))) := by
  subst hq
  obtain ⟨⟨locs, Y, N⟩, eT, hs0, hx, hZ, hby, hml, hown, hret, hlk, hnm⟩ := X
  exact own_pre (fun t K => XS.lstore Y.here hx rfl (hb hby hd) rfl hl K) K
theorem own_astoreN (X : own_W p l e R s m args below meth c Z n0 y bytes ml ret T h k n) (q : Nat) {i : Fin 4} {x : Value} (l' : Array Slot) (hd : decode bytes pc = .ok (.astore_n i, 1)) (hq : pc + 1 = q) (hv : x.isRef = true) (hl : storeLocals Ls i.val x = some l') (K : own_Ends p e below G (T.setTop (mkF m q l' st))) : own_Ends p e below G (T.setTop (mkF m pc Ls (x :: st))) := by
  subst hq
  obtain ⟨⟨locs, Y, N⟩, eT, hs0, hx, hZ, hby, hml, hown, hret, hlk, hnm⟩ := X
  exact own_pre (fun t K => XS.astoreN Y.here hx rfl (hb hby hd) rfl hv hl K) K
theorem own_astore (X : own_W p l e R s m args below meth c Z n0 y bytes ml ret T h k n) (q : Nat) {i : Nat} {x : Value} (l' : Array Slot) (hd : decode bytes pc = .ok (.astore i, 2)) (hq : pc + 2 = q) (hv : x.isRef = true) (hl : storeLocals Ls i x = some l') (K : own_Ends p e below G (T.setTop (mkF m q l' st))) : own_Ends p e below G (T.setTop (mkF m pc Ls (x :: st))) := by
  subst hq
  obtain ⟨⟨locs, Y, N⟩, eT, hs0, hx, hZ, hby, hml, hown, hret, hlk, hnm⟩ := X
  exact own_pre (fun t K => XS.astore Y.here hx rfl (hb hby hd) rfl hv hl K) K
theorem own_iconst (X : own_W p l e R s m args below meth c Z n0 y bytes ml ret T h k n) (q : Nat) {i : Int} (x : Int32) (hd : decode bytes pc = .ok (.iconst i, 1)) (hq : pc + 1 = q) (hv : Int32.ofInt i = x) (K : own_Ends p e below G (T.setTop (mkF m q Ls (.int x :: st)))) : own_Ends p e below G (T.setTop (mkF m pc Ls st)) := by
  subst hq
  obtain ⟨⟨locs, Y, N⟩, eT, hs0, hx, hZ, hby, hml, hown, hret, hlk, hnm⟩ := X
  exact own_pre (fun t K => XT.iconstV Y.here hx rfl x (hb hby hd) hv K) K
theorem own_bipush (X : own_W p l e R s m args below meth c Z n0 y bytes ml ret T h k n) (q : Nat) {i : Int} (x : Int32) (hd : decode bytes pc = .ok (.bipush i, 2)) (hq : pc + 2 = q) (hv : (Int8.ofInt i).toInt32 = x) (K : own_Ends p e below G (T.setTop (mkF m q Ls (.int x :: st)))) : own_Ends p e below G (T.setTop (mkF m pc Ls st)) := by
  subst hq
  obtain ⟨⟨locs, Y, N⟩, eT, hs0, hx, hZ, hby, hml, hown, hret, hlk, hnm⟩ := X
  exact own_pre (fun t K => XT.bipushV Y.here hx rfl x (hb hby hd) hv K) K
theorem own_sipush (X : own_W p l e R s m args below meth c Z n0 y bytes ml ret T h k n) (q : Nat) {i : Int} (x : Int32) (hd : decode bytes pc = .ok (.sipush i, 3)) (hq : pc + 3 = q) (hv : (Int16.ofInt i).toInt32 = x) (K : own_Ends p e below G (T.setTop (mkF m q Ls (.int x :: st)))) : own_Ends p e below G (T.setTop (mkF m pc Ls st)) := by
  subst hq
  obtain ⟨⟨locs, Y, N⟩, eT, hs0, hx, hZ, hby, hml, hown, hret, hlk, hnm⟩ := X
  exact own_pre (fun t K => XT.sipushV Y.here hx rfl x (hb hby hd) hv K) K
theorem own_lconst (X : own_W p l e R s m args below meth c Z n0 y bytes ml ret T h k n) (q : Nat) {i : Fin 2} (x : Int64) (hd : decode bytes pc = .ok (.lconst i, 1)) (hq : pc + 1 = q) (hv : Int64.ofNat i = x) (K : own_Ends p e below G (T.setTop (mkF m q Ls (.long x :: st)))) : own_Ends p e below G (T.setTop (mkF m pc Ls st)) := by
  subst hq
  obtain ⟨⟨locs, Y, N⟩, eT, hs0, hx, hZ, hby, hml, hown, hret, hlk, hnm⟩ := X
  exact own_pre (fun t K => XT.lconstV Y.here hx rfl x (hb hby hd) hv K) K
theorem own_anull (X : own_W p l e R s m args below meth c Z n0 y bytes ml ret T h k n) (q : Nat)  (hd : decode bytes pc = .ok (.aconst_null, 1)) (hq : pc + 1 = q)  (K : own_Ends p e below G (T.setTop (mkF m q Ls (.null :: st)))) : own_Ends p e below G (T.setTop (mkF m pc Ls st)) := by
  subst hq
  obtain ⟨⟨locs, Y, N⟩, eT, hs0, hx, hZ, hby, hml, hown, hret, hlk, hnm⟩ := X
  exact own_pre (fun t K => XS.aconstNull Y.here hx rfl (hb hby hd) K) K
theorem own_ldcI (X : own_W p l e R s m args below meth c Z n0 y bytes ml ret T h k n) (q : Nat) {i : Nat} {x : Int32} (hd : decode bytes pc = .ok (.ldc i, 2)) (hq : pc + 2 = q) (w : (Jvm.Cond.constant y.cls i x).before a0 Z = true) (K : own_Ends p e below G (T.setTop (mkF m q Ls (.int x :: st)))) : own_Ends p e below G (T.setTop (mkF m pc Ls st)) := by
  subst hq
  obtain ⟨⟨locs, Y, N⟩, eT, hs0, hx, hZ, hby, hml, hown, hret, hlk, hnm⟩ := X
  exact own_pre (fun t K => Y.ldcI hx hown (mvT hZ w) rfl (hb hby hd) K) K
theorem own_ldcwI (X : own_W p l e R s m args below meth c Z n0 y bytes ml ret T h k n) (q : Nat) {i : Nat} {x : Int32} (hd : decode bytes pc = .ok (.ldc_w i, 3)) (hq : pc + 3 = q) (w : (Jvm.Cond.constant y.cls i x).before a0 Z = true) (K : own_Ends p e below G (T.setTop (mkF m q Ls (.int x :: st)))) : own_Ends p e below G (T.setTop (mkF m pc Ls st)) := by
  subst hq
  obtain ⟨⟨locs, Y, N⟩, eT, hs0, hx, hZ, hby, hml, hown, hret, hlk, hnm⟩ := X
  exact own_pre (fun t K => Y.ldcWI hx hown (mvT hZ w) rfl (hb hby hd) K) K
theorem own_ldc2J (X : own_W p l e R s m args below meth c Z n0 y bytes ml ret T h k n) (q : Nat) {i : Nat} {x : Int64} (hd : decode bytes pc = .ok (.ldc2_w i, 3)) (hq : pc + 3 = q) (w : (Jvm.Cond.constantLong y.cls i x).before a0 Z = true) (K : own_Ends p e below G (T.setTop (mkF m q Ls (.long x :: st)))) : own_Ends p e below G (T.setTop (mkF m pc Ls st)) := by
  subst hq
  obtain ⟨⟨locs, Y, N⟩, eT, hs0, hx, hZ, hby, hml, hown, hret, hlk, hnm⟩ := X
  exact own_pre (fun t K => Y.ldc2J hx hown (mvT hZ w) rfl (hb hby hd) K) K
theorem own_iadd (X : own_W p l e R s m args below meth c Z n0 y bytes ml ret T h k n) (q : Nat) {x z : Int32} (hd : decode bytes pc = .ok (.iadd, 1)) (hq : pc + 1 = q)  (K : own_Ends p e below G (T.setTop (mkF m q Ls (.int (x + z) :: st)))) : own_Ends p e below G (T.setTop (mkF m pc Ls (.int z :: .int x :: st))) := by
  subst hq
  obtain ⟨⟨locs, Y, N⟩, eT, hs0, hx, hZ, hby, hml, hown, hret, hlk, hnm⟩ := X
  exact own_pre (fun t K => XS.iadd Y.here hx rfl (hb hby hd) rfl K) K
theorem own_isub (X : own_W p l e R s m args below meth c Z n0 y bytes ml ret T h k n) (q : Nat) {x z : Int32} (hd : decode bytes pc = .ok (.isub, 1)) (hq : pc + 1 = q)  (K : own_Ends p e below G (T.setTop (mkF m q Ls (.int (x - z) :: st)))) : own_Ends p e below G (T.setTop (mkF m pc Ls (.int z :: .int x :: st))) := by
  subst hq
  obtain ⟨⟨locs, Y, N⟩, eT, hs0, hx, hZ, hby, hml, hown, hret, hlk, hnm⟩ := X
  exact own_pre (fun t K => XS.isub Y.here hx rfl (hb hby hd) rfl K) K
theorem own_imul (X : own_W p l e R s m args below meth c Z n0 y bytes ml ret T h k n) (q : Nat) {x z : Int32} (hd : decode bytes pc = .ok (.imul, 1)) (hq : pc + 1 = q)  (K : own_Ends p e below G (T.setTop (mkF m q Ls (.int (x * z) :: st)))) : own_Ends p e below G (T.setTop (mkF m pc Ls (.int z :: .int x :: st))) := by
  subst hq
  obtain ⟨⟨locs, Y, N⟩, eT, hs0, hx, hZ, hby, hml, hown, hret, hlk, hnm⟩ := X
  exact own_pre (fun t K => XS.imul Y.here hx rfl (hb hby hd) rfl K) K
theorem own_iand (X : own_W p l e R s m args below meth c Z n0 y bytes ml ret T h k n) (q : Nat) {x z : Int32} (hd : decode bytes pc = .ok (.iand, 1)) (hq : pc + 1 = q)  (K : own_Ends p e below G (T.setTop (mkF m q Ls (.int (x &&& z) :: st)))) : own_Ends p e below G (T.setTop (mkF m pc Ls (.int z :: .int x :: st))) := by
  subst hq
  obtain ⟨⟨locs, Y, N⟩, eT, hs0, hx, hZ, hby, hml, hown, hret, hlk, hnm⟩ := X
  exact own_pre (fun t K => XS.iand Y.here hx rfl (hb hby hd) rfl K) K
theorem own_ior (X : own_W p l e R s m args below meth c Z n0 y bytes ml ret T h k n) (q : Nat) {x z : Int32} (hd : decode bytes pc = .ok (.ior, 1)) (hq : pc + 1 = q)  (K : own_Ends p e below G (T.setTop (mkF m q Ls (.int (x ||| z) :: st)))) : own_Ends p e below G (T.setTop (mkF m pc Ls (.int z :: .int x :: st))) := by
  subst hq
  obtain ⟨⟨locs, Y, N⟩, eT, hs0, hx, hZ, hby, hml, hown, hret, hlk, hnm⟩ := X
  exact own_pre (fun t K => XS.ior Y.here hx rfl (hb hby hd) rfl K) K
theorem own_ixor (X : own_W p l e R s m args below meth c Z n0 y bytes ml ret T h k n) (q : Nat) {x z : Int32} (hd : decode bytes pc = .ok (.ixor, 1)) (hq : pc + 1 = q)  (K : own_Ends p e below G (T.setTop (mkF m q Ls (.int (x ^^^ z) :: st)))) : own_Ends p e below G (T.setTop (mkF m pc Ls (.int z :: .int x :: st))) := by
  subst hq
  obtain ⟨⟨locs, Y, N⟩, eT, hs0, hx, hZ, hby, hml, hown, hret, hlk, hnm⟩ := X
  exact own_pre (fun t K => XS.ixor Y.here hx rfl (hb hby hd) rfl K) K
theorem own_ishl (X : own_W p l e R s m args below meth c Z n0 y bytes ml ret T h k n) (q : Nat) {x z : Int32} (hd : decode bytes pc = .ok (.ishl, 1)) (hq : pc + 1 = q)  (K : own_Ends p e below G (T.setTop (mkF m q Ls (.int (x <<< (z &&& 31)) :: st)))) : own_Ends p e below G (T.setTop (mkF m pc Ls (.int z :: .int x :: st))) := by
  subst hq
  obtain ⟨⟨locs, Y, N⟩, eT, hs0, hx, hZ, hby, hml, hown, hret, hlk, hnm⟩ := X
  exact own_pre (fun t K => XS.ishl Y.here hx rfl (hb hby hd) rfl K) K
theorem own_ishr (X : own_W p l e R s m args below meth c Z n0 y bytes ml ret T h k n) (q : Nat) {x z : Int32} (hd : decode bytes pc = .ok (.ishr, 1)) (hq : pc + 1 = q)  (K : own_Ends p e below G (T.setTop (mkF m q Ls (.int (x >>> (z &&& 31)) :: st)))) : own_Ends p e below G (T.setTop (mkF m pc Ls (.int z :: .int x :: st))) := by
  subst hq
  obtain ⟨⟨locs, Y, N⟩, eT, hs0, hx, hZ, hby, hml, hown, hret, hlk, hnm⟩ := X
  exact own_pre (fun t K => XS.ishr Y.here hx rfl (hb hby hd) rfl K) K
theorem own_iushr (X : own_W p l e R s m args below meth c Z n0 y bytes ml ret T h k n) (q : Nat) {x z : Int32} (hd : decode bytes pc = .ok (.iushr, 1)) (hq : pc + 1 = q)  (K : own_Ends p e below G (T.setTop (mkF m q Ls (.int (XT.ushr x z) :: st)))) : own_Ends p e below G (T.setTop (mkF m pc Ls (.int z :: .int x :: st))) := by
  subst hq
  obtain ⟨⟨locs, Y, N⟩, eT, hs0, hx, hZ, hby, hml, hown, hret, hlk, hnm⟩ := X
  exact own_pre (fun t K => XT.iushr Y.here hx rfl (hb hby hd) rfl K) K
theorem own_idiv (X : own_W p l e R s m args below meth c Z n0 y bytes ml ret T h k n) (q : Nat) {x z : Int32} (hd : decode bytes pc = .ok (.idiv, 1)) (hq : pc + 1 = q) (hz : z ≠ 0) (K : own_Ends p e below G (T.setTop (mkF m q Ls (.int (x / z) :: st)))) : own_Ends p e below G (T.setTop (mkF m pc Ls (.int z :: .int x :: st))) := by
  subst hq
  obtain ⟨⟨locs, Y, N⟩, eT, hs0, hx, hZ, hby, hml, hown, hret, hlk, hnm⟩ := X
  exact own_pre (fun t K => XS.idiv Y.here hx rfl (hb hby hd) rfl hz K) K
theorem own_irem (X : own_W p l e R s m args below meth c Z n0 y bytes ml ret T h k n) (q : Nat) {x z : Int32} (hd : decode bytes pc = .ok (.irem, 1)) (hq : pc + 1 = q) (hz : z ≠ 0) (K : own_Ends p e below G (T.setTop (mkF m q Ls (.int (x % z) :: st)))) : own_Ends p e below G (T.setTop (mkF m pc Ls (.int z :: .int x :: st))) := by
  subst hq
  obtain ⟨⟨locs, Y, N⟩, eT, hs0, hx, hZ, hby, hml, hown, hret, hlk, hnm⟩ := X
  exact own_pre (fun t K => iremM Y hx rfl (hb hby hd) rfl hz K) K
theorem own_ineg (X : own_W p l e R s m args below meth c Z n0 y bytes ml ret T h k n) (q : Nat) {x : Int32} (hd : decode bytes pc = .ok (.ineg, 1)) (hq : pc + 1 = q)  (K : own_Ends p e below G (T.setTop (mkF m q Ls (.int (-x) :: st)))) : own_Ends p e below G (T.setTop (mkF m pc Ls (.int x :: st))) := by
  subst hq
  obtain ⟨⟨locs, Y, N⟩, eT, hs0, hx, hZ, hby, hml, hown, hret, hlk, hnm⟩ := X
  exact own_pre (fun t K => XS.ineg Y.here hx rfl (hb hby hd) rfl K) K
theorem own_i2b (X : own_W p l e R s m args below meth c Z n0 y bytes ml ret T h k n) (q : Nat) {x : Int32} (hd : decode bytes pc = .ok (.i2b, 1)) (hq : pc + 1 = q)  (K : own_Ends p e below G (T.setTop (mkF m q Ls (.int (x.toInt8.toInt32) :: st)))) : own_Ends p e below G (T.setTop (mkF m pc Ls (.int x :: st))) := by
  subst hq
  obtain ⟨⟨locs, Y, N⟩, eT, hs0, hx, hZ, hby, hml, hown, hret, hlk, hnm⟩ := X
  exact own_pre (fun t K => XS.i2b Y.here hx rfl (hb hby hd) rfl K) K
theorem own_i2s (X : own_W p l e R s m args below meth c Z n0 y bytes ml ret T h k n) (q : Nat) {x : Int32} (hd : decode bytes pc = .ok (.i2s, 1)) (hq : pc + 1 = q)  (K : own_Ends p e below G (T.setTop (mkF m q Ls (.int (x.toInt16.toInt32) :: st)))) : own_Ends p e below G (T.setTop (mkF m pc Ls (.int x :: st))) := by
  subst hq
  obtain ⟨⟨locs, Y, N⟩, eT, hs0, hx, hZ, hby, hml, hown, hret, hlk, hnm⟩ := X
  exact own_pre (fun t K => XS.i2s Y.here hx rfl (hb hby hd) rfl K) K
theorem own_i2c (X : own_W p l e R s m args below meth c Z n0 y bytes ml ret T h k n) (q : Nat) {x : Int32} (hd : decode bytes pc = .ok (.i2c, 1)) (hq : pc + 1 = q)  (K : own_Ends p e below G (T.setTop (mkF m q Ls (.int (x.toUInt32.toUInt16.toUInt32.toInt32) :: st)))) : own_Ends p e below G (T.setTop (mkF m pc Ls (.int x :: st))) := by
  subst hq
  obtain ⟨⟨locs, Y, N⟩, eT, hs0, hx, hZ, hby, hml, hown, hret, hlk, hnm⟩ := X
  exact own_pre (fun t K => XS.i2c Y.here hx rfl (hb hby hd) rfl K) K
theorem own_i2l (X : own_W p l e R s m args below meth c Z n0 y bytes ml ret T h k n) (q : Nat) {x : Int32} (hd : decode bytes pc = .ok (.i2l, 1)) (hq : pc + 1 = q)  (K : own_Ends p e below G (T.setTop (mkF m q Ls (.long x.toInt64 :: st)))) : own_Ends p e below G (T.setTop (mkF m pc Ls (.int x :: st))) := by
  subst hq
  obtain ⟨⟨locs, Y, N⟩, eT, hs0, hx, hZ, hby, hml, hown, hret, hlk, hnm⟩ := X
  exact own_pre (fun t K => XS.i2l Y.here hx rfl (hb hby hd) rfl K) K
theorem own_l2i (X : own_W p l e R s m args below meth c Z n0 y bytes ml ret T h k n) (q : Nat) {x : Int64} (hd : decode bytes pc = .ok (.l2i, 1)) (hq : pc + 1 = q)  (K : own_Ends p e below G (T.setTop (mkF m q Ls (.int x.toInt32 :: st)))) : own_Ends p e below G (T.setTop (mkF m pc Ls (.long x :: st))) := by
  subst hq
  obtain ⟨⟨locs, Y, N⟩, eT, hs0, hx, hZ, hby, hml, hown, hret, hlk, hnm⟩ := X
  exact own_pre (fun t K => XS.l2i Y.here hx rfl (hb hby hd) rfl K) K
theorem own_ladd (X : own_W p l e R s m args below meth c Z n0 y bytes ml ret T h k n) (q : Nat) {x z : Int64} (hd : decode bytes pc = .ok (.ladd, 1)) (hq : pc + 1 = q)  (K : own_Ends p e below G (T.setTop (mkF m q Ls (.long (x + z) :: st)))) : own_Ends p e below G (T.setTop (mkF m pc Ls (.long z :: .long x :: st))) := by
  subst hq
  obtain ⟨⟨locs, Y, N⟩, eT, hs0, hx, hZ, hby, hml, hown, hret, hlk, hnm⟩ := X
  exact own_pre (fun t K => XS.ladd Y.here hx rfl (hb hby hd) rfl K) K
theorem own_lsub (X : own_W p l e R s m args below meth c Z n0 y bytes ml ret T h k n) (q : Nat) {x z : Int64} (hd : decode bytes pc = .ok (.lsub, 1)) (hq : pc + 1 = q)  (K : own_Ends p e below G (T.setTop (mkF m q Ls (.long (x - z) :: st)))) : own_Ends p e below G (T.setTop (mkF m pc Ls (.long z :: .long x :: st))) := by
  subst hq
  obtain ⟨⟨locs, Y, N⟩, eT, hs0, hx, hZ, hby, hml, hown, hret, hlk, hnm⟩ := X
  exact own_pre (fun t K => XS.lsub Y.here hx rfl (hb hby hd) rfl K) K
theorem own_lmul (X : own_W p l e R s m args below meth c Z n0 y bytes ml ret T h k n) (q : Nat) {x z : Int64} (hd : decode bytes pc = .ok (.lmul, 1)) (hq : pc + 1 = q)  (K : own_Ends p e below G (T.setTop (mkF m q Ls (.long (x * z) :: st)))) : own_Ends p e below G (T.setTop (mkF m pc Ls (.long z :: .long x :: st))) := by
  subst hq
  obtain ⟨⟨locs, Y, N⟩, eT, hs0, hx, hZ, hby, hml, hown, hret, hlk, hnm⟩ := X
  exact own_pre (fun t K => XS.lmul Y.here hx rfl (hb hby hd) rfl K) K
theorem own_land (X : own_W p l e R s m args below meth c Z n0 y bytes ml ret T h k n) (q : Nat) {x z : Int64} (hd : decode bytes pc = .ok (.land, 1)) (hq : pc + 1 = q)  (K : own_Ends p e below G (T.setTop (mkF m q Ls (.long (x &&& z) :: st)))) : own_Ends p e below G (T.setTop (mkF m pc Ls (.long z :: .long x :: st))) := by
  subst hq
  obtain ⟨⟨locs, Y, N⟩, eT, hs0, hx, hZ, hby, hml, hown, hret, hlk, hnm⟩ := X
  exact own_pre (fun t K => XS.land Y.here hx rfl (hb hby hd) rfl K) K
theorem own_lor (X : own_W p l e R s m args below meth c Z n0 y bytes ml ret T h k n) (q : Nat) {x z : Int64} (hd : decode bytes pc = .ok (.lor, 1)) (hq : pc + 1 = q)  (K : own_Ends p e below G (T.setTop (mkF m q Ls (.long (x ||| z) :: st)))) : own_Ends p e below G (T.setTop (mkF m pc Ls (.long z :: .long x :: st))) := by
  subst hq
  obtain ⟨⟨locs, Y, N⟩, eT, hs0, hx, hZ, hby, hml, hown, hret, hlk, hnm⟩ := X
  exact own_pre (fun t K => XS.lor Y.here hx rfl (hb hby hd) rfl K) K
theorem own_lxor (X : own_W p l e R s m args below meth c Z n0 y bytes ml ret T h k n) (q : Nat) {x z : Int64} (hd : decode bytes pc = .ok (.lxor, 1)) (hq : pc + 1 = q)  (K : own_Ends p e below G (T.setTop (mkF m q Ls (.long (x ^^^ z) :: st)))) : own_Ends p e below G (T.setTop (mkF m pc Ls (.long z :: .long x :: st))) := by
  subst hq
  obtain ⟨⟨locs, Y, N⟩, eT, hs0, hx, hZ, hby, hml, hown, hret, hlk, hnm⟩ := X
  exact own_pre (fun t K => XS.lxor Y.here hx rfl (hb hby hd) rfl K) K
theorem own_lushr (X : own_W p l e R s m args below meth c Z n0 y bytes ml ret T h k n) (q : Nat) {x : Int64} {z : Int32} (hd : decode bytes pc = .ok (.lushr, 1)) (hq : pc + 1 = q)  (K : own_Ends p e below G (T.setTop (mkF m q Ls (.long (XT.ushrL x z) :: st)))) : own_Ends p e below G (T.setTop (mkF m pc Ls (.int z :: .long x :: st))) := by
  subst hq
  obtain ⟨⟨locs, Y, N⟩, eT, hs0, hx, hZ, hby, hml, hown, hret, hlk, hnm⟩ := X
  exact own_pre (fun t K => XT.lushr Y.here hx rfl (hb hby hd) rfl K) K
theorem own_ldiv (X : own_W p l e R s m args below meth c Z n0 y bytes ml ret T h k n) (q : Nat) {x z : Int64} (hd : decode bytes pc = .ok (.ldiv, 1)) (hq : pc + 1 = q) (hz : z ≠ 0) (K : own_Ends p e below G (T.setTop (mkF m q Ls (.long (x / z) :: st)))) : own_Ends p e below G (T.setTop (mkF m pc Ls (.long z :: .long x :: st))) := by
  subst hq
  obtain ⟨⟨locs, Y, N⟩, eT, hs0, hx, hZ, hby, hml, hown, hret, hlk, hnm⟩ := X
  exact own_pre (fun t K => XS.ldiv Y.here hx rfl (hb hby hd) rfl hz K) K
theorem own_lrem (X : own_W p l e R s m args below meth c Z n0 y bytes ml ret T h k n) (q : Nat) {x z : Int64} (hd : decode bytes pc = .ok (.lrem, 1)) (hq : pc + 1 = q) (hz : z ≠ 0) (K : own_Ends p e below G (T.setTop (mkF m q Ls (.long (x - (x / z) * z) :: st)))) : own_Ends p e below G (T.setTop (mkF m pc Ls (.long z :: .long x :: st))) := by
  subst hq
  obtain ⟨⟨locs, Y, N⟩, eT, hs0, hx, hZ, hby, hml, hown, hret, hlk, hnm⟩ := X
  exact own_pre (fun t K => XS.lrem Y.here hx rfl (hb hby hd) rfl hz K) K
theorem own_lneg (X : own_W p l e R s m args below meth c Z n0 y bytes ml ret T h k n) (q : Nat) {x : Int64} (hd : decode bytes pc = .ok (.lneg, 1)) (hq : pc + 1 = q)  (K : own_Ends p e below G (T.setTop (mkF m q Ls (.long (-x) :: st)))) : own_Ends p e below G (T.setTop (mkF m pc Ls (.long x :: st))) := by
  subst hq
  obtain ⟨⟨locs, Y, N⟩, eT, hs0, hx, hZ, hby, hml, hown, hret, hlk, hnm⟩ := X
  exact own_pre (fun t K => XS.lneg Y.here hx rfl (hb hby hd) rfl K) K
theorem own_lcmp (X : own_W p l e R s m args below meth c Z n0 y bytes ml ret T h k n) (q : Nat) {x z : Int64} (hd : decode bytes pc = .ok (.lcmp, 1)) (hq : pc + 1 = q)  (K : own_Ends p e below G (T.setTop (mkF m q Ls (.int (XT.cmpL x z) :: st)))) : own_Ends p e below G (T.setTop (mkF m pc Ls (.long z :: .long x :: st))) := by
  subst hq
  obtain ⟨⟨locs, Y, N⟩, eT, hs0, hx, hZ, hby, hml, hown, hret, hlk, hnm⟩ := X
  exact own_pre (fun t K => XT.lcmp Y.here hx rfl (hb hby hd) rfl K) K
theorem own_iinc (X : own_W p l e R s m args below meth c Z n0 y bytes ml ret T h k n) (q : Nat) {i : Nat} {cst : Int} {x : Int32} (v : Int32) (l' : Array Slot) (hd : decode bytes pc = .ok (.iinc i cst, 3)) (hq : pc + 3 = q) (hv : Int32.ofInt cst = v) (hl : Ls[i]? = some (.val (.int x))) (hl' : storeLocals Ls i (.int (x + v)) = some l') (K : own_Ends p e below G (T.setTop (mkF m q l' st))) : own_Ends p e below G (T.setTop (mkF m pc Ls st)) := by
  subst hq
  obtain ⟨⟨locs, Y, N⟩, eT, hs0, hx, hZ, hby, hml, hown, hret, hlk, hnm⟩ := X
  exact own_pre (fun t K => XT.iincV Y.here hx rfl v (hb hby hd) hv hl hl' K) K
theorem own_dup (X : own_W p l e R s m args below meth c Z n0 y bytes ml ret T h k n) (q : Nat) {x : Value} (hd : decode bytes pc = .ok (.dup, 1)) (hq : pc + 1 = q) (hc : x.category = 1) (K : own_Ends p e below G (T.setTop (mkF m q Ls (x :: x :: st)))) : own_Ends p e below G (T.setTop (mkF m pc Ls (x :: st))) := by
  subst hq
  obtain ⟨⟨locs, Y, N⟩, eT, hs0, hx, hZ, hby, hml, hown, hret, hlk, hnm⟩ := X
  exact own_pre (fun t K => XS.dup Y.here hx rfl (hb hby hd) rfl hc K) K
theorem own_dupX1 (X : own_W p l e R s m args below meth c Z n0 y bytes ml ret T h k n) (q : Nat) {x z : Value} (hd : decode bytes pc = .ok (.dup_x1, 1)) (hq : pc + 1 = q) (hc : x.category = 1) (hc' : z.category = 1) (K : own_Ends p e below G (T.setTop (mkF m q Ls (x :: z :: x :: st)))) : own_Ends p e below G (T.setTop (mkF m pc Ls (x :: z :: st))) := by
  subst hq
  obtain ⟨⟨locs, Y, N⟩, eT, hs0, hx, hZ, hby, hml, hown, hret, hlk, hnm⟩ := X
  exact own_pre (fun t K => XS.dupX1 Y.here hx rfl (hb hby hd) rfl hc hc' K) K
theorem own_dup2 (X : own_W p l e R s m args below meth c Z n0 y bytes ml ret T h k n) (q : Nat) {x z : Value} (hd : decode bytes pc = .ok (.dup2, 1)) (hq : pc + 1 = q) (hc : x.category = 1) (hc' : z.category = 1) (K : own_Ends p e below G (T.setTop (mkF m q Ls (x :: z :: x :: z :: st)))) : own_Ends p e below G (T.setTop (mkF m pc Ls (x :: z :: st))) := by
  subst hq
  obtain ⟨⟨locs, Y, N⟩, eT, hs0, hx, hZ, hby, hml, hown, hret, hlk, hnm⟩ := X
  exact own_pre (fun t K => XT.dup2 Y.here hx rfl (hb hby hd) rfl hc hc' K) K
theorem own_dup2L (X : own_W p l e R s m args below meth c Z n0 y bytes ml ret T h k n) (q : Nat) {x : Int64} (hd : decode bytes pc = .ok (.dup2, 1)) (hq : pc + 1 = q)  (K : own_Ends p e below G (T.setTop (mkF m q Ls (.long x :: .long x :: st)))) : own_Ends p e below G (T.setTop (mkF m pc Ls (.long x :: st))) := by
  subst hq
  obtain ⟨⟨locs, Y, N⟩, eT, hs0, hx, hZ, hby, hml, hown, hret, hlk, hnm⟩ := X
  exact own_pre (fun t K => XT.dup2L Y.here hx rfl (hb hby hd) rfl K) K
theorem own_pop (X : own_W p l e R s m args below meth c Z n0 y bytes ml ret T h k n) (q : Nat) {x : Value} (hd : decode bytes pc = .ok (.pop, 1)) (hq : pc + 1 = q) (hc : x.category = 1) (K : own_Ends p e below G (T.setTop (mkF m q Ls st))) : own_Ends p e below G (T.setTop (mkF m pc Ls (x :: st))) := by
  subst hq
  obtain ⟨⟨locs, Y, N⟩, eT, hs0, hx, hZ, hby, hml, hown, hret, hlk, hnm⟩ := X
  exact own_pre (fun t K => XS.pop Y.here hx rfl (hb hby hd) rfl hc K) K
theorem own_goto (X : own_W p l e R s m args below meth c Z n0 y bytes ml ret T h k n) (q : Nat) {o : Int}  (hd : decode bytes pc = .ok (.goto o, 3)) (ho : 0 ≤ (pc : Int) + o) (hq : ((pc : Int) + o).toNat = q)  (K : own_Ends p e below G (T.setTop (mkF m q Ls st))) : own_Ends p e below G (T.setTop (mkF m pc Ls st)) := by
  obtain ⟨⟨locs, Y, N⟩, eT, hs0, hx, hZ, hby, hml, hown, hret, hlk, hnm⟩ := X
  exact own_pre (fun t K => XS.goto Y.here hx rfl rfl (hb hby hd) ho hq K) K
theorem own_ifY (X : own_W p l e R s m args below meth c Z n0 y bytes ml ret T h k n) (q : Nat) {o : Int} {cd : ClassFile.Cond} {x : Int32} (hd : decode bytes pc = .ok (.ifCond cd o, 3)) (ho : 0 ≤ (pc : Int) + o) (hq : ((pc : Int) + o).toNat = q) (hc : ifCond.holds cd x = true) (K : own_Ends p e below G (T.setTop (mkF m q Ls st))) : own_Ends p e below G (T.setTop (mkF m pc Ls (.int x :: st))) := by
  obtain ⟨⟨locs, Y, N⟩, eT, hs0, hx, hZ, hby, hml, hown, hret, hlk, hnm⟩ := X
  exact own_pre (fun t K => XS.ifYes Y.here hx rfl rfl (hb hby hd) rfl hc ho hq K) K
theorem own_ifN (X : own_W p l e R s m args below meth c Z n0 y bytes ml ret T h k n) (q : Nat) {o : Int} {cd : ClassFile.Cond} {x : Int32} (hd : decode bytes pc = .ok (.ifCond cd o, 3)) (hq : pc + 3 = q) (hc : ifCond.holds cd x = false) (K : own_Ends p e below G (T.setTop (mkF m q Ls st))) : own_Ends p e below G (T.setTop (mkF m pc Ls (.int x :: st))) := by
  subst hq
  obtain ⟨⟨locs, Y, N⟩, eT, hs0, hx, hZ, hby, hml, hown, hret, hlk, hnm⟩ := X
  exact own_pre (fun t K => XS.ifNo Y.here hx rfl (hb hby hd) rfl hc K) K
theorem own_icY (X : own_W p l e R s m args below meth c Z n0 y bytes ml ret T h k n) (q : Nat) {o : Int} {cd : ClassFile.Cond} {x z : Int32} (hd : decode bytes pc = .ok (.if_icmp cd o, 3)) (ho : 0 ≤ (pc : Int) + o) (hq : ((pc : Int) + o).toNat = q) (hc : if_icmp.holds cd x z = true) (K : own_Ends p e below G (T.setTop (mkF m q Ls st))) : own_Ends p e below G (T.setTop (mkF m pc Ls (.int z :: .int x :: st))) := by
  obtain ⟨⟨locs, Y, N⟩, eT, hs0, hx, hZ, hby, hml, hown, hret, hlk, hnm⟩ := X
  exact own_pre (fun t K => XS.icmpYes Y.here hx rfl rfl (hb hby hd) rfl hc ho hq K) K
theorem own_icN (X : own_W p l e R s m args below meth c Z n0 y bytes ml ret T h k n) (q : Nat) {o : Int} {cd : ClassFile.Cond} {x z : Int32} (hd : decode bytes pc = .ok (.if_icmp cd o, 3)) (hq : pc + 3 = q) (hc : if_icmp.holds cd x z = false) (K : own_Ends p e below G (T.setTop (mkF m q Ls st))) : own_Ends p e below G (T.setTop (mkF m pc Ls (.int z :: .int x :: st))) := by
  subst hq
  obtain ⟨⟨locs, Y, N⟩, eT, hs0, hx, hZ, hby, hml, hown, hret, hlk, hnm⟩ := X
  exact own_pre (fun t K => XS.icmpNo Y.here hx rfl (hb hby hd) rfl hc K) K
theorem own_nullY (X : own_W p l e R s m args below meth c Z n0 y bytes ml ret T h k n) (q : Nat) {o : Int}  (hd : decode bytes pc = .ok (.ifnull o, 3)) (ho : 0 ≤ (pc : Int) + o) (hq : ((pc : Int) + o).toNat = q)  (K : own_Ends p e below G (T.setTop (mkF m q Ls st))) : own_Ends p e below G (T.setTop (mkF m pc Ls (.null :: st))) := by
  obtain ⟨⟨locs, Y, N⟩, eT, hs0, hx, hZ, hby, hml, hown, hret, hlk, hnm⟩ := X
  exact own_pre (fun t K => XS.ifnullYes Y.here hx rfl rfl (hb hby hd) rfl ho hq K) K
theorem own_nullN (X : own_W p l e R s m args below meth c Z n0 y bytes ml ret T h k n) (q : Nat) {o : Int} {b : Addr} (hd : decode bytes pc = .ok (.ifnull o, 3)) (hq : pc + 3 = q)  (K : own_Ends p e below G (T.setTop (mkF m q Ls st))) : own_Ends p e below G (T.setTop (mkF m pc Ls (.ref b :: st))) := by
  subst hq
  obtain ⟨⟨locs, Y, N⟩, eT, hs0, hx, hZ, hby, hml, hown, hret, hlk, hnm⟩ := X
  exact own_pre (fun t K => XS.ifnullNo Y.here hx rfl (hb hby hd) rfl K) K
theorem own_nonnullY (X : own_W p l e R s m args below meth c Z n0 y bytes ml ret T h k n) (q : Nat) {o : Int} {b : Addr} (hd : decode bytes pc = .ok (.ifnonnull o, 3)) (ho : 0 ≤ (pc : Int) + o) (hq : ((pc : Int) + o).toNat = q)  (K : own_Ends p e below G (T.setTop (mkF m q Ls st))) : own_Ends p e below G (T.setTop (mkF m pc Ls (.ref b :: st))) := by
  obtain ⟨⟨locs, Y, N⟩, eT, hs0, hx, hZ, hby, hml, hown, hret, hlk, hnm⟩ := X
  exact own_pre (fun t K => XS.ifnonnullYes Y.here hx rfl rfl (hb hby hd) rfl ho hq K) K
theorem own_nonnullN (X : own_W p l e R s m args below meth c Z n0 y bytes ml ret T h k n) (q : Nat) {o : Int}  (hd : decode bytes pc = .ok (.ifnonnull o, 3)) (hq : pc + 3 = q)  (K : own_Ends p e below G (T.setTop (mkF m q Ls st))) : own_Ends p e below G (T.setTop (mkF m pc Ls (.null :: st))) := by
  subst hq
  obtain ⟨⟨locs, Y, N⟩, eT, hs0, hx, hZ, hby, hml, hown, hret, hlk, hnm⟩ := X
  exact own_pre (fun t K => XS.ifnonnullNo Y.here hx rfl (hb hby hd) rfl K) K
theorem own_acY (X : own_W p l e R s m args below meth c Z n0 y bytes ml ret T h k n) (q : Nat) {o : Int} {cd : ClassFile.ACond} {x z : Value} (hd : decode bytes pc = .ok (.if_acmp cd o, 3)) (ho : 0 ≤ (pc : Int) + o) (hq : ((pc : Int) + o).toNat = q) (hx' : x.isRef = true) (hz' : z.isRef = true) (hc : XT.acmp cd x z = true) (K : own_Ends p e below G (T.setTop (mkF m q Ls st))) : own_Ends p e below G (T.setTop (mkF m pc Ls (z :: x :: st))) := by
  obtain ⟨⟨locs, Y, N⟩, eT, hs0, hx, hZ, hby, hml, hown, hret, hlk, hnm⟩ := X
  exact own_pre (fun t K => XT.acmpYes Y.here hx rfl rfl (hb hby hd) rfl hx' hz' hc ho hq K) K
theorem own_acN (X : own_W p l e R s m args below meth c Z n0 y bytes ml ret T h k n) (q : Nat) {o : Int} {cd : ClassFile.ACond} {x z : Value} (hd : decode bytes pc = .ok (.if_acmp cd o, 3)) (hq : pc + 3 = q) (hx' : x.isRef = true) (hz' : z.isRef = true) (hc : XT.acmp cd x z = false) (K : own_Ends p e below G (T.setTop (mkF m q Ls st))) : own_Ends p e below G (T.setTop (mkF m pc Ls (z :: x :: st))) := by
  subst hq
  obtain ⟨⟨locs, Y, N⟩, eT, hs0, hx, hZ, hby, hml, hown, hret, hlk, hnm⟩ := X
  exact own_pre (fun t K => XT.acmpNo Y.here hx rfl (hb hby hd) rfl hx' hz' hc K) K
theorem own_getF (X : own_W p l e R s m args below meth c Z n0 y bytes ml ret T h k n) (q : Nat) {R0 O nm d : String} {i : Nat} {a : Addr} {v : Value} (hd : decode bytes pc = .ok (.getfield i, 3)) (hq : pc + 3 = q) (w : (Jvm.Cond.fieldLink y.cls i R0 nm d).before a0 Z = true) (via : Via Z R0 O nm d) (F : Fld Z h a O nm d v)
    (K : ∀ T', own_W p l e R s m args below meth c Z n0 y bytes ml ret T' h k n → own_Ends p e below G (T'.setTop (mkF m q Ls (v :: st)))) : own_Ends p e below G (T.setTop (mkF m pc Ls (.ref a :: st))) := by
  subst hq
  obtain ⟨⟨locs, Y, N⟩, eT, hs0, hx, hZ, hby, hml, hown, hret, hlk, hnm⟩ := X
  obtain ⟨T1, Y1, e1, st1⟩ := getF Y hx hZ hown (host := "") (Or.inl w) via eT F (g := mkF m pc Ls (.ref a :: st)) rfl rfl (hb hby hd)
  exact own_pre st1 (K T1 ⟨⟨locs, Y1, N⟩, e1, hs0, hx, hZ, hby, hml, hown, hret, hlk, hnm⟩)
theorem own_getFN (X : own_W p l e R s m args below meth c Z n0 y bytes ml ret T h k n) (q : Nat) {R0 O nm d host : String} {i : Nat} {a : Addr} {v : Value} (hd : decode bytes pc = .ok (.getfield i, 3)) (hq : pc + 3 = q) (w : (Jvm.Cond.fieldLinkNest y.cls i R0 nm d host).before a0 Z = true) (via : Via Z R0 O nm d) (F : Fld Z h a O nm d v)
    (K : ∀ T', own_W p l e R s m args below meth c Z n0 y bytes ml ret T' h k n → own_Ends p e below G (T'.setTop (mkF m q Ls (v :: st)))) : own_Ends p e below G (T.setTop (mkF m pc Ls (.ref a :: st))) := by
  subst hq
  obtain ⟨⟨locs, Y, N⟩, eT, hs0, hx, hZ, hby, hml, hown, hret, hlk, hnm⟩ := X
  obtain ⟨T1, Y1, e1, st1⟩ := getF Y hx hZ hown (Or.inr w) via eT F (g := mkF m pc Ls (.ref a :: st)) rfl rfl (hb hby hd)
  exact own_pre st1 (K T1 ⟨⟨locs, Y1, N⟩, e1, hs0, hx, hZ, hby, hml, hown, hret, hlk, hnm⟩)
theorem own_getS (X : own_W p l e R s m args below meth c Z n0 y bytes ml ret T h k n) (q : Nat) {R0 O nm d : String} {i : Nat} {v : Value} (hd : decode bytes pc = .ok (.getstatic i, 3)) (hq : pc + 3 = q) (w : (Jvm.Cond.fieldLink y.cls i R0 nm d).before a0 Z = true) (via : Via Z R0 O nm d) (F : Sta Z h O nm d v)
    (K : ∀ T', own_W p l e R s m args below meth c Z n0 y bytes ml ret T' h k n → own_Ends p e below G (T'.setTop (mkF m q Ls (v :: st)))) : own_Ends p e below G (T.setTop (mkF m pc Ls st)) := by
  subst hq
  obtain ⟨⟨locs, Y, N⟩, eT, hs0, hx, hZ, hby, hml, hown, hret, hlk, hnm⟩ := X
  obtain ⟨T1, Y1, e1, st1⟩ := getS2 Y hx hZ hown (host := "") (Or.inl w) via eT F (g := mkF m pc Ls st) rfl (hb hby hd)
  exact own_pre st1 (K T1 ⟨⟨locs, Y1, N⟩, e1, hs0, hx, hZ, hby, hml, hown, hret, hlk, hnm⟩)
theorem own_getSN (X : own_W p l e R s m args below meth c Z n0 y bytes ml ret T h k n) (q : Nat) {R0 O nm d host : String} {i : Nat} {v : Value} (hd : decode bytes pc = .ok (.getstatic i, 3)) (hq : pc + 3 = q) (w : (Jvm.Cond.fieldLinkNest y.cls i R0 nm d host).before a0 Z = true) (via : Via Z R0 O nm d) (F : Sta Z h O nm d v)
    (K : ∀ T', own_W p l e R s m args below meth c Z n0 y bytes ml ret T' h k n → own_Ends p e below G (T'.setTop (mkF m q Ls (v :: st)))) : own_Ends p e below G (T.setTop (mkF m pc Ls st)) := by
  subst hq
  obtain ⟨⟨locs, Y, N⟩, eT, hs0, hx, hZ, hby, hml, hown, hret, hlk, hnm⟩ := X
  obtain ⟨T1, Y1, e1, st1⟩ := getS2 Y hx hZ hown (Or.inr w) via eT F (g := mkF m pc Ls st) rfl (hb hby hd)
  exact own_pre st1 (K T1 ⟨⟨locs, Y1, N⟩, e1, hs0, hx, hZ, hby, hml, hown, hret, hlk, hnm⟩)
theorem own_putF (X : own_W p l e R s m args below meth c Z n0 y bytes ml ret T h k n) (q : Nat) {R0 O nm d C : String} {i kk : Nat} (ty : FieldType) {a : Addr} {v old : Value} (hd : decode bytes pc = .ok (.putfield i, 3)) (hq : pc + 3 = q) (w : (Jvm.Cond.fieldLink y.cls i R0 nm d).before a0 Z = true) (via : Via Z R0 O nm d) (F : Fld Z h a O nm d old) (E : Exa Z h a C)
    (L : (Jvm.Cond.lays C O nm d).before a0 Z = true ∨ ((Jvm.Cond.laysFinal C O nm d).before a0 Z = true ∧ y.cls = O ∧ y.name = "<init>")) (wi : (Jvm.Cond.instantiable C kk).before a0 Z = true) (hty : parseFieldDescriptor d = some ty) (hn : narrow ty v = v) (hf : fits ty v = true) (hnew : n0 ≤ a)
    (K : ∀ T' h', own_W p l e R s m args below meth c Z n0 y bytes ml ret T' h' k n → Wr h h' a (Jvm.RoadKit.slotOf Z O nm d) v → own_Ends p e below G (T'.setTop (mkF m q Ls st))) : own_Ends p e below G (T.setTop (mkF m pc Ls (v :: .ref a :: st))) := by
  subst hq
  obtain ⟨⟨locs, Y, N⟩, eT, hs0, hx, hZ, hby, hml, hown, hret, hlk, hnm⟩ := X
  obtain ⟨T1, h1, Y1, e1, W1, st1⟩ := putF Y hx hZ hown (host := "") (Or.inl w) via eT F E (L.imp id fun z => ⟨z.1, z.2.1, hnm.trans z.2.2⟩) wi hty hn hf (g := mkF m pc Ls (v :: .ref a :: st)) rfl rfl (hb hby hd)
  exact own_pre st1 (K T1 h1 ⟨⟨_, Y1, Fr.snoc Y1 N hnew⟩, e1, (by rw [W1.size]; exact hs0), hx, hZ, hby, hml, hown, hret, hlk, hnm⟩ W1)
theorem own_putFN (X : own_W p l e R s m args below meth c Z n0 y bytes ml ret T h k n) (q : Nat) {R0 O nm d C : String} {i kk : Nat} (ty : FieldType) {a : Addr} {v v' old : Value} (hd : decode bytes pc = .ok (.putfield i, 3)) (hq : pc + 3 = q) (w : (Jvm.Cond.fieldLink y.cls i R0 nm d).before a0 Z = true) (via : Via Z R0 O nm d) (F : Fld Z h a O nm d old) (E : Exa Z h a C)
    (L : (Jvm.Cond.lays C O nm d).before a0 Z = true ∨ ((Jvm.Cond.laysFinal C O nm d).before a0 Z = true ∧ y.cls = O ∧ y.name = "<init>")) (wi : (Jvm.Cond.instantiable C kk).before a0 Z = true) (hty : parseFieldDescriptor d = some ty) (hn : narrow ty v = v') (hf : fits ty v' = true) (hnew : n0 ≤ a)
    (K : ∀ T' h', own_W p l e R s m args below meth c Z n0 y bytes ml ret T' h' k n → Wr h h' a (Jvm.RoadKit.slotOf Z O nm d) v' → own_Ends p e below G (T'.setTop (mkF m q Ls st))) : own_Ends p e below G (T.setTop (mkF m pc Ls (v :: .ref a :: st))) := by
  subst hq
  obtain ⟨⟨locs, Y, N⟩, eT, hs0, hx, hZ, hby, hml, hown, hret, hlk, hnm⟩ := X
  obtain ⟨T1, h1, Y1, e1, W1, st1⟩ := putFN Y hx hZ hown w via eT F E (L.imp id fun z => ⟨z.1, z.2.1, hnm.trans z.2.2⟩) wi hty hn hf (g := mkF m pc Ls (v :: .ref a :: st)) rfl rfl (hb hby hd)
  exact own_pre st1 (K T1 h1 ⟨⟨_, Y1, Fr.snoc Y1 N hnew⟩, e1, (by rw [W1.size]; exact hs0), hx, hZ, hby, hml, hown, hret, hlk, hnm⟩ W1)
theorem own_new (X : own_W p l e R s m args below meth c Z n0 y bytes ml ret T h k n) (q : Nat) {C : String} {i sl : Nat} (hd : decode bytes pc = .ok (.new i, 3)) (hq : pc + 3 = q) (w : (Jvm.Cond.classLink y.cls i C).before a0 Z = true) (wi : (Jvm.Cond.instantiable C sl).before a0 Z = true) (wz : (Jvm.Cond.initialized C).before a0 Z = true) (hc : k + 1 ≤ R.cells) (hl : n + sl ≤ R.slots)
    (K : ∀ T' h' a, a = h.size → own_W p l e R s m args below meth c Z n0 y bytes ml ret T' h' (k + 1) (n + sl) → Ext h h' → Exa Z h' a C → (∀ {O nm d : String} {ty : FieldType}, Laid Z a0 C O nm d → parseFieldDescriptor d = some ty → Fld Z h' a O nm d (defaultValue ty)) → own_Ends p e below G (T'.setTop (mkF m q Ls (.ref a :: st)))) : own_Ends p e below G (T.setTop (mkF m pc Ls st)) := by
  subst hq
  obtain ⟨⟨locs, Y, N⟩, eT, hs0, hx, hZ, hby, hml, hown, hret, hlk, hnm⟩ := X
  obtain ⟨T1, h1, Y1, e1, E1, A1, D1, -, st1⟩ := newO Y hx hZ hown w wi wz eT (g := mkF m pc Ls st) rfl (hb hby hd) hc hl
  exact own_pre st1 (K T1 h1 _ rfl ⟨⟨locs, Y1, N⟩, e1, (Nat.le_trans hs0 E1.1), hx, hZ, hby, hml, hown, hret, hlk, hnm⟩ E1 A1 D1)
theorem own_castY (X : own_W p l e R s m args below meth c Z n0 y bytes ml ret T h k n) (q : Nat) {C : String} {i : Nat} {a : Addr} (hd : decode bytes pc = .ok (.checkcast i, 3)) (hq : pc + 3 = q) (w : (Jvm.Cond.classLink y.cls i C).before a0 Z = true) (F : Ins Z h a C true)
    (K : ∀ T', own_W p l e R s m args below meth c Z n0 y bytes ml ret T' h k n → own_Ends p e below G (T'.setTop (mkF m q Ls (.ref a :: st)))) : own_Ends p e below G (T.setTop (mkF m pc Ls (.ref a :: st))) := by
  subst hq
  obtain ⟨⟨locs, Y, N⟩, eT, hs0, hx, hZ, hby, hml, hown, hret, hlk, hnm⟩ := X
  obtain ⟨T1, Y1, e1, st1⟩ := castY Y hx hZ hown w eT F (g := mkF m pc Ls (.ref a :: st)) rfl rfl (hb hby hd)
  exact own_pre st1 (K T1 ⟨⟨locs, Y1, N⟩, e1, hs0, hx, hZ, hby, hml, hown, hret, hlk, hnm⟩)
theorem own_castNull (X : own_W p l e R s m args below meth c Z n0 y bytes ml ret T h k n) (q : Nat) {i : Nat} (hd : decode bytes pc = .ok (.checkcast i, 3)) (hq : pc + 3 = q) (K : own_Ends p e below G (T.setTop (mkF m q Ls (.null :: st)))) : own_Ends p e below G (T.setTop (mkF m pc Ls (.null :: st))) := by
  subst hq
  obtain ⟨⟨locs, Y, N⟩, eT, hs0, hx, hZ, hby, hml, hown, hret, hlk, hnm⟩ := X
  exact own_pre (fun t K => Y.checkcastNull hx (g := mkF m pc Ls (.null :: st)) rfl rfl (hb hby hd) t K) K
theorem own_instY (X : own_W p l e R s m args below meth c Z n0 y bytes ml ret T h k n) (q : Nat) {C : String} {i : Nat} {a : Addr} (hd : decode bytes pc = .ok (.instanceof i, 3)) (hq : pc + 3 = q) (w : (Jvm.Cond.classLink y.cls i C).before a0 Z = true) (F : Ins Z h a C true)
    (K : ∀ T', own_W p l e R s m args below meth c Z n0 y bytes ml ret T' h k n → own_Ends p e below G (T'.setTop (mkF m q Ls (.int 1 :: st)))) : own_Ends p e below G (T.setTop (mkF m pc Ls (.ref a :: st))) := by
  subst hq
  obtain ⟨⟨locs, Y, N⟩, eT, hs0, hx, hZ, hby, hml, hown, hret, hlk, hnm⟩ := X
  obtain ⟨T1, Y1, e1, st1⟩ := instY Y hx hZ hown w eT F (g := mkF m pc Ls (.ref a :: st)) rfl rfl (hb hby hd)
  exact own_pre st1 (K T1 ⟨⟨locs, Y1, N⟩, e1, hs0, hx, hZ, hby, hml, hown, hret, hlk, hnm⟩)
theorem own_instNo (X : own_W p l e R s m args below meth c Z n0 y bytes ml ret T h k n) (q : Nat) {C D : String} {i : Nat} {a : Addr} (hd : decode bytes pc = .ok (.instanceof i, 3)) (hq : pc + 3 = q) (w : (Jvm.Cond.classLink y.cls i C).before a0 Z = true) (E : Exa Z h a D) (F : ∃ c t, Z.vm.findClass D = some c ∧ Z.vm.findClass C = some t ∧ Z.vm.assignable c t = false)
    (K : ∀ T', own_W p l e R s m args below meth c Z n0 y bytes ml ret T' h k n → own_Ends p e below G (T'.setTop (mkF m q Ls (.int 0 :: st)))) : own_Ends p e below G (T.setTop (mkF m pc Ls (.ref a :: st))) := by
  subst hq
  obtain ⟨⟨locs, Y, N⟩, eT, hs0, hx, hZ, hby, hml, hown, hret, hlk, hnm⟩ := X
  obtain ⟨T1, Y1, e1, st1⟩ := instNo Y hx hZ hown w eT E F (g := mkF m pc Ls (.ref a :: st)) rfl rfl (hb hby hd)
  exact own_pre st1 (K T1 ⟨⟨locs, Y1, N⟩, e1, hs0, hx, hZ, hby, hml, hown, hret, hlk, hnm⟩)
theorem own_initO (X : own_W p l e R s m args below meth c Z n0 y bytes ml ret T h k n) (q : Nat) {i : Nat} {a : Addr} (hd : decode bytes pc = .ok (.invokespecial i, 3)) (hq : pc + 3 = q) (w1 : (Jvm.Cond.methodLink y.cls i Lib.objectInit).before a0 Z = true) (w2 : (Jvm.Cond.instanceMethod Lib.objectInit).before a0 Z = true) (w3 : (Jvm.Cond.code Lib.objectInit ⟨#[0xb1]⟩ 1 none).before a0 Z = true)
    (hsz : Ls.size = ml) (hf : 1 ≤ R.frames) (hl : (st.map fun v => v.category).sum + 12 ≤ R.locals) (K : ∀ T', own_W p l e R s m args below meth c Z n0 y bytes ml ret T' h k n → own_Ends p e below G (T'.setTop (mkF m q Ls st))) : own_Ends p e below G (T.setTop (mkF m pc Ls (.ref a :: st))) := by
  subst hq
  obtain ⟨⟨locs, Y, N⟩, eT, hs0, hx, hZ, hby, hml, hown, hret, hlk, hnm⟩ := X
  obtain ⟨T1, Y1, e1, st1⟩ := initO Y hx hZ hown w1 w2 w3 eT (g := mkF m pc Ls (.ref a :: st)) rfl (hsz.trans hml.symm) rfl (hb hby hd) hf (W := (st.map fun v => v.category).sum) (by show 2 * 0 + _ ≤ _; omega) hl
  exact own_pre st1 (K T1 ⟨⟨locs, Y1, N⟩, e1, hs0, hx, hZ, hby, hml, hown, hret, hlk, hnm⟩)
theorem own_callS (X : own_W p l e R s m args below meth c Z n0 y bytes ml ret T h k n) (q : Nat) {y' : MethodName} {bytes' : ByteArray} {ml' : Nat} {ret' : Option FieldType} {rm : Room} {as' : Array Value} {Q : Option Value → Heap → Prop} {i : Nat} {ps : List FieldType} {rr : Option FieldType} (argsL rest : List Value) (hd : decode bytes pc = .ok (.invokestatic i, 3)) (hq : pc + 3 = q) (w1 : (Jvm.Cond.methodLink y.cls i y').before a0 Z = true) (w2 : (Jvm.Cond.static y').before a0 Z = true) (w3 : (Jvm.Cond.initialized y'.cls).before a0 Z = true) (w4 : (Jvm.Cond.code y' bytes' ml' ret').before a0 Z = true) (hy : y'.cls ≠ "java/lang/invoke/MethodHandle" ∧ y'.cls ≠ "java/lang/invoke/VarHandle")
    (M : own_Met l y' bytes' ml' ret' rm Z as' h n0 Q) (hkeep : ∀ v h', Q v h' → h.size ≤ h'.size) (has : as' = argsL.toArray) (hpd : parseMethodDescriptor y'.desc = some ⟨ps, rr⟩) (hlen : argsL.length = ps.length) (hst : st = argsL.reverse ++ rest) (hsz : Ls.size = ml) (hf : rm.frames + 1 ≤ R.frames) (hl : (rest.map fun v => v.category).sum + (ml' + 11) + rm.locals ≤ R.locals) (hck : k + rm.cells ≤ R.cells) (hcn : n + rm.slots ≤ R.slots)
    (K : ∀ v T' h', own_W p l e R s m args below meth c Z n0 y bytes ml ret T' h' (k + rm.cells) (n + rm.slots) → Q v h' → own_Ends p e below G (T'.setTop (mkF m q Ls (v.toList ++ rest)))) : own_Ends p e below G (T.setTop (mkF m pc Ls st)) := by
  subst hq has hst
  obtain ⟨⟨locs, Y, N⟩, eT, hs0, hx, hZ, hby, hml, hown, hret, hlk, hnm⟩ := X
  obtain ⟨v1, _, ⟨T1, L1, k1, n1⟩, -, Y1, ⟨Lc1, hQ1, l1, c1, s1⟩, st1⟩ := Jvm.LawKit.callS Y hx hown (mvT hZ w1) (mvT hZ w2) (mvT hZ w3) (mvT hZ w4) hy (backOf (Q := fun v h L => Q v h ∧ Fr n0 L) (W := (rest.map fun v => v.category).sum) (M []) hZ w4 w3 hf (by omega)) (g := mkF m pc Ls (argsL.reverse ++ rest)) rfl (hsz.trans hml.symm) (argsL := argsL) (rest := rest) (lenOf hpd hlen) rfl (by show 2 * 0 + _ ≤ _; omega) (hb hby hd) (fun _ _ => ⟨rfl, eT, hck, hcn⟩)
  dsimp only [Pt.U, Pt.locs, Pt.cells, Pt.slots] at Y1 l1 c1 s1 st1 hQ1
  subst l1 c1 s1
  exact own_pre st1 (K _ _ _ ⟨⟨_, Y1, Fr.app N hQ1.2⟩, rfl, Nat.le_trans hs0 (hkeep _ _ hQ1.1), hx, hZ, hby, hml, hown, hret, hlk, hnm⟩ hQ1.1)
theorem own_init (X : own_W p l e R s m args below meth c Z n0 y bytes ml ret T h k n) (q : Nat) {y' : MethodName} {bytes' : ByteArray} {ml' : Nat} {rm : Room} {as' : Array Value} {Q : Option Value → Heap → Prop} {i : Nat} {ps : List FieldType} {rr : Option FieldType} {a : Addr} (argsL rest : List Value) (hd : decode bytes pc = .ok (.invokespecial i, 3)) (hq : pc + 3 = q) (w1 : (Jvm.Cond.methodLink y.cls i y').before a0 Z = true) (w2 : (Jvm.Cond.instanceMethod y').before a0 Z = true) (w3 : (Jvm.Cond.initialized y'.cls).before a0 Z = true) (w4 : (Jvm.Cond.code y' bytes' ml' none).before a0 Z = true) (hy : y'.cls ≠ "java/lang/invoke/MethodHandle" ∧ y'.cls ≠ "java/lang/invoke/VarHandle") (hy1 : y'.name = "<init>")
    (M : own_Met l y' bytes' ml' none rm Z as' h n0 Q) (hkeep : ∀ v h', Q v h' → h.size ≤ h'.size) (has : as' = (.ref a :: argsL).toArray) (hpd : parseMethodDescriptor y'.desc = some ⟨ps, rr⟩) (hlen : argsL.length = ps.length) (hst : st = argsL.reverse ++ .ref a :: rest) (hsz : Ls.size = ml) (hf : rm.frames + 1 ≤ R.frames) (hl : (rest.map fun v => v.category).sum + (ml' + 11) + rm.locals ≤ R.locals) (hck : k + rm.cells ≤ R.cells) (hcn : n + rm.slots ≤ R.slots)
    (K : ∀ v T' h', own_W p l e R s m args below meth c Z n0 y bytes ml ret T' h' (k + rm.cells) (n + rm.slots) → Q v h' → own_Ends p e below G (T'.setTop (mkF m q Ls (v.toList ++ rest)))) : own_Ends p e below G (T.setTop (mkF m pc Ls st)) := by
  subst hq has hst
  obtain ⟨⟨locs, Y, N⟩, eT, hs0, hx, hZ, hby, hml, hown, hret, hlk, hnm⟩ := X
  obtain ⟨v1, _, ⟨T1, L1, k1, n1⟩, -, Y1, ⟨Lc1, hQ1, l1, c1, s1⟩, st1⟩ := Y.specialBack hx hy1 hown (mvT hZ w1) (mvT hZ w2) (mvT hZ w4) hy (backOf (Q := fun v h L => Q v h ∧ Fr n0 L) (W := (rest.map fun v => v.category).sum) (M []) hZ w4 w3 hf (by omega)) (g := mkF m pc Ls (argsL.reverse ++ .ref a :: rest)) rfl (hsz.trans hml.symm) (Steps.refl _) (a := a) (argsL := argsL) (rest := rest) (lenOf hpd hlen) rfl (by show 2 * 0 + _ ≤ _; omega) (hb hby hd) (fun _ _ => ⟨rfl, eT, hck, hcn⟩)
  dsimp only [Pt.U, Pt.locs, Pt.cells, Pt.slots] at Y1 l1 c1 s1 st1 hQ1
  subst l1 c1 s1
  exact own_pre (fun t K => st1.trans K) (K _ _ _ ⟨⟨_, Y1, Fr.app N hQ1.2⟩, rfl, Nat.le_trans hs0 (hkeep _ _ hQ1.1), hx, hZ, hby, hml, hown, hret, hlk, hnm⟩ hQ1.1)
theorem own_callV (X : own_W p l e R s m args below meth c Z n0 y bytes ml ret T h k n) (q : Nat) {y' : MethodName} {bytes' : ByteArray} {ml' : Nat} {ret' : Option FieldType} {rm : Room} {as' : Array Value} {Q : Option Value → Heap → Prop} {i : Nat} {ps : List FieldType} {rr : Option FieldType} {z : MethodName} {C : String} {a : Addr} (argsL rest : List Value) (hd : decode bytes pc = .ok (.invokevirtual i, 3)) (hq : pc + 3 = q) (w1 : (Jvm.Cond.methodLink y.cls i z).before a0 Z = true) (w2 : (Jvm.Cond.declares z).before a0 Z = true) (nf : NotFace s z) (w5 : (Jvm.Cond.selects C z y').before a0 Z = true) (w6 : (Jvm.Cond.instanceMethod y').before a0 Z = true) (w3 : (Jvm.Cond.initialized y'.cls).before a0 Z = true) (w4 : (Jvm.Cond.code y' bytes' ml' ret').before a0 Z = true) (hy : z.cls ≠ "java/lang/invoke/MethodHandle" ∧ z.cls ≠ "java/lang/invoke/VarHandle") (E : Exa Z h a C)
    (M : own_Met l y' bytes' ml' ret' rm Z as' h n0 Q) (hkeep : ∀ v h', Q v h' → h.size ≤ h'.size) (has : as' = (.ref a :: argsL).toArray) (hpd : parseMethodDescriptor z.desc = some ⟨ps, rr⟩) (hlen : argsL.length = ps.length) (hst : st = argsL.reverse ++ .ref a :: rest) (hsz : Ls.size = ml) (hf : rm.frames + 1 ≤ R.frames) (hl : (rest.map fun v => v.category).sum + (ml' + 11) + rm.locals ≤ R.locals) (hck : k + rm.cells ≤ R.cells) (hcn : n + rm.slots ≤ R.slots)
    (K : ∀ v T' h', own_W p l e R s m args below meth c Z n0 y bytes ml ret T' h' (k + rm.cells) (n + rm.slots) → Q v h' → own_Ends p e below G (T'.setTop (mkF m q Ls (v.toList ++ rest)))) : own_Ends p e below G (T.setTop (mkF m pc Ls st)) := by
  subst hq has hst
  obtain ⟨⟨locs, Y, N⟩, eT, hs0, hx, hZ, hby, hml, hown, hret, hlk, hnm⟩ := X
  obtain ⟨cq, kq, qa, qb, qc⟩ := isOf hZ eT E
  obtain ⟨v1, _, ⟨T1, L1, k1, n1⟩, -, Y1, ⟨Lc1, hQ1, l1, c1, s1⟩, st1⟩ := Y.virtualBack hx hown (mvT hZ w1) (mvT hZ w2) nf (mvT hZ w5) (mvT hZ w6) hy (backOf (Q := fun v h L => Q v h ∧ Fr n0 L) (W := (rest.map fun v => v.category).sum) (M []) hZ w4 w3 hf (by omega)) qa qc (g := mkF m pc Ls (argsL.reverse ++ .ref a :: rest)) rfl (hsz.trans hml.symm) (Steps.refl _) (argsL := argsL) (rest := rest) (lenOf hpd hlen) rfl (by show 2 * 0 + _ ≤ _; omega) (hb hby hd) (fun _ _ => ⟨rfl, eT, hck, hcn⟩)
  dsimp only [Pt.U, Pt.locs, Pt.cells, Pt.slots] at Y1 l1 c1 s1 st1 hQ1
  subst l1 c1 s1
  exact own_pre (fun t K => st1.trans K) (K _ _ _ ⟨⟨_, Y1, Fr.app N hQ1.2⟩, rfl, Nat.le_trans hs0 (hkeep _ _ hQ1.1), hx, hZ, hby, hml, hown, hret, hlk, hnm⟩ hQ1.1)
theorem own_nf {z : MethodName} {s : State} {C : String} (hZ : Z.Warmed39 s.vm) (w : (Jvm.Cond.selects C z z).before a0 Z = true) : NotFace s z := notFace_of_selects (args := #[]) (mvT hZ w)
theorem own_callI (X : own_W p l e R s m args below meth c Z n0 y bytes ml ret T h k n) (q : Nat) {y' : MethodName} {bytes' : ByteArray} {ml' : Nat} {ret' : Option FieldType} {rm : Room} {as' : Array Value} {Q : Option Value → Heap → Prop} {i : Nat} {ps : List FieldType} {rr : Option FieldType} {z : MethodName} {C : String} {cnt : Nat} {a : Addr} (argsL rest : List Value) (hd : decode bytes pc = .ok (.invokeinterface i cnt, 5)) (hq : pc + 5 = q) (w1 : (Jvm.Cond.methodLink y.cls i z).before a0 Z = true) (w2 : (Jvm.Cond.declares z).before a0 Z = true) (w7 : (Jvm.Cond.interfaceMethod z.cls z.cls z.name z.desc).before a0 Z = true) (hfa : ((Jvm.Cond.interfaceMethod z.cls z.cls z.name z.desc).onTables && (Jvm.Cond.interfaceMethod z.cls z.cls z.name z.desc).keepsFace) = true) (w5 : (Jvm.Cond.selects C z y').before a0 Z = true) (w6 : (Jvm.Cond.instanceMethod y').before a0 Z = true) (w8 : (Jvm.Cond.publicMethod y').before a0 Z = true) (w9 : (Jvm.Cond.unhidden C z.name z.desc).before a0 Z = true) (w10 : (Jvm.Cond.castable C z.cls).before a0 Z = true) (w3 : (Jvm.Cond.initialized y'.cls).before a0 Z = true) (w4 : (Jvm.Cond.code y' bytes' ml' ret').before a0 Z = true) (hy : z.cls ≠ "java/lang/invoke/MethodHandle" ∧ z.cls ≠ "java/lang/invoke/VarHandle") (E : Exa Z h a C)
    (M : own_Met l y' bytes' ml' ret' rm Z as' h n0 Q) (hkeep : ∀ v h', Q v h' → h.size ≤ h'.size) (has : as' = (.ref a :: argsL).toArray) (hpd : parseMethodDescriptor z.desc = some ⟨ps, rr⟩) (hlen : argsL.length = ps.length) (hst : st = argsL.reverse ++ .ref a :: rest) (hsz : Ls.size = ml) (hf : rm.frames + 1 ≤ R.frames) (hl : (rest.map fun v => v.category).sum + (ml' + 11) + rm.locals ≤ R.locals) (hck : k + rm.cells ≤ R.cells) (hcn : n + rm.slots ≤ R.slots)
    (K : ∀ v T' h', own_W p l e R s m args below meth c Z n0 y bytes ml ret T' h' (k + rm.cells) (n + rm.slots) → Q v h' → own_Ends p e below G (T'.setTop (mkF m q Ls (v.toList ++ rest)))) : own_Ends p e below G (T.setTop (mkF m pc Ls st)) := by
  subst hq has hst
  obtain ⟨⟨locs, Y, N⟩, eT, hs0, hx, hZ, hby, hml, hown, hret, hlk, hnm⟩ := X
  obtain ⟨cq, kq, qa, qb, qc⟩ := isOf hZ eT E
  obtain ⟨v1, _, ⟨T1, L1, k1, n1⟩, -, Y1, ⟨Lc1, hQ1, l1, c1, s1⟩, st1⟩ := Y.interfaceBack hx hown (mvT hZ w1) (mvT hZ w2) (mvT hZ w7 hfa) (mvT hZ w5) (mvT hZ w6) (mvT hZ w8) (mvT hZ w9) (mvT hZ w10) hy (backOf (Q := fun v h L => Q v h ∧ Fr n0 L) (W := (rest.map fun v => v.category).sum) (M []) hZ w4 w3 hf (by omega)) qa qb qc (g := mkF m pc Ls (argsL.reverse ++ .ref a :: rest)) rfl (hsz.trans hml.symm) (Steps.refl _) (argsL := argsL) (rest := rest) (lenOf hpd hlen) rfl (by show 2 * 0 + _ ≤ _; omega) (hb hby hd) (fun _ _ => ⟨rfl, eT, hck, hcn⟩)
  dsimp only [Pt.U, Pt.locs, Pt.cells, Pt.slots] at Y1 l1 c1 s1 st1 hQ1
  subst l1 c1 s1
  exact own_pre (fun t K => st1.trans K) (K _ _ _ ⟨⟨_, Y1, Fr.app N hQ1.2⟩, rfl, Nat.le_trans hs0 (hkeep _ _ hQ1.1), hx, hZ, hby, hml, hown, hret, hlk, hnm⟩ hQ1.1)
theorem own_ni_inst {Z : State} {C : String} {kk : Nat} {a0 : Array Value} (w : (Jvm.Cond.instantiable C kk).before a0 Z = true) : ∃ c k, Z.vm.findClass C = some c ∧ Z.vm.classes[c]? = some k ∧ k.isInterface = false := by
  obtain ⟨c, k, h1, h2, -, h4, -⟩ := Cond.instantiable_spec w
  exact ⟨c, k, h1, h2, (Bool.or_eq_false_iff.mp h4).1⟩
theorem own_ni_sel {Z : State} {C : String} {x y : MethodName} {a0 : Array Value} (w : (Jvm.Cond.selects C x y).before a0 Z = true) : ∃ c k, Z.vm.findClass y.cls = some c ∧ Z.vm.classes[c]? = some k ∧ k.isInterface = false := by
  obtain ⟨c, r, m, -, -, h3, -, k, h5, h6⟩ := Cond.selects_spec w
  exact ⟨_, k, findClass_of_methodNamed h3, h5, h6⟩
theorem own_selP {Z s : State} {y : MethodName} {a0 args : Array Value} (hZ : Z.Warmed39 s.vm) (hni : ∃ c k, Z.vm.findClass y.cls = some c ∧ Z.vm.classes[c]? = some k ∧ k.isInterface = false) (w6 : (Jvm.Cond.privateMethod y).before a0 Z = true) (w2 : (Jvm.Cond.instanceMethod y).before a0 Z = true) (hy : y.cls ≠ "java/lang/invoke/MethodHandle" ∧ y.cls ≠ "java/lang/invoke/VarHandle") : (Jvm.Cond.selects y.cls y y).before args s = true := by
  obtain ⟨c, k, h1, h2, h3⟩ := hni
  obtain ⟨k', q, z⟩ := hZ.alike.2.2 _ _ h2
  exact selects_self_of_private (by rw [hZ.alike.findClass]; exact h1) q (by rw [z]; exact h3) (Cond.privateMethod_at (mvP hZ w6 (args := #[]))) (mvT hZ w2) hy
theorem own_callP (X : own_W p l e R s m args below meth c Z n0 y bytes ml ret T h k n) (q : Nat) {y' : MethodName} {bytes' : ByteArray} {ml' : Nat} {ret' : Option FieldType} {rm : Room} {as' : Array Value} {Q : Option Value → Heap → Prop} {i : Nat} {ps : List FieldType} {rr : Option FieldType} {C : String} {a : Addr} (argsL rest : List Value) (hd : decode bytes pc = .ok (.invokevirtual i, 3)) (hq : pc + 3 = q) (w1 : (Jvm.Cond.methodLink y.cls i y').before a0 Z = true) (w2 : (Jvm.Cond.instanceMethod y').before a0 Z = true) (hni : ∃ c k, Z.vm.findClass y'.cls = some c ∧ Z.vm.classes[c]? = some k ∧ k.isInterface = false) (w6 : (Jvm.Cond.privateMethod y').before a0 Z = true) (w3 : (Jvm.Cond.initialized y'.cls).before a0 Z = true) (w4 : (Jvm.Cond.code y' bytes' ml' ret').before a0 Z = true) (hy : y'.cls ≠ "java/lang/invoke/MethodHandle" ∧ y'.cls ≠ "java/lang/invoke/VarHandle") (E : Exa Z h a C)
    (M : own_Met l y' bytes' ml' ret' rm Z as' h n0 Q) (hkeep : ∀ v h', Q v h' → h.size ≤ h'.size) (has : as' = (.ref a :: argsL).toArray) (hpd : parseMethodDescriptor y'.desc = some ⟨ps, rr⟩) (hlen : argsL.length = ps.length) (hst : st = argsL.reverse ++ .ref a :: rest) (hsz : Ls.size = ml) (hf : rm.frames + 1 ≤ R.frames) (hl : (rest.map fun v => v.category).sum + (ml' + 11) + rm.locals ≤ R.locals) (hck : k + rm.cells ≤ R.cells) (hcn : n + rm.slots ≤ R.slots)
    (K : ∀ v T' h', own_W p l e R s m args below meth c Z n0 y bytes ml ret T' h' (k + rm.cells) (n + rm.slots) → Q v h' → own_Ends p e below G (T'.setTop (mkF m q Ls (v.toList ++ rest)))) : own_Ends p e below G (T.setTop (mkF m pc Ls st)) := by
  subst hq has hst
  obtain ⟨⟨locs, Y, N⟩, eT, hs0, hx, hZ, hby, hml, hown, hret, hlk, hnm⟩ := X
  obtain ⟨cq, q1, q2⟩ := E.cell
  obtain ⟨v1, _, ⟨T1, L1, k1, n1⟩, -, Y1, ⟨Lc1, hQ1, l1, c1, s1⟩, st1⟩ := Y.privateBack hx hown (mvT hZ w1) (mvT hZ w2) (own_selP hZ hni w6 w2 hy) (Cond.privateMethod_at (mvP hZ w6 (args := #[]))) (mvT hZ w4) hy (backOf (Q := fun v h L => Q v h ∧ Fr n0 L) (W := (rest.map fun v => v.category).sum) (M []) hZ w4 w3 hf (by omega)) (g := mkF m pc Ls (argsL.reverse ++ .ref a :: rest)) rfl (hsz.trans hml.symm) (Steps.refl _) (a := a) (by rw [eT]; exact q1) q2 (argsL := argsL) (rest := rest) (lenOf hpd hlen) rfl (by show 2 * 0 + _ ≤ _; omega) (hb hby hd) (fun _ _ => ⟨rfl, eT, hck, hcn⟩)
  dsimp only [Pt.U, Pt.locs, Pt.cells, Pt.slots] at Y1 l1 c1 s1 st1 hQ1
  subst l1 c1 s1
  exact own_pre (fun t K => st1.trans K) (K _ _ _ ⟨⟨_, Y1, Fr.app N hQ1.2⟩, rfl, Nat.le_trans hs0 (hkeep _ _ hQ1.1), hx, hZ, hby, hml, hown, hret, hlk, hnm⟩ hQ1.1)
theorem own_retI (X : own_W p l e R s m args below meth c Z n0 y bytes ml ret T h k n) {C S : Nat} {Q : Option Value → Heap → Prop} {z : Int32} (hd : decode bytes pc = .ok (.ireturn, 1)) (hr0 : ret = some .int) (hk : k ≤ C) (hn : n ≤ S) (hQ : Q (some (.int z)) h) : own_Ends p e below (own_Fin s n0 C S Q) (T.setTop (mkF m pc Ls (.int z :: st))) := by
  obtain ⟨⟨locs, Y, N⟩, eT, hs0, hx, hZ, hby, hml, hown, hret, hlk, hnm⟩ := X
  obtain ⟨fs, hr, hrun, hended, hW, hsame⟩ := Y.leave (v := some (.int z)) (fun q => by rw [hret, hr0] at q; cases q) hlk
  exact ⟨_, _, own_retI0 Y hx (hret.trans hr0) (hb hby hd) hr, hrun, hended, _, _, rfl, ⟨by show Q _ T.heap; rw [eT]; exact hQ, N⟩, ⟨_, rfl⟩, hW, hsame.mono hk hn⟩
theorem own_retN (X : own_W p l e R s m args below meth c Z n0 y bytes ml ret T h k n) {C S : Nat} {Q : Option Value → Heap → Prop} {z : Int32} (t : FieldType) (hd : decode bytes pc = .ok (.ireturn, 1)) (hr0 : ret = some t) (ht : t = .boolean ∨ t = .byte ∨ t = .char ∨ t = .short) (hk : k ≤ C) (hn : n ≤ S) (hQ : Q (some (.int (nar t z))) h) : own_Ends p e below (own_Fin s n0 C S Q) (T.setTop (mkF m pc Ls (.int z :: st))) := by
  obtain ⟨⟨locs, Y, N⟩, eT, hs0, hx, hZ, hby, hml, hown, hret, hlk, hnm⟩ := X
  obtain ⟨fs, hr, hrun, hended, hW, hsame⟩ := Y.leave (v := some (.int (nar t z))) (fun q => by rw [hret, hr0] at q; cases q) hlk
  exact ⟨_, _, retN Y hx (hret.trans hr0) ht (hb hby hd) hr, hrun, hended, _, _, rfl, ⟨by show Q _ T.heap; rw [eT]; exact hQ, N⟩, ⟨_, rfl⟩, hW, hsame.mono hk hn⟩
theorem own_retJ (X : own_W p l e R s m args below meth c Z n0 y bytes ml ret T h k n) {C S : Nat} {Q : Option Value → Heap → Prop} {z : Int64} (hd : decode bytes pc = .ok (.lreturn, 1)) (hr0 : ret = some .long) (hk : k ≤ C) (hn : n ≤ S) (hQ : Q (some (.long z)) h) : own_Ends p e below (own_Fin s n0 C S Q) (T.setTop (mkF m pc Ls (.long z :: st))) := by
  obtain ⟨⟨locs, Y, N⟩, eT, hs0, hx, hZ, hby, hml, hown, hret, hlk, hnm⟩ := X
  obtain ⟨fs, hr, hrun, hended, hW, hsame⟩ := Y.leave (v := some (.long z)) (fun q => by rw [hret, hr0] at q; cases q) hlk
  exact ⟨_, _, retOut Y hx (hret.trans hr0) rfl (Or.inr (Or.inl ⟨rfl, rfl, z, rfl⟩)) (hb hby hd) hr, hrun, hended, _, _, rfl, ⟨by show Q _ T.heap; rw [eT]; exact hQ, N⟩, ⟨_, rfl⟩, hW, hsame.mono hk hn⟩
theorem own_retA (X : own_W p l e R s m args below meth c Z n0 y bytes ml ret T h k n) {C S : Nat} {Q : Option Value → Heap → Prop} {z : Value} (t : FieldType) (hd : decode bytes pc = .ok (.areturn, 1)) (hr0 : ret = some t) (ht : t.isReference = true) (hz : z.isRef = true) (hnz : narrow t z = z) (hk : k ≤ C) (hn : n ≤ S) (hQ : Q (some z) h) : own_Ends p e below (own_Fin s n0 C S Q) (T.setTop (mkF m pc Ls (z :: st))) := by
  obtain ⟨⟨locs, Y, N⟩, eT, hs0, hx, hZ, hby, hml, hown, hret, hlk, hnm⟩ := X
  obtain ⟨fs, hr, hrun, hended, hW, hsame⟩ := Y.leave (v := some z) (fun q => by rw [hret, hr0] at q; cases q) hlk
  exact ⟨_, _, retOut Y hx (hret.trans hr0) hnz (Or.inr (Or.inr (Or.inr (Or.inr ⟨rfl, ht, hz⟩)))) (hb hby hd) hr, hrun, hended, _, _, rfl, ⟨by show Q _ T.heap; rw [eT]; exact hQ, N⟩, ⟨_, rfl⟩, hW, hsame.mono hk hn⟩
theorem own_retV (X : own_W p l e R s m args below meth c Z n0 y bytes ml ret T h k n) {C S : Nat} {Q : Option Value → Heap → Prop} (hd : decode bytes pc = .ok (.return_, 1)) (hr0 : ret = none) (hk : k ≤ C) (hn : n ≤ S) (hQ : Q none h) : own_Ends p e below (own_Fin s n0 C S Q) (T.setTop (mkF m pc Ls [])) := by
  obtain ⟨⟨locs, Y, N⟩, eT, hs0, hx, hZ, hby, hml, hown, hret, hlk, hnm⟩ := X
  obtain ⟨fs, hr, hrun, hended, hW, hsame⟩ := Y.leave (v := none) (fun _ => rfl) hlk
  exact ⟨_, _, Y.returnOut hx (hret.trans hr0) (hb hby hd) hr, hrun, hended, _, _, rfl, ⟨by show Q _ T.heap; rw [eT]; exact hQ, N⟩, ⟨_, rfl⟩, hW, hsame.mono hk hn⟩
theorem own_iaload (X : own_W p l e R s m args below meth c Z n0 y bytes ml ret T h k n) (q : Nat) {a : Addr} {kc : ClassId} {vs : List Value} {j : Int32} (i : Nat) (v : Value) (hd : decode bytes pc = .ok (.iaload, 1)) (hq : pc + 1 = q) (F : own_A Z h a kc .int vs) (hj : j.toNatClampNeg = i) (hj0 : ¬ j < 0) (hv : vs[i]? = some v)
    (K : own_Ends p e below G (T.setTop (mkF m q Ls (v :: st)))) : own_Ends p e below G (T.setTop (mkF m pc Ls (.int j :: .ref a :: st))) := by
  subst hq
  obtain ⟨⟨locs, Y, N⟩, eT, hs0, hx, hZ, hby, hml, hown, hret, hlk, hnm⟩ := X
  obtain ⟨cl, A, r1, r2, r3, r4⟩ := F
  have hi : i < vs.length := (List.getElem?_eq_some_iff.mp hv).1
  exact own_pre (fun t K => Y.iaload hx (j := j) (v := v) (by rw [eT]; exact A.1) (State.isArrayOf_alike hZ.alike A.2.1) A.2.2 (own_in r2 hj hj0 hi) (by rw [hj, ← Array.getElem?_toList, r2]; exact hv) (g := mkF m pc Ls (.int j :: .ref a :: st)) rfl rfl (hb hby hd) t K) K
theorem own_caload (X : own_W p l e R s m args below meth c Z n0 y bytes ml ret T h k n) (q : Nat) {a : Addr} {kc : ClassId} {vs : List Value} {j : Int32} (i : Nat) (v : Value) (hd : decode bytes pc = .ok (.caload, 1)) (hq : pc + 1 = q) (F : own_A Z h a kc .char vs) (hj : j.toNatClampNeg = i) (hj0 : ¬ j < 0) (hv : vs[i]? = some v)
    (K : own_Ends p e below G (T.setTop (mkF m q Ls (v :: st)))) : own_Ends p e below G (T.setTop (mkF m pc Ls (.int j :: .ref a :: st))) := by
  subst hq
  obtain ⟨⟨locs, Y, N⟩, eT, hs0, hx, hZ, hby, hml, hown, hret, hlk, hnm⟩ := X
  obtain ⟨cl, A, r1, r2, r3, r4⟩ := F
  have hi : i < vs.length := (List.getElem?_eq_some_iff.mp hv).1
  exact own_pre (fun t K => Y.caload hx (j := j) (v := v) (by rw [eT]; exact A.1) (State.isArrayOf_alike hZ.alike A.2.1) A.2.2 (own_in r2 hj hj0 hi) (by rw [hj, ← Array.getElem?_toList, r2]; exact hv) (g := mkF m pc Ls (.int j :: .ref a :: st)) rfl rfl (hb hby hd) t K) K
theorem own_baload (X : own_W p l e R s m args below meth c Z n0 y bytes ml ret T h k n) (q : Nat) {a : Addr} {kc : ClassId} {vs : List Value} {j : Int32} (i : Nat) (v : Value) (hd : decode bytes pc = .ok (.baload, 1)) (hq : pc + 1 = q) (F : own_A Z h a kc .byte vs) (hj : j.toNatClampNeg = i) (hj0 : ¬ j < 0) (hv : vs[i]? = some v)
    (K : own_Ends p e below G (T.setTop (mkF m q Ls (v :: st)))) : own_Ends p e below G (T.setTop (mkF m pc Ls (.int j :: .ref a :: st))) := by
  subst hq
  obtain ⟨⟨locs, Y, N⟩, eT, hs0, hx, hZ, hby, hml, hown, hret, hlk, hnm⟩ := X
  obtain ⟨cl, A, r1, r2, r3, r4⟩ := F
  have hi : i < vs.length := (List.getElem?_eq_some_iff.mp hv).1
  exact own_pre (fun t K => Y.baloadBytes hx (j := j) (v := v) (by rw [eT]; exact A.1) (State.isArrayOf_alike hZ.alike A.2.1) A.2.2 (own_in r2 hj hj0 hi) (by rw [hj, ← Array.getElem?_toList, r2]; exact hv) (g := mkF m pc Ls (.int j :: .ref a :: st)) rfl rfl (hb hby hd) t K) K
theorem own_aaload (X : own_W p l e R s m args below meth c Z n0 y bytes ml ret T h k n) (q : Nat) {a : Addr} {kc : ClassId} {ty : FieldType} {vs : List Value} {j : Int32} (i : Nat) (v : Value) (hd : decode bytes pc = .ok (.aaload, 1)) (hq : pc + 1 = q) (F : own_A Z h a kc ty vs) (hj : j.toNatClampNeg = i) (hj0 : ¬ j < 0) (hv : vs[i]? = some v) (hty : ty.isReference = true)
    (K : own_Ends p e below G (T.setTop (mkF m q Ls (v :: st)))) : own_Ends p e below G (T.setTop (mkF m pc Ls (.int j :: .ref a :: st))) := by
  subst hq
  obtain ⟨⟨locs, Y, N⟩, eT, hs0, hx, hZ, hby, hml, hown, hret, hlk, hnm⟩ := X
  obtain ⟨cl, A, r1, r2, r3, r4⟩ := F
  have hi : i < vs.length := (List.getElem?_eq_some_iff.mp hv).1
  exact own_pre (fun t K => Y.aaload hx (j := j) (v := v) (by rw [eT]; exact A.1) (State.isArrayOf_alike hZ.alike A.2.1) hty A.2.2 (own_in r2 hj hj0 hi) (by rw [hj, ← Array.getElem?_toList, r2]; exact hv) (g := mkF m pc Ls (.int j :: .ref a :: st)) rfl rfl (hb hby hd) t K) K
theorem own_laload (X : own_W p l e R s m args below meth c Z n0 y bytes ml ret T h k n) (q : Nat) {a : Addr} {kc : ClassId} {vs : List Value} {j : Int32} (i : Nat) (v : Value) (hd : decode bytes pc = .ok (.laload, 1)) (hq : pc + 1 = q) (F : own_A Z h a kc .long vs) (hj : j.toNatClampNeg = i) (hj0 : ¬ j < 0) (hv : vs[i]? = some v)
    (K : own_Ends p e below G (T.setTop (mkF m q Ls (v :: st)))) : own_Ends p e below G (T.setTop (mkF m pc Ls (.int j :: .ref a :: st))) := by
  subst hq
  obtain ⟨⟨locs, Y, N⟩, eT, hs0, hx, hZ, hby, hml, hown, hret, hlk, hnm⟩ := X
  obtain ⟨cl, A, r1, r2, r3, r4⟩ := F
  have hi : i < vs.length := (List.getElem?_eq_some_iff.mp hv).1
  exact own_pre (fun t K => Y.laload hx (j := j) (v := v) (by rw [eT]; exact A.1) (State.isArrayOf_alike hZ.alike A.2.1) A.2.2 (own_in r2 hj hj0 hi) (by rw [hj, ← Array.getElem?_toList, r2]; exact hv) (g := mkF m pc Ls (.int j :: .ref a :: st)) rfl rfl (hb hby hd) t K) K
theorem own_len (X : own_W p l e R s m args below meth c Z n0 y bytes ml ret T h k n) (q : Nat) {a : Addr} {kc : ClassId} {ty : FieldType} {vs : List Value} (x : Int32) (hd : decode bytes pc = .ok (.arraylength, 1)) (hq : pc + 1 = q) (F : own_A Z h a kc ty vs) (hx' : vs.length.toInt32 = x)
    (K : own_Ends p e below G (T.setTop (mkF m q Ls (.int x :: st)))) : own_Ends p e below G (T.setTop (mkF m pc Ls (.ref a :: st))) := by
  subst hq hx'
  obtain ⟨⟨locs, Y, N⟩, eT, hs0, hx, hZ, hby, hml, hown, hret, hlk, hnm⟩ := X
  obtain ⟨cl, A, r1, r2, r3, r4⟩ := F
  have hl : vs.length = cl.slots.size := by rw [← r2, Array.length_toList]
  rw [hl] at K
  exact own_pre (fun t K => Y.arraylength hx (by rw [eT]; exact A.1) (State.isArrayOf_alike hZ.alike A.2.1) (g := mkF m pc Ls (.ref a :: st)) rfl rfl (hb hby hd) t K) K
theorem own_iastore (X : own_W p l e R s m args below meth c Z n0 y bytes ml ret T h k n) (q : Nat) {a : Addr} {kc : ClassId} {vs : List Value} {j : Int32} {x : Int32} (i : Nat) (hd : decode bytes pc = .ok (.iastore, 1)) (hq : pc + 1 = q) (F : own_A Z h a kc .int vs) (hj : j.toNatClampNeg = i) (hj0 : ¬ j < 0) (hi : i < vs.length) (hnew : n0 ≤ a)
    (K : ∀ T' h', own_W p l e R s m args below meth c Z n0 y bytes ml ret T' h' k n → Wr h h' a i (.int x) → own_Ends p e below G (T'.setTop (mkF m q Ls st))) : own_Ends p e below G (T.setTop (mkF m pc Ls (.int x :: .int j :: .ref a :: st))) := by
  subst hq
  obtain ⟨⟨locs, Y, N⟩, eT, hs0, hx, hZ, hby, hml, hown, hret, hlk, hnm⟩ := X
  obtain ⟨cl, A, r1, r2, r3, r4⟩ := F
  obtain ⟨T1, h1, Y1, e1, W1, st1⟩ := stI Y hx hZ eT A (j := j) (own_in r2 hj hj0 hi) (g := mkF m pc Ls (.int x :: .int j :: .ref a :: st)) rfl rfl (hb hby hd)
  exact own_pre st1 (K T1 h1 ⟨⟨_, Y1, Fr.snoc Y1 N hnew⟩, e1, (by rw [W1.size]; exact hs0), hx, hZ, hby, hml, hown, hret, hlk, hnm⟩ (hj ▸ W1))
theorem own_castore (X : own_W p l e R s m args below meth c Z n0 y bytes ml ret T h k n) (q : Nat) {a : Addr} {kc : ClassId} {vs : List Value} {j : Int32} {x : Int32} (i : Nat) (hd : decode bytes pc = .ok (.castore, 1)) (hq : pc + 1 = q) (F : own_A Z h a kc .char vs) (hj : j.toNatClampNeg = i) (hj0 : ¬ j < 0) (hi : i < vs.length) (hnew : n0 ≤ a)
    (K : ∀ T' h', own_W p l e R s m args below meth c Z n0 y bytes ml ret T' h' k n → Wr h h' a i (.int (nar .char x)) → own_Ends p e below G (T'.setTop (mkF m q Ls st))) : own_Ends p e below G (T.setTop (mkF m pc Ls (.int x :: .int j :: .ref a :: st))) := by
  subst hq
  obtain ⟨⟨locs, Y, N⟩, eT, hs0, hx, hZ, hby, hml, hown, hret, hlk, hnm⟩ := X
  obtain ⟨cl, A, r1, r2, r3, r4⟩ := F
  obtain ⟨T1, h1, Y1, e1, W1, st1⟩ := stC Y hx hZ eT A (j := j) (own_in r2 hj hj0 hi) (g := mkF m pc Ls (.int x :: .int j :: .ref a :: st)) rfl rfl (hb hby hd)
  exact own_pre st1 (K T1 h1 ⟨⟨_, Y1, Fr.snoc Y1 N hnew⟩, e1, (by rw [W1.size]; exact hs0), hx, hZ, hby, hml, hown, hret, hlk, hnm⟩ (hj ▸ W1))
theorem own_bastore (X : own_W p l e R s m args below meth c Z n0 y bytes ml ret T h k n) (q : Nat) {a : Addr} {kc : ClassId} {vs : List Value} {j : Int32} {x : Int32} (i : Nat) (hd : decode bytes pc = .ok (.bastore, 1)) (hq : pc + 1 = q) (F : own_A Z h a kc .byte vs) (hj : j.toNatClampNeg = i) (hj0 : ¬ j < 0) (hi : i < vs.length) (hnew : n0 ≤ a)
    (K : ∀ T' h', own_W p l e R s m args below meth c Z n0 y bytes ml ret T' h' k n → Wr h h' a i (.int (nar .byte x)) → own_Ends p e below G (T'.setTop (mkF m q Ls st))) : own_Ends p e below G (T.setTop (mkF m pc Ls (.int x :: .int j :: .ref a :: st))) := by
  subst hq
  obtain ⟨⟨locs, Y, N⟩, eT, hs0, hx, hZ, hby, hml, hown, hret, hlk, hnm⟩ := X
  obtain ⟨cl, A, r1, r2, r3, r4⟩ := F
  obtain ⟨T1, h1, Y1, e1, W1, st1⟩ := stB Y hx hZ eT A (j := j) (own_in r2 hj hj0 hi) (g := mkF m pc Ls (.int x :: .int j :: .ref a :: st)) rfl rfl (hb hby hd)
  exact own_pre st1 (K T1 h1 ⟨⟨_, Y1, Fr.snoc Y1 N hnew⟩, e1, (by rw [W1.size]; exact hs0), hx, hZ, hby, hml, hown, hret, hlk, hnm⟩ (hj ▸ W1))
theorem own_zastore (X : own_W p l e R s m args below meth c Z n0 y bytes ml ret T h k n) (q : Nat) {a : Addr} {kc : ClassId} {vs : List Value} {j : Int32} {x : Int32} (i : Nat) (hd : decode bytes pc = .ok (.bastore, 1)) (hq : pc + 1 = q) (F : own_A Z h a kc .boolean vs) (hj : j.toNatClampNeg = i) (hj0 : ¬ j < 0) (hi : i < vs.length) (hnew : n0 ≤ a)
    (K : ∀ T' h', own_W p l e R s m args below meth c Z n0 y bytes ml ret T' h' k n → Wr h h' a i (.int (nar .boolean x)) → own_Ends p e below G (T'.setTop (mkF m q Ls st))) : own_Ends p e below G (T.setTop (mkF m pc Ls (.int x :: .int j :: .ref a :: st))) := by
  subst hq
  obtain ⟨⟨locs, Y, N⟩, eT, hs0, hx, hZ, hby, hml, hown, hret, hlk, hnm⟩ := X
  obtain ⟨cl, A, r1, r2, r3, r4⟩ := F
  obtain ⟨T1, h1, Y1, e1, W1, st1⟩ := stZ Y hx hZ eT A (j := j) (own_in r2 hj hj0 hi) (g := mkF m pc Ls (.int x :: .int j :: .ref a :: st)) rfl rfl (hb hby hd)
  exact own_pre st1 (K T1 h1 ⟨⟨_, Y1, Fr.snoc Y1 N hnew⟩, e1, (by rw [W1.size]; exact hs0), hx, hZ, hby, hml, hown, hret, hlk, hnm⟩ (hj ▸ W1))
theorem own_lastore (X : own_W p l e R s m args below meth c Z n0 y bytes ml ret T h k n) (q : Nat) {a : Addr} {kc : ClassId} {vs : List Value} {j : Int32} {x : Int64} (i : Nat) (hd : decode bytes pc = .ok (.lastore, 1)) (hq : pc + 1 = q) (F : own_A Z h a kc .long vs) (hj : j.toNatClampNeg = i) (hj0 : ¬ j < 0) (hi : i < vs.length) (hnew : n0 ≤ a)
    (K : ∀ T' h', own_W p l e R s m args below meth c Z n0 y bytes ml ret T' h' k n → Wr h h' a i (.long x) → own_Ends p e below G (T'.setTop (mkF m q Ls st))) : own_Ends p e below G (T.setTop (mkF m pc Ls (.long x :: .int j :: .ref a :: st))) := by
  subst hq
  obtain ⟨⟨locs, Y, N⟩, eT, hs0, hx, hZ, hby, hml, hown, hret, hlk, hnm⟩ := X
  obtain ⟨cl, A, r1, r2, r3, r4⟩ := F
  obtain ⟨T1, h1, Y1, e1, W1, st1⟩ := stJ Y hx hZ eT A (j := j) (own_in r2 hj hj0 hi) (g := mkF m pc Ls (.long x :: .int j :: .ref a :: st)) rfl rfl (hb hby hd)
  exact own_pre st1 (K T1 h1 ⟨⟨_, Y1, Fr.snoc Y1 N hnew⟩, e1, (by rw [W1.size]; exact hs0), hx, hZ, hby, hml, hown, hret, hlk, hnm⟩ (hj ▸ W1))
theorem own_aastore (X : own_W p l e R s m args below meth c Z n0 y bytes ml ret T h k n) (q : Nat) {a : Addr} {kc : ClassId} {ty : FieldType} {vs : List Value} {j : Int32} {x : Value} (i : Nat) (hd : decode bytes pc = .ok (.aastore, 1)) (hq : pc + 1 = q) (F : own_A Z h a kc ty vs) (hj : j.toNatClampNeg = i) (hj0 : ¬ j < 0) (hi : i < vs.length) (hty : ty.isReference = true) (hS : Sto Z h a x) (hnew : n0 ≤ a)
    (K : ∀ T' h', own_W p l e R s m args below meth c Z n0 y bytes ml ret T' h' k n → Wr h h' a i x → own_Ends p e below G (T'.setTop (mkF m q Ls st))) : own_Ends p e below G (T.setTop (mkF m pc Ls (x :: .int j :: .ref a :: st))) := by
  subst hq
  obtain ⟨⟨locs, Y, N⟩, eT, hs0, hx, hZ, hby, hml, hown, hret, hlk, hnm⟩ := X
  obtain ⟨cl, A, r1, r2, r3, r4⟩ := F
  obtain ⟨T1, h1, Y1, e1, W1, st1⟩ := stR Y hx hZ eT A (j := j) (own_in r2 hj hj0 hi) hty hS (g := mkF m pc Ls (x :: .int j :: .ref a :: st)) rfl rfl (hb hby hd)
  exact own_pre st1 (K T1 h1 ⟨⟨_, Y1, Fr.snoc Y1 N hnew⟩, e1, (by rw [W1.size]; exact hs0), hx, hZ, hby, hml, hown, hret, hlk, hnm⟩ (hj ▸ W1))
theorem own_A_new {Z : State} {h : Heap} {a : Addr} {kc : ClassId} {ty : FieldType} {z : Int32} {N : Nat} (A : Arr Z h a (newA kc ty z) ty) (hz : ¬ z < 0) (hN : z.toNatClampNeg = N) (hf : fits ty (defaultValue ty) = true) : own_A Z h a kc ty (List.replicate N (defaultValue ty)) := by
  refine ⟨_, A, rfl, by simp [newA, hN], by rw [List.length_replicate, ← hN]; exact (back32 hz).2, fun v hv => ?_⟩
  rw [(List.mem_replicate.mp hv).2]; exact hf
theorem own_newP (X : own_W p l e R s m args below meth c Z n0 y bytes ml ret T h k n) (q : Nat) {aty : ArrayType} {z : Int32} (len cap : Nat) (hd : decode bytes pc = .ok (.newarray aty, 2)) (hq : pc + 2 = q) (w : (Jvm.Cond.arrayClass (newarray.typeOf aty)).before a0 Z = true) (hz : ¬ z < 0) (hN : z.toNatClampNeg = len) (hcap : len ≤ cap) (hb8 : cap * 8 ≤ 536870912) (hc : k + 1 ≤ R.cells) (hl : n + cap ≤ R.slots)
    (K : ∀ T' h' a kc, a = h.size → own_W p l e R s m args below meth c Z n0 y bytes ml ret T' h' (k + 1) (n + cap) → Ext h h' → own_A Z h' a kc (newarray.typeOf aty) (List.replicate len (defaultValue (newarray.typeOf aty))) → own_Ends p e below G (T'.setTop (mkF m q Ls (.ref a :: st)))) : own_Ends p e below G (T.setTop (mkF m pc Ls (.int z :: st))) := by
  subst hq
  obtain ⟨⟨locs, Y, N⟩, eT, hs0, hx, hZ, hby, hml, hown, hret, hlk, hnm⟩ := X
  obtain ⟨T1, h1, kc, Y1, e1, E1, A1, st1⟩ := newP Y hx hZ w eT (g := mkF m pc Ls (.int z :: st)) rfl (hb hby hd) rfl hz (cap := cap) (by omega) hb8 hc hl
  exact own_pre st1 (K T1 h1 _ kc rfl ⟨⟨locs, Y1, N⟩, e1, (Nat.le_trans hs0 E1.1), hx, hZ, hby, hml, hown, hret, hlk, hnm⟩ E1 (own_A_new A1 hz hN (by cases aty <;> rfl)))
theorem own_newR (X : own_W p l e R s m args below meth c Z n0 y bytes ml ret T h k n) (q : Nat) {C : String} {i : Nat} {z : Int32} (len cap : Nat) (hd : decode bytes pc = .ok (.anewarray i, 3)) (hq : pc + 3 = q) (w1 : (Jvm.Cond.classLink y.cls i C).before a0 Z = true) (w2 : (Jvm.Cond.arrayOver (.object C)).before a0 Z = true) (hz : ¬ z < 0) (hN : z.toNatClampNeg = len) (hcap : len ≤ cap) (hb8 : cap * 8 ≤ 536870912) (hc : k + 1 ≤ R.cells) (hl : n + cap ≤ R.slots)
    (K : ∀ T' h' a kc, a = h.size → own_W p l e R s m args below meth c Z n0 y bytes ml ret T' h' (k + 1) (n + cap) → Ext h h' → own_A Z h' a kc (.object C) (List.replicate len .null) → Ovr Z kc C → own_Ends p e below G (T'.setTop (mkF m q Ls (.ref a :: st)))) : own_Ends p e below G (T.setTop (mkF m pc Ls (.int z :: st))) := by
  subst hq
  obtain ⟨⟨locs, Y, N⟩, eT, hs0, hx, hZ, hby, hml, hown, hret, hlk, hnm⟩ := X
  obtain ⟨T1, h1, kc, Y1, e1, E1, A1, O1, st1⟩ := newR Y hx hZ hown w1 w2 eT (g := mkF m pc Ls (.int z :: st)) rfl (hb hby hd) rfl hz (cap := cap) (by omega) hb8 hc hl
  exact own_pre st1 (K T1 h1 _ kc rfl ⟨⟨locs, Y1, N⟩, e1, (Nat.le_trans hs0 E1.1), hx, hZ, hby, hml, hown, hret, hlk, hnm⟩ E1 (own_A_new A1 hz hN rfl) O1)
theorem own_clone (X : own_W p l e R s m args below meth c Z n0 y bytes ml ret T h k n) (q : Nat) {i : Nat} {ad : String} {a : Addr} {kc : ClassId} {ty : FieldType} {vs : List Value} (cap : Nat) (hd : decode bytes pc = .ok (.invokevirtual i, 3)) (hq : pc + 3 = q) (w1 : (Jvm.Cond.methodLink y.cls i ⟨ad, "clone", "()Ljava/lang/Object;"⟩).before a0 Z = true) (w2 : (Jvm.Cond.sameMethod ad "java/lang/Object" "clone" "()Ljava/lang/Object;").before a0 Z = true) (w3 : (Jvm.Cond.native ⟨"java/lang/Object", "clone", "()Ljava/lang/Object;"⟩).before a0 Z = true)
    (w4 : (Jvm.Cond.instanceMethod ⟨"java/lang/Object", "clone", "()Ljava/lang/Object;"⟩).before a0 Z = true) (w5 : (Jvm.Cond.selects ad ⟨ad, "clone", "()Ljava/lang/Object;"⟩ ⟨"java/lang/Object", "clone", "()Ljava/lang/Object;"⟩).before a0 Z = true) (w6 : (Jvm.Cond.castable ad "java/lang/Cloneable").before a0 Z = true)
    (F : own_A Z h a kc ty vs) (E : Exa Z h a ad) (hsz : Ls.size = ml) (hf : 1 ≤ R.frames) (hl : (st.map fun v => v.category).sum + 14 ≤ R.locals) (hcap : vs.length ≤ cap) (hc : k + 1 ≤ R.cells) (hsl : n + cap ≤ R.slots)
    (K : ∀ T' h' b, b = h.size → own_W p l e R s m args below meth c Z n0 y bytes ml ret T' h' (k + 1) (n + cap) → Ext h h' → own_A Z h' b kc ty vs → Exa Z h' b ad → own_Ends p e below G (T'.setTop (mkF m q Ls (.ref b :: st)))) : own_Ends p e below G (T.setTop (mkF m pc Ls (.ref a :: st))) := by
  subst hq
  obtain ⟨⟨locs, Y, N⟩, eT, hs0, hx, hZ, hby, hml, hown, hret, hlk, hnm⟩ := X
  obtain ⟨cl, A, r1, r2, r3, r4⟩ := F
  have hF : FitC Z cl := fitC_of A fun j hj v hv => r4 v (by rw [← r2]; exact List.mem_of_getElem? (by rw [Array.getElem?_toList]; exact hv))
  obtain ⟨T1, h1, Y1, e1, E1, A1, X1, st1⟩ := cloneA Y hx hZ hown w1 w2 w3 w4 w5 w6 eT A E hF (g := mkF m pc Ls (.ref a :: st)) rfl (hsz.trans hml.symm) rfl (hb hby hd) hf (W := (st.map fun v => v.category).sum) (cap := cap) (by show 2 * 0 + _ ≤ _; omega) hl (by rw [← Array.length_toList, r2]; exact hcap) hc hsl
  exact own_pre st1 (K T1 h1 _ rfl ⟨⟨locs, Y1, N⟩, e1, (Nat.le_trans hs0 E1.1), hx, hZ, hby, hml, hown, hret, hlk, hnm⟩ E1 ⟨_, A1, r1, r2, r3, r4⟩ X1)
theorem own_eqInt {args : Array Value} {first s : State} {o : Option Outcome} {idx : List Nat} {a : Term} {n : Int32} (h : (Jvm.Cond.eq a (Jvm.Term.int n)).value args first o s idx = some true) : a.eval args first o idx s = some (.int n) := by
  obtain ⟨x, y, h1, h2, h3, -⟩ := cmp_v (Or.inl h)
  rw [Term.int_eval] at h2
  cases h2
  cases x <;> simp [Kin, Value.isRef] at h3
  rename_i z
  have := gotT (P := z = n) (by simp [Cond.value, h1, Term.int_eval]) h
  rw [h1, this]
theorem own_eqRef {args : Array Value} {first s : State} {o : Option Outcome} {idx : List Nat} {a b : Term} {x : Addr} (h : (Jvm.Cond.eq a b).value args first o s idx = some true) (hb' : b.eval args first o idx s = some (.ref x)) : a.eval args first o idx s = some (.ref x) := by
  obtain ⟨u, v, h1, h2, h3, h4⟩ := cmp_v (Or.inl h)
  cases hb'.symm.trans h2
  have hu : u.isRef = true := by cases u <;> simp [Kin, Value.isRef] at h3 ⊢
  have := gotT (eq_R h1 h2 hu rfl) h
  rw [h1, this]
theorem own_len_size {args : Array Value} {s : State} {t : Term} {a : Addr} {n : Int32} {cell : Cell} {ty : FieldType} (h : (Jvm.Cond.eq (Jvm.Term.length t) (Jvm.Term.int n)).value args s none s [] = some true) (ev : t.eval args s none [] s = some (.ref a)) (A : Arr s s.heap a cell ty) : cell.slots.size < 2 ^ 31 ∧ cell.slots.size.toInt32 = n :=
  IntBox.length_fwd (Cond.before_iff.mpr h) ev A.1 A.2.1 A.2.2
theorem own_A_start {args : Array Value} {s : State} {t : Term} {a : Addr} {ty : FieldType} {n : Int32} {vs : List Value} (hf : Fit s) (ev : t.eval args s none [] s = some (.ref a)) (hA : (Jvm.Cond.arrayOf t ty).value args s none s [] = some true) (hL : (Jvm.Cond.eq (Jvm.Term.length t) (Jvm.Term.int n)).value args s none s [] = some true) (hn : n.toNatClampNeg = vs.length)
    (he : ∀ (i : Nat) (v : Value), vs[i]? = some v → (Jvm.Term.elem t (Jvm.Term.int (Int32.ofNat i))).eval args s none [] s = some v) : ∃ kc, own_A s s.heap a kc ty vs := by
  obtain ⟨c, A⟩ := Arr.start ev hA
  obtain ⟨q1, q2⟩ := own_len_size hL ev A
  have hsz : c.slots.size = vs.length := by
    rw [← hn, ← q2]; show _ = (c.slots.size.toInt32.toInt).toNat; rw [len_toInt q1]; rfl
  refine ⟨c.cls, c, A, rfl, ?_, by omega, ?_⟩
  · apply List.ext_getElem?
    intro i
    by_cases hi : i < vs.length
    · have h1 := elem_in (he i _ (List.getElem?_eq_getElem hi)) ev (Term.int_eval _) A.1
      have hj : (Int32.ofNat i).toNatClampNeg = i := by show (Int32.ofNat i).toInt.toNat = i; rw [Int32.toInt_ofNat_small (by omega)]; rfl
      rw [Array.getElem?_toList, List.getElem?_eq_getElem hi]
      rw [hj] at h1; exact h1.2
    · rw [List.getElem?_eq_none (l := c.slots.toList) (by rw [Array.length_toList]; omega), List.getElem?_eq_none (l := vs) (by omega)]
  · intro v hv
    obtain ⟨i, hi, rfl⟩ := List.getElem_of_mem hv
    have h1 := elem_in (he i _ (List.getElem?_eq_getElem hi)) ev (Term.int_eval _) A.1
    exact elem_fits hf A h1.1 h1.2
end OwnKit
section OwnWide
variable {p : Program} {l : Launch} {e : Env} {R : Room} {s : State} {m : MethodId} {args : Array Value} {below : List Frame} {meth : Method} {c : Code} {Z T : State} {n0 ml k n : Nat} {y : MethodName} {bytes : ByteArray} {ret : Option FieldType} {h : Heap} {a0 : Array Value} {G : State → Outcome → Prop} {Ls : Array Slot} {st : List Value} {pc : Nat}
variable {vm0 : Vm} {k0 : Nat}
def own_FinW (s : State) (n0 C S : Nat) (Q : Option Value → Heap → Prop) (s₂ : State) (o : Outcome) : Prop := ∃ v L, o = .returned v ∧ (Q v s₂.heap ∧ Fr n0 L) ∧ ReturnedEndW s o s₂ L C S
def own_MetW (l : Launch) (y : MethodName) (bytes : ByteArray) (ml : Nat) (ret : Option FieldType) (rm : Room) (Z : State) (as' : Array Value) (h : Heap) (n0 : Nat) (Q : Option Value → Heap → Prop) : Prop :=
  ∀ ws, MetFree l y (head1 (Jvm.Cond.code y bytes ml ret :: ws) rm) (fun a U => a = as' ∧ Z.Warmed39 U.vm ∧ U.heap = h) (fun _ _ _ _ _ => True) (fun _ U o U' => ∃ v L, o = .returned v ∧ (Q v U'.heap ∧ Fr n0 L) ∧ ReturnedEndW U o U' L rm.cells rm.slots)
theorem own_metW {rm : Room} {as' : Array Value} {Q : Option Value → Heap → Prop} (hpl : plainFor y = true) (hs0 : n0 ≤ h.size) (hef : ∀ m, entryFrame m as' ml = mkF m 0 Ls [])
    (body : ∀ (p : Program) (e : Env) (s : State) (m : MethodId) (below : List Frame) (meth : Method) (c : Code) (T : State) (vm0 : Vm) (k0 : Nat), own_W p l e rm (s.setVm vm0) m as' below meth c Z n0 y bytes ml ret T h 0 0 → s.Since vm0 k0 → k0 ≤ h.size → own_Ends p e below (own_FinW s n0 rm.cells rm.slots Q) (T.setTop (mkF m 0 Ls []))) :
    own_MetW l y bytes ml ret rm Z as' h n0 Q := by
  intro ws
  refine MetFree.of_bodySF hpl hisR ?_
  intro p e s m args below meth c s₁ Bd hml0 hP hK
  obtain ⟨rfl, hZ, hh⟩ := hP
  obtain ⟨s2, o, h1, h2, h3, h4⟩ := body p e s m below meth c s₁ s.vm 0 ⟨⟨[], Stand.of_body Bd, Fr.nil n0⟩, by rw [← hh, Bd.state]; rfl, hs0, Bd.exec, hZ, Bd.bytes, hml0, findClass_of_methodNamed Bd.named, Bd.returns, Bd.notSynchronized, (name_of_methodNamed Bd.named Bd.method).1⟩ ((State.WarmedH.refl s).since 0) (Nat.zero_le _)
  exact ⟨s2, o, castTop (hef m) h1, h2, h3, h4⟩
theorem own_retIW (X : own_W p l e R (s.setVm vm0) m args below meth c Z n0 y bytes ml ret T h k n) (hS : s.Since vm0 k0) (hk0 : k0 ≤ h.size) {C S : Nat} {Q : Option Value → Heap → Prop} {z : Int32} (hd : decode bytes pc = .ok (.ireturn, 1)) (hr0 : ret = some .int) (hk : k ≤ C) (hn : n ≤ S) (hQ : Q (some (.int z)) h) : own_Ends p e below (own_FinW s n0 C S Q) (T.setTop (mkF m pc Ls (.int z :: st))) := by
  obtain ⟨⟨locs, Y, N⟩, eT, hs0, hx, hZ, hby, hml, hown, hret, hlk, hnm⟩ := X
  obtain ⟨fs, hr, hrun, hended, hW⟩ := Y.leaveW hS (by rw [eT]; exact hk0) (v := some (.int z)) (fun q => by rw [hret, hr0] at q; cases q) hlk
  exact ⟨_, _, own_retI0 Y hx (hret.trans hr0) (hb hby hd) hr, hrun, hended, _, _, rfl, ⟨by show Q _ T.heap; rw [eT]; exact hQ, N⟩, hW.1, hW.2.1, hW.2.2.1, hW.2.2.2.mono hk hn⟩
theorem own_retNW (X : own_W p l e R (s.setVm vm0) m args below meth c Z n0 y bytes ml ret T h k n) (hS : s.Since vm0 k0) (hk0 : k0 ≤ h.size) {C S : Nat} {Q : Option Value → Heap → Prop} {z : Int32} (t : FieldType) (hd : decode bytes pc = .ok (.ireturn, 1)) (hr0 : ret = some t) (ht : t = .boolean ∨ t = .byte ∨ t = .char ∨ t = .short) (hk : k ≤ C) (hn : n ≤ S) (hQ : Q (some (.int (nar t z))) h) : own_Ends p e below (own_FinW s n0 C S Q) (T.setTop (mkF m pc Ls (.int z :: st))) := by
  obtain ⟨⟨locs, Y, N⟩, eT, hs0, hx, hZ, hby, hml, hown, hret, hlk, hnm⟩ := X
  obtain ⟨fs, hr, hrun, hended, hW⟩ := Y.leaveW hS (by rw [eT]; exact hk0) (v := some (.int (nar t z))) (fun q => by rw [hret, hr0] at q; cases q) hlk
  exact ⟨_, _, retN Y hx (hret.trans hr0) ht (hb hby hd) hr, hrun, hended, _, _, rfl, ⟨by show Q _ T.heap; rw [eT]; exact hQ, N⟩, hW.1, hW.2.1, hW.2.2.1, hW.2.2.2.mono hk hn⟩
theorem own_retJW (X : own_W p l e R (s.setVm vm0) m args below meth c Z n0 y bytes ml ret T h k n) (hS : s.Since vm0 k0) (hk0 : k0 ≤ h.size) {C S : Nat} {Q : Option Value → Heap → Prop} {z : Int64} (hd : decode bytes pc = .ok (.lreturn, 1)) (hr0 : ret = some .long) (hk : k ≤ C) (hn : n ≤ S) (hQ : Q (some (.long z)) h) : own_Ends p e below (own_FinW s n0 C S Q) (T.setTop (mkF m pc Ls (.long z :: st))) := by
  obtain ⟨⟨locs, Y, N⟩, eT, hs0, hx, hZ, hby, hml, hown, hret, hlk, hnm⟩ := X
  obtain ⟨fs, hr, hrun, hended, hW⟩ := Y.leaveW hS (by rw [eT]; exact hk0) (v := some (.long z)) (fun q => by rw [hret, hr0] at q; cases q) hlk
  exact ⟨_, _, retOut Y hx (hret.trans hr0) rfl (Or.inr (Or.inl ⟨rfl, rfl, z, rfl⟩)) (hb hby hd) hr, hrun, hended, _, _, rfl, ⟨by show Q _ T.heap; rw [eT]; exact hQ, N⟩, hW.1, hW.2.1, hW.2.2.1, hW.2.2.2.mono hk hn⟩
theorem own_retAW (X : own_W p l e R (s.setVm vm0) m args below meth c Z n0 y bytes ml ret T h k n) (hS : s.Since vm0 k0) (hk0 : k0 ≤ h.size) {C S : Nat} {Q : Option Value → Heap → Prop} {z : Value} (t : FieldType) (hd : decode bytes pc = .ok (.areturn, 1)) (hr0 : ret = some t) (ht : t.isReference = true) (hz : z.isRef = true) (hnz : narrow t z = z) (hk : k ≤ C) (hn : n ≤ S) (hQ : Q (some z) h) : own_Ends p e below (own_FinW s n0 C S Q) (T.setTop (mkF m pc Ls (z :: st))) := by
  obtain ⟨⟨locs, Y, N⟩, eT, hs0, hx, hZ, hby, hml, hown, hret, hlk, hnm⟩ := X
  obtain ⟨fs, hr, hrun, hended, hW⟩ := Y.leaveW hS (by rw [eT]; exact hk0) (v := some z) (fun q => by rw [hret, hr0] at q; cases q) hlk
  exact ⟨_, _, retOut Y hx (hret.trans hr0) hnz (Or.inr (Or.inr (Or.inr (Or.inr ⟨rfl, ht, hz⟩)))) (hb hby hd) hr, hrun, hended, _, _, rfl, ⟨by show Q _ T.heap; rw [eT]; exact hQ, N⟩, hW.1, hW.2.1, hW.2.2.1, hW.2.2.2.mono hk hn⟩
theorem own_retVW (X : own_W p l e R (s.setVm vm0) m args below meth c Z n0 y bytes ml ret T h k n) (hS : s.Since vm0 k0) (hk0 : k0 ≤ h.size) {C S : Nat} {Q : Option Value → Heap → Prop} (hd : decode bytes pc = .ok (.return_, 1)) (hr0 : ret = none) (hk : k ≤ C) (hn : n ≤ S) (hQ : Q none h) : own_Ends p e below (own_FinW s n0 C S Q) (T.setTop (mkF m pc Ls [])) := by
  obtain ⟨⟨locs, Y, N⟩, eT, hs0, hx, hZ, hby, hml, hown, hret, hlk, hnm⟩ := X
  obtain ⟨fs, hr, hrun, hended, hW⟩ := Y.leaveW hS (by rw [eT]; exact hk0) (v := none) (fun _ => rfl) hlk
  exact ⟨_, _, Y.returnOut hx (hret.trans hr0) (hb hby hd) hr, hrun, hended, _, _, rfl, ⟨by show Q _ T.heap; rw [eT]; exact hQ, N⟩, hW.1, hW.2.1, hW.2.2.1, hW.2.2.2.mono hk hn⟩
theorem own_ldcS (X : own_W p l e R (s.setVm vm0) m args below meth c Z n0 y bytes ml ret T h k n) (hS : s.Since vm0 k0) (hk0 : k0 ≤ h.size) (q : Nat) {i : Nat} {text : String} (nn : Nat) (hd : decode bytes pc = .ok (.ldc i, 2)) (hq : pc + 2 = q) (w : (Jvm.Cond.stringLink y.cls i text).before a0 Z = true) (wS : ∀ a ∈ Bundle.stringAtoms, a.before a0 Z = true) (hnn : 4 * text.toList.length ≤ nn) (hbig : nn ≤ 536870912) (hc : k + 2 ≤ R.cells) (hl : n + (nn + 4) ≤ R.slots)
    (K : ∀ a T' h' vm1 k1, own_W p l e R (s.setVm vm1) m args below meth c Z n0 y bytes ml ret T' h' (k + 2) (n + (nn + 4)) → Ext h h' → s.Since vm1 k1 → k1 ≤ h'.size → own_Ends p e below G (T'.setTop (mkF m q Ls (.ref a :: st)))) : own_Ends p e below G (T.setTop (mkF m pc Ls st)) := by
  subst hq
  obtain ⟨⟨locs, Y, N⟩, eT, hs0, hx, hZ, hby, hml, hown, hret, hlk, hnm⟩ := X
  obtain ⟨a, T1, h1, k1, Y1, e1, E1, hS1, hk1, hZ1, ho1, st1⟩ := ldcS Y hx hZ hown w wS eT hS hk0 (g := mkF m pc Ls st) rfl (hb hby hd) hnn hbig hc hl
  exact own_pre st1 (K a T1 h1 T1.vm k1 ⟨⟨_, Y1, N⟩, e1, Nat.le_trans hs0 E1.1, hx, hZ1, hby, hml, ho1, hret, hlk, hnm⟩ E1 hS1 hk1)
theorem own_callSW (X : own_W p l e R (s.setVm vm0) m args below meth c Z n0 y bytes ml ret T h k n) (hS : s.Since vm0 k0) (hk0 : k0 ≤ h.size) (q : Nat) {y' : MethodName} {bytes' : ByteArray} {ml' : Nat} {ret' : Option FieldType} {rm : Room} {as' : Array Value} {Q : Option Value → Heap → Prop} {i : Nat} {ps : List FieldType} {rr : Option FieldType} (argsL rest : List Value) (hd : decode bytes pc = .ok (.invokestatic i, 3)) (hq : pc + 3 = q) (w1 : (Jvm.Cond.methodLink y.cls i y').before a0 Z = true) (w2 : (Jvm.Cond.static y').before a0 Z = true) (w3 : (Jvm.Cond.initialized y'.cls).before a0 Z = true) (w4 : (Jvm.Cond.code y' bytes' ml' ret').before a0 Z = true) (hy : y'.cls ≠ "java/lang/invoke/MethodHandle" ∧ y'.cls ≠ "java/lang/invoke/VarHandle")
    (M : own_MetW l y' bytes' ml' ret' rm Z as' h n0 Q) (has : as' = argsL.toArray) (hpd : parseMethodDescriptor y'.desc = some ⟨ps, rr⟩) (hlen : argsL.length = ps.length) (hst : st = argsL.reverse ++ rest) (hsz : Ls.size = ml) (hf : rm.frames + 1 ≤ R.frames) (hl : (rest.map fun v => v.category).sum + (ml' + 11) + rm.locals ≤ R.locals) (hck : k + rm.cells ≤ R.cells) (hcn : n + rm.slots ≤ R.slots)
    (K : ∀ v T' h' vm1 k1, own_W p l e R (s.setVm vm1) m args below meth c Z n0 y bytes ml ret T' h' (k + rm.cells) (n + rm.slots) → s.Since vm1 k1 → k1 ≤ h'.size → Q v h' → own_Ends p e below G (T'.setTop (mkF m q Ls (v.toList ++ rest)))) : own_Ends p e below G (T.setTop (mkF m pc Ls st)) := by
  subst hq has hst
  obtain ⟨⟨locs, Y, N⟩, eT, hs0, hx, hZ, hby, hml, hown, hret, hlk, hnm⟩ := X
  obtain ⟨v1, _, ⟨T1, L1, k1, n1⟩, -, Y1, hS1, hg1, ⟨Lc1, hQ1, l1, c1, s1⟩, st1⟩ := callSS Y hx hown (mvT hZ w1) (mvT hZ w2) (mvT hZ w3) (mvT hZ w4) hy (backOfS (Q := fun v h L => Q v h ∧ Fr n0 L) (W := (rest.map fun v => v.category).sum) (M []) hZ w4 w3 hf (by omega)) (g := mkF m pc Ls (argsL.reverse ++ rest)) rfl (hsz.trans hml.symm) (argsL := argsL) (rest := rest) (lenOf hpd hlen) rfl (by show 2 * 0 + _ ≤ _; omega) (hb hby hd) (fun _ _ => ⟨rfl, eT, hck, hcn⟩)
  dsimp only [Pt.U, Pt.locs, Pt.cells, Pt.slots] at Y1 l1 c1 s1 st1 hQ1 hS1 hg1
  subst l1 c1 s1
  have hS2 := foldS (T := T) hS (by rw [eT]; exact hk0) hS1 hg1
  refine own_pre (fun t K => st1.trans K) (K _ _ _ T1.vm _ ⟨⟨_, Y1, Fr.app N hQ1.2⟩, rfl, ?_, hx, State.Warmed39.trans (t := s.setVm vm0) hZ hS1.1, hby, hml, ?_, hret, hlk, hnm⟩ hS2 (Nat.le_refl _) hQ1.1)
  · rw [eT] at hg1; exact Nat.le_trans hs0 hg1
  · show T1.vm.findClass _ = _
    rw [hS1.1.alike.findClass]; exact hown
theorem own_initW (X : own_W p l e R (s.setVm vm0) m args below meth c Z n0 y bytes ml ret T h k n) (hS : s.Since vm0 k0) (hk0 : k0 ≤ h.size) (q : Nat) {y' : MethodName} {bytes' : ByteArray} {ml' : Nat} {rm : Room} {as' : Array Value} {Q : Option Value → Heap → Prop} {i : Nat} {ps : List FieldType} {rr : Option FieldType} {a : Addr} (argsL rest : List Value) (hd : decode bytes pc = .ok (.invokespecial i, 3)) (hq : pc + 3 = q) (w1 : (Jvm.Cond.methodLink y.cls i y').before a0 Z = true) (w2 : (Jvm.Cond.instanceMethod y').before a0 Z = true) (w3 : (Jvm.Cond.initialized y'.cls).before a0 Z = true) (w4 : (Jvm.Cond.code y' bytes' ml' none).before a0 Z = true) (hy : y'.cls ≠ "java/lang/invoke/MethodHandle" ∧ y'.cls ≠ "java/lang/invoke/VarHandle") (hy1 : y'.name = "<init>")
    (M : own_MetW l y' bytes' ml' none rm Z as' h n0 Q) (has : as' = (.ref a :: argsL).toArray) (hpd : parseMethodDescriptor y'.desc = some ⟨ps, rr⟩) (hlen : argsL.length = ps.length) (hst : st = argsL.reverse ++ .ref a :: rest) (hsz : Ls.size = ml) (hf : rm.frames + 1 ≤ R.frames) (hl : (rest.map fun v => v.category).sum + (ml' + 11) + rm.locals ≤ R.locals) (hck : k + rm.cells ≤ R.cells) (hcn : n + rm.slots ≤ R.slots)
    (K : ∀ v T' h' vm1 k1, own_W p l e R (s.setVm vm1) m args below meth c Z n0 y bytes ml ret T' h' (k + rm.cells) (n + rm.slots) → s.Since vm1 k1 → k1 ≤ h'.size → Q v h' → own_Ends p e below G (T'.setTop (mkF m q Ls (v.toList ++ rest)))) : own_Ends p e below G (T.setTop (mkF m pc Ls st)) := by
  subst hq has hst
  obtain ⟨⟨locs, Y, N⟩, eT, hs0, hx, hZ, hby, hml, hown, hret, hlk, hnm⟩ := X
  obtain ⟨v1, _, ⟨T1, L1, k1, n1⟩, -, Y1, hS1, hg1, ⟨Lc1, hQ1, l1, c1, s1⟩, st1⟩ := Y.specialBackS hx hy1 hown (mvT hZ w1) (mvT hZ w2) (mvT hZ w4) hy (backOfS (Q := fun v h L => Q v h ∧ Fr n0 L) (W := (rest.map fun v => v.category).sum) (M []) hZ w4 w3 hf (by omega)) (g := mkF m pc Ls (argsL.reverse ++ .ref a :: rest)) rfl (hsz.trans hml.symm) (Steps.refl _) (a := a) (argsL := argsL) (rest := rest) (lenOf hpd hlen) rfl (by show 2 * 0 + _ ≤ _; omega) (hb hby hd) (fun _ _ => ⟨rfl, eT, hck, hcn⟩)
  dsimp only [Pt.U, Pt.locs, Pt.cells, Pt.slots] at Y1 l1 c1 s1 st1 hQ1 hS1 hg1
  subst l1 c1 s1
  have hS2 := foldS (T := T) hS (by rw [eT]; exact hk0) hS1 hg1
  refine own_pre (fun t K => st1.trans K) (K _ _ _ T1.vm _ ⟨⟨_, Y1, Fr.app N hQ1.2⟩, rfl, ?_, hx, State.Warmed39.trans (t := s.setVm vm0) hZ hS1.1, hby, hml, ?_, hret, hlk, hnm⟩ hS2 (Nat.le_refl _) hQ1.1)
  · rw [eT] at hg1; exact Nat.le_trans hs0 hg1
  · show T1.vm.findClass _ = _
    rw [hS1.1.alike.findClass]; exact hown
end OwnWide
theorem own_div0 {x y : Int64} (h0 : 0 ≤ x.toInt) (h1 : x.toInt < y.toInt) : x / y = 0 := by
  apply Int64.toInt_inj.mp
  have e : (0 : Int64).toInt = 0 := by decide
  have r := rng64 y
  rw [Int64.toInt_div, e, Int.tdiv_eq_zero_of_lt h0 h1]; decide
theorem own_nn64 {x : Int64} (h0 : 0 ≤ x.toInt) : ¬ x < 0 := by rw [XT.negI64]; omega
theorem own_ge64 {x : Int64} (h : ¬ x < 0) : 0 ≤ x.toInt := by rw [XT.negI64] at h; omega
theorem own_xorge {x y : Int64} (h0 : 0 ≤ x.toInt) (h1 : x.toInt < y.toInt) : ¬ x ^^^ y < 0 := by
  rw [XT.xor_neg64]
  have a := own_nn64 h0; have b : ¬ y < 0 := own_nn64 (by omega)
  simp [a, b]
theorem own_yne {x y : Int64} (h0 : 0 ≤ x.toInt) (h1 : x.toInt < y.toInt) : y ≠ 0 := fun q => by
  rw [q, show (0 : Int64).toInt = 0 from by decide] at h1; omega
theorem own_or0 {x y : Int64} (h : x ||| y = 0) : x = 0 ∧ y = 0 := by
  have h' : x.toBitVec ||| y.toBitVec = 0#64 := congrArg Int64.toBitVec h
  have := BitVec.or_eq_zero_iff.mp h'
  exact ⟨Int64.toBitVec_inj.mp this.1, Int64.toBitVec_inj.mp this.2⟩
theorem own_i2l0 {x : Int32} (h : x.toInt64 = 0) : x = 0 := by
  apply Int32.toInt_inj.mp
  have := congrArg Int64.toInt h
  rw [Int32.toInt_toInt64] at this
  rw [this]; decide
def own_cl (x y : Int64) : Int32 := if x < y then -1 else if x = y then 0 else 1
def own_neg (x : Int64) : Int32 := if x < 0 then 1 else 0
def own_cd (x : Int64) (n : Int32) : Int32 := if own_cl x 9223372036 = 0 then n - 854775807 else own_cl x 9223372036
def own_nan (x : Int64) (n : Int32) : Int64 := if own_cd x n < 0 then x * 1000000000 + n.toInt64 else 9223372036854775807
def own_aft (t x : Int64) : Int64 := if 9223372036854775807 - t < x then 9223372036854775807 else t + x
def own_expd (t x n : Int64) : Int64 := if x < 0 then t else if 9223372036 < x then 9223372036854775807 else if x = 9223372036 then (if 854775807 < n then 9223372036854775807 else (if t + (x * 1000000000 + n) < 0 then 9223372036854775807 else t + (x * 1000000000 + n))) else (if t + (x * 1000000000 + n) < 0 then 9223372036854775807 else t + (x * 1000000000 + n))
theorem own_L1 : (9223372036 : Int64).toInt = 9223372036 := by decide
theorem own_L2 : (9223372036854775807 : Int64).toInt = 9223372036854775807 := by decide
theorem own_L3 : (1000000000 : Int64).toInt = 1000000000 := by decide
theorem own_L4 : (854775807 : Int64).toInt = 854775807 := by decide
theorem own_L5 : (854775807 : Int32).toInt = 854775807 := by decide
theorem own_L0 : (0 : Int64).toInt = 0 := by decide
theorem own_I0 : (0 : Int32).toInt = 0 := by decide
/-- before LONGEST -/
theorem own_cd_lt {x : Int64} {n : Int32} (h0 : 0 ≤ n.toInt) (h1 : n.toInt < 1000000000) : own_cd x n < 0 ↔ (x.toInt < 9223372036 ∨ (x.toInt = 9223372036 ∧ n.toInt < 854775807)) := by
  have q1 := c_isub n 854775807; have q2 := rng32 (n - 854775807)
  rw [own_L5] at q1
  by_cases a : x < 9223372036
  · have e : own_cl x 9223372036 = -1 := by simp [own_cl, a]
    have e2 : own_cd x n = -1 := by rw [own_cd, e, if_neg (by decide)]
    rw [e2]
    rw [Int64.lt_iff_toInt_lt, own_L1] at a
    exact ⟨fun _ => Or.inl a, fun _ => by decide⟩
  · have a' := a
    rw [Int64.lt_iff_toInt_lt, own_L1] at a'
    by_cases b : x = 9223372036
    · have b' : x.toInt = 9223372036 := by rw [b]; decide
      have e : own_cl x 9223372036 = 0 := by rw [own_cl, if_neg a, if_pos b]
      have e2 : own_cd x n = n - 854775807 := by rw [own_cd, if_pos e]
      rw [e2, Int32.lt_iff_toInt_lt, own_I0]
      omega
    · have b' : x.toInt ≠ 9223372036 := fun q => b (Int64.toInt_inj.mp (by rw [q]; decide))
      have e : own_cl x 9223372036 = 1 := by rw [own_cl, if_neg a, if_neg b]
      have e2 : own_cd x n = 1 := by rw [own_cd, e, if_neg (by decide)]
      rw [e2]
      exact ⟨fun q => absurd q (by decide), fun q => by omega⟩
theorem own_main {t x n : Int64} {m : Int32} (ht : ¬ t < 0) (hn0 : 0 ≤ n.toInt) (hn1 : n.toInt < 1000000000) (hm : m = n.toInt32) : own_aft t (if x < 0 then 0 else own_nan x m) = own_expd t x n := by
  have hm' : m.toInt = n.toInt := by rw [hm]; exact XT.narrowInt ⟨by omega, by omega⟩
  have hml : m.toInt64 = n := by rw [hm]; exact XT.narrowOk ⟨by omega, by omega⟩
  have ht' := own_ge64 ht
  have rt := rng64 t; have rx := rng64 x
  unfold own_aft own_expd
  have sb : (9223372036854775807 - t).toInt = 9223372036854775807 - t.toInt := by rw [XT.sub64 (by rw [own_L2]; exact ⟨by omega, by omega⟩), own_L2]
  by_cases h1 : x < 0
  · simp only [h1, if_true]
    have : ¬ 9223372036854775807 - t < 0 := by rw [XT.negI64, sb]; omega
    simp only [this, if_false]
    simp
  · simp only [h1, if_false]
    have h1' := own_ge64 h1
    unfold own_nan
    by_cases h2 : own_cd x m < 0
    · have h2' := (own_cd_lt (by omega) (by omega)).mp h2
      rw [hm'] at h2'
      have mu : (x * 1000000000).toInt = x.toInt * 1000000000 := by rw [XT.mul64 (by rw [own_L3]; exact ⟨by omega, by omega⟩), own_L3]
      have ad : (x * 1000000000 + n).toInt = x.toInt * 1000000000 + n.toInt := by rw [XT.add64 (by rw [mu]; exact ⟨by omega, by omega⟩), mu]
      have c1 : ¬ 9223372036 < x := by rw [Int64.lt_iff_toInt_lt, own_L1]; omega
      have c2 : x = 9223372036 → ¬ 854775807 < n := fun q => by
        have : x.toInt = 9223372036 := by rw [q]; decide
        rw [Int64.lt_iff_toInt_lt, own_L4]; omega
      simp only [h2, if_true, c1, if_false, hml]
      have e : (if x = 9223372036 then (if 854775807 < n then (9223372036854775807 : Int64) else (if t + (x * 1000000000 + n) < 0 then 9223372036854775807 else t + (x * 1000000000 + n))) else (if t + (x * 1000000000 + n) < 0 then 9223372036854775807 else t + (x * 1000000000 + n))) = (if t + (x * 1000000000 + n) < 0 then 9223372036854775807 else t + (x * 1000000000 + n)) := by
        by_cases b : x = 9223372036
        · rw [if_pos b, if_neg (c2 b)]
        · rw [if_neg b]
      rw [e]
      generalize x * 1000000000 + n = w at ad ⊢
      have q1 := c_ladd t w; have q2 := rng64 (t + w); have rw_ := rng64 w
      have i1 : (9223372036854775807 - t < w) ↔ (t + w < 0) := by
        rw [Int64.lt_iff_toInt_lt, sb, XT.negI64]; omega
      simp only [i1]
    · have h2' := (not_congr (own_cd_lt (x := x) (n := m) (by omega) (by omega))).mp h2
      rw [hm'] at h2'
      simp only [h2, if_false]
      by_cases c1 : 9223372036 < x
      · simp only [c1, if_true]
        by_cases z : 9223372036854775807 - t < 9223372036854775807
        · simp only [z, if_true]
        · simp only [z, if_false]
          rw [Int64.lt_iff_toInt_lt, sb, own_L2] at z
          have : t = 0 := Int64.toInt_inj.mp (by rw [own_L0]; omega)
          rw [this]; decide
      · have c1' := c1
        rw [Int64.lt_iff_toInt_lt, own_L1] at c1'
        have hx : x = 9223372036 := Int64.toInt_inj.mp (by rw [own_L1]; omega)
        have hxi : x.toInt = 9223372036 := by rw [hx]; decide
        subst hx
        simp only [show ¬ ((9223372036 : Int64) < 9223372036) from by decide, if_false, if_true]
        have mu : ((9223372036 : Int64) * 1000000000) = 9223372036000000000 := by decide
        have hmui : (9223372036000000000 : Int64).toInt = 9223372036000000000 := by decide
        rw [mu]
        by_cases c2 : 854775807 < n
        · simp only [c2, if_true]
          by_cases z : 9223372036854775807 - t < 9223372036854775807
          · simp only [z, if_true]
          · simp only [z, if_false]
            rw [Int64.lt_iff_toInt_lt, sb, own_L2] at z
            have : t = 0 := Int64.toInt_inj.mp (by rw [own_L0]; omega)
            rw [this]; decide
        · have c2' := c2
          rw [Int64.lt_iff_toInt_lt, own_L4] at c2'
          have hn : n = 854775807 := Int64.toInt_inj.mp (by rw [own_L4]; omega)
          simp only [c2, if_false, hn]
          rw [show (9223372036000000000 : Int64) + 854775807 = 9223372036854775807 from by decide]
          have q1 := c_ladd t 9223372036854775807; have q2 := rng64 (t + 9223372036854775807)
          rw [own_L2] at q1
          have i1 : (9223372036854775807 - t < 9223372036854775807) ↔ (t + 9223372036854775807 < 0) := by
            rw [Int64.lt_iff_toInt_lt, sb, XT.negI64, own_L2]; omega
          simp only [show ¬ ((854775807 : Int64) < 854775807) from by decide, if_false, i1]
theorem own_pk0 (x : Int64) : ¬ x &&& 9223372036854775807 < 0 := fun q => absurd ((XT.and_neg64 _ _).mp q).2 (by decide)
theorem own_pk1 (x : Int64) : ¬ x &&& 4294967295 < 0 := fun q => absurd ((XT.and_neg64 _ _).mp q).2 (by decide)
theorem own_pk2 (x : Int64) : ¬ 9223372036854775807 - (x &&& 4294967295) < 0 := by
  have := own_ge64 (own_pk1 x); have r := rng64 (x &&& 4294967295)
  rw [XT.negI64, XT.sub64 (by rw [own_L2]; exact ⟨by omega, by omega⟩), own_L2]; omega
theorem own_nr (a : Int32) : 0 ≤ (((a &&& 2147483647) % 1000000000).toInt64).toInt ∧ (((a &&& 2147483647) % 1000000000).toInt64).toInt < 1000000000 := by
  have h0 : 0 ≤ (a &&& (2147483647 : Int32)).toInt := by
    have q : ¬ (a &&& (2147483647 : Int32)) < 0 := fun q => absurd ((XT.and_neg32 _ _).mp q).2 (by decide)
    rw [Int32.lt_iff_toInt_lt, own_I0] at q
    omega
  have e : (1000000000 : Int32).toInt = 1000000000 := by decide
  rw [Int32.toInt_toInt64, Int32.toInt_mod, e, Int.tmod_eq_emod_of_nonneg h0]
  omega
theorem own_eqLong {args : Array Value} {first s : State} {o : Option Outcome} {idx : List Nat} {a : Term} {n : Int64} (h : (Jvm.Cond.eq a (Jvm.Term.long n)).value args first o s idx = some true) : a.eval args first o idx s = some (.long n) := by
  obtain ⟨x, y, h1, h2, h3, -⟩ := cmp_v (Or.inl h)
  rw [long_at] at h2
  cases h2
  cases x <;> simp [Kin, Value.isRef] at h3
  rename_i z
  have := gotT (eq_L h1 (long_at n)) h
  rw [h1, this]
theorem own_d4_0 : decode jdk_29_method_49_code 0 = .ok (.lload_n 0, 1) := by decide +kernel
theorem own_d4_1 : decode jdk_29_method_49_code 1 = .ok (.lload_n 2, 1) := by decide +kernel
theorem own_d4_2 : decode jdk_29_method_49_code 2 = .ok (.ldiv, 1) := by decide +kernel
theorem own_d4_3 : decode jdk_29_method_49_code 3 = .ok (.lstore 4, 2) := by decide +kernel
theorem own_d4_5 : decode jdk_29_method_49_code 5 = .ok (.lload_n 0, 1) := by decide +kernel
theorem own_d4_6 : decode jdk_29_method_49_code 6 = .ok (.lload_n 2, 1) := by decide +kernel
theorem own_d4_7 : decode jdk_29_method_49_code 7 = .ok (.lxor, 1) := by decide +kernel
theorem own_d4_8 : decode jdk_29_method_49_code 8 = .ok (.lconst 0, 1) := by decide +kernel
theorem own_d4_9 : decode jdk_29_method_49_code 9 = .ok (.lcmp, 1) := by decide +kernel
theorem own_d4_10 : decode jdk_29_method_49_code 10 = .ok (.ifCond .ge 17, 3) := by decide +kernel
theorem own_d4_27 : decode jdk_29_method_49_code 27 = .ok (.lload 4, 2) := by decide +kernel
theorem own_d4_29 : decode jdk_29_method_49_code 29 = .ok (.lreturn, 1) := by decide +kernel
theorem own_pn4 : plainFor (⟨"java/lang/Math", "floorDiv", "(JJ)J"⟩ : MethodName) = true := Jvm.Free.JP.mathPlain rfl (by decide +kernel)
set_option maxRecDepth 65536 in
set_option maxHeartbeats 40000000 in
theorem own_fdiv (l : Launch) (Z : State) (a0 : Array Value) (hw : ∀ d ∈ tables_1, d.before a0 Z = true) (x : Int64) (y : Int64) (h0 : Heap) (n0 : Nat) (hs0 : n0 ≤ h0.size) (hx0 : 0 ≤ x.toInt) (hxy : x.toInt < y.toInt) :
    own_Met l (⟨"java/lang/Math", "floorDiv", "(JJ)J"⟩ : MethodName) jdk_29_method_49_code 6 (some .long) ({ frames := 0, cells := 0, slots := 0, locals := 0 } : Room) Z #[(.long x), (.long y)] h0 n0 (fun v h' => h' = h0 ∧ v = some (.long 0)) := by
  refine own_met (Ls := #[.val (.long x), .second, .val (.long y), .second, .unset, .unset]) own_pn4 hs0 (fun m => by first | (simp [entryFrame, mkF, argsToLocals, Value.category]; done) | rfl) ?_
  intro p e s m below meth c T X
  refine own_lloadN X 1 x own_d4_0 rfl rfl ?_
  refine own_lloadN X 2 y own_d4_1 rfl rfl ?_
  refine own_ldiv X 3 own_d4_2 rfl (own_yne hx0 hxy) ?_
  refine own_lstore X 5 #[.val (.long x), .second, .val (.long y), .second, .val (.long (x / y)), .second] own_d4_3 rfl rfl ?_
  refine own_lloadN X 6 x own_d4_5 rfl rfl ?_
  refine own_lloadN X 7 y own_d4_6 rfl rfl ?_
  refine own_lxor X 8 own_d4_7 rfl ?_
  refine own_lconst X 9 (0 : Int64) own_d4_8 rfl (by decide) ?_
  refine own_lcmp X 10 own_d4_9 rfl ?_
  refine own_ifY X 27 own_d4_10 (by decide) (by decide) (XT.ll_ge_t (own_xorge hx0 hxy)) ?_
  refine own_lload X 29 (x / y) own_d4_27 rfl rfl ?_
  exact own_retJ X own_d4_29 rfl (by decide) (by decide) (⟨rfl, by rw [own_div0 hx0 hxy]⟩)
theorem own_d6_0 : decode jdk_29_method_52_code 0 = .ok (.lload_n 0, 1) := by decide +kernel
theorem own_d6_1 : decode jdk_29_method_52_code 1 = .ok (.lload_n 2, 1) := by decide +kernel
theorem own_d6_2 : decode jdk_29_method_52_code 2 = .ok (.lrem, 1) := by decide +kernel
theorem own_d6_3 : decode jdk_29_method_52_code 3 = .ok (.lstore 4, 2) := by decide +kernel
theorem own_d6_5 : decode jdk_29_method_52_code 5 = .ok (.lload_n 0, 1) := by decide +kernel
theorem own_d6_6 : decode jdk_29_method_52_code 6 = .ok (.lload_n 2, 1) := by decide +kernel
theorem own_d6_7 : decode jdk_29_method_52_code 7 = .ok (.lxor, 1) := by decide +kernel
theorem own_d6_8 : decode jdk_29_method_52_code 8 = .ok (.lconst 0, 1) := by decide +kernel
theorem own_d6_9 : decode jdk_29_method_52_code 9 = .ok (.lcmp, 1) := by decide +kernel
theorem own_d6_10 : decode jdk_29_method_52_code 10 = .ok (.ifCond .ge 15, 3) := by decide +kernel
theorem own_d6_25 : decode jdk_29_method_52_code 25 = .ok (.lload 4, 2) := by decide +kernel
theorem own_d6_27 : decode jdk_29_method_52_code 27 = .ok (.lreturn, 1) := by decide +kernel
theorem own_pn6 : plainFor (⟨"java/lang/Math", "floorMod", "(JJ)J"⟩ : MethodName) = true := Jvm.Free.JP.mathPlain rfl (by decide +kernel)
set_option maxRecDepth 65536 in
set_option maxHeartbeats 40000000 in
theorem own_fmod (l : Launch) (Z : State) (a0 : Array Value) (hw : ∀ d ∈ tables_1, d.before a0 Z = true) (x : Int64) (y : Int64) (h0 : Heap) (n0 : Nat) (hs0 : n0 ≤ h0.size) (hx0 : 0 ≤ x.toInt) (hxy : x.toInt < y.toInt) :
    own_Met l (⟨"java/lang/Math", "floorMod", "(JJ)J"⟩ : MethodName) jdk_29_method_52_code 6 (some .long) ({ frames := 0, cells := 0, slots := 0, locals := 0 } : Room) Z #[(.long x), (.long y)] h0 n0 (fun v h' => h' = h0 ∧ v = some (.long x)) := by
  refine own_met (Ls := #[.val (.long x), .second, .val (.long y), .second, .unset, .unset]) own_pn6 hs0 (fun m => by first | (simp [entryFrame, mkF, argsToLocals, Value.category]; done) | rfl) ?_
  intro p e s m below meth c T X
  refine own_lloadN X 1 x own_d6_0 rfl rfl ?_
  refine own_lloadN X 2 y own_d6_1 rfl rfl ?_
  refine own_lrem X 3 own_d6_2 rfl (own_yne hx0 hxy) ?_
  refine own_lstore X 5 #[.val (.long x), .second, .val (.long y), .second, .val (.long (x - (x / y) * y)), .second] own_d6_3 rfl rfl ?_
  refine own_lloadN X 6 x own_d6_5 rfl rfl ?_
  refine own_lloadN X 7 y own_d6_6 rfl rfl ?_
  refine own_lxor X 8 own_d6_7 rfl ?_
  refine own_lconst X 9 (0 : Int64) own_d6_8 rfl (by decide) ?_
  refine own_lcmp X 10 own_d6_9 rfl ?_
  refine own_ifY X 25 own_d6_10 (by decide) (by decide) (XT.ll_ge_t (own_xorge hx0 hxy)) ?_
  refine own_lload X 27 (x - (x / y) * y) own_d6_25 rfl rfl ?_
  exact own_retJ X own_d6_27 rfl (by decide) (by decide) (⟨rfl, by rw [own_div0 hx0 hxy]; simp⟩)
theorem own_d5_0 : decode jdk_29_method_25_code 0 = .ok (.lload_n 0, 1) := by decide +kernel
theorem own_d5_1 : decode jdk_29_method_25_code 1 = .ok (.lload_n 2, 1) := by decide +kernel
theorem own_d5_2 : decode jdk_29_method_25_code 2 = .ok (.ladd, 1) := by decide +kernel
theorem own_d5_3 : decode jdk_29_method_25_code 3 = .ok (.lstore 4, 2) := by decide +kernel
theorem own_d5_5 : decode jdk_29_method_25_code 5 = .ok (.lload_n 0, 1) := by decide +kernel
theorem own_d5_6 : decode jdk_29_method_25_code 6 = .ok (.lload 4, 2) := by decide +kernel
theorem own_d5_8 : decode jdk_29_method_25_code 8 = .ok (.lxor, 1) := by decide +kernel
theorem own_d5_9 : decode jdk_29_method_25_code 9 = .ok (.lload_n 2, 1) := by decide +kernel
theorem own_d5_10 : decode jdk_29_method_25_code 10 = .ok (.lload 4, 2) := by decide +kernel
theorem own_d5_12 : decode jdk_29_method_25_code 12 = .ok (.lxor, 1) := by decide +kernel
theorem own_d5_13 : decode jdk_29_method_25_code 13 = .ok (.land, 1) := by decide +kernel
theorem own_d5_14 : decode jdk_29_method_25_code 14 = .ok (.lconst 0, 1) := by decide +kernel
theorem own_d5_15 : decode jdk_29_method_25_code 15 = .ok (.lcmp, 1) := by decide +kernel
theorem own_d5_16 : decode jdk_29_method_25_code 16 = .ok (.ifCond .ge 13, 3) := by decide +kernel
theorem own_d5_29 : decode jdk_29_method_25_code 29 = .ok (.lload 4, 2) := by decide +kernel
theorem own_d5_31 : decode jdk_29_method_25_code 31 = .ok (.lreturn, 1) := by decide +kernel
theorem own_pn5 : plainFor (⟨"java/lang/Math", "addExact", "(JJ)J"⟩ : MethodName) = true := Jvm.Free.JP.mathPlain rfl (by decide +kernel)
set_option maxRecDepth 65536 in
set_option maxHeartbeats 40000000 in
theorem own_addx (l : Launch) (Z : State) (a0 : Array Value) (hw : ∀ d ∈ tables_1, d.before a0 Z = true) (x : Int64) (y : Int64) (h0 : Heap) (n0 : Nat) (hs0 : n0 ≤ h0.size) (hf : XT.fits64 (x.toInt + y.toInt)) :
    own_Met l (⟨"java/lang/Math", "addExact", "(JJ)J"⟩ : MethodName) jdk_29_method_25_code 6 (some .long) ({ frames := 0, cells := 0, slots := 0, locals := 0 } : Room) Z #[(.long x), (.long y)] h0 n0 (fun v h' => h' = h0 ∧ v = some (.long (x + y))) := by
  refine own_met (Ls := #[.val (.long x), .second, .val (.long y), .second, .unset, .unset]) own_pn5 hs0 (fun m => by first | (simp [entryFrame, mkF, argsToLocals, Value.category]; done) | rfl) ?_
  intro p e s m below meth c T X
  refine own_lloadN X 1 x own_d5_0 rfl rfl ?_
  refine own_lloadN X 2 y own_d5_1 rfl rfl ?_
  refine own_ladd X 3 own_d5_2 rfl ?_
  refine own_lstore X 5 #[.val (.long x), .second, .val (.long y), .second, .val (.long (x + y)), .second] own_d5_3 rfl rfl ?_
  refine own_lloadN X 6 x own_d5_5 rfl rfl ?_
  refine own_lload X 8 (x + y) own_d5_6 rfl rfl ?_
  refine own_lxor X 9 own_d5_8 rfl ?_
  refine own_lloadN X 10 y own_d5_9 rfl rfl ?_
  refine own_lload X 12 (x + y) own_d5_10 rfl rfl ?_
  refine own_lxor X 13 own_d5_12 rfl ?_
  refine own_land X 14 own_d5_13 rfl ?_
  refine own_lconst X 15 (0 : Int64) own_d5_14 rfl (by decide) ?_
  refine own_lcmp X 16 own_d5_15 rfl ?_
  refine own_ifY X 29 own_d5_16 (by decide) (by decide) (XT.ll_ge_t (XT.addOk64 hf)) ?_
  refine own_lload X 31 (x + y) own_d5_29 rfl rfl ?_
  exact own_retJ X own_d5_31 rfl (by decide) (by decide) (⟨rfl, rfl⟩)
theorem own_d8_0 : decode jdk_2316_method_17_code 0 = .ok (.aload_n 0, 1) := by decide +kernel
theorem own_d8_1 : decode jdk_2316_method_17_code 1 = .ok (.invokespecial 218, 3) := by decide +kernel
theorem own_d8_4 : decode jdk_2316_method_17_code 4 = .ok (.aload_n 0, 1) := by decide +kernel
theorem own_d8_5 : decode jdk_2316_method_17_code 5 = .ok (.lload_n 1, 1) := by decide +kernel
theorem own_d8_6 : decode jdk_2316_method_17_code 6 = .ok (.putfield 221, 3) := by decide +kernel
theorem own_d8_9 : decode jdk_2316_method_17_code 9 = .ok (.aload_n 0, 1) := by decide +kernel
theorem own_d8_10 : decode jdk_2316_method_17_code 10 = .ok (.iload_n 3, 1) := by decide +kernel
theorem own_d8_11 : decode jdk_2316_method_17_code 11 = .ok (.putfield 224, 3) := by decide +kernel
theorem own_d8_14 : decode jdk_2316_method_17_code 14 = .ok (.return_, 1) := by decide +kernel
theorem own_pn8 : plainFor (⟨"java/time/Duration", "<init>", "(JI)V"⟩ : MethodName) = true := plainFor_of_name (by first | (simp [plainName, overriddenIn]; done) | decide +kernel)
set_option maxRecDepth 65536 in
set_option maxHeartbeats 40000000 in
theorem own_dini (l : Launch) (Z : State) (a0 : Array Value) (hw : ∀ d ∈ tables_1, d.before a0 Z = true) (a : Addr) (sec : Int64) (nan : Int32) (h0 : Heap) (n0 : Nat) (hs0 : n0 ≤ h0.size) (Fs : Fld Z h0 a "java/time/Duration" "seconds" "J" (.long 0)) (Fn : Fld Z h0 a "java/time/Duration" "nanos" "I" (.int 0)) (Ea : Exa Z h0 a "java/time/Duration") (ga : n0 ≤ a) :
    own_Met l (⟨"java/time/Duration", "<init>", "(JI)V"⟩ : MethodName) jdk_2316_method_17_code 4 none ({ frames := 1, cells := 0, slots := 0, locals := 12 } : Room) Z #[(.ref a), (.long sec), (.int nan)] h0 n0 (fun v h' => Keep h0 h' [a] ∧ v = none ∧ Fld Z h' a "java/time/Duration" "seconds" "J" (.long sec) ∧ Fld Z h' a "java/time/Duration" "nanos" "I" (.int nan)) := by
  refine own_met (Ls := #[.val (.ref a), .val (.long sec), .second, .val (.int nan)]) own_pn8 hs0 (fun m => by first | (simp [entryFrame, mkF, argsToLocals, Value.category]; done) | rfl) ?_
  intro p e s m below meth c T X
  have K0 := Keep.refl h0 [a]
  have hi_a : h0.size > a := Fs.lt
  refine own_aloadN X 1 (.ref a) own_d8_0 rfl rfl rfl ?_
  refine own_initO X 4 own_d8_1 rfl (hw _ (List.mem_of_getElem? (i := 35) rfl)) (hw _ (List.mem_of_getElem? (i := 36) rfl)) (hw _ (List.mem_of_getElem? (i := 37) rfl)) rfl (by decide) (Nat.le_of_ble_eq_true rfl) ?_
  intro T X
  refine own_aloadN X 5 (.ref a) own_d8_4 rfl rfl rfl ?_
  refine own_lloadN X 6 sec own_d8_5 rfl rfl ?_
  refine own_putF X 9 .long own_d8_6 rfl (hw _ (List.mem_of_getElem? (i := 38) rfl)) Via.refl Fs Ea (Or.inr ⟨(hw _ (List.mem_of_getElem? (i := 39) rfl)), rfl, rfl⟩) (hw _ (List.mem_of_getElem? (i := 30) rfl)) (by decide) rfl rfl (by omega) ?_
  intro T h1 X W_h1
  have nw_h1 := Fld.same W_h1 Fs
  have zs_h1 : h0.size ≤ h1.size := (Nat.le_of_eq W_h1.size.symm)
  have Fn := Fld.other W_h1 Fn (Or.inr (slot_ne (Or.inr (hw _ (List.mem_of_getElem? (i := 41) rfl))) (Or.inr (hw _ (List.mem_of_getElem? (i := 39) rfl))) (by decide) (t := .int) (t' := .long) (by decide) (by decide)))
  have Ea := Exa.wr W_h1 Ea
  have K0 := K0.wr W_h1 (Or.inl (by simp))
  have Fs := nw_h1
  refine own_aloadN X 10 (.ref a) own_d8_9 rfl rfl rfl ?_
  refine own_iloadN X 11 nan own_d8_10 rfl rfl ?_
  refine own_putF X 14 .int own_d8_11 rfl (hw _ (List.mem_of_getElem? (i := 40) rfl)) Via.refl Fn Ea (Or.inr ⟨(hw _ (List.mem_of_getElem? (i := 41) rfl)), rfl, rfl⟩) (hw _ (List.mem_of_getElem? (i := 30) rfl)) (by decide) rfl rfl (by omega) ?_
  intro T h2 X W_h2
  have nw_h2 := Fld.same W_h2 Fn
  have zs_h2 : h1.size ≤ h2.size := (Nat.le_of_eq W_h2.size.symm)
  have Ea := Exa.wr W_h2 Ea
  have K0 := K0.wr W_h2 (Or.inl (by simp))
  have Fs := Fld.other W_h2 Fs (Or.inr (slot_ne (Or.inr (hw _ (List.mem_of_getElem? (i := 39) rfl))) (Or.inr (hw _ (List.mem_of_getElem? (i := 41) rfl))) (by decide) (t := .long) (t' := .int) (by decide) (by decide)))
  have Fn := nw_h2
  exact own_retV X own_d8_14 rfl (by decide) (by decide) (⟨K0, rfl, Fs, Fn⟩)
theorem own_d7_0 : decode jdk_2316_method_16_code 0 = .ok (.lload_n 0, 1) := by decide +kernel
theorem own_d7_1 : decode jdk_2316_method_16_code 1 = .ok (.iload_n 2, 1) := by decide +kernel
theorem own_d7_2 : decode jdk_2316_method_16_code 2 = .ok (.i2l, 1) := by decide +kernel
theorem own_d7_3 : decode jdk_2316_method_16_code 3 = .ok (.lor, 1) := by decide +kernel
theorem own_d7_4 : decode jdk_2316_method_16_code 4 = .ok (.lconst 0, 1) := by decide +kernel
theorem own_d7_5 : decode jdk_2316_method_16_code 5 = .ok (.lcmp, 1) := by decide +kernel
theorem own_d7_6 : decode jdk_2316_method_16_code 6 = .ok (.ifCond .ne 7, 3) := by decide +kernel
theorem own_d7_9 : decode jdk_2316_method_16_code 9 = .ok (.getstatic 32, 3) := by decide +kernel
theorem own_d7_12 : decode jdk_2316_method_16_code 12 = .ok (.areturn, 1) := by decide +kernel
theorem own_d7_13 : decode jdk_2316_method_16_code 13 = .ok (.new 11, 3) := by decide +kernel
theorem own_d7_16 : decode jdk_2316_method_16_code 16 = .ok (.dup, 1) := by decide +kernel
theorem own_d7_17 : decode jdk_2316_method_16_code 17 = .ok (.lload_n 0, 1) := by decide +kernel
theorem own_d7_18 : decode jdk_2316_method_16_code 18 = .ok (.iload_n 2, 1) := by decide +kernel
theorem own_d7_19 : decode jdk_2316_method_16_code 19 = .ok (.invokespecial 215, 3) := by decide +kernel
theorem own_pd0 : parseMethodDescriptor "(JI)V" = some ⟨[.long, .int], none⟩ := by decide +kernel
theorem own_d7_22 : decode jdk_2316_method_16_code 22 = .ok (.areturn, 1) := by decide +kernel
theorem own_pn7 : plainFor (⟨"java/time/Duration", "create", "(JI)Ljava/time/Duration;"⟩ : MethodName) = true := plainFor_of_name (by first | (simp [plainName, overriddenIn]; done) | decide +kernel)
set_option maxRecDepth 65536 in
set_option maxHeartbeats 40000000 in
theorem own_create (l : Launch) (Z : State) (a0 : Array Value) (hw : ∀ d ∈ tables_1, d.before a0 Z = true) (sec : Int64) (nan : Int32) (za : Addr) (h0 : Heap) (n0 : Nat) (hs0 : n0 ≤ h0.size) (OL : Old Z n0 h0) (z_Z : Sta Z Z.heap "java/time/Duration" "ZERO" "Ljava/time/Duration;" (.ref za)) (z_EZ : Exa Z Z.heap za "java/time/Duration") (z_SZ : Fld Z Z.heap za "java/time/Duration" "seconds" "J" (.long 0)) (z_NZ : Fld Z Z.heap za "java/time/Duration" "nanos" "I" (.int 0)) :
    own_Met l (⟨"java/time/Duration", "create", "(JI)Ljava/time/Duration;"⟩ : MethodName) jdk_2316_method_16_code 3 (some (.object "java/time/Duration")) ({ frames := 2, cells := 1, slots := 2, locals := 28 } : Room) Z #[(.long sec), (.int nan)] h0 n0 (fun v h' => Keep h0 h' [] ∧ ∃ b, v = some (.ref b) ∧ Exa Z h' b "java/time/Duration" ∧ Fld Z h' b "java/time/Duration" "seconds" "J" (.long sec) ∧ Fld Z h' b "java/time/Duration" "nanos" "I" (.int nan)) := by
  refine own_met (Ls := #[.val (.long sec), .second, .val (.int nan)]) own_pn7 hs0 (fun m => by first | (simp [entryFrame, mkF, argsToLocals, Value.category]; done) | rfl) ?_
  intro p e s m below meth c T X
  have K0 := Keep.refl h0 []
  have hi_za : n0 > za := (OL.1 ▸ z_EZ.lt)
  refine own_lloadN X 1 sec own_d7_0 rfl rfl ?_
  refine own_iloadN X 2 nan own_d7_1 rfl rfl ?_
  refine own_i2l X 3 own_d7_2 rfl ?_
  refine own_lor X 4 own_d7_3 rfl ?_
  refine own_lconst X 5 (0 : Int64) own_d7_4 rfl (by decide) ?_
  refine own_lcmp X 6 own_d7_5 rfl ?_
  by_cases hc6 : (sec ||| nan.toInt64) = (0 : Int64)
  · refine own_ifN X 9 own_d7_6 rfl (XT.ll_ne_f hc6) ?_
    refine own_getS X 12 own_d7_9 rfl (hw _ (List.mem_of_getElem? (i := 102) rfl)) Via.refl (Sta.ext OL.2 z_Z) ?_
    intro T X
    exact own_retA X (.object "java/time/Duration") own_d7_12 rfl rfl rfl rfl (by decide) (by decide) (⟨K0, za, rfl, (Exa.ext OL.2 z_EZ), by rw [(own_or0 hc6).1]; exact (Fld.ext OL.2 z_SZ), by rw [own_i2l0 (own_or0 hc6).2]; exact (Fld.ext OL.2 z_NZ)⟩)
  · refine own_ifY X 13 own_d7_6 (by decide) (by decide) (XT.ll_ne_t hc6) ?_
    refine own_new X 16 own_d7_13 rfl (hw _ (List.mem_of_getElem? (i := 29) rfl)) (hw _ (List.mem_of_getElem? (i := 30) rfl)) (hw _ (List.mem_of_getElem? (i := 13) rfl)) (by decide) (by decide) ?_
    intro T h1 b2 g_b2 X E_h1 A_b2 D_b2
    have zs_h1 : h0.size ≤ h1.size := E_h1.1
    have OL := OL.ext E_h1
    have K0 := K0.ext E_h1
    have lo_b2 : h0.size ≤ b2 := Nat.le_of_eq g_b2.symm
    have hi_b2 : h1.size > b2 := A_b2.lt
    have F_seconds_b2 : Fld Z h1 b2 "java/time/Duration" "seconds" "J" (.long (0 : Int64)) := D_b2 (Or.inr (hw _ (List.mem_of_getElem? (i := 39) rfl))) (ty := .long) (by decide)
    have F_nanos_b2 : Fld Z h1 b2 "java/time/Duration" "nanos" "I" (.int (0 : Int32)) := D_b2 (Or.inr (hw _ (List.mem_of_getElem? (i := 41) rfl))) (ty := .int) (by decide)
    refine own_dup X 17 own_d7_16 rfl rfl ?_
    refine own_lloadN X 18 sec own_d7_17 rfl rfl ?_
    refine own_iloadN X 19 nan own_d7_18 rfl rfl ?_
    refine own_init X 22 [(.long sec), (.int nan)] [(.ref b2)] own_d7_19 rfl (hw _ (List.mem_of_getElem? (i := 31) rfl)) (hw _ (List.mem_of_getElem? (i := 32) rfl)) (hw _ (List.mem_of_getElem? (i := 13) rfl)) (hw _ (List.mem_of_getElem? (i := 34) rfl)) (by decide) rfl (own_dini l Z a0 hw b2 sec nan h1 n0 X.sz F_seconds_b2 F_nanos_b2 A_b2 (by omega)) (fun _ _ q => q.1.1) rfl own_pd0 rfl rfl rfl (by decide) (Nat.le_of_ble_eq_true rfl) (by decide) (by decide) ?_
    rintro v19 T h3 X ⟨K_, rfl, Fs_, Fn_⟩
    have zs_h3 : h1.size ≤ h3.size := K_.1
    have OL := OL.keep K_ (allS (by omega) all0)
    have K0 := K0.trans K_ (allS (Or.inr (by omega)) all0)
    have A_b2 := A_b2.keep K_
    have F_seconds_b2 := Fs_
    have F_nanos_b2 := Fn_
    show own_Ends p e below _ (T.setTop (mkF m 22 #[.val (.long sec), .second, .val (.int nan)] [(.ref b2)]))
    exact own_retA X (.object "java/time/Duration") own_d7_22 rfl rfl rfl rfl (by decide) (by decide) (⟨K0, b2, rfl, A_b2, F_seconds_b2, F_nanos_b2⟩)
theorem own_d3_0 : decode jdk_2316_method_5_code 0 = .ok (.lload_n 0, 1) := by decide +kernel
theorem own_d3_1 : decode jdk_2316_method_5_code 1 = .ok (.lload_n 2, 1) := by decide +kernel
theorem own_d3_2 : decode jdk_2316_method_5_code 2 = .ok (.ldc2_w 16, 3) := by decide +kernel
theorem own_d3_5 : decode jdk_2316_method_5_code 5 = .ok (.invokestatic 18, 3) := by decide +kernel
theorem own_pd1 : parseMethodDescriptor "(JJ)J" = some ⟨[.long, .long], some .long⟩ := by decide +kernel
theorem own_d3_8 : decode jdk_2316_method_5_code 8 = .ok (.invokestatic 22, 3) := by decide +kernel
theorem own_d3_11 : decode jdk_2316_method_5_code 11 = .ok (.lstore 4, 2) := by decide +kernel
theorem own_d3_13 : decode jdk_2316_method_5_code 13 = .ok (.lload_n 2, 1) := by decide +kernel
theorem own_d3_14 : decode jdk_2316_method_5_code 14 = .ok (.ldc2_w 16, 3) := by decide +kernel
theorem own_d3_17 : decode jdk_2316_method_5_code 17 = .ok (.invokestatic 25, 3) := by decide +kernel
theorem own_d3_20 : decode jdk_2316_method_5_code 20 = .ok (.l2i, 1) := by decide +kernel
theorem own_d3_21 : decode jdk_2316_method_5_code 21 = .ok (.istore 6, 2) := by decide +kernel
theorem own_d3_23 : decode jdk_2316_method_5_code 23 = .ok (.lload 4, 2) := by decide +kernel
theorem own_d3_25 : decode jdk_2316_method_5_code 25 = .ok (.iload 6, 2) := by decide +kernel
theorem own_d3_27 : decode jdk_2316_method_5_code 27 = .ok (.invokestatic 10, 3) := by decide +kernel
theorem own_pd2 : parseMethodDescriptor "(JI)Ljava/time/Duration;" = some ⟨[.long, .int], some (.object "java/time/Duration")⟩ := by decide +kernel
theorem own_d3_30 : decode jdk_2316_method_5_code 30 = .ok (.areturn, 1) := by decide +kernel
theorem own_pn3 : plainFor (⟨"java/time/Duration", "ofSeconds", "(JJ)Ljava/time/Duration;"⟩ : MethodName) = true := plainFor_of_name (by first | (simp [plainName, overriddenIn]; done) | decide +kernel)
set_option maxRecDepth 65536 in
set_option maxHeartbeats 40000000 in
theorem own_ofs (l : Launch) (Z : State) (a0 : Array Value) (hw : ∀ d ∈ tables_1, d.before a0 Z = true) (sec : Int64) (adj : Int64) (za : Addr) (h0 : Heap) (n0 : Nat) (hs0 : n0 ≤ h0.size) (OL : Old Z n0 h0) (z_Z : Sta Z Z.heap "java/time/Duration" "ZERO" "Ljava/time/Duration;" (.ref za)) (z_EZ : Exa Z Z.heap za "java/time/Duration") (z_SZ : Fld Z Z.heap za "java/time/Duration" "seconds" "J" (.long 0)) (z_NZ : Fld Z Z.heap za "java/time/Duration" "nanos" "I" (.int 0)) (ha0 : 0 ≤ adj.toInt) (ha1 : adj.toInt < 1000000000) :
    own_Met l (⟨"java/time/Duration", "ofSeconds", "(JJ)Ljava/time/Duration;"⟩ : MethodName) jdk_2316_method_5_code 7 (some (.object "java/time/Duration")) ({ frames := 3, cells := 1, slots := 2, locals := 42 } : Room) Z #[(.long sec), (.long adj)] h0 n0 (fun v h' => Keep h0 h' [] ∧ ∃ b, v = some (.ref b) ∧ Exa Z h' b "java/time/Duration" ∧ Fld Z h' b "java/time/Duration" "seconds" "J" (.long sec) ∧ Fld Z h' b "java/time/Duration" "nanos" "I" (.int adj.toInt32)) := by
  refine own_met (Ls := #[.val (.long sec), .second, .val (.long adj), .second, .unset, .unset, .unset]) own_pn3 hs0 (fun m => by first | (simp [entryFrame, mkF, argsToLocals, Value.category]; done) | rfl) ?_
  intro p e s m below meth c T X
  have K0 := Keep.refl h0 []
  have hi_za : n0 > za := (OL.1 ▸ z_EZ.lt)
  refine own_lloadN X 1 sec own_d3_0 rfl rfl ?_
  refine own_lloadN X 2 adj own_d3_1 rfl rfl ?_
  refine own_ldc2J X 5 own_d3_2 rfl (hw _ (List.mem_of_getElem? (i := 15) rfl)) ?_
  refine own_callS X 8 [(.long adj), (.long (1000000000 : Int64))] [(.long sec)] own_d3_5 rfl (hw _ (List.mem_of_getElem? (i := 16) rfl)) (hw _ (List.mem_of_getElem? (i := 17) rfl)) (hw _ (List.mem_of_getElem? (i := 18) rfl)) (hw _ (List.mem_of_getElem? (i := 19) rfl)) (by decide) (own_fdiv l Z a0 hw adj (1000000000 : Int64) h0 n0 X.sz ha0 (by rw [own_L3]; exact ha1)) (fun _ _ q => Nat.le_of_eq (congrArg Array.size q.1.symm)) rfl own_pd1 rfl rfl rfl (by decide) (Nat.le_of_ble_eq_true rfl) (by decide) (by decide) ?_
  rintro v5 T h_ X ⟨eh_, rfl⟩
  rw [eh_] at X
  show own_Ends p e below _ (T.setTop (mkF m 8 #[.val (.long sec), .second, .val (.long adj), .second, .unset, .unset, .unset] [(.long 0), (.long sec)]))
  refine own_callS X 11 [(.long sec), (.long 0)] [] own_d3_8 rfl (hw _ (List.mem_of_getElem? (i := 20) rfl)) (hw _ (List.mem_of_getElem? (i := 21) rfl)) (hw _ (List.mem_of_getElem? (i := 18) rfl)) (hw _ (List.mem_of_getElem? (i := 22) rfl)) (by decide) (own_addx l Z a0 hw sec 0 h0 n0 X.sz (by have r := rng64 sec; rw [own_L0]; exact ⟨by omega, by omega⟩)) (fun _ _ q => Nat.le_of_eq (congrArg Array.size q.1.symm)) rfl own_pd1 rfl rfl rfl (by decide) (Nat.le_of_ble_eq_true rfl) (by decide) (by decide) ?_
  rintro v8 T h_ X ⟨eh_, rfl⟩
  rw [eh_] at X
  show own_Ends p e below _ (T.setTop (mkF m 11 #[.val (.long sec), .second, .val (.long adj), .second, .unset, .unset, .unset] [(.long (sec + 0))]))
  rw [show sec + (0 : Int64) = sec from Int64.add_zero sec]
  refine own_lstore X 13 #[.val (.long sec), .second, .val (.long adj), .second, .val (.long sec), .second, .unset] own_d3_11 rfl rfl ?_
  refine own_lloadN X 14 adj own_d3_13 rfl rfl ?_
  refine own_ldc2J X 17 own_d3_14 rfl (hw _ (List.mem_of_getElem? (i := 15) rfl)) ?_
  refine own_callS X 20 [(.long adj), (.long (1000000000 : Int64))] [] own_d3_17 rfl (hw _ (List.mem_of_getElem? (i := 23) rfl)) (hw _ (List.mem_of_getElem? (i := 24) rfl)) (hw _ (List.mem_of_getElem? (i := 18) rfl)) (hw _ (List.mem_of_getElem? (i := 25) rfl)) (by decide) (own_fmod l Z a0 hw adj (1000000000 : Int64) h0 n0 X.sz ha0 (by rw [own_L3]; exact ha1)) (fun _ _ q => Nat.le_of_eq (congrArg Array.size q.1.symm)) rfl own_pd1 rfl rfl rfl (by decide) (Nat.le_of_ble_eq_true rfl) (by decide) (by decide) ?_
  rintro v17 T h_ X ⟨eh_, rfl⟩
  rw [eh_] at X
  show own_Ends p e below _ (T.setTop (mkF m 20 #[.val (.long sec), .second, .val (.long adj), .second, .val (.long sec), .second, .unset] [(.long adj)]))
  refine own_l2i X 21 own_d3_20 rfl ?_
  refine own_istore X 23 #[.val (.long sec), .second, .val (.long adj), .second, .val (.long sec), .second, .val (.int adj.toInt32)] own_d3_21 rfl rfl ?_
  refine own_lload X 25 sec own_d3_23 rfl rfl ?_
  refine own_iload X 27 adj.toInt32 own_d3_25 rfl rfl ?_
  refine own_callS X 30 [(.long sec), (.int adj.toInt32)] [] own_d3_27 rfl (hw _ (List.mem_of_getElem? (i := 26) rfl)) (hw _ (List.mem_of_getElem? (i := 27) rfl)) (hw _ (List.mem_of_getElem? (i := 13) rfl)) (hw _ (List.mem_of_getElem? (i := 28) rfl)) (by decide) (own_create l Z a0 hw sec adj.toInt32 za h0 n0 X.sz OL z_Z z_EZ z_SZ z_NZ) (fun _ _ q => q.1.1) rfl own_pd2 rfl rfl rfl (by decide) (Nat.le_of_ble_eq_true rfl) (by decide) (by decide) ?_
  rintro v27 T h2 X ⟨K_, d1, rfl, E_d1, F_seconds_d1, F_nanos_d1⟩
  have zs_h2 : h0.size ≤ h2.size := K_.1
  have OL := OL.keep K_ all0
  have K0 := K0.trans K_ all0
  show own_Ends p e below _ (T.setTop (mkF m 30 #[.val (.long sec), .second, .val (.long adj), .second, .val (.long sec), .second, .val (.int adj.toInt32)] [(.ref d1)]))
  exact own_retA X (.object "java/time/Duration") own_d3_30 rfl rfl rfl rfl (by decide) (by decide) (⟨K0, d1, rfl, E_d1, F_seconds_d1, F_nanos_d1⟩)
theorem own_d11_0 : decode jdk_31_method_11_code 0 = .ok (.aload_n 0, 1) := by decide +kernel
theorem own_d11_1 : decode jdk_31_method_11_code 1 = .ok (.ifnonnull 12, 3) := by decide +kernel
theorem own_d11_13 : decode jdk_31_method_11_code 13 = .ok (.aload_n 0, 1) := by decide +kernel
theorem own_d11_14 : decode jdk_31_method_11_code 14 = .ok (.areturn, 1) := by decide +kernel
theorem own_pn11 : plainFor (⟨"java/util/Objects", "requireNonNull", "(Ljava/lang/Object;Ljava/lang/String;)Ljava/lang/Object;"⟩ : MethodName) = true := plainFor_of_name (by first | (simp [plainName, overriddenIn]; done) | decide +kernel)
set_option maxRecDepth 65536 in
set_option maxHeartbeats 40000000 in
theorem own_rnn (l : Launch) (Z : State) (a0 : Array Value) (hw : ∀ d ∈ tables_1, d.before a0 Z = true) (a : Addr) (b : Addr) (h0 : Heap) (n0 : Nat) (hs0 : n0 ≤ h0.size) :
    own_Met l (⟨"java/util/Objects", "requireNonNull", "(Ljava/lang/Object;Ljava/lang/String;)Ljava/lang/Object;"⟩ : MethodName) jdk_31_method_11_code 2 (some (.object "java/lang/Object")) ({ frames := 0, cells := 0, slots := 0, locals := 0 } : Room) Z #[(.ref a), (.ref b)] h0 n0 (fun v h' => h' = h0 ∧ v = some (.ref a)) := by
  refine own_met (Ls := #[.val (.ref a), .val (.ref b)]) own_pn11 hs0 (fun m => by first | (simp [entryFrame, mkF, argsToLocals, Value.category]; done) | rfl) ?_
  intro p e s m below meth c T X
  refine own_aloadN X 1 (.ref a) own_d11_0 rfl rfl rfl ?_
  refine own_nonnullY X 13 own_d11_1 (by decide) (by decide) ?_
  refine own_aloadN X 14 (.ref a) own_d11_13 rfl rfl rfl ?_
  exact own_retA X (.object "java/lang/Object") own_d11_14 rfl rfl rfl rfl (by decide) (by decide) (⟨rfl, rfl⟩)
theorem own_d12_0 : decode jdk_2316_method_22_code 0 = .ok (.aload_n 0, 1) := by decide +kernel
theorem own_d12_1 : decode jdk_2316_method_22_code 1 = .ok (.getfield 221, 3) := by decide +kernel
theorem own_d12_4 : decode jdk_2316_method_22_code 4 = .ok (.lconst 0, 1) := by decide +kernel
theorem own_d12_5 : decode jdk_2316_method_22_code 5 = .ok (.lcmp, 1) := by decide +kernel
theorem own_d12_6 : decode jdk_2316_method_22_code 6 = .ok (.ifCond .ge 7, 3) := by decide +kernel
theorem own_d12_9 : decode jdk_2316_method_22_code 9 = .ok (.iconst 1, 1) := by decide +kernel
theorem own_d12_10 : decode jdk_2316_method_22_code 10 = .ok (.goto 4, 3) := by decide +kernel
theorem own_d12_14 : decode jdk_2316_method_22_code 14 = .ok (.ireturn, 1) := by decide +kernel
theorem own_d12_13 : decode jdk_2316_method_22_code 13 = .ok (.iconst 0, 1) := by decide +kernel
theorem own_pn12 : plainFor (⟨"java/time/Duration", "isNegative", "()Z"⟩ : MethodName) = true := plainFor_of_name (by first | (simp [plainName, overriddenIn]; done) | decide +kernel)
set_option maxRecDepth 65536 in
set_option maxHeartbeats 40000000 in
theorem own_isn (l : Launch) (Z : State) (a0 : Array Value) (hw : ∀ d ∈ tables_1, d.before a0 Z = true) (a : Addr) (sec : Int64) (nan : Int32) (h0 : Heap) (n0 : Nat) (hs0 : n0 ≤ h0.size) (Fs : Fld Z h0 a "java/time/Duration" "seconds" "J" (.long sec)) (Fn : Fld Z h0 a "java/time/Duration" "nanos" "I" (.int nan)) :
    own_Met l (⟨"java/time/Duration", "isNegative", "()Z"⟩ : MethodName) jdk_2316_method_22_code 1 (some .boolean) ({ frames := 0, cells := 0, slots := 0, locals := 0 } : Room) Z #[(.ref a)] h0 n0 (fun v h' => h' = h0 ∧ v = some (.int (own_neg sec))) := by
  refine own_met (Ls := #[.val (.ref a)]) own_pn12 hs0 (fun m => by first | (simp [entryFrame, mkF, argsToLocals, Value.category]; done) | rfl) ?_
  intro p e s m below meth c T X
  have hi_a : h0.size > a := Fs.lt
  refine own_aloadN X 1 (.ref a) own_d12_0 rfl rfl rfl ?_
  refine own_getF X 4 own_d12_1 rfl (hw _ (List.mem_of_getElem? (i := 38) rfl)) Via.refl Fs ?_
  intro T X
  refine own_lconst X 5 (0 : Int64) own_d12_4 rfl (by decide) ?_
  refine own_lcmp X 6 own_d12_5 rfl ?_
  by_cases hc6 : sec < (0 : Int64)
  · refine own_ifN X 9 own_d12_6 rfl (XT.ll_ge_f hc6) ?_
    refine own_iconst X 10 (1 : Int32) own_d12_9 rfl rfl ?_
    refine own_goto X 14 own_d12_10 (by decide) (by decide) ?_
    exact own_retN X .boolean own_d12_14 rfl (by simp) (by decide) (by decide) (⟨rfl, by simp [own_neg, nar, *]⟩)
  · refine own_ifY X 13 own_d12_6 (by decide) (by decide) (XT.ll_ge_t hc6) ?_
    refine own_iconst X 14 (0 : Int32) own_d12_13 rfl rfl ?_
    exact own_retN X .boolean own_d12_14 rfl (by simp) (by decide) (by decide) (⟨rfl, by simp [own_neg, nar, *]⟩)
theorem own_d15_0 : decode jdk_35_method_42_code 0 = .ok (.lload_n 0, 1) := by decide +kernel
theorem own_d15_1 : decode jdk_35_method_42_code 1 = .ok (.lload_n 2, 1) := by decide +kernel
theorem own_d15_2 : decode jdk_35_method_42_code 2 = .ok (.lcmp, 1) := by decide +kernel
theorem own_d15_3 : decode jdk_35_method_42_code 3 = .ok (.ifCond .ge 7, 3) := by decide +kernel
theorem own_d15_6 : decode jdk_35_method_42_code 6 = .ok (.iconst (-1), 1) := by decide +kernel
theorem own_d15_7 : decode jdk_35_method_42_code 7 = .ok (.goto 14, 3) := by decide +kernel
theorem own_d15_21 : decode jdk_35_method_42_code 21 = .ok (.ireturn, 1) := by decide +kernel
theorem own_d15_10 : decode jdk_35_method_42_code 10 = .ok (.lload_n 0, 1) := by decide +kernel
theorem own_d15_11 : decode jdk_35_method_42_code 11 = .ok (.lload_n 2, 1) := by decide +kernel
theorem own_d15_12 : decode jdk_35_method_42_code 12 = .ok (.lcmp, 1) := by decide +kernel
theorem own_d15_13 : decode jdk_35_method_42_code 13 = .ok (.ifCond .ne 7, 3) := by decide +kernel
theorem own_d15_16 : decode jdk_35_method_42_code 16 = .ok (.iconst 0, 1) := by decide +kernel
theorem own_d15_17 : decode jdk_35_method_42_code 17 = .ok (.goto 4, 3) := by decide +kernel
theorem own_d15_20 : decode jdk_35_method_42_code 20 = .ok (.iconst 1, 1) := by decide +kernel
theorem own_pn15 : plainFor (⟨"java/lang/Long", "compare", "(JJ)I"⟩ : MethodName) = true := plainFor_of_name (by first | (simp [plainName, overriddenIn]; done) | decide +kernel)
set_option maxRecDepth 65536 in
set_option maxHeartbeats 40000000 in
theorem own_lcomp (l : Launch) (Z : State) (a0 : Array Value) (hw : ∀ d ∈ tables_1, d.before a0 Z = true) (x : Int64) (y : Int64) (h0 : Heap) (n0 : Nat) (hs0 : n0 ≤ h0.size) :
    own_Met l (⟨"java/lang/Long", "compare", "(JJ)I"⟩ : MethodName) jdk_35_method_42_code 4 (some .int) ({ frames := 0, cells := 0, slots := 0, locals := 0 } : Room) Z #[(.long x), (.long y)] h0 n0 (fun v h' => h' = h0 ∧ v = some (.int (own_cl x y))) := by
  refine own_met (Ls := #[.val (.long x), .second, .val (.long y), .second]) own_pn15 hs0 (fun m => by first | (simp [entryFrame, mkF, argsToLocals, Value.category]; done) | rfl) ?_
  intro p e s m below meth c T X
  refine own_lloadN X 1 x own_d15_0 rfl rfl ?_
  refine own_lloadN X 2 y own_d15_1 rfl rfl ?_
  refine own_lcmp X 3 own_d15_2 rfl ?_
  by_cases hc3 : x < y
  · refine own_ifN X 6 own_d15_3 rfl (XT.ll_ge_f hc3) ?_
    refine own_iconst X 7 (-1 : Int32) own_d15_6 rfl rfl ?_
    refine own_goto X 21 own_d15_7 (by decide) (by decide) ?_
    exact own_retI X own_d15_21 rfl (by decide) (by decide) (⟨rfl, by simp [own_cl, *]⟩)
  · refine own_ifY X 10 own_d15_3 (by decide) (by decide) (XT.ll_ge_t hc3) ?_
    refine own_lloadN X 11 x own_d15_10 rfl rfl ?_
    refine own_lloadN X 12 y own_d15_11 rfl rfl ?_
    refine own_lcmp X 13 own_d15_12 rfl ?_
    by_cases hc13 : x = y
    · refine own_ifN X 16 own_d15_13 rfl (XT.ll_ne_f hc13) ?_
      refine own_iconst X 17 (0 : Int32) own_d15_16 rfl rfl ?_
      refine own_goto X 21 own_d15_17 (by decide) (by decide) ?_
      exact own_retI X own_d15_21 rfl (by decide) (by decide) (⟨rfl, by simp [own_cl, *]⟩)
    · refine own_ifY X 20 own_d15_13 (by decide) (by decide) (XT.ll_ne_t hc13) ?_
      refine own_iconst X 21 (1 : Int32) own_d15_20 rfl rfl ?_
      exact own_retI X own_d15_21 rfl (by decide) (by decide) (⟨rfl, by simp [own_cl, *]⟩)
theorem own_d14_0 : decode jdk_2316_method_66_code 0 = .ok (.aload_n 0, 1) := by decide +kernel
theorem own_d14_1 : decode jdk_2316_method_66_code 1 = .ok (.getfield 221, 3) := by decide +kernel
theorem own_d14_4 : decode jdk_2316_method_66_code 4 = .ok (.aload_n 1, 1) := by decide +kernel
theorem own_d14_5 : decode jdk_2316_method_66_code 5 = .ok (.getfield 221, 3) := by decide +kernel
theorem own_d14_8 : decode jdk_2316_method_66_code 8 = .ok (.invokestatic 416, 3) := by decide +kernel
theorem own_pd3 : parseMethodDescriptor "(JJ)I" = some ⟨[.long, .long], some .int⟩ := by decide +kernel
theorem own_d14_11 : decode jdk_2316_method_66_code 11 = .ok (.istore_n 2, 1) := by decide +kernel
theorem own_d14_12 : decode jdk_2316_method_66_code 12 = .ok (.iload_n 2, 1) := by decide +kernel
theorem own_d14_13 : decode jdk_2316_method_66_code 13 = .ok (.ifCond .eq 5, 3) := by decide +kernel
theorem own_d14_18 : decode jdk_2316_method_66_code 18 = .ok (.aload_n 0, 1) := by decide +kernel
theorem own_d14_19 : decode jdk_2316_method_66_code 19 = .ok (.getfield 224, 3) := by decide +kernel
theorem own_d14_22 : decode jdk_2316_method_66_code 22 = .ok (.aload_n 1, 1) := by decide +kernel
theorem own_d14_23 : decode jdk_2316_method_66_code 23 = .ok (.getfield 224, 3) := by decide +kernel
theorem own_d14_26 : decode jdk_2316_method_66_code 26 = .ok (.isub, 1) := by decide +kernel
theorem own_d14_27 : decode jdk_2316_method_66_code 27 = .ok (.ireturn, 1) := by decide +kernel
theorem own_d14_16 : decode jdk_2316_method_66_code 16 = .ok (.iload_n 2, 1) := by decide +kernel
theorem own_d14_17 : decode jdk_2316_method_66_code 17 = .ok (.ireturn, 1) := by decide +kernel
theorem own_pn14 : plainFor (⟨"java/time/Duration", "compareTo", "(Ljava/time/Duration;)I"⟩ : MethodName) = true := plainFor_of_name (by first | (simp [plainName, overriddenIn]; done) | decide +kernel)
set_option maxRecDepth 65536 in
set_option maxHeartbeats 40000000 in
theorem own_cto (l : Launch) (Z : State) (a0 : Array Value) (hw : ∀ d ∈ tables_1, d.before a0 Z = true) (a : Addr) (b : Addr) (sec : Int64) (nan : Int32) (h0 : Heap) (n0 : Nat) (hs0 : n0 ≤ h0.size) (Fs : Fld Z h0 a "java/time/Duration" "seconds" "J" (.long sec)) (Fn : Fld Z h0 a "java/time/Duration" "nanos" "I" (.int nan)) (Fs2 : Fld Z h0 b "java/time/Duration" "seconds" "J" (.long 9223372036)) (Fn2 : Fld Z h0 b "java/time/Duration" "nanos" "I" (.int 854775807)) :
    own_Met l (⟨"java/time/Duration", "compareTo", "(Ljava/time/Duration;)I"⟩ : MethodName) jdk_2316_method_66_code 3 (some .int) ({ frames := 1, cells := 0, slots := 0, locals := 15 } : Room) Z #[(.ref a), (.ref b)] h0 n0 (fun v h' => h' = h0 ∧ v = some (.int (own_cd sec nan))) := by
  refine own_met (Ls := #[.val (.ref a), .val (.ref b), .unset]) own_pn14 hs0 (fun m => by first | (simp [entryFrame, mkF, argsToLocals, Value.category]; done) | rfl) ?_
  intro p e s m below meth c T X
  have hi_a : h0.size > a := Fs.lt
  have hi_b : h0.size > b := Fs2.lt
  refine own_aloadN X 1 (.ref a) own_d14_0 rfl rfl rfl ?_
  refine own_getF X 4 own_d14_1 rfl (hw _ (List.mem_of_getElem? (i := 38) rfl)) Via.refl Fs ?_
  intro T X
  refine own_aloadN X 5 (.ref b) own_d14_4 rfl rfl rfl ?_
  refine own_getF X 8 own_d14_5 rfl (hw _ (List.mem_of_getElem? (i := 38) rfl)) Via.refl Fs2 ?_
  intro T X
  refine own_callS X 11 [(.long sec), (.long 9223372036)] [] own_d14_8 rfl (hw _ (List.mem_of_getElem? (i := 73) rfl)) (hw _ (List.mem_of_getElem? (i := 74) rfl)) (hw _ (List.mem_of_getElem? (i := 75) rfl)) (hw _ (List.mem_of_getElem? (i := 76) rfl)) (by decide) (own_lcomp l Z a0 hw sec 9223372036 h0 n0 X.sz) (fun _ _ q => Nat.le_of_eq (congrArg Array.size q.1.symm)) rfl own_pd3 rfl rfl rfl (by decide) (Nat.le_of_ble_eq_true rfl) (by decide) (by decide) ?_
  rintro v8 T h_ X ⟨eh_, rfl⟩
  rw [eh_] at X
  show own_Ends p e below _ (T.setTop (mkF m 11 #[.val (.ref a), .val (.ref b), .unset] [(.int (own_cl sec 9223372036))]))
  refine own_istoreN X 12 #[.val (.ref a), .val (.ref b), .val (.int (own_cl sec 9223372036))] own_d14_11 rfl rfl ?_
  refine own_iloadN X 13 (own_cl sec 9223372036) own_d14_12 rfl rfl ?_
  by_cases hc13 : (own_cl sec 9223372036) = (0 : Int32)
  · refine own_ifY X 18 own_d14_13 (by decide) (by decide) (XT.i0_eq_t hc13) ?_
    refine own_aloadN X 19 (.ref a) own_d14_18 rfl rfl rfl ?_
    refine own_getF X 22 own_d14_19 rfl (hw _ (List.mem_of_getElem? (i := 40) rfl)) Via.refl Fn ?_
    intro T X
    refine own_aloadN X 23 (.ref b) own_d14_22 rfl rfl rfl ?_
    refine own_getF X 26 own_d14_23 rfl (hw _ (List.mem_of_getElem? (i := 40) rfl)) Via.refl Fn2 ?_
    intro T X
    refine own_isub X 27 own_d14_26 rfl ?_
    exact own_retI X own_d14_27 rfl (by decide) (by decide) (⟨rfl, by simp [own_cd, hc13]⟩)
  · refine own_ifN X 16 own_d14_13 rfl (XT.i0_eq_f hc13) ?_
    refine own_iloadN X 17 (own_cl sec 9223372036) own_d14_16 rfl rfl ?_
    exact own_retI X own_d14_17 rfl (by decide) (by decide) (⟨rfl, by simp [own_cd, hc13]⟩)
theorem own_d18_0 : decode jdk_29_method_61_code 0 = .ok (.lload_n 0, 1) := by decide +kernel
theorem own_d18_1 : decode jdk_29_method_61_code 1 = .ok (.lconst 0, 1) := by decide +kernel
theorem own_d18_2 : decode jdk_29_method_61_code 2 = .ok (.lcmp, 1) := by decide +kernel
theorem own_d18_3 : decode jdk_29_method_61_code 3 = .ok (.ifCond .ge 8, 3) := by decide +kernel
theorem own_d18_11 : decode jdk_29_method_61_code 11 = .ok (.lload_n 0, 1) := by decide +kernel
theorem own_d18_12 : decode jdk_29_method_61_code 12 = .ok (.lreturn, 1) := by decide +kernel
theorem own_pn18 : plainFor (⟨"java/lang/Math", "abs", "(J)J"⟩ : MethodName) = true := Jvm.Free.JP.mathPlain rfl (by decide +kernel)
set_option maxRecDepth 65536 in
set_option maxHeartbeats 40000000 in
theorem own_abs (l : Launch) (Z : State) (a0 : Array Value) (hw : ∀ d ∈ tables_1, d.before a0 Z = true) (x : Int64) (h0 : Heap) (n0 : Nat) (hs0 : n0 ≤ h0.size) (hx : ¬ x < 0) :
    own_Met l (⟨"java/lang/Math", "abs", "(J)J"⟩ : MethodName) jdk_29_method_61_code 2 (some .long) ({ frames := 0, cells := 0, slots := 0, locals := 0 } : Room) Z #[(.long x)] h0 n0 (fun v h' => h' = h0 ∧ v = some (.long x)) := by
  refine own_met (Ls := #[.val (.long x), .second]) own_pn18 hs0 (fun m => by first | (simp [entryFrame, mkF, argsToLocals, Value.category]; done) | rfl) ?_
  intro p e s m below meth c T X
  refine own_lloadN X 1 x own_d18_0 rfl rfl ?_
  refine own_lconst X 2 (0 : Int64) own_d18_1 rfl (by decide) ?_
  refine own_lcmp X 3 own_d18_2 rfl ?_
  refine own_ifY X 11 own_d18_3 (by decide) (by decide) (XT.ll_ge_t hx) ?_
  refine own_lloadN X 12 x own_d18_11 rfl rfl ?_
  exact own_retJ X own_d18_12 rfl (by decide) (by decide) (⟨rfl, rfl⟩)
theorem own_d17_0 : decode jdk_29_method_30_code 0 = .ok (.lload_n 0, 1) := by decide +kernel
theorem own_d17_1 : decode jdk_29_method_30_code 1 = .ok (.lload_n 2, 1) := by decide +kernel
theorem own_d17_2 : decode jdk_29_method_30_code 2 = .ok (.lmul, 1) := by decide +kernel
theorem own_d17_3 : decode jdk_29_method_30_code 3 = .ok (.lstore 4, 2) := by decide +kernel
theorem own_d17_5 : decode jdk_29_method_30_code 5 = .ok (.lload_n 0, 1) := by decide +kernel
theorem own_d17_6 : decode jdk_29_method_30_code 6 = .ok (.invokestatic 122, 3) := by decide +kernel
theorem own_pd4 : parseMethodDescriptor "(J)J" = some ⟨[.long], some .long⟩ := by decide +kernel
theorem own_d17_9 : decode jdk_29_method_30_code 9 = .ok (.lstore 6, 2) := by decide +kernel
theorem own_d17_11 : decode jdk_29_method_30_code 11 = .ok (.lload_n 2, 1) := by decide +kernel
theorem own_d17_12 : decode jdk_29_method_30_code 12 = .ok (.invokestatic 122, 3) := by decide +kernel
theorem own_d17_15 : decode jdk_29_method_30_code 15 = .ok (.lstore 8, 2) := by decide +kernel
theorem own_d17_17 : decode jdk_29_method_30_code 17 = .ok (.lload 6, 2) := by decide +kernel
theorem own_d17_19 : decode jdk_29_method_30_code 19 = .ok (.lload 8, 2) := by decide +kernel
theorem own_d17_21 : decode jdk_29_method_30_code 21 = .ok (.lor, 1) := by decide +kernel
theorem own_d17_22 : decode jdk_29_method_30_code 22 = .ok (.bipush 31, 2) := by decide +kernel
theorem own_d17_24 : decode jdk_29_method_30_code 24 = .ok (.lushr, 1) := by decide +kernel
theorem own_d17_25 : decode jdk_29_method_30_code 25 = .ok (.lconst 0, 1) := by decide +kernel
theorem own_d17_26 : decode jdk_29_method_30_code 26 = .ok (.lcmp, 1) := by decide +kernel
theorem own_d17_27 : decode jdk_29_method_30_code 27 = .ok (.ifCond .eq 44, 3) := by decide +kernel
theorem own_d17_71 : decode jdk_29_method_30_code 71 = .ok (.lload 4, 2) := by decide +kernel
theorem own_d17_73 : decode jdk_29_method_30_code 73 = .ok (.lreturn, 1) := by decide +kernel
theorem own_d17_30 : decode jdk_29_method_30_code 30 = .ok (.lload_n 2, 1) := by decide +kernel
theorem own_d17_31 : decode jdk_29_method_30_code 31 = .ok (.lconst 0, 1) := by decide +kernel
theorem own_d17_32 : decode jdk_29_method_30_code 32 = .ok (.lcmp, 1) := by decide +kernel
theorem own_d17_33 : decode jdk_29_method_30_code 33 = .ok (.ifCond .eq 12, 3) := by decide +kernel
theorem own_d17_36 : decode jdk_29_method_30_code 36 = .ok (.lload 4, 2) := by decide +kernel
theorem own_d17_38 : decode jdk_29_method_30_code 38 = .ok (.lload_n 2, 1) := by decide +kernel
theorem own_d17_39 : decode jdk_29_method_30_code 39 = .ok (.ldiv, 1) := by decide +kernel
theorem own_d17_40 : decode jdk_29_method_30_code 40 = .ok (.lload_n 0, 1) := by decide +kernel
theorem own_d17_41 : decode jdk_29_method_30_code 41 = .ok (.lcmp, 1) := by decide +kernel
theorem own_d17_42 : decode jdk_29_method_30_code 42 = .ok (.ifCond .ne 19, 3) := by decide +kernel
theorem own_d17_45 : decode jdk_29_method_30_code 45 = .ok (.lload_n 0, 1) := by decide +kernel
theorem own_d17_46 : decode jdk_29_method_30_code 46 = .ok (.ldc2_w 128, 3) := by decide +kernel
theorem own_d17_49 : decode jdk_29_method_30_code 49 = .ok (.lcmp, 1) := by decide +kernel
theorem own_d17_50 : decode jdk_29_method_30_code 50 = .ok (.ifCond .ne 21, 3) := by decide +kernel
theorem own_pn17 : plainFor (⟨"java/lang/Math", "multiplyExact", "(JJ)J"⟩ : MethodName) = true := Jvm.Free.JP.mathPlain rfl (by decide +kernel)
set_option maxRecDepth 65536 in
set_option maxHeartbeats 40000000 in
theorem own_mulx (l : Launch) (Z : State) (a0 : Array Value) (hw : ∀ d ∈ tables_1, d.before a0 Z = true) (x : Int64) (y : Int64) (h0 : Heap) (n0 : Nat) (hs0 : n0 ≤ h0.size) (hx : ¬ x < 0) (hy : ¬ y < 0) (hy0 : ¬ y = 0) (hf : XT.fits64 (x.toInt * y.toInt)) :
    own_Met l (⟨"java/lang/Math", "multiplyExact", "(JJ)J"⟩ : MethodName) jdk_29_method_30_code 10 (some .long) ({ frames := 1, cells := 0, slots := 0, locals := 13 } : Room) Z #[(.long x), (.long y)] h0 n0 (fun v h' => h' = h0 ∧ v = some (.long (x * y))) := by
  refine own_met (Ls := #[.val (.long x), .second, .val (.long y), .second, .unset, .unset, .unset, .unset, .unset, .unset]) own_pn17 hs0 (fun m => by first | (simp [entryFrame, mkF, argsToLocals, Value.category]; done) | rfl) ?_
  intro p e s m below meth c T X
  refine own_lloadN X 1 x own_d17_0 rfl rfl ?_
  refine own_lloadN X 2 y own_d17_1 rfl rfl ?_
  refine own_lmul X 3 own_d17_2 rfl ?_
  refine own_lstore X 5 #[.val (.long x), .second, .val (.long y), .second, .val (.long (x * y)), .second, .unset, .unset, .unset, .unset] own_d17_3 rfl rfl ?_
  refine own_lloadN X 6 x own_d17_5 rfl rfl ?_
  refine own_callS X 9 [(.long x)] [] own_d17_6 rfl (hw _ (List.mem_of_getElem? (i := 85) rfl)) (hw _ (List.mem_of_getElem? (i := 86) rfl)) (hw _ (List.mem_of_getElem? (i := 18) rfl)) (hw _ (List.mem_of_getElem? (i := 87) rfl)) (by decide) (own_abs l Z a0 hw x h0 n0 X.sz hx) (fun _ _ q => Nat.le_of_eq (congrArg Array.size q.1.symm)) rfl own_pd4 rfl rfl rfl (by decide) (Nat.le_of_ble_eq_true rfl) (by decide) (by decide) ?_
  rintro v6 T h_ X ⟨eh_, rfl⟩
  rw [eh_] at X
  show own_Ends p e below _ (T.setTop (mkF m 9 #[.val (.long x), .second, .val (.long y), .second, .val (.long (x * y)), .second, .unset, .unset, .unset, .unset] [(.long x)]))
  refine own_lstore X 11 #[.val (.long x), .second, .val (.long y), .second, .val (.long (x * y)), .second, .val (.long x), .second, .unset, .unset] own_d17_9 rfl rfl ?_
  refine own_lloadN X 12 y own_d17_11 rfl rfl ?_
  refine own_callS X 15 [(.long y)] [] own_d17_12 rfl (hw _ (List.mem_of_getElem? (i := 85) rfl)) (hw _ (List.mem_of_getElem? (i := 86) rfl)) (hw _ (List.mem_of_getElem? (i := 18) rfl)) (hw _ (List.mem_of_getElem? (i := 87) rfl)) (by decide) (own_abs l Z a0 hw y h0 n0 X.sz hy) (fun _ _ q => Nat.le_of_eq (congrArg Array.size q.1.symm)) rfl own_pd4 rfl rfl rfl (by decide) (Nat.le_of_ble_eq_true rfl) (by decide) (by decide) ?_
  rintro v12 T h_ X ⟨eh_, rfl⟩
  rw [eh_] at X
  show own_Ends p e below _ (T.setTop (mkF m 15 #[.val (.long x), .second, .val (.long y), .second, .val (.long (x * y)), .second, .val (.long x), .second, .unset, .unset] [(.long y)]))
  refine own_lstore X 17 #[.val (.long x), .second, .val (.long y), .second, .val (.long (x * y)), .second, .val (.long x), .second, .val (.long y), .second] own_d17_15 rfl rfl ?_
  refine own_lload X 19 x own_d17_17 rfl rfl ?_
  refine own_lload X 21 y own_d17_19 rfl rfl ?_
  refine own_lor X 22 own_d17_21 rfl ?_
  refine own_bipush X 24 (31 : Int32) own_d17_22 rfl (by decide) ?_
  refine own_lushr X 25 own_d17_24 rfl ?_
  refine own_lconst X 26 (0 : Int64) own_d17_25 rfl (by decide) ?_
  refine own_lcmp X 27 own_d17_26 rfl ?_
  by_cases hc27 : (XT.ushrL (x ||| y) (31 : Int32)) = (0 : Int64)
  · refine own_ifY X 71 own_d17_27 (by decide) (by decide) (XT.ll_eq_t hc27) ?_
    refine own_lload X 73 (x * y) own_d17_71 rfl rfl ?_
    exact own_retJ X own_d17_73 rfl (by decide) (by decide) (⟨rfl, rfl⟩)
  · refine own_ifN X 30 own_d17_27 rfl (XT.ll_eq_f hc27) ?_
    refine own_lloadN X 31 y own_d17_30 rfl rfl ?_
    refine own_lconst X 32 (0 : Int64) own_d17_31 rfl (by decide) ?_
    refine own_lcmp X 33 own_d17_32 rfl ?_
    refine own_ifN X 36 own_d17_33 rfl (XT.ll_eq_f hy0) ?_
    refine own_lload X 38 (x * y) own_d17_36 rfl rfl ?_
    refine own_lloadN X 39 y own_d17_38 rfl rfl ?_
    refine own_ldiv X 40 own_d17_39 rfl hy0 ?_
    refine own_lloadN X 41 x own_d17_40 rfl rfl ?_
    refine own_lcmp X 42 own_d17_41 rfl ?_
    refine own_ifN X 45 own_d17_42 rfl (XT.ll_ne_f (XT.mulDiv64 hf hy0)) ?_
    refine own_lloadN X 46 x own_d17_45 rfl rfl ?_
    refine own_ldc2J X 49 own_d17_46 rfl (hw _ (List.mem_of_getElem? (i := 100) rfl)) ?_
    refine own_lcmp X 50 own_d17_49 rfl ?_
    refine own_ifY X 71 own_d17_50 (by decide) (by decide) (XT.ll_ne_t (fun q => hx (by rw [q]; decide))) ?_
    refine own_lload X 73 (x * y) own_d17_71 rfl rfl ?_
    exact own_retJ X own_d17_73 rfl (by decide) (by decide) (⟨rfl, rfl⟩)
theorem own_d16_0 : decode jdk_2316_method_58_code 0 = .ok (.aload_n 0, 1) := by decide +kernel
theorem own_d16_1 : decode jdk_2316_method_58_code 1 = .ok (.getfield 221, 3) := by decide +kernel
theorem own_d16_4 : decode jdk_2316_method_58_code 4 = .ok (.lstore_n 1, 1) := by decide +kernel
theorem own_d16_5 : decode jdk_2316_method_58_code 5 = .ok (.aload_n 0, 1) := by decide +kernel
theorem own_d16_6 : decode jdk_2316_method_58_code 6 = .ok (.getfield 224, 3) := by decide +kernel
theorem own_d16_9 : decode jdk_2316_method_58_code 9 = .ok (.i2l, 1) := by decide +kernel
theorem own_d16_10 : decode jdk_2316_method_58_code 10 = .ok (.lstore_n 3, 1) := by decide +kernel
theorem own_d16_11 : decode jdk_2316_method_58_code 11 = .ok (.lload_n 1, 1) := by decide +kernel
theorem own_d16_12 : decode jdk_2316_method_58_code 12 = .ok (.lconst 0, 1) := by decide +kernel
theorem own_d16_13 : decode jdk_2316_method_58_code 13 = .ok (.lcmp, 1) := by decide +kernel
theorem own_d16_14 : decode jdk_2316_method_58_code 14 = .ok (.ifCond .ge 13, 3) := by decide +kernel
theorem own_d16_27 : decode jdk_2316_method_58_code 27 = .ok (.lload_n 1, 1) := by decide +kernel
theorem own_d16_28 : decode jdk_2316_method_58_code 28 = .ok (.ldc2_w 16, 3) := by decide +kernel
theorem own_d16_31 : decode jdk_2316_method_58_code 31 = .ok (.invokestatic 289, 3) := by decide +kernel
theorem own_d16_34 : decode jdk_2316_method_58_code 34 = .ok (.lstore 5, 2) := by decide +kernel
theorem own_d16_36 : decode jdk_2316_method_58_code 36 = .ok (.lload 5, 2) := by decide +kernel
theorem own_d16_38 : decode jdk_2316_method_58_code 38 = .ok (.lload_n 3, 1) := by decide +kernel
theorem own_d16_39 : decode jdk_2316_method_58_code 39 = .ok (.invokestatic 22, 3) := by decide +kernel
theorem own_d16_42 : decode jdk_2316_method_58_code 42 = .ok (.lstore 5, 2) := by decide +kernel
theorem own_d16_44 : decode jdk_2316_method_58_code 44 = .ok (.lload 5, 2) := by decide +kernel
theorem own_d16_46 : decode jdk_2316_method_58_code 46 = .ok (.lreturn, 1) := by decide +kernel
theorem own_pn16 : plainFor (⟨"java/time/Duration", "toNanos", "()J"⟩ : MethodName) = true := plainFor_of_name (by first | (simp [plainName, overriddenIn]; done) | decide +kernel)
set_option maxRecDepth 65536 in
set_option maxHeartbeats 40000000 in
theorem own_ton (l : Launch) (Z : State) (a0 : Array Value) (hw : ∀ d ∈ tables_1, d.before a0 Z = true) (a : Addr) (sec : Int64) (nan : Int32) (h0 : Heap) (n0 : Nat) (hs0 : n0 ≤ h0.size) (Fs : Fld Z h0 a "java/time/Duration" "seconds" "J" (.long sec)) (Fn : Fld Z h0 a "java/time/Duration" "nanos" "I" (.int nan)) (hs0_ : 0 ≤ sec.toInt) (hs1 : sec.toInt ≤ 9223372036) (hn0 : 0 ≤ nan.toInt) (hn1 : nan.toInt < 1000000000) (hlt : sec.toInt < 9223372036 ∨ nan.toInt < 854775807) :
    own_Met l (⟨"java/time/Duration", "toNanos", "()J"⟩ : MethodName) jdk_2316_method_58_code 7 (some .long) ({ frames := 2, cells := 0, slots := 0, locals := 34 } : Room) Z #[(.ref a)] h0 n0 (fun v h' => h' = h0 ∧ v = some (.long (sec * 1000000000 + nan.toInt64))) := by
  refine own_met (Ls := #[.val (.ref a), .unset, .unset, .unset, .unset, .unset, .unset]) own_pn16 hs0 (fun m => by first | (simp [entryFrame, mkF, argsToLocals, Value.category]; done) | rfl) ?_
  intro p e s m below meth c T X
  have mu : (sec * 1000000000).toInt = sec.toInt * 1000000000 := by rw [XT.mul64 (by rw [own_L3]; exact ⟨by omega, by omega⟩), own_L3]
  have hi_a : h0.size > a := Fs.lt
  refine own_aloadN X 1 (.ref a) own_d16_0 rfl rfl rfl ?_
  refine own_getF X 4 own_d16_1 rfl (hw _ (List.mem_of_getElem? (i := 38) rfl)) Via.refl Fs ?_
  intro T X
  refine own_lstoreN X 5 #[.val (.ref a), .val (.long sec), .second, .unset, .unset, .unset, .unset] own_d16_4 rfl rfl ?_
  refine own_aloadN X 6 (.ref a) own_d16_5 rfl rfl rfl ?_
  refine own_getF X 9 own_d16_6 rfl (hw _ (List.mem_of_getElem? (i := 40) rfl)) Via.refl Fn ?_
  intro T X
  refine own_i2l X 10 own_d16_9 rfl ?_
  refine own_lstoreN X 11 #[.val (.ref a), .val (.long sec), .second, .val (.long nan.toInt64), .second, .unset, .unset] own_d16_10 rfl rfl ?_
  refine own_lloadN X 12 sec own_d16_11 rfl rfl ?_
  refine own_lconst X 13 (0 : Int64) own_d16_12 rfl (by decide) ?_
  refine own_lcmp X 14 own_d16_13 rfl ?_
  refine own_ifY X 27 own_d16_14 (by decide) (by decide) (XT.ll_ge_t (own_nn64 hs0_)) ?_
  refine own_lloadN X 28 sec own_d16_27 rfl rfl ?_
  refine own_ldc2J X 31 own_d16_28 rfl (hw _ (List.mem_of_getElem? (i := 15) rfl)) ?_
  refine own_callS X 34 [(.long sec), (.long (1000000000 : Int64))] [] own_d16_31 rfl (hw _ (List.mem_of_getElem? (i := 82) rfl)) (hw _ (List.mem_of_getElem? (i := 83) rfl)) (hw _ (List.mem_of_getElem? (i := 18) rfl)) (hw _ (List.mem_of_getElem? (i := 84) rfl)) (by decide) (own_mulx l Z a0 hw sec (1000000000 : Int64) h0 n0 X.sz (own_nn64 hs0_) (by decide) (by decide) (by rw [own_L3]; exact ⟨by omega, by omega⟩)) (fun _ _ q => Nat.le_of_eq (congrArg Array.size q.1.symm)) rfl own_pd1 rfl rfl rfl (by decide) (Nat.le_of_ble_eq_true rfl) (by decide) (by decide) ?_
  rintro v31 T h_ X ⟨eh_, rfl⟩
  rw [eh_] at X
  show own_Ends p e below _ (T.setTop (mkF m 34 #[.val (.ref a), .val (.long sec), .second, .val (.long nan.toInt64), .second, .unset, .unset] [(.long (sec * (1000000000 : Int64)))]))
  refine own_lstore X 36 #[.val (.ref a), .val (.long sec), .second, .val (.long nan.toInt64), .second, .val (.long (sec * (1000000000 : Int64))), .second] own_d16_34 rfl rfl ?_
  refine own_lload X 38 (sec * (1000000000 : Int64)) own_d16_36 rfl rfl ?_
  refine own_lloadN X 39 nan.toInt64 own_d16_38 rfl rfl ?_
  refine own_callS X 42 [(.long (sec * (1000000000 : Int64))), (.long nan.toInt64)] [] own_d16_39 rfl (hw _ (List.mem_of_getElem? (i := 20) rfl)) (hw _ (List.mem_of_getElem? (i := 21) rfl)) (hw _ (List.mem_of_getElem? (i := 18) rfl)) (hw _ (List.mem_of_getElem? (i := 22) rfl)) (by decide) (own_addx l Z a0 hw (sec * (1000000000 : Int64)) nan.toInt64 h0 n0 X.sz (by rw [mu, Int32.toInt_toInt64]; exact ⟨by omega, by omega⟩)) (fun _ _ q => Nat.le_of_eq (congrArg Array.size q.1.symm)) rfl own_pd1 rfl rfl rfl (by decide) (Nat.le_of_ble_eq_true rfl) (by decide) (by decide) ?_
  rintro v39 T h_ X ⟨eh_, rfl⟩
  rw [eh_] at X
  show own_Ends p e below _ (T.setTop (mkF m 42 #[.val (.ref a), .val (.long sec), .second, .val (.long nan.toInt64), .second, .val (.long (sec * (1000000000 : Int64))), .second] [(.long ((sec * (1000000000 : Int64)) + nan.toInt64))]))
  refine own_lstore X 44 #[.val (.ref a), .val (.long sec), .second, .val (.long nan.toInt64), .second, .val (.long ((sec * (1000000000 : Int64)) + nan.toInt64)), .second] own_d16_42 rfl rfl ?_
  refine own_lload X 46 ((sec * (1000000000 : Int64)) + nan.toInt64) own_d16_44 rfl rfl ?_
  exact own_retJ X own_d16_46 rfl (by decide) (by decide) (⟨rfl, rfl⟩)
theorem own_d13_0 : decode prog_3_method_4_code 0 = .ok (.aload_n 0, 1) := by decide +kernel
theorem own_d13_1 : decode prog_3_method_4_code 1 = .ok (.getstatic 44, 3) := by decide +kernel
theorem own_d13_4 : decode prog_3_method_4_code 4 = .ok (.invokevirtual 48, 3) := by decide +kernel
theorem own_pd5 : parseMethodDescriptor "(Ljava/time/Duration;)I" = some ⟨[(.object "java/time/Duration")], some .int⟩ := by decide +kernel
theorem own_d13_7 : decode prog_3_method_4_code 7 = .ok (.ifCond .lt 9, 3) := by decide +kernel
theorem own_d13_16 : decode prog_3_method_4_code 16 = .ok (.aload_n 0, 1) := by decide +kernel
theorem own_d13_17 : decode prog_3_method_4_code 17 = .ok (.invokevirtual 52, 3) := by decide +kernel
theorem own_pd6 : parseMethodDescriptor "()J" = some ⟨[], some .long⟩ := by decide +kernel
theorem own_d13_20 : decode prog_3_method_4_code 20 = .ok (.lreturn, 1) := by decide +kernel
theorem own_d13_10 : decode prog_3_method_4_code 10 = .ok (.ldc2_w 42, 3) := by decide +kernel
theorem own_d13_13 : decode prog_3_method_4_code 13 = .ok (.goto 7, 3) := by decide +kernel
theorem own_pn13 : plainFor (⟨"com/example/tickwell/tickwell/DueTime", "nanos", "(Ljava/time/Duration;)J"⟩ : MethodName) = true := plainFor_of_name (by first | (simp [plainName, overriddenIn]; done) | decide +kernel)
set_option maxRecDepth 65536 in
set_option maxHeartbeats 40000000 in
theorem own_nanos (l : Launch) (Z : State) (a0 : Array Value) (hw : ∀ d ∈ tables_1, d.before a0 Z = true) (a : Addr) (sec : Int64) (nan : Int32) (la : Addr) (h0 : Heap) (n0 : Nat) (hs0 : n0 ≤ h0.size) (Fs : Fld Z h0 a "java/time/Duration" "seconds" "J" (.long sec)) (Fn : Fld Z h0 a "java/time/Duration" "nanos" "I" (.int nan)) (Ea : Exa Z h0 a "java/time/Duration") (OL : Old Z n0 h0) (z_L : Sta Z Z.heap "com/example/tickwell/tickwell/DueTime" "LONGEST" "Ljava/time/Duration;" (.ref la)) (z_EL : Exa Z Z.heap la "java/time/Duration") (z_SL : Fld Z Z.heap la "java/time/Duration" "seconds" "J" (.long 9223372036)) (z_NL : Fld Z Z.heap la "java/time/Duration" "nanos" "I" (.int 854775807)) (hs0_ : ¬ sec < 0) (hn0 : 0 ≤ nan.toInt) (hn1 : nan.toInt < 1000000000) :
    own_Met l (⟨"com/example/tickwell/tickwell/DueTime", "nanos", "(Ljava/time/Duration;)J"⟩ : MethodName) prog_3_method_4_code 1 (some .long) ({ frames := 3, cells := 0, slots := 0, locals := 52 } : Room) Z #[(.ref a)] h0 n0 (fun v h' => h' = h0 ∧ v = some (.long (own_nan sec nan))) := by
  refine own_met (Ls := #[.val (.ref a)]) own_pn13 hs0 (fun m => by first | (simp [entryFrame, mkF, argsToLocals, Value.category]; done) | rfl) ?_
  intro p e s m below meth c T X
  have hi_a : h0.size > a := Fs.lt
  have hi_la : n0 > la := (OL.1 ▸ z_EL.lt)
  refine own_aloadN X 1 (.ref a) own_d13_0 rfl rfl rfl ?_
  refine own_getS X 4 own_d13_1 rfl (hw _ (List.mem_of_getElem? (i := 66) rfl)) Via.refl (Sta.ext OL.2 z_L) ?_
  intro T X
  refine own_callV X 7 [(.ref la)] [] own_d13_4 rfl (hw _ (List.mem_of_getElem? (i := 68) rfl)) (hw _ (List.mem_of_getElem? (i := 69) rfl)) (own_nf X.2.2.2.2.1 (hw _ (List.mem_of_getElem? (i := 71) rfl))) (hw _ (List.mem_of_getElem? (i := 71) rfl)) (hw _ (List.mem_of_getElem? (i := 70) rfl)) (hw _ (List.mem_of_getElem? (i := 13) rfl)) (hw _ (List.mem_of_getElem? (i := 72) rfl)) (by decide) Ea (own_cto l Z a0 hw a la sec nan h0 n0 X.sz Fs Fn (Fld.ext OL.2 z_SL) (Fld.ext OL.2 z_NL)) (fun _ _ q => Nat.le_of_eq (congrArg Array.size q.1.symm)) rfl own_pd5 rfl rfl rfl (by decide) (Nat.le_of_ble_eq_true rfl) (by decide) (by decide) ?_
  rintro v4 T h_ X ⟨eh_, rfl⟩
  rw [eh_] at X
  show own_Ends p e below _ (T.setTop (mkF m 7 #[.val (.ref a)] [(.int (own_cd sec nan))]))
  by_cases hc7 : (own_cd sec nan) < (0 : Int32)
  · refine own_ifY X 16 own_d13_7 (by decide) (by decide) (XT.i0_lt_t hc7) ?_
    refine own_aloadN X 17 (.ref a) own_d13_16 rfl rfl rfl ?_
    refine own_callV X 20 [] [] own_d13_17 rfl (hw _ (List.mem_of_getElem? (i := 77) rfl)) (hw _ (List.mem_of_getElem? (i := 78) rfl)) (own_nf X.2.2.2.2.1 (hw _ (List.mem_of_getElem? (i := 80) rfl))) (hw _ (List.mem_of_getElem? (i := 80) rfl)) (hw _ (List.mem_of_getElem? (i := 79) rfl)) (hw _ (List.mem_of_getElem? (i := 13) rfl)) (hw _ (List.mem_of_getElem? (i := 81) rfl)) (by decide) Ea (own_ton l Z a0 hw a sec nan h0 n0 X.sz Fs Fn (own_ge64 hs0_) (by have := (own_cd_lt hn0 hn1).mp hc7; omega) hn0 hn1 (by have := (own_cd_lt hn0 hn1).mp hc7; omega)) (fun _ _ q => Nat.le_of_eq (congrArg Array.size q.1.symm)) rfl own_pd6 rfl rfl rfl (by decide) (Nat.le_of_ble_eq_true rfl) (by decide) (by decide) ?_
    rintro v17 T h_ X ⟨eh_, rfl⟩
    rw [eh_] at X
    show own_Ends p e below _ (T.setTop (mkF m 20 #[.val (.ref a)] [(.long (sec * 1000000000 + nan.toInt64))]))
    exact own_retJ X own_d13_20 rfl (by decide) (by decide) (⟨rfl, by simp [own_nan, hc7]⟩)
  · refine own_ifN X 10 own_d13_7 rfl (XT.i0_lt_f hc7) ?_
    refine own_ldc2J X 13 own_d13_10 rfl (hw _ (List.mem_of_getElem? (i := 91) rfl)) ?_
    refine own_goto X 20 own_d13_13 (by decide) (by decide) ?_
    exact own_retJ X own_d13_20 rfl (by decide) (by decide) (⟨rfl, by simp [own_nan, hc7]⟩)
theorem own_d19_0 : decode prog_3_method_3_code 0 = .ok (.lload_n 0, 1) := by decide +kernel
theorem own_d19_1 : decode prog_3_method_3_code 1 = .ok (.lconst 0, 1) := by decide +kernel
theorem own_d19_2 : decode prog_3_method_3_code 2 = .ok (.lcmp, 1) := by decide +kernel
theorem own_d19_3 : decode prog_3_method_3_code 3 = .ok (.ifCond .ge 17, 3) := by decide +kernel
theorem own_d19_20 : decode prog_3_method_3_code 20 = .ok (.lload_n 2, 1) := by decide +kernel
theorem own_d19_21 : decode prog_3_method_3_code 21 = .ok (.ldc2_w 42, 3) := by decide +kernel
theorem own_d19_24 : decode prog_3_method_3_code 24 = .ok (.lload_n 0, 1) := by decide +kernel
theorem own_d19_25 : decode prog_3_method_3_code 25 = .ok (.lsub, 1) := by decide +kernel
theorem own_d19_26 : decode prog_3_method_3_code 26 = .ok (.lcmp, 1) := by decide +kernel
theorem own_d19_27 : decode prog_3_method_3_code 27 = .ok (.ifCond .le 9, 3) := by decide +kernel
theorem own_d19_30 : decode prog_3_method_3_code 30 = .ok (.ldc2_w 42, 3) := by decide +kernel
theorem own_d19_33 : decode prog_3_method_3_code 33 = .ok (.goto 6, 3) := by decide +kernel
theorem own_d19_39 : decode prog_3_method_3_code 39 = .ok (.lreturn, 1) := by decide +kernel
theorem own_d19_36 : decode prog_3_method_3_code 36 = .ok (.lload_n 0, 1) := by decide +kernel
theorem own_d19_37 : decode prog_3_method_3_code 37 = .ok (.lload_n 2, 1) := by decide +kernel
theorem own_d19_38 : decode prog_3_method_3_code 38 = .ok (.ladd, 1) := by decide +kernel
theorem own_pn19 : plainFor (⟨"com/example/tickwell/tickwell/DueTime", "after", "(JJ)J"⟩ : MethodName) = true := plainFor_of_name (by first | (simp [plainName, overriddenIn]; done) | decide +kernel)
set_option maxRecDepth 65536 in
set_option maxHeartbeats 40000000 in
theorem own_after2 (l : Launch) (Z : State) (a0 : Array Value) (hw : ∀ d ∈ tables_1, d.before a0 Z = true) (t : Int64) (x : Int64) (h0 : Heap) (n0 : Nat) (hs0 : n0 ≤ h0.size) (ht : ¬ t < 0) :
    own_Met l (⟨"com/example/tickwell/tickwell/DueTime", "after", "(JJ)J"⟩ : MethodName) prog_3_method_3_code 4 (some .long) ({ frames := 0, cells := 0, slots := 0, locals := 0 } : Room) Z #[(.long t), (.long x)] h0 n0 (fun v h' => h' = h0 ∧ v = some (.long (own_aft t x))) := by
  refine own_met (Ls := #[.val (.long t), .second, .val (.long x), .second]) own_pn19 hs0 (fun m => by first | (simp [entryFrame, mkF, argsToLocals, Value.category]; done) | rfl) ?_
  intro p e s m below meth c T X
  refine own_lloadN X 1 t own_d19_0 rfl rfl ?_
  refine own_lconst X 2 (0 : Int64) own_d19_1 rfl (by decide) ?_
  refine own_lcmp X 3 own_d19_2 rfl ?_
  refine own_ifY X 20 own_d19_3 (by decide) (by decide) (XT.ll_ge_t ht) ?_
  refine own_lloadN X 21 x own_d19_20 rfl rfl ?_
  refine own_ldc2J X 24 own_d19_21 rfl (hw _ (List.mem_of_getElem? (i := 91) rfl)) ?_
  refine own_lloadN X 25 t own_d19_24 rfl rfl ?_
  refine own_lsub X 26 own_d19_25 rfl ?_
  refine own_lcmp X 27 own_d19_26 rfl ?_
  by_cases hc27 : ((9223372036854775807 : Int64) - t) < x
  · refine own_ifN X 30 own_d19_27 rfl (XT.ll_le_f hc27) ?_
    refine own_ldc2J X 33 own_d19_30 rfl (hw _ (List.mem_of_getElem? (i := 91) rfl)) ?_
    refine own_goto X 39 own_d19_33 (by decide) (by decide) ?_
    exact own_retJ X own_d19_39 rfl (by decide) (by decide) (⟨rfl, by simp [own_aft, hc27]⟩)
  · refine own_ifY X 36 own_d19_27 (by decide) (by decide) (XT.ll_le_t hc27) ?_
    refine own_lloadN X 37 t own_d19_36 rfl rfl ?_
    refine own_lloadN X 38 x own_d19_37 rfl rfl ?_
    refine own_ladd X 39 own_d19_38 rfl ?_
    exact own_retJ X own_d19_39 rfl (by decide) (by decide) (⟨rfl, by simp [own_aft, hc27]⟩)
theorem own_neg1 {x : Int64} (h : ¬ own_neg x = 0) : x < 0 := by
  by_cases q : x < 0
  · exact q
  · exact absurd (by simp only [own_neg, q, if_false]) h
theorem own_neg0 {x : Int64} (h : own_neg x = 0) : ¬ x < 0 := fun q => by simp [own_neg, q] at h
theorem own_d10_0 : decode prog_3_method_2_code 0 = .ok (.aload_n 2, 1) := by decide +kernel
theorem own_d10_1 : decode prog_3_method_2_code 1 = .ok (.ldc 7, 2) := by decide +kernel
theorem own_strA : ∀ w ∈ Bundle.stringAtoms, w ∈ tables_1 := by decide +kernel
theorem own_d10_3 : decode prog_3_method_2_code 3 = .ok (.invokestatic 9, 3) := by decide +kernel
theorem own_pd7 : parseMethodDescriptor "(Ljava/lang/Object;Ljava/lang/String;)Ljava/lang/Object;" = some ⟨[(.object "java/lang/Object"), (.object "java/lang/String")], some (.object "java/lang/Object")⟩ := by decide +kernel
theorem own_d10_6 : decode prog_3_method_2_code 6 = .ok (.pop, 1) := by decide +kernel
theorem own_d10_7 : decode prog_3_method_2_code 7 = .ok (.lload_n 0, 1) := by decide +kernel
theorem own_d10_8 : decode prog_3_method_2_code 8 = .ok (.aload_n 2, 1) := by decide +kernel
theorem own_d10_9 : decode prog_3_method_2_code 9 = .ok (.invokevirtual 15, 3) := by decide +kernel
theorem own_pd8 : parseMethodDescriptor "()Z" = some ⟨[], some .boolean⟩ := by decide +kernel
theorem own_d10_12 : decode prog_3_method_2_code 12 = .ok (.ifCond .eq 7, 3) := by decide +kernel
theorem own_d10_19 : decode prog_3_method_2_code 19 = .ok (.aload_n 2, 1) := by decide +kernel
theorem own_d10_20 : decode prog_3_method_2_code 20 = .ok (.invokestatic 21, 3) := by decide +kernel
theorem own_pd9 : parseMethodDescriptor "(Ljava/time/Duration;)J" = some ⟨[(.object "java/time/Duration")], some .long⟩ := by decide +kernel
theorem own_d10_23 : decode prog_3_method_2_code 23 = .ok (.invokestatic 27, 3) := by decide +kernel
theorem own_d10_26 : decode prog_3_method_2_code 26 = .ok (.lreturn, 1) := by decide +kernel
theorem own_d10_15 : decode prog_3_method_2_code 15 = .ok (.lconst 0, 1) := by decide +kernel
theorem own_d10_16 : decode prog_3_method_2_code 16 = .ok (.goto 7, 3) := by decide +kernel
theorem own_pn10 : plainFor (⟨"com/example/tickwell/tickwell/DueTime", "after", "(JLjava/time/Duration;)J"⟩ : MethodName) = true := plainFor_of_name (by first | (simp [plainName, overriddenIn]; done) | decide +kernel)
set_option maxRecDepth 65536 in
set_option maxHeartbeats 40000000 in
theorem own_after (l : Launch) (Z : State) (a0 : Array Value) (hw : ∀ d ∈ tables_1, d.before a0 Z = true) (t : Int64) (a : Addr) (sec : Int64) (nan : Int32) (la : Addr) (h0 : Heap) (n0 : Nat) (hs0 : n0 ≤ h0.size) (Fs : Fld Z h0 a "java/time/Duration" "seconds" "J" (.long sec)) (Fn : Fld Z h0 a "java/time/Duration" "nanos" "I" (.int nan)) (Ea : Exa Z h0 a "java/time/Duration") (OL : Old Z n0 h0) (z_L : Sta Z Z.heap "com/example/tickwell/tickwell/DueTime" "LONGEST" "Ljava/time/Duration;" (.ref la)) (z_EL : Exa Z Z.heap la "java/time/Duration") (z_SL : Fld Z Z.heap la "java/time/Duration" "seconds" "J" (.long 9223372036)) (z_NL : Fld Z Z.heap la "java/time/Duration" "nanos" "I" (.int 854775807)) (ht : ¬ t < 0) (hn0 : 0 ≤ nan.toInt) (hn1 : nan.toInt < 1000000000) :
    own_MetW l (⟨"com/example/tickwell/tickwell/DueTime", "after", "(JLjava/time/Duration;)J"⟩ : MethodName) prog_3_method_2_code 3 (some .long) ({ frames := 4, cells := 2, slots := 24, locals := 66 } : Room) Z #[(.long t), (.ref a)] h0 n0 (fun v h' => Keep h0 h' [] ∧ v = some (.long (own_aft t (if sec < 0 then 0 else own_nan sec nan)))) := by
  refine own_metW (Ls := #[.val (.long t), .second, .val (.ref a)]) own_pn10 hs0 (fun m => by first | (simp [entryFrame, mkF, argsToLocals, Value.category]; done) | rfl) ?_
  intro p e s m below meth c T vm0 k0 X hS hk0
  have K0 := Keep.refl h0 []
  have hi_a : h0.size > a := Fs.lt
  have hi_la : n0 > la := (OL.1 ▸ z_EL.lt)
  refine own_aloadN X 1 (.ref a) own_d10_0 rfl rfl rfl ?_
  refine own_ldcS X hS (by omega) 3 20 own_d10_1 rfl (hw _ (List.mem_of_getElem? (i := 46) rfl)) (fun a ha => hw a (own_strA a ha)) (by decide) (by decide) (by decide) (by decide) ?_
  intro b2 T h1 vm0 k0 X E_h1 hS hk0
  have zs_h1 : h0.size ≤ h1.size := E_h1.1
  have Fs := Fld.ext E_h1 Fs
  have Fn := Fld.ext E_h1 Fn
  have Ea := Exa.ext E_h1 Ea
  have K0 := K0.ext E_h1
  have OL := OL.ext E_h1
  refine own_callS X 6 [(.ref a), (.ref b2)] [] own_d10_3 rfl (hw _ (List.mem_of_getElem? (i := 54) rfl)) (hw _ (List.mem_of_getElem? (i := 55) rfl)) (hw _ (List.mem_of_getElem? (i := 56) rfl)) (hw _ (List.mem_of_getElem? (i := 57) rfl)) (by decide) (own_rnn l Z a0 hw a b2 h1 n0 X.sz) (fun _ _ q => Nat.le_of_eq (congrArg Array.size q.1.symm)) rfl own_pd7 rfl rfl rfl (by decide) (Nat.le_of_ble_eq_true rfl) (by decide) (by decide) ?_
  rintro v3 T h_ X ⟨eh_, rfl⟩
  rw [eh_] at X
  show own_Ends p e below _ (T.setTop (mkF m 6 #[.val (.long t), .second, .val (.ref a)] [(.ref a)]))
  refine own_pop X 7 own_d10_6 rfl rfl ?_
  refine own_lloadN X 8 t own_d10_7 rfl rfl ?_
  refine own_aloadN X 9 (.ref a) own_d10_8 rfl rfl rfl ?_
  refine own_callV X 12 [] [(.long t)] own_d10_9 rfl (hw _ (List.mem_of_getElem? (i := 58) rfl)) (hw _ (List.mem_of_getElem? (i := 59) rfl)) (own_nf X.2.2.2.2.1 (hw _ (List.mem_of_getElem? (i := 61) rfl))) (hw _ (List.mem_of_getElem? (i := 61) rfl)) (hw _ (List.mem_of_getElem? (i := 60) rfl)) (hw _ (List.mem_of_getElem? (i := 13) rfl)) (hw _ (List.mem_of_getElem? (i := 62) rfl)) (by decide) Ea (own_isn l Z a0 hw a sec nan h1 n0 X.sz Fs Fn) (fun _ _ q => Nat.le_of_eq (congrArg Array.size q.1.symm)) rfl own_pd8 rfl rfl rfl (by decide) (Nat.le_of_ble_eq_true rfl) (by decide) (by decide) ?_
  rintro v9 T h_ X ⟨eh_, rfl⟩
  rw [eh_] at X
  show own_Ends p e below _ (T.setTop (mkF m 12 #[.val (.long t), .second, .val (.ref a)] [(.int (own_neg sec)), (.long t)]))
  by_cases hc12 : (own_neg sec) = (0 : Int32)
  · refine own_ifY X 19 own_d10_12 (by decide) (by decide) (XT.i0_eq_t hc12) ?_
    refine own_aloadN X 20 (.ref a) own_d10_19 rfl rfl rfl ?_
    refine own_callS X 23 [(.ref a)] [(.long t)] own_d10_20 rfl (hw _ (List.mem_of_getElem? (i := 63) rfl)) (hw _ (List.mem_of_getElem? (i := 64) rfl)) (hw _ (List.mem_of_getElem? (i := 44) rfl)) (hw _ (List.mem_of_getElem? (i := 65) rfl)) (by decide) (own_nanos l Z a0 hw a sec nan la h1 n0 X.sz Fs Fn Ea OL z_L z_EL z_SL z_NL (own_neg0 hc12) hn0 hn1) (fun _ _ q => Nat.le_of_eq (congrArg Array.size q.1.symm)) rfl own_pd9 rfl rfl rfl (by decide) (Nat.le_of_ble_eq_true rfl) (by decide) (by decide) ?_
    rintro v20 T h_ X ⟨eh_, rfl⟩
    rw [eh_] at X
    show own_Ends p e below _ (T.setTop (mkF m 23 #[.val (.long t), .second, .val (.ref a)] [(.long (own_nan sec nan)), (.long t)]))
    refine own_callS X 26 [(.long t), (.long (own_nan sec nan))] [] own_d10_23 rfl (hw _ (List.mem_of_getElem? (i := 88) rfl)) (hw _ (List.mem_of_getElem? (i := 89) rfl)) (hw _ (List.mem_of_getElem? (i := 44) rfl)) (hw _ (List.mem_of_getElem? (i := 90) rfl)) (by decide) (own_after2 l Z a0 hw t (own_nan sec nan) h1 n0 X.sz ht) (fun _ _ q => Nat.le_of_eq (congrArg Array.size q.1.symm)) rfl own_pd1 rfl rfl rfl (by decide) (Nat.le_of_ble_eq_true rfl) (by decide) (by decide) ?_
    rintro v23 T h_ X ⟨eh_, rfl⟩
    rw [eh_] at X
    show own_Ends p e below _ (T.setTop (mkF m 26 #[.val (.long t), .second, .val (.ref a)] [(.long (own_aft t (own_nan sec nan)))]))
    exact own_retJW X hS (by omega) own_d10_26 rfl (by decide) (by decide) (⟨K0, by rw [if_neg (own_neg0 hc12)]⟩)
  · refine own_ifN X 15 own_d10_12 rfl (XT.i0_eq_f hc12) ?_
    refine own_lconst X 16 (0 : Int64) own_d10_15 rfl (by decide) ?_
    refine own_goto X 23 own_d10_16 (by decide) (by decide) ?_
    refine own_callS X 26 [(.long t), (.long (0 : Int64))] [] own_d10_23 rfl (hw _ (List.mem_of_getElem? (i := 88) rfl)) (hw _ (List.mem_of_getElem? (i := 89) rfl)) (hw _ (List.mem_of_getElem? (i := 44) rfl)) (hw _ (List.mem_of_getElem? (i := 90) rfl)) (by decide) (own_after2 l Z a0 hw t (0 : Int64) h1 n0 X.sz ht) (fun _ _ q => Nat.le_of_eq (congrArg Array.size q.1.symm)) rfl own_pd1 rfl rfl rfl (by decide) (Nat.le_of_ble_eq_true rfl) (by decide) (by decide) ?_
    rintro v23 T h_ X ⟨eh_, rfl⟩
    rw [eh_] at X
    show own_Ends p e below _ (T.setTop (mkF m 26 #[.val (.long t), .second, .val (.ref a)] [(.long (own_aft t (0 : Int64)))]))
    exact own_retJW X hS (by omega) own_d10_26 rfl (by decide) (by decide) (⟨K0, by rw [if_pos (own_neg1 hc12)]⟩)
theorem own_d20_0 : decode method_4_code 0 = .ok (.lload_n 2, 1) := by decide +kernel
theorem own_d20_1 : decode method_4_code 1 = .ok (.lconst 0, 1) := by decide +kernel
theorem own_d20_2 : decode method_4_code 2 = .ok (.lcmp, 1) := by decide +kernel
theorem own_d20_3 : decode method_4_code 3 = .ok (.ifCond .ge 5, 3) := by decide +kernel
theorem own_d20_6 : decode method_4_code 6 = .ok (.lload_n 0, 1) := by decide +kernel
theorem own_d20_7 : decode method_4_code 7 = .ok (.lreturn, 1) := by decide +kernel
theorem own_d20_8 : decode method_4_code 8 = .ok (.lload_n 2, 1) := by decide +kernel
theorem own_d20_9 : decode method_4_code 9 = .ok (.ldc2_w 7, 3) := by decide +kernel
theorem own_d20_12 : decode method_4_code 12 = .ok (.lcmp, 1) := by decide +kernel
theorem own_d20_13 : decode method_4_code 13 = .ok (.ifCond .gt 20, 3) := by decide +kernel
theorem own_d20_33 : decode method_4_code 33 = .ok (.ldc2_w 17, 3) := by decide +kernel
theorem own_d20_36 : decode method_4_code 36 = .ok (.lreturn, 1) := by decide +kernel
theorem own_d20_16 : decode method_4_code 16 = .ok (.lload_n 2, 1) := by decide +kernel
theorem own_d20_17 : decode method_4_code 17 = .ok (.ldc2_w 7, 3) := by decide +kernel
theorem own_d20_20 : decode method_4_code 20 = .ok (.lcmp, 1) := by decide +kernel
theorem own_d20_21 : decode method_4_code 21 = .ok (.ifCond .ne 16, 3) := by decide +kernel
theorem own_d20_24 : decode method_4_code 24 = .ok (.lload 4, 2) := by decide +kernel
theorem own_d20_26 : decode method_4_code 26 = .ok (.ldc2_w 21, 3) := by decide +kernel
theorem own_d20_29 : decode method_4_code 29 = .ok (.lcmp, 1) := by decide +kernel
theorem own_d20_30 : decode method_4_code 30 = .ok (.ifCond .le 7, 3) := by decide +kernel
theorem own_d20_37 : decode method_4_code 37 = .ok (.lload_n 2, 1) := by decide +kernel
theorem own_d20_38 : decode method_4_code 38 = .ok (.ldc2_w 23, 3) := by decide +kernel
theorem own_d20_41 : decode method_4_code 41 = .ok (.lmul, 1) := by decide +kernel
theorem own_d20_42 : decode method_4_code 42 = .ok (.lload 4, 2) := by decide +kernel
theorem own_d20_44 : decode method_4_code 44 = .ok (.ladd, 1) := by decide +kernel
theorem own_d20_45 : decode method_4_code 45 = .ok (.lstore 6, 2) := by decide +kernel
theorem own_d20_47 : decode method_4_code 47 = .ok (.lload_n 0, 1) := by decide +kernel
theorem own_d20_48 : decode method_4_code 48 = .ok (.lload 6, 2) := by decide +kernel
theorem own_d20_50 : decode method_4_code 50 = .ok (.ladd, 1) := by decide +kernel
theorem own_d20_51 : decode method_4_code 51 = .ok (.lstore 8, 2) := by decide +kernel
theorem own_d20_53 : decode method_4_code 53 = .ok (.lload 8, 2) := by decide +kernel
theorem own_d20_55 : decode method_4_code 55 = .ok (.lconst 0, 1) := by decide +kernel
theorem own_d20_56 : decode method_4_code 56 = .ok (.lcmp, 1) := by decide +kernel
theorem own_d20_57 : decode method_4_code 57 = .ok (.ifCond .ge 7, 3) := by decide +kernel
theorem own_d20_60 : decode method_4_code 60 = .ok (.ldc2_w 17, 3) := by decide +kernel
theorem own_d20_63 : decode method_4_code 63 = .ok (.lreturn, 1) := by decide +kernel
theorem own_d20_64 : decode method_4_code 64 = .ok (.lload 8, 2) := by decide +kernel
theorem own_d20_66 : decode method_4_code 66 = .ok (.lreturn, 1) := by decide +kernel
theorem own_pn20 : plainFor (⟨"com/example/tickwell/tickwell/DueTimeAfterPinLaw", "expected", "(JJJ)J"⟩ : MethodName) = true := plainFor_of_name (by first | (simp [plainName, overriddenIn]; done) | decide +kernel)
set_option maxRecDepth 65536 in
set_option maxHeartbeats 40000000 in
theorem own_expected (l : Launch) (Z : State) (a0 : Array Value) (hw : ∀ d ∈ tables_1, d.before a0 Z = true) (t : Int64) (x : Int64) (n : Int64) (h0 : Heap) (n0 : Nat) (hs0 : n0 ≤ h0.size) :
    own_Met l (⟨"com/example/tickwell/tickwell/DueTimeAfterPinLaw", "expected", "(JJJ)J"⟩ : MethodName) method_4_code 10 (some .long) ({ frames := 0, cells := 0, slots := 0, locals := 0 } : Room) Z #[(.long t), (.long x), (.long n)] h0 n0 (fun v h' => h' = h0 ∧ v = some (.long (own_expd t x n))) := by
  refine own_met (Ls := #[.val (.long t), .second, .val (.long x), .second, .val (.long n), .second, .unset, .unset, .unset, .unset]) own_pn20 hs0 (fun m => by first | (simp [entryFrame, mkF, argsToLocals, Value.category]; done) | rfl) ?_
  intro p e s m below meth c T X
  refine own_lloadN X 1 x own_d20_0 rfl rfl ?_
  refine own_lconst X 2 (0 : Int64) own_d20_1 rfl (by decide) ?_
  refine own_lcmp X 3 own_d20_2 rfl ?_
  by_cases hc3 : x < (0 : Int64)
  · refine own_ifN X 6 own_d20_3 rfl (XT.ll_ge_f hc3) ?_
    refine own_lloadN X 7 t own_d20_6 rfl rfl ?_
    exact own_retJ X own_d20_7 rfl (by decide) (by decide) (⟨rfl, by rw [own_expd, if_pos hc3]⟩)
  · refine own_ifY X 8 own_d20_3 (by decide) (by decide) (XT.ll_ge_t hc3) ?_
    refine own_lloadN X 9 x own_d20_8 rfl rfl ?_
    refine own_ldc2J X 12 own_d20_9 rfl (hw _ (List.mem_of_getElem? (i := 95) rfl)) ?_
    refine own_lcmp X 13 own_d20_12 rfl ?_
    by_cases hc13 : (9223372036 : Int64) < x
    · refine own_ifY X 33 own_d20_13 (by decide) (by decide) (XT.ll_gt_t hc13) ?_
      refine own_ldc2J X 36 own_d20_33 rfl (hw _ (List.mem_of_getElem? (i := 8) rfl)) ?_
      exact own_retJ X own_d20_36 rfl (by decide) (by decide) (⟨rfl, by rw [own_expd, if_neg hc3, if_pos hc13]⟩)
    · refine own_ifN X 16 own_d20_13 rfl (XT.ll_gt_f hc13) ?_
      refine own_lloadN X 17 x own_d20_16 rfl rfl ?_
      refine own_ldc2J X 20 own_d20_17 rfl (hw _ (List.mem_of_getElem? (i := 95) rfl)) ?_
      refine own_lcmp X 21 own_d20_20 rfl ?_
      by_cases hc21 : x = (9223372036 : Int64)
      · refine own_ifN X 24 own_d20_21 rfl (XT.ll_ne_f hc21) ?_
        refine own_lload X 26 n own_d20_24 rfl rfl ?_
        refine own_ldc2J X 29 own_d20_26 rfl (hw _ (List.mem_of_getElem? (i := 101) rfl)) ?_
        refine own_lcmp X 30 own_d20_29 rfl ?_
        by_cases hc30 : (854775807 : Int64) < n
        · refine own_ifN X 33 own_d20_30 rfl (XT.ll_le_f hc30) ?_
          refine own_ldc2J X 36 own_d20_33 rfl (hw _ (List.mem_of_getElem? (i := 8) rfl)) ?_
          exact own_retJ X own_d20_36 rfl (by decide) (by decide) (⟨rfl, by rw [own_expd, if_neg hc3, if_neg hc13, if_pos hc21, if_pos hc30]⟩)
        · refine own_ifY X 37 own_d20_30 (by decide) (by decide) (XT.ll_le_t hc30) ?_
          refine own_lloadN X 38 x own_d20_37 rfl rfl ?_
          refine own_ldc2J X 41 own_d20_38 rfl (hw _ (List.mem_of_getElem? (i := 96) rfl)) ?_
          refine own_lmul X 42 own_d20_41 rfl ?_
          refine own_lload X 44 n own_d20_42 rfl rfl ?_
          refine own_ladd X 45 own_d20_44 rfl ?_
          refine own_lstore X 47 #[.val (.long t), .second, .val (.long x), .second, .val (.long n), .second, .val (.long ((x * (1000000000 : Int64)) + n)), .second, .unset, .unset] own_d20_45 rfl rfl ?_
          refine own_lloadN X 48 t own_d20_47 rfl rfl ?_
          refine own_lload X 50 ((x * (1000000000 : Int64)) + n) own_d20_48 rfl rfl ?_
          refine own_ladd X 51 own_d20_50 rfl ?_
          refine own_lstore X 53 #[.val (.long t), .second, .val (.long x), .second, .val (.long n), .second, .val (.long ((x * (1000000000 : Int64)) + n)), .second, .val (.long (t + ((x * (1000000000 : Int64)) + n))), .second] own_d20_51 rfl rfl ?_
          refine own_lload X 55 (t + ((x * (1000000000 : Int64)) + n)) own_d20_53 rfl rfl ?_
          refine own_lconst X 56 (0 : Int64) own_d20_55 rfl (by decide) ?_
          refine own_lcmp X 57 own_d20_56 rfl ?_
          by_cases hc57 : (t + ((x * (1000000000 : Int64)) + n)) < (0 : Int64)
          · refine own_ifN X 60 own_d20_57 rfl (XT.ll_ge_f hc57) ?_
            refine own_ldc2J X 63 own_d20_60 rfl (hw _ (List.mem_of_getElem? (i := 8) rfl)) ?_
            exact own_retJ X own_d20_63 rfl (by decide) (by decide) (⟨rfl, by rw [own_expd, if_neg hc3, if_neg hc13, if_pos hc21, if_neg hc30, if_pos hc57]⟩)
          · refine own_ifY X 64 own_d20_57 (by decide) (by decide) (XT.ll_ge_t hc57) ?_
            refine own_lload X 66 (t + ((x * (1000000000 : Int64)) + n)) own_d20_64 rfl rfl ?_
            exact own_retJ X own_d20_66 rfl (by decide) (by decide) (⟨rfl, by rw [own_expd, if_neg hc3, if_neg hc13, if_pos hc21, if_neg hc30, if_neg hc57]⟩)
      · refine own_ifY X 37 own_d20_21 (by decide) (by decide) (XT.ll_ne_t hc21) ?_
        refine own_lloadN X 38 x own_d20_37 rfl rfl ?_
        refine own_ldc2J X 41 own_d20_38 rfl (hw _ (List.mem_of_getElem? (i := 96) rfl)) ?_
        refine own_lmul X 42 own_d20_41 rfl ?_
        refine own_lload X 44 n own_d20_42 rfl rfl ?_
        refine own_ladd X 45 own_d20_44 rfl ?_
        refine own_lstore X 47 #[.val (.long t), .second, .val (.long x), .second, .val (.long n), .second, .val (.long ((x * (1000000000 : Int64)) + n)), .second, .unset, .unset] own_d20_45 rfl rfl ?_
        refine own_lloadN X 48 t own_d20_47 rfl rfl ?_
        refine own_lload X 50 ((x * (1000000000 : Int64)) + n) own_d20_48 rfl rfl ?_
        refine own_ladd X 51 own_d20_50 rfl ?_
        refine own_lstore X 53 #[.val (.long t), .second, .val (.long x), .second, .val (.long n), .second, .val (.long ((x * (1000000000 : Int64)) + n)), .second, .val (.long (t + ((x * (1000000000 : Int64)) + n))), .second] own_d20_51 rfl rfl ?_
        refine own_lload X 55 (t + ((x * (1000000000 : Int64)) + n)) own_d20_53 rfl rfl ?_
        refine own_lconst X 56 (0 : Int64) own_d20_55 rfl (by decide) ?_
        refine own_lcmp X 57 own_d20_56 rfl ?_
        by_cases hc57 : (t + ((x * (1000000000 : Int64)) + n)) < (0 : Int64)
        · refine own_ifN X 60 own_d20_57 rfl (XT.ll_ge_f hc57) ?_
          refine own_ldc2J X 63 own_d20_60 rfl (hw _ (List.mem_of_getElem? (i := 8) rfl)) ?_
          exact own_retJ X own_d20_63 rfl (by decide) (by decide) (⟨rfl, by rw [own_expd, if_neg hc3, if_neg hc13, if_neg hc21, if_pos hc57]⟩)
        · refine own_ifY X 64 own_d20_57 (by decide) (by decide) (XT.ll_ge_t hc57) ?_
          refine own_lload X 66 (t + ((x * (1000000000 : Int64)) + n)) own_d20_64 rfl rfl ?_
          exact own_retJ X own_d20_66 rfl (by decide) (by decide) (⟨rfl, by rw [own_expd, if_neg hc3, if_neg hc13, if_neg hc21, if_neg hc57]⟩)
theorem own_d1_0 : decode method_2_code 0 = .ok (.iload_n 2, 1) := by decide +kernel
theorem own_d1_1 : decode method_2_code 1 = .ok (.ifCond .ne 5, 3) := by decide +kernel
theorem own_d1_4 : decode method_2_code 4 = .ok (.lload_n 0, 1) := by decide +kernel
theorem own_d1_5 : decode method_2_code 5 = .ok (.lreturn, 1) := by decide +kernel
theorem own_d1_6 : decode method_2_code 6 = .ok (.iload_n 2, 1) := by decide +kernel
theorem own_d1_7 : decode method_2_code 7 = .ok (.iconst 1, 1) := by decide +kernel
theorem own_d1_8 : decode method_2_code 8 = .ok (.if_icmp .ne 7, 3) := by decide +kernel
theorem own_d1_11 : decode method_2_code 11 = .ok (.lload_n 0, 1) := by decide +kernel
theorem own_d1_12 : decode method_2_code 12 = .ok (.l2i, 1) := by decide +kernel
theorem own_d1_13 : decode method_2_code 13 = .ok (.i2l, 1) := by decide +kernel
theorem own_d1_14 : decode method_2_code 14 = .ok (.lreturn, 1) := by decide +kernel
theorem own_d1_15 : decode method_2_code 15 = .ok (.iload_n 2, 1) := by decide +kernel
theorem own_d1_16 : decode method_2_code 16 = .ok (.iconst 2, 1) := by decide +kernel
theorem own_d1_17 : decode method_2_code 17 = .ok (.if_icmp .ne 17, 3) := by decide +kernel
theorem own_d1_20 : decode method_2_code 20 = .ok (.ldc2_w 7, 3) := by decide +kernel
theorem own_d1_23 : decode method_2_code 23 = .ok (.lload_n 0, 1) := by decide +kernel
theorem own_d1_24 : decode method_2_code 24 = .ok (.ldc2_w 9, 3) := by decide +kernel
theorem own_d1_27 : decode method_2_code 27 = .ok (.land, 1) := by decide +kernel
theorem own_d1_28 : decode method_2_code 28 = .ok (.ldc2_w 11, 3) := by decide +kernel
theorem own_d1_31 : decode method_2_code 31 = .ok (.lsub, 1) := by decide +kernel
theorem own_d1_32 : decode method_2_code 32 = .ok (.ladd, 1) := by decide +kernel
theorem own_d1_33 : decode method_2_code 33 = .ok (.lreturn, 1) := by decide +kernel
theorem own_d1_34 : decode method_2_code 34 = .ok (.lload_n 0, 1) := by decide +kernel
theorem own_d1_35 : decode method_2_code 35 = .ok (.ldc2_w 13, 3) := by decide +kernel
theorem own_d1_38 : decode method_2_code 38 = .ok (.lrem, 1) := by decide +kernel
theorem own_d1_39 : decode method_2_code 39 = .ok (.lreturn, 1) := by decide +kernel
theorem own_pn1 : plainFor (⟨"com/example/tickwell/tickwell/DueTimeAfterPinLaw", "pickSeconds", "(JI)J"⟩ : MethodName) = true := plainFor_of_name (by first | (simp [plainName, overriddenIn]; done) | decide +kernel)
set_option maxRecDepth 65536 in
set_option maxHeartbeats 40000000 in
theorem own_pickS (l : Launch) (Z : State) (a0 : Array Value) (hw : ∀ d ∈ tables_1, d.before a0 Z = true) (x : Int64) (md : Int32) (h0 : Heap) (n0 : Nat) (hs0 : n0 ≤ h0.size) :
    own_Met l (⟨"com/example/tickwell/tickwell/DueTimeAfterPinLaw", "pickSeconds", "(JI)J"⟩ : MethodName) method_2_code 3 (some .long) ({ frames := 0, cells := 0, slots := 0, locals := 0 } : Room) Z #[(.long x), (.int md)] h0 n0 (fun v h' => h' = h0 ∧ ∃ z, v = some (.long z)) := by
  refine own_met (Ls := #[.val (.long x), .second, .val (.int md)]) own_pn1 hs0 (fun m => by first | (simp [entryFrame, mkF, argsToLocals, Value.category]; done) | rfl) ?_
  intro p e s m below meth c T X
  refine own_iloadN X 1 md own_d1_0 rfl rfl ?_
  by_cases hc1 : md = (0 : Int32)
  · refine own_ifN X 4 own_d1_1 rfl (XT.i0_ne_f hc1) ?_
    refine own_lloadN X 5 x own_d1_4 rfl rfl ?_
    exact own_retJ X own_d1_5 rfl (by decide) (by decide) (⟨rfl, _, rfl⟩)
  · refine own_ifY X 6 own_d1_1 (by decide) (by decide) (XT.i0_ne_t hc1) ?_
    refine own_iloadN X 7 md own_d1_6 rfl rfl ?_
    refine own_iconst X 8 (1 : Int32) own_d1_7 rfl rfl ?_
    by_cases hc8 : md = (1 : Int32)
    · refine own_icN X 11 own_d1_8 rfl (XT.ii_ne_f hc8) ?_
      refine own_lloadN X 12 x own_d1_11 rfl rfl ?_
      refine own_l2i X 13 own_d1_12 rfl ?_
      refine own_i2l X 14 own_d1_13 rfl ?_
      exact own_retJ X own_d1_14 rfl (by decide) (by decide) (⟨rfl, _, rfl⟩)
    · refine own_icY X 15 own_d1_8 (by decide) (by decide) (XT.ii_ne_t hc8) ?_
      refine own_iloadN X 16 md own_d1_15 rfl rfl ?_
      refine own_iconst X 17 (2 : Int32) own_d1_16 rfl rfl ?_
      by_cases hc17 : md = (2 : Int32)
      · refine own_icN X 20 own_d1_17 rfl (XT.ii_ne_f hc17) ?_
        refine own_ldc2J X 23 own_d1_20 rfl (hw _ (List.mem_of_getElem? (i := 95) rfl)) ?_
        refine own_lloadN X 24 x own_d1_23 rfl rfl ?_
        refine own_ldc2J X 27 own_d1_24 rfl (hw _ (List.mem_of_getElem? (i := 97) rfl)) ?_
        refine own_land X 28 own_d1_27 rfl ?_
        refine own_ldc2J X 31 own_d1_28 rfl (hw _ (List.mem_of_getElem? (i := 98) rfl)) ?_
        refine own_lsub X 32 own_d1_31 rfl ?_
        refine own_ladd X 33 own_d1_32 rfl ?_
        exact own_retJ X own_d1_33 rfl (by decide) (by decide) (⟨rfl, _, rfl⟩)
      · refine own_icY X 34 own_d1_17 (by decide) (by decide) (XT.ii_ne_t hc17) ?_
        refine own_lloadN X 35 x own_d1_34 rfl rfl ?_
        refine own_ldc2J X 38 own_d1_35 rfl (hw _ (List.mem_of_getElem? (i := 4) rfl)) ?_
        refine own_lrem X 39 own_d1_38 rfl (by decide) ?_
        exact own_retJ X own_d1_39 rfl (by decide) (by decide) (⟨rfl, _, rfl⟩)
theorem own_d2_0 : decode method_3_code 0 = .ok (.iload_n 2, 1) := by decide +kernel
theorem own_d2_1 : decode method_3_code 1 = .ok (.ifCond .ne 9, 3) := by decide +kernel
theorem own_d2_4 : decode method_3_code 4 = .ok (.lload_n 0, 1) := by decide +kernel
theorem own_d2_5 : decode method_3_code 5 = .ok (.ldc2_w 17, 3) := by decide +kernel
theorem own_d2_8 : decode method_3_code 8 = .ok (.land, 1) := by decide +kernel
theorem own_d2_9 : decode method_3_code 9 = .ok (.lreturn, 1) := by decide +kernel
theorem own_d2_10 : decode method_3_code 10 = .ok (.iload_n 2, 1) := by decide +kernel
theorem own_d2_11 : decode method_3_code 11 = .ok (.iconst 1, 1) := by decide +kernel
theorem own_d2_12 : decode method_3_code 12 = .ok (.if_icmp .ne 9, 3) := by decide +kernel
theorem own_d2_15 : decode method_3_code 15 = .ok (.lload_n 0, 1) := by decide +kernel
theorem own_d2_16 : decode method_3_code 16 = .ok (.ldc2_w 19, 3) := by decide +kernel
theorem own_d2_19 : decode method_3_code 19 = .ok (.land, 1) := by decide +kernel
theorem own_d2_20 : decode method_3_code 20 = .ok (.lreturn, 1) := by decide +kernel
theorem own_d2_21 : decode method_3_code 21 = .ok (.iload_n 2, 1) := by decide +kernel
theorem own_d2_22 : decode method_3_code 22 = .ok (.iconst 2, 1) := by decide +kernel
theorem own_d2_23 : decode method_3_code 23 = .ok (.if_icmp .ne 13, 3) := by decide +kernel
theorem own_d2_26 : decode method_3_code 26 = .ok (.ldc2_w 17, 3) := by decide +kernel
theorem own_d2_29 : decode method_3_code 29 = .ok (.lload_n 0, 1) := by decide +kernel
theorem own_d2_30 : decode method_3_code 30 = .ok (.ldc2_w 19, 3) := by decide +kernel
theorem own_d2_33 : decode method_3_code 33 = .ok (.land, 1) := by decide +kernel
theorem own_d2_34 : decode method_3_code 34 = .ok (.lsub, 1) := by decide +kernel
theorem own_d2_35 : decode method_3_code 35 = .ok (.lreturn, 1) := by decide +kernel
theorem own_d2_36 : decode method_3_code 36 = .ok (.lconst 0, 1) := by decide +kernel
theorem own_d2_37 : decode method_3_code 37 = .ok (.lreturn, 1) := by decide +kernel
theorem own_pn2 : plainFor (⟨"com/example/tickwell/tickwell/DueTimeAfterPinLaw", "pickNow", "(JI)J"⟩ : MethodName) = true := plainFor_of_name (by first | (simp [plainName, overriddenIn]; done) | decide +kernel)
set_option maxRecDepth 65536 in
set_option maxHeartbeats 40000000 in
theorem own_pickN (l : Launch) (Z : State) (a0 : Array Value) (hw : ∀ d ∈ tables_1, d.before a0 Z = true) (x : Int64) (md : Int32) (h0 : Heap) (n0 : Nat) (hs0 : n0 ≤ h0.size) :
    own_Met l (⟨"com/example/tickwell/tickwell/DueTimeAfterPinLaw", "pickNow", "(JI)J"⟩ : MethodName) method_3_code 3 (some .long) ({ frames := 0, cells := 0, slots := 0, locals := 0 } : Room) Z #[(.long x), (.int md)] h0 n0 (fun v h' => h' = h0 ∧ ∃ z, v = some (.long z) ∧ ¬ z < 0) := by
  refine own_met (Ls := #[.val (.long x), .second, .val (.int md)]) own_pn2 hs0 (fun m => by first | (simp [entryFrame, mkF, argsToLocals, Value.category]; done) | rfl) ?_
  intro p e s m below meth c T X
  refine own_iloadN X 1 md own_d2_0 rfl rfl ?_
  by_cases hc1 : md = (0 : Int32)
  · refine own_ifN X 4 own_d2_1 rfl (XT.i0_ne_f hc1) ?_
    refine own_lloadN X 5 x own_d2_4 rfl rfl ?_
    refine own_ldc2J X 8 own_d2_5 rfl (hw _ (List.mem_of_getElem? (i := 8) rfl)) ?_
    refine own_land X 9 own_d2_8 rfl ?_
    exact own_retJ X own_d2_9 rfl (by decide) (by decide) (⟨rfl, _, rfl, own_pk0 _⟩)
  · refine own_ifY X 10 own_d2_1 (by decide) (by decide) (XT.i0_ne_t hc1) ?_
    refine own_iloadN X 11 md own_d2_10 rfl rfl ?_
    refine own_iconst X 12 (1 : Int32) own_d2_11 rfl rfl ?_
    by_cases hc12 : md = (1 : Int32)
    · refine own_icN X 15 own_d2_12 rfl (XT.ii_ne_f hc12) ?_
      refine own_lloadN X 16 x own_d2_15 rfl rfl ?_
      refine own_ldc2J X 19 own_d2_16 rfl (hw _ (List.mem_of_getElem? (i := 99) rfl)) ?_
      refine own_land X 20 own_d2_19 rfl ?_
      exact own_retJ X own_d2_20 rfl (by decide) (by decide) (⟨rfl, _, rfl, own_pk1 _⟩)
    · refine own_icY X 21 own_d2_12 (by decide) (by decide) (XT.ii_ne_t hc12) ?_
      refine own_iloadN X 22 md own_d2_21 rfl rfl ?_
      refine own_iconst X 23 (2 : Int32) own_d2_22 rfl rfl ?_
      by_cases hc23 : md = (2 : Int32)
      · refine own_icN X 26 own_d2_23 rfl (XT.ii_ne_f hc23) ?_
        refine own_ldc2J X 29 own_d2_26 rfl (hw _ (List.mem_of_getElem? (i := 8) rfl)) ?_
        refine own_lloadN X 30 x own_d2_29 rfl rfl ?_
        refine own_ldc2J X 33 own_d2_30 rfl (hw _ (List.mem_of_getElem? (i := 99) rfl)) ?_
        refine own_land X 34 own_d2_33 rfl ?_
        refine own_lsub X 35 own_d2_34 rfl ?_
        exact own_retJ X own_d2_35 rfl (by decide) (by decide) (⟨rfl, _, rfl, own_pk2 _⟩)
      · refine own_icY X 36 own_d2_23 (by decide) (by decide) (XT.ii_ne_t hc23) ?_
        refine own_lconst X 37 (0 : Int64) own_d2_36 rfl (by decide) ?_
        exact own_retJ X own_d2_37 rfl (by decide) (by decide) (⟨rfl, _, rfl, by decide⟩)
theorem own_pd10 : parseMethodDescriptor "(JI)J" = some ⟨[.long, .int], some .long⟩ := by decide +kernel
theorem own_pd11 : parseMethodDescriptor "(JJ)Ljava/time/Duration;" = some ⟨[.long, .long], some (.object "java/time/Duration")⟩ := by decide +kernel
theorem own_pd12 : parseMethodDescriptor "(JLjava/time/Duration;)J" = some ⟨[.long, (.object "java/time/Duration")], some .long⟩ := by decide +kernel
theorem own_pd13 : parseMethodDescriptor "(JJJ)J" = some ⟨[.long, .long, .long], some .long⟩ := by decide +kernel
theorem own_pn0 : plainFor x = true := plainFor_of_name (by first | (simp [plainName, overriddenIn]; done) | decide +kernel)
set_option maxRecDepth 65536 in
set_option maxHeartbeats 40000000 in
theorem own_m0 (l : Launch) (Z : State) (a0 : Array Value) (hw : ∀ d ∈ tables_1, d.before a0 Z = true) (pa : Int64) (pb : Int64) (pc : Int32) (pd : Int32) (la : Addr) (za : Addr) (h0 : Heap) (n0 : Nat) (hs0 : n0 ≤ h0.size) (OL : Old Z n0 h0) (z_L : Sta Z Z.heap "com/example/tickwell/tickwell/DueTime" "LONGEST" "Ljava/time/Duration;" (.ref la)) (z_EL : Exa Z Z.heap la "java/time/Duration") (z_SL : Fld Z Z.heap la "java/time/Duration" "seconds" "J" (.long 9223372036)) (z_NL : Fld Z Z.heap la "java/time/Duration" "nanos" "I" (.int 854775807)) (z_Z : Sta Z Z.heap "java/time/Duration" "ZERO" "Ljava/time/Duration;" (.ref za)) (z_EZ : Exa Z Z.heap za "java/time/Duration") (z_SZ : Fld Z Z.heap za "java/time/Duration" "seconds" "J" (.long 0)) (z_NZ : Fld Z Z.heap za "java/time/Duration" "nanos" "I" (.int 0)) :
    own_MetW l x code maxLocals ret room_1 Z #[(.long pa), (.long pb), (.int pc), (.int pd)] h0 n0 (fun v h' => v = some (.int 1)) := by
  refine own_metW (Ls := #[.val (.long pa), .second, .val (.long pb), .second, .val (.int pc), .val (.int pd), .unset, .unset, .unset, .unset, .unset, .unset, .unset, .unset, .unset]) own_pn0 hs0 (fun m => by first | (simp [entryFrame, mkF, argsToLocals, Value.category, maxLocals]; done) | rfl) ?_
  intro p e s m below meth c T vm0 k0 X hS hk0
  have hi_za : n0 > za := (OL.1 ▸ z_EZ.lt)
  have hi_la : n0 > la := (OL.1 ▸ z_EL.lt)
  refine own_lloadN X 1 pb at_0 rfl rfl ?_
  refine own_iload X 3 pd at_1 rfl rfl ?_
  refine own_iconst X 4 (3 : Int32) at_3 rfl rfl ?_
  refine own_iand X 5 at_4 rfl ?_
  refine own_callS X 8 [(.long pb), (.int (pd &&& (3 : Int32)))] [] at_5 rfl (hw _ (List.mem_of_getElem? (i := 0) rfl)) (hw _ (List.mem_of_getElem? (i := 1) rfl)) (hw _ (List.mem_of_getElem? (i := 2) rfl)) (hw _ (List.mem_of_getElem? (i := 3) rfl)) (by decide) (own_pickS l Z a0 hw pb (pd &&& (3 : Int32)) h0 n0 X.sz) (fun _ _ q => Nat.le_of_eq (congrArg Array.size q.1.symm)) rfl own_pd10 rfl rfl rfl (by decide) (Nat.le_of_ble_eq_true rfl) (by decide) (by decide) ?_
  rintro v5 T h_ X ⟨eh_, q1, rfl⟩
  rw [eh_] at X
  show own_Ends p e below _ (T.setTop (mkF m 8 #[.val (.long pa), .second, .val (.long pb), .second, .val (.int pc), .val (.int pd), .unset, .unset, .unset, .unset, .unset, .unset, .unset, .unset, .unset] [(.long q1)]))
  refine own_lstore X 10 #[.val (.long pa), .second, .val (.long pb), .second, .val (.int pc), .val (.int pd), .val (.long q1), .second, .unset, .unset, .unset, .unset, .unset, .unset, .unset] at_8 rfl rfl ?_
  refine own_lloadN X 11 pa at_10 rfl rfl ?_
  refine own_iload X 13 pd at_11 rfl rfl ?_
  refine own_iconst X 14 (2 : Int32) at_13 rfl rfl ?_
  refine own_ishr X 15 at_14 rfl ?_
  refine own_iconst X 16 (3 : Int32) at_15 rfl rfl ?_
  refine own_iand X 17 at_16 rfl ?_
  refine own_callS X 20 [(.long pa), (.int ((pd >>> ((2 : Int32) &&& 31)) &&& (3 : Int32)))] [] at_17 rfl (hw _ (List.mem_of_getElem? (i := 5) rfl)) (hw _ (List.mem_of_getElem? (i := 6) rfl)) (hw _ (List.mem_of_getElem? (i := 2) rfl)) (hw _ (List.mem_of_getElem? (i := 7) rfl)) (by decide) (own_pickN l Z a0 hw pa ((pd >>> ((2 : Int32) &&& 31)) &&& (3 : Int32)) h0 n0 X.sz) (fun _ _ q => Nat.le_of_eq (congrArg Array.size q.1.symm)) rfl own_pd10 rfl rfl rfl (by decide) (Nat.le_of_ble_eq_true rfl) (by decide) (by decide) ?_
  rintro v17 T h_ X ⟨eh_, q2, rfl, h_q2⟩
  rw [eh_] at X
  show own_Ends p e below _ (T.setTop (mkF m 20 #[.val (.long pa), .second, .val (.long pb), .second, .val (.int pc), .val (.int pd), .val (.long q1), .second, .unset, .unset, .unset, .unset, .unset, .unset, .unset] [(.long q2)]))
  refine own_lstore X 22 #[.val (.long pa), .second, .val (.long pb), .second, .val (.int pc), .val (.int pd), .val (.long q1), .second, .val (.long q2), .second, .unset, .unset, .unset, .unset, .unset] at_20 rfl rfl ?_
  refine own_iload X 24 pc at_22 rfl rfl ?_
  refine own_ldcI X 26 at_24 rfl (hw _ (List.mem_of_getElem? (i := 9) rfl)) ?_
  refine own_iand X 27 at_26 rfl ?_
  refine own_ldcI X 29 at_27 rfl (hw _ (List.mem_of_getElem? (i := 10) rfl)) ?_
  refine own_irem X 30 at_29 rfl (by decide) ?_
  refine own_i2l X 31 at_30 rfl ?_
  refine own_lstore X 33 #[.val (.long pa), .second, .val (.long pb), .second, .val (.int pc), .val (.int pd), .val (.long q1), .second, .val (.long q2), .second, .val (.long ((pc &&& (2147483647 : Int32)) % (1000000000 : Int32)).toInt64), .second, .unset, .unset, .unset] at_31 rfl rfl ?_
  obtain ⟨nv, hnv⟩ : ∃ z, z = ((pc &&& (2147483647 : Int32)) % (1000000000 : Int32)).toInt64 := ⟨_, rfl⟩
  rw [← hnv]
  have rn : 0 ≤ nv.toInt ∧ nv.toInt < 1000000000 := by rw [hnv]; exact own_nr _
  refine own_lload X 35 q1 at_33 rfl rfl ?_
  refine own_lload X 37 nv at_35 rfl rfl ?_
  refine own_callS X 40 [(.long q1), (.long nv)] [] at_37 rfl (hw _ (List.mem_of_getElem? (i := 11) rfl)) (hw _ (List.mem_of_getElem? (i := 12) rfl)) (hw _ (List.mem_of_getElem? (i := 13) rfl)) (hw _ (List.mem_of_getElem? (i := 14) rfl)) (by decide) (own_ofs l Z a0 hw q1 nv za h0 n0 X.sz OL z_Z z_EZ z_SZ z_NZ rn.1 rn.2) (fun _ _ q => q.1.1) rfl own_pd11 rfl rfl rfl (by decide) (Nat.le_of_ble_eq_true rfl) (by decide) (by decide) ?_
  rintro v37 T h4 X ⟨K_, d3, rfl, E_d3, F_seconds_d3, F_nanos_d3⟩
  have zs_h4 : h0.size ≤ h4.size := K_.1
  have OL := OL.keep K_ all0
  show own_Ends p e below _ (T.setTop (mkF m 40 #[.val (.long pa), .second, .val (.long pb), .second, .val (.int pc), .val (.int pd), .val (.long q1), .second, .val (.long q2), .second, .val (.long nv), .second, .unset, .unset, .unset] [(.ref d3)]))
  refine own_astore X 42 #[.val (.long pa), .second, .val (.long pb), .second, .val (.int pc), .val (.int pd), .val (.long q1), .second, .val (.long q2), .second, .val (.long nv), .second, .val (.ref d3), .unset, .unset] at_40 rfl rfl rfl ?_
  refine own_lload X 44 q2 at_42 rfl rfl ?_
  refine own_aload X 46 (.ref d3) at_44 rfl rfl rfl ?_
  refine own_callSW X hS (by omega) 49 [(.long q2), (.ref d3)] [] at_46 rfl (hw _ (List.mem_of_getElem? (i := 42) rfl)) (hw _ (List.mem_of_getElem? (i := 43) rfl)) (hw _ (List.mem_of_getElem? (i := 44) rfl)) (hw _ (List.mem_of_getElem? (i := 45) rfl)) (by decide) (own_after l Z a0 hw q2 d3 q1 nv.toInt32 la h4 n0 X.sz F_seconds_d3 F_nanos_d3 E_d3 OL z_L z_EL z_SL z_NL h_q2 (by rw [XT.narrowInt ⟨by omega, by omega⟩]; exact rn.1) (by rw [XT.narrowInt ⟨by omega, by omega⟩]; exact rn.2)) rfl own_pd12 rfl rfl rfl (by decide) (Nat.le_of_ble_eq_true rfl) (by decide) (by decide) ?_
  rintro v46 T h5 vm0 k0 X hS hk0 ⟨K_, rfl⟩
  have zs_h5 : h4.size ≤ h5.size := K_.1
  have OL := OL.keep K_ all0
  have E_d3 := E_d3.keep K_
  have F_seconds_d3 := F_seconds_d3.keep K_ nin0
  have F_nanos_d3 := F_nanos_d3.keep K_ nin0
  show own_Ends p e below _ (T.setTop (mkF m 49 #[.val (.long pa), .second, .val (.long pb), .second, .val (.int pc), .val (.int pd), .val (.long q1), .second, .val (.long q2), .second, .val (.long nv), .second, .val (.ref d3), .unset, .unset] [(.long (own_aft q2 (if q1 < 0 then 0 else own_nan q1 nv.toInt32)))]))
  refine own_lstore X 51 #[.val (.long pa), .second, .val (.long pb), .second, .val (.int pc), .val (.int pd), .val (.long q1), .second, .val (.long q2), .second, .val (.long nv), .second, .val (.ref d3), .val (.long (own_aft q2 (if q1 < 0 then 0 else own_nan q1 nv.toInt32))), .second] at_49 rfl rfl ?_
  refine own_lload X 53 (own_aft q2 (if q1 < 0 then 0 else own_nan q1 nv.toInt32)) at_51 rfl rfl ?_
  refine own_lload X 55 q2 at_53 rfl rfl ?_
  refine own_lload X 57 q1 at_55 rfl rfl ?_
  refine own_lload X 59 nv at_57 rfl rfl ?_
  refine own_callS X 62 [(.long q2), (.long q1), (.long nv)] [(.long (own_aft q2 (if q1 < 0 then 0 else own_nan q1 nv.toInt32)))] at_59 rfl (hw _ (List.mem_of_getElem? (i := 92) rfl)) (hw _ (List.mem_of_getElem? (i := 93) rfl)) (hw _ (List.mem_of_getElem? (i := 2) rfl)) (hw _ (List.mem_of_getElem? (i := 94) rfl)) (by decide) (own_expected l Z a0 hw q2 q1 nv h5 n0 X.sz) (fun _ _ q => Nat.le_of_eq (congrArg Array.size q.1.symm)) rfl own_pd13 rfl rfl rfl (by decide) (Nat.le_of_ble_eq_true rfl) (by decide) (by decide) ?_
  rintro v59 T h_ X ⟨eh_, rfl⟩
  rw [eh_] at X
  show own_Ends p e below _ (T.setTop (mkF m 62 #[.val (.long pa), .second, .val (.long pb), .second, .val (.int pc), .val (.int pd), .val (.long q1), .second, .val (.long q2), .second, .val (.long nv), .second, .val (.ref d3), .val (.long (own_aft q2 (if q1 < 0 then 0 else own_nan q1 nv.toInt32))), .second] [(.long (own_expd q2 q1 nv)), (.long (own_aft q2 (if q1 < 0 then 0 else own_nan q1 nv.toInt32)))]))
  refine own_lcmp X 63 at_62 rfl ?_
  refine own_ifN X 66 at_63 rfl (XT.ll_ne_f (own_main h_q2 rn.1 rn.2 rfl)) ?_
  refine own_iconst X 67 (1 : Int32) at_66 rfl rfl ?_
  refine own_goto X 71 at_67 (by decide) (by decide) ?_
  exact own_retNW X hS (by omega) .boolean at_71 rfl (by simp) (by decide) (by decide) (by decide)
set_option maxRecDepth 65536 in
set_option maxHeartbeats 40000000 in
theorem comes_1 {Post : Tables → Env → Array Value → State → Outcome → State → Prop} (hpost : ∀ tb e args s v u, (limb_1_1.after args s (.returned v) u = true ∧ limb_1_2.after args s (.returned v) u = true ∧ True) → ReturnedEndW s (.returned v) u (Jvm.fieldLocs frame_1_writes args s ++ Jvm.arrayLocs frame_1_arrays args s ++ Jvm.staticLocs frame_1_statics s) 16 1152 → Post tb e args s (.returned v) u) :
    ArmFor flags0 classFile x code maxLocals ret World_1 tables_1 room_1 Calls_1 rest_1 Pre_1 Post := by
  intro l hfl _ _ p e ha hc hk s m args below hf hA hF happ hP
  obtain ⟨hcalls, hrest, hpre⟩ := hP
  obtain ⟨-, -, -, hnamed, -, -, -, hat⟩ := (Spec.applies_iff hf).mp happ
  obtain ⟨hg, hn⟩ := and_e (Cond.before_iff.mp (show (Jvm.Cond.and given_1 narrow_1).before args s = true from hpre))
  obtain ⟨hcount, hg0⟩ := and_e hg
  obtain ⟨ha0, hg1⟩ := and_e hg0
  obtain ⟨ha1, hg2⟩ := and_e hg1
  obtain ⟨ha2, hg3⟩ := and_e hg2
  have ha3 := hg3
  obtain ⟨w0, w1, w2, w3, rfl⟩ : ∃ w0 w1 w2 w3 : Value, args = #[w0, w1, w2, w3] := by
    have hs : args.size = 4 := by simpa [Cond.value, given_1] using hcount
    obtain ⟨L⟩ := args
    match L, hs with
    | [w0, w1, w2, w3], _ => exact ⟨w0, w1, w2, w3, rfl⟩
  have hw := fun d (hd : d ∈ tables_1) => atoms_spec (ws := Jvm.Cond.code x code maxLocals ret :: tables_1) hat d (List.mem_cons_of_mem _ hd)
  have hfit : Fit s := fun {y c} hc i hi => by
    obtain ⟨ha, rfl⟩ := Array.getElem?_eq_some_iff.mp hc
    have q := List.all_eq_true.mp ((Array.all_eq_true_iff_forall_mem.mp hF) _ (Array.getElem_mem ha)) i (List.mem_range.mpr hi)
    simpa [Array.getElem?_eq_getElem hi] using q
  obtain ⟨hsets, hown0⟩ := atoms_of _ (rest_1_c_eq ▸ (show rest_1_c.before _ s = true from hrest))
  have hr0 := Cond.before_iff.mp hown0
  obtain ⟨i0, ei0⟩ := isL_v ha0
  obtain rfl : w0 = (.long i0) := Option.some.inj ei0
  obtain ⟨i1, ei1⟩ := isL_v ha1
  obtain rfl : w1 = (.long i1) := Option.some.inj ei1
  obtain ⟨i2, ei2⟩ := is_v ha2
  obtain rfl : w2 = (.int i2) := Option.some.inj ei2
  obtain ⟨i3, ei3⟩ := is_v ha3
  obtain rfl : w3 = (.int i3) := Option.some.inj ei3
  obtain ⟨c1, hn⟩ := and_e hn
  obtain ⟨c2, c3⟩ := and_e hn
  obtain ⟨la, ev⟩ := exa_v c1
  have S1 := Sta.start ev (Or.inr ⟨(hw _ (List.mem_of_getElem? (i := 44) rfl)), (hw _ (List.mem_of_getElem? (i := 67) rfl))⟩)
  have E1 := Exa.start ev c1
  have F1 := Fld.start ((fld_at ev).symm.trans (own_eqLong c2))
  have F2 := Fld.start ((fld_at ev).symm.trans (own_eqInt c3))
  have z2 := (Cond.before_iff.mp (hsets _ (List.mem_of_getElem? (i := 2) rfl)))
  obtain ⟨za, ez⟩ := exa_v z2
  have S2 := Sta.start ez (Or.inl (hsets _ (List.mem_of_getElem? (i := 1) rfl)))
  have E2 := Exa.start ez z2
  have G1 := Fld.start ((fld_at ez).symm.trans (own_eqLong (Cond.before_iff.mp (hsets _ (List.mem_of_getElem? (i := 3) rfl)))))
  have G2 := Fld.start ((fld_at ez).symm.trans (own_eqInt (Cond.before_iff.mp (hsets _ (List.mem_of_getElem? (i := 4) rfl)))))
  obtain ⟨n, o, h1, h2, h3, _, L, rfl, ⟨rfl, N⟩, hq⟩ := own_m0 l s _ hw i0 i1 i2 i3 la za s.heap s.heap.size (Nat.le_refl _) (Old.start s) S1 E1 F1 F2 S2 E2 G1 G2 tables_1 p e ha hc hk s m _ below hf ((Spec.applies_iff_loose hf).mp happ).1 ⟨rfl, State.Warmed39.refl s, rfl⟩ trivial
  refine ⟨n, _, h1, h2, h3, hpost _ _ _ _ _ _ ⟨Cond.after_iff.mpr rfl, Cond.after_iff.mpr (eq_i res_at (Term.int_eval (1)) rfl), trivial⟩ ⟨hq.1, hq.2.1, hq.2.2.1, (hq.2.2.2.sift fun y hy => Or.inr (N y hy)).mono (by decide) (by decide)⟩⟩
theorem main_1_1 : Claimed_1_1 := comes_1 fun _ _ _ _ _ _ h hF => ⟨h.1, hF⟩
theorem main_1_2 : Claimed_1_2 := comes_1 fun _ _ _ _ _ _ h hF => ⟨h.2.1, hF⟩
end Jvm.Pilot.@@N@@
namespace Jvm.Pilot.@@N@@
open Jvm Jvm.ClassFile Sem Op Lib Jvm.Free Jvm.Stand Jvm.Pilot.@@N@@.Jvm.D
/-! MADE BY PROGRAM (witnessworld.py) out of the Statement's table words and the real class files: 20 classes; the members and pool entries that the words name. The judged class is class 1, her method 4. -/
namespace start1
open Jvm.ClassFile
def u (s : String) : CpInfo := .utf8 (stringToUtf16 s)
/-- a pool by its gaps: so many unusable entries, then the entry; so many at the end -/
def gap : Nat → List CpInfo → List CpInfo
  | 0, r => r
  | n + 1, r => .unusable :: gap n r
def poolList (es : List (Nat × CpInfo)) (last : Nat) : List CpInfo := es.foldr (fun e r => gap e.1 (e.2 :: r)) (gap last [])
def pool (es : List (Nat × CpInfo)) (last : Nat) : Array CpInfo := ⟨poolList es last⟩
def fileOf (pool : Array CpInfo) (this : Nat) (attrs : Array Attribute := #[]) (ms : Array MethodInfo := #[]) (fl : Nat := 33) (sup : Nat := 0) (ifs : Array Nat := #[]) (fds : Array FieldInfo := #[]) : ClassFile where
  minorVersion := 0
  majorVersion := 65
  constantPool := pool
  accessFlags := fl
  thisClass := this
  superClass := sup
  interfaces := ifs
  fields := fds
  methods := ms
  attributes := attrs
def plain (name : String) (sup : Option ClassId) : Class where
  name := name
  kind := .ordinary
  loader := none
  accessFlags := 33
  super := sup
  interfaces := #[]
  cf := none
  fields := #[]
  methods := #[]
  instanceTypes := #[]
  staticTypes := #[]
  resolved := #[]
  callSites := []
  init := .initialized
  statics := none
  mirror := none

def pool0 : Array CpInfo := pool [(5, u "<init>"), (0, u "()V"), (1, .class_ 10), (1, u "java/lang/Object")] 113

def k0c0 : Code := { maxStack := 0, maxLocals := 1, code := object_method_1_code, exceptionTable := #[], attributes := #[] }
def k0m0 : Method := { name := "<init>", desc := "()V", sig := { parameters := [], returnType := none }, accessFlags := 1, code := some k0c0 }
/-- java/lang/Object -/
def k0 : Class := { plain "java/lang/Object" none with
  accessFlags := 33
  interfaces := #[]
  cf := some (fileOf pool0 8 #[] #[{ accessFlags := 1, nameIndex := 5, descriptorIndex := 6, attributes := #[] }] 33 0 #[] #[])
  fields := #[]
  methods := #[k0m0]
  instanceTypes := #[]
  staticTypes := #[]
  resolved := Array.replicate 124 none
  statics := none }

def pool1 : Array CpInfo := pool [(2, .class_ 4), (1, u "java/lang/Object"), (0, u "<init>"), (0, u "()V"), (0, .long 9223372036), (1, .long 3), (1, .long 2), (1, .long 1000), (3, .long 9223372036854775807), (1, .long 4294967295), (1, .long 854775807), (1, .long 1000000000), (1, .methodref 26 27), (0, .class_ 28), (0, .nameAndType 29 30), (0, u "com/example/tickwell/tickwell/DueTimeAfterPinLaw"), (0, u "pickSeconds"), (0, u "(JI)J"), (0, .methodref 26 32), (0, .nameAndType 33 30), (0, u "pickNow"), (0, .integer 2147483647), (0, .integer 1000000000), (0, .methodref 37 38), (0, .class_ 39), (0, .nameAndType 40 41), (0, u "java/time/Duration"), (0, u "ofSeconds"), (0, u "(JJ)Ljava/time/Duration;"), (0, .methodref 43 44), (0, .class_ 45), (0, .nameAndType 46 47), (0, u "com/example/tickwell/tickwell/DueTime"), (0, u "after"), (0, u "(JLjava/time/Duration;)J"), (0, .methodref 26 49), (0, .nameAndType 50 51), (0, u "expected"), (0, u "(JJJ)J"), (3, u "law"), (0, u "(JJII)Z")] 2

def k1m0 : Method := { name := "<init>", desc := "()V", sig := { parameters := [], returnType := none }, accessFlags := 2, code := none }
def k1c1 : Code := { maxStack := 6, maxLocals := 3, code := method_2_code, exceptionTable := #[], attributes := #[] }
def k1m1 : Method := { name := "pickSeconds", desc := "(JI)J", sig := { parameters := [.long, .int], returnType := some .long }, accessFlags := 10, code := some k1c1 }
def k1c2 : Code := { maxStack := 6, maxLocals := 3, code := method_3_code, exceptionTable := #[], attributes := #[] }
def k1m2 : Method := { name := "pickNow", desc := "(JI)J", sig := { parameters := [.long, .int], returnType := some .long }, accessFlags := 10, code := some k1c2 }
def k1c3 : Code := { maxStack := 4, maxLocals := 10, code := method_4_code, exceptionTable := #[], attributes := #[] }
def k1m3 : Method := { name := "expected", desc := "(JJJ)J", sig := { parameters := [.long, .long, .long], returnType := some .long }, accessFlags := 10, code := some k1c3 }
def k1c4 : Code := { maxStack := 8, maxLocals := 15, code := code, exceptionTable := #[], attributes := #[] }
def k1m4 : Method := { name := "law", desc := "(JJII)Z", sig := { parameters := [.long, .long, .int, .int], returnType := some .boolean }, accessFlags := 9, code := some k1c4 }
/-- com/example/tickwell/tickwell/DueTimeAfterPinLaw -/
def k1 : Class := { plain "com/example/tickwell/tickwell/DueTimeAfterPinLaw" (some 0) with
  accessFlags := 49
  interfaces := #[]
  cf := some (fileOf pool1 26 #[] #[{ accessFlags := 2, nameIndex := 5, descriptorIndex := 6, attributes := #[] }, { accessFlags := 10, nameIndex := 29, descriptorIndex := 30, attributes := #[] }, { accessFlags := 10, nameIndex := 33, descriptorIndex := 30, attributes := #[] }, { accessFlags := 10, nameIndex := 50, descriptorIndex := 51, attributes := #[] }, { accessFlags := 9, nameIndex := 55, descriptorIndex := 56, attributes := #[] }] 49 2 #[] #[])
  fields := #[]
  methods := #[k1m0, k1m1, k1m2, k1m3, k1m4]
  instanceTypes := #[]
  staticTypes := #[]
  resolved := Array.replicate 59 none
  statics := none }

def pool2 : Array CpInfo := pool [(1, .class_ 2), (0, u "java/time/temporal/TemporalAmount"), (0, .class_ 4), (0, u "java/lang/Object")] 11

/-- java/time/temporal/TemporalAmount -/
def k2 : Class := { plain "java/time/temporal/TemporalAmount" (some 0) with
  accessFlags := 1537
  interfaces := #[]
  cf := some (fileOf pool2 1 #[] #[] 1537 3 #[] #[])
  fields := #[]
  methods := #[]
  instanceTypes := #[]
  staticTypes := #[]
  resolved := Array.replicate 16 none
  statics := none }

def pool3 : Array CpInfo := pool [(1, .class_ 2), (0, u "java/lang/Comparable"), (0, .class_ 4), (0, u "java/lang/Object")] 7

/-- java/lang/Comparable -/
def k3 : Class := { plain "java/lang/Comparable" (some 0) with
  accessFlags := 1537
  interfaces := #[]
  cf := some (fileOf pool3 1 #[] #[] 1537 3 #[] #[])
  fields := #[]
  methods := #[]
  instanceTypes := #[]
  staticTypes := #[]
  resolved := Array.replicate 12 none
  statics := none }

def pool4 : Array CpInfo := pool [(1, .class_ 2), (0, u "java/io/Serializable"), (0, .class_ 4), (0, u "java/lang/Object")] 2

/-- java/io/Serializable -/
def k4 : Class := { plain "java/io/Serializable" (some 0) with
  accessFlags := 1537
  interfaces := #[]
  cf := some (fileOf pool4 1 #[] #[] 1537 3 #[] #[])
  fields := #[]
  methods := #[]
  instanceTypes := #[]
  staticTypes := #[]
  resolved := Array.replicate 7 none
  statics := none }

def pool5 : Array CpInfo := pool [(5, .class_ 7), (1, u "java/lang/Math"), (0, u "multiplyExact"), (1, .methodref 11 12), (0, .class_ 13), (0, .nameAndType 14 15), (0, u "java/time/Duration"), (0, u "create"), (0, u "(JI)Ljava/time/Duration;"), (0, .long 1000000000), (1, .methodref 5 19), (0, .nameAndType 20 21), (0, u "floorDiv"), (0, u "(JJ)J"), (0, .methodref 5 23), (0, .nameAndType 24 21), (0, u "addExact"), (0, .methodref 5 26), (0, .nameAndType 27 21), (0, u "floorMod"), (4, .fieldref 11 33), (0, .nameAndType 34 35), (0, u "ZERO"), (0, u "Ljava/time/Duration;"), (13, .class_ 51), (1, u "java/time/temporal/TemporalAmount"), (13, u "()Z"), (13, .class_ 81), (1, u "java/time/Duration$Lazy"), (35, u "seconds"), (21, u "<init>"), (7, .class_ 149), (1, u "java/lang/Long"), (7, .nameAndType 139 158), (0, u "()V"), (19, u "ofSeconds"), (0, u "(JJ)Ljava/time/Duration;"), (35, .methodref 11 216), (0, .nameAndType 139 217), (0, u "(JI)V"), (0, .methodref 219 157), (0, .class_ 220), (0, u "java/lang/Object"), (0, .fieldref 11 222), (0, .nameAndType 117 223), (0, u "J"), (0, .fieldref 11 225), (0, .nameAndType 226 227), (0, u "nanos"), (0, u "I"), (11, .class_ 241), (1, u "java/time/Duration$DurationUnits"), (9, u "()J"), (17, .class_ 271), (1, u "java/time/Duration$1"), (17, .methodref 5 290), (0, .nameAndType 8 21), (72, u "BI_NANOS_PER_SECOND"), (0, u "Ljava/math/BigInteger;"), (21, u "isNegative"), (24, u "toNanos"), (4, .methodref 147 417), (0, .nameAndType 418 419), (0, u "compare"), (0, u "(JJ)I"), (60, u "compareTo"), (0, u "(Ljava/time/Duration;)I"), (3, .class_ 486), (0, u "java/lang/Comparable"), (0, .class_ 488), (0, u "java/io/Serializable"), (0, u "serialVersionUID")] 166

def k5c0 : Code := { maxStack := 6, maxLocals := 7, code := jdk_2316_method_5_code, exceptionTable := #[], attributes := #[] }
def k5m0 : Method := { name := "ofSeconds", desc := "(JJ)Ljava/time/Duration;", sig := { parameters := [.long, .long], returnType := some (.object "java/time/Duration") }, accessFlags := 9, code := some k5c0 }
def k5c1 : Code := { maxStack := 5, maxLocals := 3, code := jdk_2316_method_16_code, exceptionTable := #[], attributes := #[] }
def k5m1 : Method := { name := "create", desc := "(JI)Ljava/time/Duration;", sig := { parameters := [.long, .int], returnType := some (.object "java/time/Duration") }, accessFlags := 10, code := some k5c1 }
def k5c2 : Code := { maxStack := 3, maxLocals := 4, code := jdk_2316_method_17_code, exceptionTable := #[], attributes := #[] }
def k5m2 : Method := { name := "<init>", desc := "(JI)V", sig := { parameters := [.long, .int], returnType := none }, accessFlags := 2, code := some k5c2 }
def k5c3 : Code := { maxStack := 4, maxLocals := 1, code := jdk_2316_method_22_code, exceptionTable := #[], attributes := #[] }
def k5m3 : Method := { name := "isNegative", desc := "()Z", sig := { parameters := [], returnType := some .boolean }, accessFlags := 1, code := some k5c3 }
def k5c4 : Code := { maxStack := 4, maxLocals := 7, code := jdk_2316_method_58_code, exceptionTable := #[], attributes := #[] }
def k5m4 : Method := { name := "toNanos", desc := "()J", sig := { parameters := [], returnType := some .long }, accessFlags := 1, code := some k5c4 }
def k5c5 : Code := { maxStack := 4, maxLocals := 3, code := jdk_2316_method_66_code, exceptionTable := #[], attributes := #[] }
def k5m5 : Method := { name := "compareTo", desc := "(Ljava/time/Duration;)I", sig := { parameters := [(.object "java/time/Duration")], returnType := some .int }, accessFlags := 1, code := some k5c5 }
/-- java/time/Duration -/
def k5 : Class := { plain "java/time/Duration" (some 0) with
  accessFlags := 49
  interfaces := #[2, 3, 4]
  cf := some (fileOf pool5 11 #[.nestMembers #[269, 239, 79]] #[{ accessFlags := 9, nameIndex := 178, descriptorIndex := 179, attributes := #[] }, { accessFlags := 10, nameIndex := 14, descriptorIndex := 15, attributes := #[] }, { accessFlags := 2, nameIndex := 139, descriptorIndex := 217, attributes := #[] }, { accessFlags := 1, nameIndex := 386, descriptorIndex := 65, attributes := #[] }, { accessFlags := 1, nameIndex := 411, descriptorIndex := 251, attributes := #[] }, { accessFlags := 1, nameIndex := 480, descriptorIndex := 481, attributes := #[] }] 49 219 #[49, 485, 487] #[{ accessFlags := 25, nameIndex := 34, descriptorIndex := 35, attributes := #[] }, { accessFlags := 26, nameIndex := 489, descriptorIndex := 223, attributes := #[] }, { accessFlags := 26, nameIndex := 363, descriptorIndex := 364, attributes := #[] }, { accessFlags := 18, nameIndex := 117, descriptorIndex := 223, attributes := #[] }, { accessFlags := 18, nameIndex := 226, descriptorIndex := 227, attributes := #[] }])
  fields := #[{ name := "ZERO", type := (.object "java/time/Duration"), accessFlags := 25, slot := 0, constantValue := 0 }, { name := "serialVersionUID", type := .long, accessFlags := 26, slot := 1, constantValue := 0 }, { name := "BI_NANOS_PER_SECOND", type := (.object "java/math/BigInteger"), accessFlags := 26, slot := 2, constantValue := 0 }, { name := "seconds", type := .long, accessFlags := 18, slot := 0, constantValue := 0 }, { name := "nanos", type := .int, accessFlags := 18, slot := 1, constantValue := 0 }]
  methods := #[k5m0, k5m1, k5m2, k5m3, k5m4, k5m5]
  instanceTypes := #[.long, .int]
  staticTypes := #[(.object "java/time/Duration"), .long, (.object "java/math/BigInteger")]
  resolved := Array.replicate 656 none
  statics := some 0 }

def pool6 : Array CpInfo := pool [(1, .class_ 2), (0, u "java/lang/Math"), (1, .class_ 6), (1, u "java/lang/Object"), (0, u "<init>"), (0, u "()V"), (89, .class_ 100), (1, u "java/lang/Math$RandomNumberGeneratorHolder"), (19, u "multiplyExact"), (0, u "(JJ)J"), (0, .methodref 1 123), (0, .nameAndType 124 125), (0, u "abs"), (0, u "(J)J"), (2, .long 9223372036854775808), (16, u "floorDiv"), (2, u "floorMod"), (23, u "negativeZeroFloatBits"), (0, u "J"), (2, u "negativeZeroDoubleBits"), (68, u "$assertionsDisabled"), (0, u "Z"), (91, u "twoToTheDoubleScaleDown"), (0, u "D"), (4, u "twoToTheDoubleScaleUp"), (9, u "E"), (3, u "PI"), (2, u "TAU"), (2, u "DEGREES_TO_RADIANS"), (0, u "RADIANS_TO_DEGREES"), (27, u "addExact")] 66

def k6m0 : Method := { name := "<init>", desc := "()V", sig := { parameters := [], returnType := none }, accessFlags := 2, code := none }
def k6c1 : Code := { maxStack := 6, maxLocals := 6, code := jdk_29_method_25_code, exceptionTable := #[], attributes := #[] }
def k6m1 : Method := { name := "addExact", desc := "(JJ)J", sig := { parameters := [.long, .long], returnType := some .long }, accessFlags := 9, code := some k6c1 }
def k6c2 : Code := { maxStack := 4, maxLocals := 10, code := jdk_29_method_30_code, exceptionTable := #[], attributes := #[] }
def k6m2 : Method := { name := "multiplyExact", desc := "(JJ)J", sig := { parameters := [.long, .long], returnType := some .long }, accessFlags := 9, code := some k6c2 }
def k6c3 : Code := { maxStack := 4, maxLocals := 6, code := jdk_29_method_49_code, exceptionTable := #[], attributes := #[] }
def k6m3 : Method := { name := "floorDiv", desc := "(JJ)J", sig := { parameters := [.long, .long], returnType := some .long }, accessFlags := 9, code := some k6c3 }
def k6c4 : Code := { maxStack := 4, maxLocals := 6, code := jdk_29_method_52_code, exceptionTable := #[], attributes := #[] }
def k6m4 : Method := { name := "floorMod", desc := "(JJ)J", sig := { parameters := [.long, .long], returnType := some .long }, accessFlags := 9, code := some k6c4 }
def k6c5 : Code := { maxStack := 4, maxLocals := 2, code := jdk_29_method_61_code, exceptionTable := #[], attributes := #[] }
def k6m5 : Method := { name := "abs", desc := "(J)J", sig := { parameters := [.long], returnType := some .long }, accessFlags := 9, code := some k6c5 }
/-- java/lang/Math -/
def k6 : Class := { plain "java/lang/Math" (some 0) with
  accessFlags := 49
  interfaces := #[]
  cf := some (fileOf pool6 1 #[.nestMembers #[98]] #[{ accessFlags := 2, nameIndex := 7, descriptorIndex := 8, attributes := #[] }, { accessFlags := 9, nameIndex := 393, descriptorIndex := 121, attributes := #[] }, { accessFlags := 9, nameIndex := 120, descriptorIndex := 121, attributes := #[] }, { accessFlags := 9, nameIndex := 145, descriptorIndex := 121, attributes := #[] }, { accessFlags := 9, nameIndex := 148, descriptorIndex := 121, attributes := #[] }, { accessFlags := 9, nameIndex := 124, descriptorIndex := 125, attributes := #[] }] 49 4 #[] #[{ accessFlags := 25, nameIndex := 354, descriptorIndex := 339, attributes := #[] }, { accessFlags := 25, nameIndex := 358, descriptorIndex := 339, attributes := #[] }, { accessFlags := 25, nameIndex := 361, descriptorIndex := 339, attributes := #[] }, { accessFlags := 26, nameIndex := 364, descriptorIndex := 339, attributes := #[] }, { accessFlags := 26, nameIndex := 365, descriptorIndex := 339, attributes := #[] }, { accessFlags := 26, nameIndex := 172, descriptorIndex := 173, attributes := #[] }, { accessFlags := 26, nameIndex := 176, descriptorIndex := 173, attributes := #[] }, { accessFlags := 8, nameIndex := 344, descriptorIndex := 339, attributes := #[] }, { accessFlags := 8, nameIndex := 338, descriptorIndex := 339, attributes := #[] }, { accessFlags := 4120, nameIndex := 245, descriptorIndex := 246, attributes := #[] }])
  fields := #[{ name := "E", type := .double, accessFlags := 25, slot := 0, constantValue := 0 }, { name := "PI", type := .double, accessFlags := 25, slot := 1, constantValue := 0 }, { name := "TAU", type := .double, accessFlags := 25, slot := 2, constantValue := 0 }, { name := "DEGREES_TO_RADIANS", type := .double, accessFlags := 26, slot := 3, constantValue := 0 }, { name := "RADIANS_TO_DEGREES", type := .double, accessFlags := 26, slot := 4, constantValue := 0 }, { name := "negativeZeroFloatBits", type := .long, accessFlags := 26, slot := 5, constantValue := 0 }, { name := "negativeZeroDoubleBits", type := .long, accessFlags := 26, slot := 6, constantValue := 0 }, { name := "twoToTheDoubleScaleUp", type := .double, accessFlags := 8, slot := 7, constantValue := 0 }, { name := "twoToTheDoubleScaleDown", type := .double, accessFlags := 8, slot := 8, constantValue := 0 }, { name := "$assertionsDisabled", type := .boolean, accessFlags := 4120, slot := 9, constantValue := 0 }]
  methods := #[k6m0, k6m1, k6m2, k6m3, k6m4, k6m5]
  instanceTypes := #[]
  staticTypes := #[.double, .double, .double, .double, .double, .long, .long, .double, .double, .boolean]
  resolved := Array.replicate 460 none
  statics := none }

def pool7 : Array CpInfo := pool [(2, .class_ 4), (1, u "java/lang/Object"), (0, u "<init>"), (0, u "()V"), (0, .string 8), (0, u "delay"), (0, .methodref 10 11), (0, .class_ 12), (0, .nameAndType 13 14), (0, u "java/util/Objects"), (0, u "requireNonNull"), (0, u "(Ljava/lang/Object;Ljava/lang/String;)Ljava/lang/Object;"), (0, .methodref 16 17), (0, .class_ 18), (0, .nameAndType 19 20), (0, u "java/time/Duration"), (0, u "isNegative"), (0, u "()Z"), (0, .methodref 22 23), (0, .class_ 24), (0, .nameAndType 25 26), (0, u "com/example/tickwell/tickwell/DueTime"), (0, u "nanos"), (0, u "(Ljava/time/Duration;)J"), (0, .methodref 22 28), (0, .nameAndType 29 30), (0, u "after"), (0, u "(JJ)J"), (11, .long 9223372036854775807), (1, .fieldref 22 45), (0, .nameAndType 46 47), (0, u "LONGEST"), (0, u "Ljava/time/Duration;"), (0, .methodref 16 49), (0, .nameAndType 50 51), (0, u "compareTo"), (0, u "(Ljava/time/Duration;)I"), (0, .methodref 16 53), (0, .nameAndType 54 55), (0, u "toNanos"), (0, u "()J"), (6, u "(JLjava/time/Duration;)J")] 19

def k7m0 : Method := { name := "<init>", desc := "()V", sig := { parameters := [], returnType := none }, accessFlags := 2, code := none }
def k7c1 : Code := { maxStack := 4, maxLocals := 3, code := prog_3_method_2_code, exceptionTable := #[], attributes := #[] }
def k7m1 : Method := { name := "after", desc := "(JLjava/time/Duration;)J", sig := { parameters := [.long, (.object "java/time/Duration")], returnType := some .long }, accessFlags := 8, code := some k7c1 }
def k7c2 : Code := { maxStack := 6, maxLocals := 4, code := prog_3_method_3_code, exceptionTable := #[], attributes := #[] }
def k7m2 : Method := { name := "after", desc := "(JJ)J", sig := { parameters := [.long, .long], returnType := some .long }, accessFlags := 8, code := some k7c2 }
def k7c3 : Code := { maxStack := 2, maxLocals := 1, code := prog_3_method_4_code, exceptionTable := #[], attributes := #[] }
def k7m3 : Method := { name := "nanos", desc := "(Ljava/time/Duration;)J", sig := { parameters := [(.object "java/time/Duration")], returnType := some .long }, accessFlags := 8, code := some k7c3 }
/-- com/example/tickwell/tickwell/DueTime -/
def k7 : Class := { plain "com/example/tickwell/tickwell/DueTime" (some 0) with
  accessFlags := 48
  interfaces := #[]
  cf := some (fileOf pool7 22 #[] #[{ accessFlags := 2, nameIndex := 5, descriptorIndex := 6, attributes := #[] }, { accessFlags := 8, nameIndex := 29, descriptorIndex := 62, attributes := #[] }, { accessFlags := 8, nameIndex := 29, descriptorIndex := 30, attributes := #[] }, { accessFlags := 8, nameIndex := 25, descriptorIndex := 26, attributes := #[] }] 48 2 #[] #[{ accessFlags := 26, nameIndex := 46, descriptorIndex := 47, attributes := #[] }])
  fields := #[{ name := "LONGEST", type := (.object "java/time/Duration"), accessFlags := 26, slot := 0, constantValue := 0 }]
  methods := #[k7m0, k7m1, k7m2, k7m3]
  instanceTypes := #[]
  staticTypes := #[(.object "java/time/Duration")]
  resolved := Array.replicate 82 none
  statics := some 1 }

def pool8 : Array CpInfo := pool [(2, .class_ 4), (1, u "java/lang/CharSequence"), (42, .class_ 48), (0, u "java/lang/CharSequence$1CodePointIterator"), (10, .class_ 60), (0, u "java/lang/CharSequence$1CharIterator"), (5, .class_ 67), (0, u "java/lang/Object")] 63

/-- java/lang/CharSequence -/
def k8 : Class := { plain "java/lang/CharSequence" (some 0) with
  accessFlags := 1537
  interfaces := #[]
  cf := some (fileOf pool8 2 #[.nestMembers #[47, 59]] #[] 1537 66 #[] #[])
  fields := #[]
  methods := #[]
  instanceTypes := #[]
  staticTypes := #[]
  resolved := Array.replicate 131 none
  statics := none }

def pool9 : Array CpInfo := pool [(1, .class_ 2), (0, u "java/lang/constant/Constable"), (0, .class_ 4), (0, u "java/lang/Object")] 6

/-- java/lang/constant/Constable -/
def k9 : Class := { plain "java/lang/constant/Constable" (some 0) with
  accessFlags := 1537
  interfaces := #[]
  cf := some (fileOf pool9 1 #[] #[] 1537 3 #[] #[])
  fields := #[]
  methods := #[]
  instanceTypes := #[]
  staticTypes := #[]
  resolved := Array.replicate 11 none
  statics := none }

def pool10 : Array CpInfo := pool [(1, .class_ 2), (0, u "java/lang/constant/ConstantDesc"), (0, .class_ 4), (0, u "java/lang/Object")] 32

/-- java/lang/constant/ConstantDesc -/
def k10 : Class := { plain "java/lang/constant/ConstantDesc" (some 0) with
  accessFlags := 1537
  interfaces := #[]
  cf := some (fileOf pool10 1 #[] #[] 1537 3 #[] #[])
  fields := #[]
  methods := #[]
  instanceTypes := #[]
  staticTypes := #[]
  resolved := Array.replicate 37 none
  statics := none }

def pool11 : Array CpInfo := pool [(2, .class_ 4), (1, u "java/lang/Object"), (0, u "<init>"), (0, u "()V"), (3, .class_ 12), (1, u "java/lang/String"), (0, u "value"), (0, u "[B"), (2, u "coder"), (0, u "B"), (2, u "hash"), (0, u "I"), (2, u "hashIsZero"), (0, u "Z"), (13, u "COMPACT_STRINGS"), (534, .class_ 576), (0, u "java/lang/CharSequence"), (22, u "CASE_INSENSITIVE_ORDER"), (0, u "Ljava/util/Comparator;"), (500, u "serialPersistentFields"), (0, u "[Ljava/io/ObjectStreamField;"), (0, .class_ 1104), (0, u "java/lang/String$CaseInsensitiveComparator"), (1, .class_ 1107), (0, u "java/io/Serializable"), (0, .class_ 1109), (0, u "java/lang/Comparable"), (0, .class_ 1111), (0, u "java/lang/constant/Constable"), (0, .class_ 1113), (0, u "java/lang/constant/ConstantDesc"), (2, u "serialVersionUID"), (0, u "J"), (3, u "REPL"), (0, u "C"), (2, u "LATIN1"), (1, u "UTF16")] 323

def k11m0 : Method := { name := "<init>", desc := "()V", sig := { parameters := [], returnType := none }, accessFlags := 1, code := none }
/-- java/lang/String -/
def k11 : Class := { plain "java/lang/String" (some 0) with
  accessFlags := 49
  interfaces := #[4, 3, 8, 9, 10]
  cf := some (fileOf pool11 10 #[.nestMembers #[1103]] #[{ accessFlags := 1, nameIndex := 5, descriptorIndex := 6, attributes := #[] }] 49 2 #[1106, 1108, 575, 1110, 1112] #[{ accessFlags := 18, nameIndex := 13, descriptorIndex := 14, attributes := #[] }, { accessFlags := 18, nameIndex := 17, descriptorIndex := 18, attributes := #[] }, { accessFlags := 2, nameIndex := 21, descriptorIndex := 22, attributes := #[] }, { accessFlags := 2, nameIndex := 25, descriptorIndex := 26, attributes := #[] }, { accessFlags := 26, nameIndex := 1116, descriptorIndex := 1117, attributes := #[] }, { accessFlags := 24, nameIndex := 40, descriptorIndex := 26, attributes := #[] }, { accessFlags := 26, nameIndex := 1101, descriptorIndex := 1102, attributes := #[] }, { accessFlags := 26, nameIndex := 1121, descriptorIndex := 1122, attributes := #[] }, { accessFlags := 25, nameIndex := 599, descriptorIndex := 600, attributes := #[] }, { accessFlags := 24, nameIndex := 1125, descriptorIndex := 18, attributes := #[] }, { accessFlags := 24, nameIndex := 1127, descriptorIndex := 18, attributes := #[] }])
  fields := #[{ name := "value", type := (.array .byte), accessFlags := 18, slot := 0, constantValue := 0 }, { name := "coder", type := .byte, accessFlags := 18, slot := 1, constantValue := 0 }, { name := "hash", type := .int, accessFlags := 2, slot := 2, constantValue := 0 }, { name := "hashIsZero", type := .boolean, accessFlags := 2, slot := 3, constantValue := 0 }, { name := "serialVersionUID", type := .long, accessFlags := 26, slot := 0, constantValue := 0 }, { name := "COMPACT_STRINGS", type := .boolean, accessFlags := 24, slot := 1, constantValue := 0 }, { name := "serialPersistentFields", type := (.array (.object "java/io/ObjectStreamField")), accessFlags := 26, slot := 2, constantValue := 0 }, { name := "REPL", type := .char, accessFlags := 26, slot := 3, constantValue := 0 }, { name := "CASE_INSENSITIVE_ORDER", type := (.object "java/util/Comparator"), accessFlags := 25, slot := 4, constantValue := 0 }, { name := "LATIN1", type := .byte, accessFlags := 24, slot := 5, constantValue := 0 }, { name := "UTF16", type := .byte, accessFlags := 24, slot := 6, constantValue := 0 }]
  methods := #[k11m0]
  instanceTypes := #[(.array .byte), .byte, .int, .boolean]
  staticTypes := #[.long, .boolean, (.array (.object "java/io/ObjectStreamField")), .char, (.object "java/util/Comparator"), .byte, .byte]
  resolved := Array.replicate 1451 none
  statics := none }

def pool12 : Array CpInfo := pool [(2, .class_ 4), (1, u "java/lang/Object"), (0, u "<init>"), (0, u "()V"), (35, .class_ 44), (1, u "java/util/Objects"), (0, u "requireNonNull"), (48, u "(Ljava/lang/Object;Ljava/lang/String;)Ljava/lang/Object;")] 89

def k12m0 : Method := { name := "<init>", desc := "()V", sig := { parameters := [], returnType := none }, accessFlags := 2, code := none }
def k12c1 : Code := { maxStack := 3, maxLocals := 2, code := jdk_31_method_11_code, exceptionTable := #[], attributes := #[] }
def k12m1 : Method := { name := "requireNonNull", desc := "(Ljava/lang/Object;Ljava/lang/String;)Ljava/lang/Object;", sig := { parameters := [(.object "java/lang/Object"), (.object "java/lang/String")], returnType := some (.object "java/lang/Object") }, accessFlags := 9, code := some k12c1 }
/-- java/util/Objects -/
def k12 : Class := { plain "java/util/Objects" (some 0) with
  accessFlags := 49
  interfaces := #[]
  cf := some (fileOf pool12 42 #[] #[{ accessFlags := 2, nameIndex := 5, descriptorIndex := 6, attributes := #[] }, { accessFlags := 9, nameIndex := 45, descriptorIndex := 94, attributes := #[] }] 49 2 #[] #[])
  fields := #[]
  methods := #[k12m0, k12m1]
  instanceTypes := #[]
  staticTypes := #[]
  resolved := Array.replicate 184 none
  statics := none }

def pool13 : Array CpInfo := pool [(2, .class_ 4), (1, u "java/lang/Object"), (0, u "<init>"), (0, u "()V"), (1, .class_ 10), (1, u "java/lang/Number"), (2, .class_ 14), (0, u "java/io/Serializable"), (0, u "serialVersionUID"), (0, u "J")] 20

def k13m0 : Method := { name := "<init>", desc := "()V", sig := { parameters := [], returnType := none }, accessFlags := 1, code := none }
/-- java/lang/Number -/
def k13 : Class := { plain "java/lang/Number" (some 0) with
  accessFlags := 1057
  interfaces := #[4]
  cf := some (fileOf pool13 8 #[] #[{ accessFlags := 1, nameIndex := 5, descriptorIndex := 6, attributes := #[] }] 1057 2 #[13] #[{ accessFlags := 26, nameIndex := 15, descriptorIndex := 16, attributes := #[] }])
  fields := #[{ name := "serialVersionUID", type := .long, accessFlags := 26, slot := 0, constantValue := 0 }]
  methods := #[k13m0]
  instanceTypes := #[]
  staticTypes := #[.long]
  resolved := Array.replicate 37 none
  statics := none }

def pool14 : Array CpInfo := pool [(1, .class_ 2), (0, u "java/lang/Long"), (232, .class_ 237), (1, u "java/lang/Long$LongCache"), (33, .class_ 272), (0, u "java/lang/Number"), (2, u "value"), (0, u "J"), (27, u "compare"), (0, u "(JJ)I"), (55, u "TYPE"), (0, u "Ljava/lang/Class;"), (0, .class_ 364), (0, u "java/lang/Comparable"), (0, .class_ 366), (0, u "java/lang/constant/Constable"), (0, .class_ 368), (0, u "java/lang/constant/ConstantDesc"), (0, u "MIN_VALUE"), (1, u "MAX_VALUE"), (4, u "SIZE"), (0, u "I"), (1, u "BYTES"), (1, u "serialVersionUID")] 142

def k14c0 : Code := { maxStack := 4, maxLocals := 4, code := jdk_35_method_42_code, exceptionTable := #[], attributes := #[] }
def k14m0 : Method := { name := "compare", desc := "(JJ)I", sig := { parameters := [.long, .long], returnType := some .int }, accessFlags := 9, code := some k14c0 }
/-- java/lang/Long -/
def k14 : Class := { plain "java/lang/Long" (some 13) with
  accessFlags := 49
  interfaces := #[3, 9, 10]
  cf := some (fileOf pool14 1 #[.nestMembers #[235]] #[{ accessFlags := 9, nameIndex := 304, descriptorIndex := 305, attributes := #[] }] 49 271 #[363, 365, 367] #[{ accessFlags := 25, nameIndex := 369, descriptorIndex := 276, attributes := #[] }, { accessFlags := 25, nameIndex := 371, descriptorIndex := 276, attributes := #[] }, { accessFlags := 25, nameIndex := 361, descriptorIndex := 362, attributes := #[] }, { accessFlags := 18, nameIndex := 275, descriptorIndex := 276, attributes := #[] }, { accessFlags := 25, nameIndex := 376, descriptorIndex := 377, attributes := #[] }, { accessFlags := 25, nameIndex := 379, descriptorIndex := 377, attributes := #[] }, { accessFlags := 26, nameIndex := 381, descriptorIndex := 276, attributes := #[] }])
  fields := #[{ name := "MIN_VALUE", type := .long, accessFlags := 25, slot := 0, constantValue := 0 }, { name := "MAX_VALUE", type := .long, accessFlags := 25, slot := 1, constantValue := 0 }, { name := "TYPE", type := (.object "java/lang/Class"), accessFlags := 25, slot := 2, constantValue := 0 }, { name := "value", type := .long, accessFlags := 18, slot := 0, constantValue := 0 }, { name := "SIZE", type := .int, accessFlags := 25, slot := 3, constantValue := 0 }, { name := "BYTES", type := .int, accessFlags := 25, slot := 4, constantValue := 0 }, { name := "serialVersionUID", type := .long, accessFlags := 26, slot := 5, constantValue := 0 }]
  methods := #[k14m0]
  instanceTypes := #[.long]
  staticTypes := #[.long, .long, (.object "java/lang/Class"), .int, .int, .long]
  resolved := Array.replicate 524 none
  statics := none }

def pool15 : Array CpInfo := pool [(1, u "java/lang/Cloneable"), (0, .class_ 1), (0, u "java/lang/Object"), (0, .class_ 3)] 3

/-- java/lang/Cloneable -/
def k15 : Class := { plain "java/lang/Cloneable" (some 0) with
  accessFlags := 1537
  interfaces := #[]
  cf := some (fileOf pool15 2 #[] #[] 1537 4 #[] #[])
  fields := #[]
  methods := #[]
  instanceTypes := #[]
  staticTypes := #[]
  resolved := Array.replicate 8 none
  statics := none }

/-- the primitive byte -/
def k16 : Class := { plain "byte" none with kind := .primitive 'B', accessFlags := 0x411 }
/-- [B -/
def k17 : Class := { plain "[B" (some 0) with kind := .array 16 .byte, interfaces := #[15, 4], accessFlags := 1041 }

/-- the primitive int -/
def k18 : Class := { plain "int" none with kind := .primitive 'I', accessFlags := 0x411 }
/-- [I -/
def k19 : Class := { plain "[I" (some 0) with kind := .array 18 .int, interfaces := #[15, 4], accessFlags := 1041 }

def heap : Heap := #[{ cls := 5, slots := #[.ref 3, .long 0, .null], vm := .statics 5 },
  { cls := 7, slots := #[.ref 2], vm := .statics 7 },
  { cls := 5, slots := #[.long 9223372036, .int 854775807], vm := .none },
  { cls := 5, slots := #[.long 0, .int 0], vm := .none }]
def classes : Array Class := #[k0, k1, k2, k3, k4, k5, k6, k7, k8, k9, k10, k11, k12, k13, k14, k15, k16, k17, k18, k19]
def interned : List (Array UInt16 × Addr) := []
def slotsUsed : Nat := 8
def theMethod : MethodId := ⟨1, 4⟩
def args0 : Array Value := #[.long 5, .long 7, .int 3, .int 1]
def aboutOver (below : List Frame) : State where
  vm := { classes := classes, interned := interned.toArray }
  heap := heap
  slotsUsed := slotsUsed
  threads := #[{ frames := .invoking theMethod args0 :: below }]
def below0 : List Frame := [.native { method := ⟨0, 0⟩, args := #[] }]
def about1 : State := aboutOver below0
def p0 : Program := .bare "" "" ""
def e0 : Env := launch0.env 0 0 0
theorem w_frames : about1.frames = Frame.invoking theMethod args0 :: below0 := rfl
set_option maxRecDepth 65536 in
theorem w_args : argsFit about1.vm theMethod args0 = true := by decide +kernel
set_option maxRecDepth 65536 in
theorem w_heap : heapFits about1 = true := by decide +kernel
set_option maxRecDepth 65536 in
theorem w_runnable : about1.curStatus? = some .runnable := by decide +kernel
set_option maxRecDepth 65536 in
theorem w_alone : about1.alone = true := by decide +kernel
set_option maxRecDepth 65536 in
theorem w_named : about1.methodNamed? x = some theMethod := by decide +kernel
set_option maxRecDepth 65536 in
theorem w_hears : about1.hears theMethod below0 = true := by decide +kernel
set_option maxRecDepth 65536 in
theorem w_ripe : about1.ripe theMethod args0 below0 = true := by decide +kernel
theorem w_running : about1.status = .running := rfl
set_option maxRecDepth 65536 in
theorem w_room : about1.hasRoom e0.platform room_1 = true :=
  launch0.hasRoom_least _ room_1 (by decide +kernel) (by decide +kernel) (by decide +kernel) (by decide +kernel) (by decide +kernel) (by decide +kernel)
theorem allAtoms_all (ts : List Jvm.Cond) (a : Array Jvm.Value) (st : Jvm.State) : (allAtoms ts).before a st = ts.all (fun c => c.before a st) := by
  induction ts with
  | nil => rfl
  | cons c t ih =>
    show (Jvm.Cond.and c (allAtoms t)).before a st = _
    rw [Jvm.Cond.before_and, ih, List.all_cons]
def words1 : List Jvm.Cond := Jvm.Cond.code x code maxLocals ret :: tables_1
/-- a 'code' word, met by the world's own term for the bytes: nothing is compared byte by byte -/
theorem code_word {y : MethodName} {bytes : ByteArray} {mx : Nat} {rt : Option FieldType} {a : Array Value} {s : State} {m : MethodId} {meth : Method} {c : Code} (h1 : s.methodNamed? y = some m) (h2 : s.vm.method? m = some meth) (h3 : meth.code = some c) (h4 : c.code = bytes)
    (h5 : (c.maxLocals == mx && c.exceptionTable.isEmpty && decide (c.maxStack ≤ mostOperands) && decide (meth.sig.returnType = rt) && !meth.locks && decide (parseMethodDescriptor y.desc = some meth.sig)) = true) : (Jvm.Cond.code y bytes mx rt).before a s = true := by
  simp only [Bool.and_eq_true, beq_iff_eq, Bool.not_eq_true', decide_eq_true_eq] at h5
  obtain ⟨⟨⟨⟨⟨g1, g2⟩, g3⟩, g4⟩, g5⟩, g6⟩ := h5
  simp [Cond.before, Cond.holds, Cond.value, h1, h2, h3, h4, g1, g2, g3, g4, g5, g6]
def isCode : Jvm.Cond → Bool
  | .code _ _ _ _ => true
  | _ => false
theorem all_split {L : List Jvm.Cond} {P : Jvm.Cond → Bool} (h1 : L.all (fun c => isCode c || P c) = true) (h2 : ∀ c ∈ L.filter isCode, P c = true) : L.all P = true := by
  refine List.all_eq_true.mpr fun c hc => ?_
  have h := List.all_eq_true.mp h1 c hc
  rcases Bool.eq_false_or_eq_true (isCode c) with hi | hi
  · exact h2 c (List.mem_filter.mpr ⟨hc, hi⟩)
  · simpa [hi] using h
set_option maxRecDepth 65536 in
theorem w_c0 : (Jvm.Cond.code x code maxLocals ret).before args0 about1 = true := code_word (m := ⟨1, 4⟩) (meth := k1m4) (c := k1c4) (by decide +kernel) rfl rfl rfl (by decide +kernel)
set_option maxRecDepth 65536 in
theorem w_c1 : (Jvm.Cond.code ({ cls := "com/example/tickwell/tickwell/DueTimeAfterPinLaw", name := "pickSeconds", desc := "(JI)J" } : Jvm.MethodName) method_2_code (3 : Nat) (Option.some Jvm.ClassFile.FieldType.long)).before args0 about1 = true := code_word (m := ⟨1, 1⟩) (meth := k1m1) (c := k1c1) (by decide +kernel) rfl rfl rfl (by decide +kernel)
set_option maxRecDepth 65536 in
theorem w_c2 : (Jvm.Cond.code ({ cls := "com/example/tickwell/tickwell/DueTimeAfterPinLaw", name := "pickNow", desc := "(JI)J" } : Jvm.MethodName) method_3_code (3 : Nat) (Option.some Jvm.ClassFile.FieldType.long)).before args0 about1 = true := code_word (m := ⟨1, 2⟩) (meth := k1m2) (c := k1c2) (by decide +kernel) rfl rfl rfl (by decide +kernel)
set_option maxRecDepth 65536 in
theorem w_c3 : (Jvm.Cond.code ({ cls := "java/time/Duration", name := "ofSeconds", desc := "(JJ)Ljava/time/Duration;" } : Jvm.MethodName) jdk_2316_method_5_code (7 : Nat) (Option.some (Jvm.ClassFile.FieldType.object "java/time/Duration"))).before args0 about1 = true := code_word (m := ⟨5, 0⟩) (meth := k5m0) (c := k5c0) (by decide +kernel) rfl rfl rfl (by decide +kernel)
set_option maxRecDepth 65536 in
theorem w_c4 : (Jvm.Cond.code ({ cls := "java/lang/Math", name := "floorDiv", desc := "(JJ)J" } : Jvm.MethodName) jdk_29_method_49_code (6 : Nat) (Option.some Jvm.ClassFile.FieldType.long)).before args0 about1 = true := code_word (m := ⟨6, 3⟩) (meth := k6m3) (c := k6c3) (by decide +kernel) rfl rfl rfl (by decide +kernel)
set_option maxRecDepth 65536 in
theorem w_c5 : (Jvm.Cond.code ({ cls := "java/lang/Math", name := "addExact", desc := "(JJ)J" } : Jvm.MethodName) jdk_29_method_25_code (6 : Nat) (Option.some Jvm.ClassFile.FieldType.long)).before args0 about1 = true := code_word (m := ⟨6, 1⟩) (meth := k6m1) (c := k6c1) (by decide +kernel) rfl rfl rfl (by decide +kernel)
set_option maxRecDepth 65536 in
theorem w_c6 : (Jvm.Cond.code ({ cls := "java/lang/Math", name := "floorMod", desc := "(JJ)J" } : Jvm.MethodName) jdk_29_method_52_code (6 : Nat) (Option.some Jvm.ClassFile.FieldType.long)).before args0 about1 = true := code_word (m := ⟨6, 4⟩) (meth := k6m4) (c := k6c4) (by decide +kernel) rfl rfl rfl (by decide +kernel)
set_option maxRecDepth 65536 in
theorem w_c7 : (Jvm.Cond.code ({ cls := "java/time/Duration", name := "create", desc := "(JI)Ljava/time/Duration;" } : Jvm.MethodName) jdk_2316_method_16_code (3 : Nat) (Option.some (Jvm.ClassFile.FieldType.object "java/time/Duration"))).before args0 about1 = true := code_word (m := ⟨5, 1⟩) (meth := k5m1) (c := k5c1) (by decide +kernel) rfl rfl rfl (by decide +kernel)
set_option maxRecDepth 65536 in
theorem w_c8 : (Jvm.Cond.code ({ cls := "java/time/Duration", name := "<init>", desc := "(JI)V" } : Jvm.MethodName) jdk_2316_method_17_code (4 : Nat) (Option.none : Option Jvm.ClassFile.FieldType)).before args0 about1 = true := code_word (m := ⟨5, 2⟩) (meth := k5m2) (c := k5c2) (by decide +kernel) rfl rfl rfl (by decide +kernel)
set_option maxRecDepth 65536 in
theorem w_c9 : (Jvm.Cond.code ({ cls := "java/lang/Object", name := "<init>", desc := "()V" } : Jvm.MethodName) object_method_1_code (1 : Nat) (Option.none : Option Jvm.ClassFile.FieldType)).before args0 about1 = true := code_word (m := ⟨0, 0⟩) (meth := k0m0) (c := k0c0) (by decide +kernel) rfl rfl rfl (by decide +kernel)
set_option maxRecDepth 65536 in
theorem w_c10 : (Jvm.Cond.code ({ cls := "com/example/tickwell/tickwell/DueTime", name := "after", desc := "(JLjava/time/Duration;)J" } : Jvm.MethodName) prog_3_method_2_code (3 : Nat) (Option.some Jvm.ClassFile.FieldType.long)).before args0 about1 = true := code_word (m := ⟨7, 1⟩) (meth := k7m1) (c := k7c1) (by decide +kernel) rfl rfl rfl (by decide +kernel)
set_option maxRecDepth 65536 in
theorem w_c11 : (Jvm.Cond.code ({ cls := "java/util/Objects", name := "requireNonNull", desc := "(Ljava/lang/Object;Ljava/lang/String;)Ljava/lang/Object;" } : Jvm.MethodName) jdk_31_method_11_code (2 : Nat) (Option.some (Jvm.ClassFile.FieldType.object "java/lang/Object"))).before args0 about1 = true := code_word (m := ⟨12, 1⟩) (meth := k12m1) (c := k12c1) (by decide +kernel) rfl rfl rfl (by decide +kernel)
set_option maxRecDepth 65536 in
theorem w_c12 : (Jvm.Cond.code ({ cls := "java/time/Duration", name := "isNegative", desc := "()Z" } : Jvm.MethodName) jdk_2316_method_22_code (1 : Nat) (Option.some Jvm.ClassFile.FieldType.boolean)).before args0 about1 = true := code_word (m := ⟨5, 3⟩) (meth := k5m3) (c := k5c3) (by decide +kernel) rfl rfl rfl (by decide +kernel)
set_option maxRecDepth 65536 in
theorem w_c13 : (Jvm.Cond.code ({ cls := "com/example/tickwell/tickwell/DueTime", name := "nanos", desc := "(Ljava/time/Duration;)J" } : Jvm.MethodName) prog_3_method_4_code (1 : Nat) (Option.some Jvm.ClassFile.FieldType.long)).before args0 about1 = true := code_word (m := ⟨7, 3⟩) (meth := k7m3) (c := k7c3) (by decide +kernel) rfl rfl rfl (by decide +kernel)
set_option maxRecDepth 65536 in
theorem w_c14 : (Jvm.Cond.code ({ cls := "java/time/Duration", name := "compareTo", desc := "(Ljava/time/Duration;)I" } : Jvm.MethodName) jdk_2316_method_66_code (3 : Nat) (Option.some Jvm.ClassFile.FieldType.int)).before args0 about1 = true := code_word (m := ⟨5, 5⟩) (meth := k5m5) (c := k5c5) (by decide +kernel) rfl rfl rfl (by decide +kernel)
set_option maxRecDepth 65536 in
theorem w_c15 : (Jvm.Cond.code ({ cls := "java/lang/Long", name := "compare", desc := "(JJ)I" } : Jvm.MethodName) jdk_35_method_42_code (4 : Nat) (Option.some Jvm.ClassFile.FieldType.int)).before args0 about1 = true := code_word (m := ⟨14, 0⟩) (meth := k14m0) (c := k14c0) (by decide +kernel) rfl rfl rfl (by decide +kernel)
set_option maxRecDepth 65536 in
theorem w_c16 : (Jvm.Cond.code ({ cls := "java/time/Duration", name := "toNanos", desc := "()J" } : Jvm.MethodName) jdk_2316_method_58_code (7 : Nat) (Option.some Jvm.ClassFile.FieldType.long)).before args0 about1 = true := code_word (m := ⟨5, 4⟩) (meth := k5m4) (c := k5c4) (by decide +kernel) rfl rfl rfl (by decide +kernel)
set_option maxRecDepth 65536 in
theorem w_c17 : (Jvm.Cond.code ({ cls := "java/lang/Math", name := "multiplyExact", desc := "(JJ)J" } : Jvm.MethodName) jdk_29_method_30_code (10 : Nat) (Option.some Jvm.ClassFile.FieldType.long)).before args0 about1 = true := code_word (m := ⟨6, 2⟩) (meth := k6m2) (c := k6c2) (by decide +kernel) rfl rfl rfl (by decide +kernel)
set_option maxRecDepth 65536 in
theorem w_c18 : (Jvm.Cond.code ({ cls := "java/lang/Math", name := "abs", desc := "(J)J" } : Jvm.MethodName) jdk_29_method_61_code (2 : Nat) (Option.some Jvm.ClassFile.FieldType.long)).before args0 about1 = true := code_word (m := ⟨6, 5⟩) (meth := k6m5) (c := k6c5) (by decide +kernel) rfl rfl rfl (by decide +kernel)
set_option maxRecDepth 65536 in
theorem w_c19 : (Jvm.Cond.code ({ cls := "com/example/tickwell/tickwell/DueTime", name := "after", desc := "(JJ)J" } : Jvm.MethodName) prog_3_method_3_code (4 : Nat) (Option.some Jvm.ClassFile.FieldType.long)).before args0 about1 = true := code_word (m := ⟨7, 2⟩) (meth := k7m2) (c := k7c2) (by decide +kernel) rfl rfl rfl (by decide +kernel)
set_option maxRecDepth 65536 in
theorem w_c20 : (Jvm.Cond.code ({ cls := "com/example/tickwell/tickwell/DueTimeAfterPinLaw", name := "expected", desc := "(JJJ)J" } : Jvm.MethodName) method_4_code (10 : Nat) (Option.some Jvm.ClassFile.FieldType.long)).before args0 about1 = true := code_word (m := ⟨1, 3⟩) (meth := k1m3) (c := k1c3) (by decide +kernel) rfl rfl rfl (by decide +kernel)
def codes1 : List Jvm.Cond := [Jvm.Cond.code x code maxLocals ret, Jvm.Cond.code ({ cls := "com/example/tickwell/tickwell/DueTimeAfterPinLaw", name := "pickSeconds", desc := "(JI)J" } : Jvm.MethodName) method_2_code (3 : Nat) (Option.some Jvm.ClassFile.FieldType.long), Jvm.Cond.code ({ cls := "com/example/tickwell/tickwell/DueTimeAfterPinLaw", name := "pickNow", desc := "(JI)J" } : Jvm.MethodName) method_3_code (3 : Nat) (Option.some Jvm.ClassFile.FieldType.long), Jvm.Cond.code ({ cls := "java/time/Duration", name := "ofSeconds", desc := "(JJ)Ljava/time/Duration;" } : Jvm.MethodName) jdk_2316_method_5_code (7 : Nat) (Option.some (Jvm.ClassFile.FieldType.object "java/time/Duration")), Jvm.Cond.code ({ cls := "java/lang/Math", name := "floorDiv", desc := "(JJ)J" } : Jvm.MethodName) jdk_29_method_49_code (6 : Nat) (Option.some Jvm.ClassFile.FieldType.long), Jvm.Cond.code ({ cls := "java/lang/Math", name := "addExact", desc := "(JJ)J" } : Jvm.MethodName) jdk_29_method_25_code (6 : Nat) (Option.some Jvm.ClassFile.FieldType.long), Jvm.Cond.code ({ cls := "java/lang/Math", name := "floorMod", desc := "(JJ)J" } : Jvm.MethodName) jdk_29_method_52_code (6 : Nat) (Option.some Jvm.ClassFile.FieldType.long), Jvm.Cond.code ({ cls := "java/time/Duration", name := "create", desc := "(JI)Ljava/time/Duration;" } : Jvm.MethodName) jdk_2316_method_16_code (3 : Nat) (Option.some (Jvm.ClassFile.FieldType.object "java/time/Duration")), Jvm.Cond.code ({ cls := "java/time/Duration", name := "<init>", desc := "(JI)V" } : Jvm.MethodName) jdk_2316_method_17_code (4 : Nat) (Option.none : Option Jvm.ClassFile.FieldType), Jvm.Cond.code ({ cls := "java/lang/Object", name := "<init>", desc := "()V" } : Jvm.MethodName) object_method_1_code (1 : Nat) (Option.none : Option Jvm.ClassFile.FieldType), Jvm.Cond.code ({ cls := "com/example/tickwell/tickwell/DueTime", name := "after", desc := "(JLjava/time/Duration;)J" } : Jvm.MethodName) prog_3_method_2_code (3 : Nat) (Option.some Jvm.ClassFile.FieldType.long), Jvm.Cond.code ({ cls := "java/util/Objects", name := "requireNonNull", desc := "(Ljava/lang/Object;Ljava/lang/String;)Ljava/lang/Object;" } : Jvm.MethodName) jdk_31_method_11_code (2 : Nat) (Option.some (Jvm.ClassFile.FieldType.object "java/lang/Object")), Jvm.Cond.code ({ cls := "java/time/Duration", name := "isNegative", desc := "()Z" } : Jvm.MethodName) jdk_2316_method_22_code (1 : Nat) (Option.some Jvm.ClassFile.FieldType.boolean), Jvm.Cond.code ({ cls := "com/example/tickwell/tickwell/DueTime", name := "nanos", desc := "(Ljava/time/Duration;)J" } : Jvm.MethodName) prog_3_method_4_code (1 : Nat) (Option.some Jvm.ClassFile.FieldType.long), Jvm.Cond.code ({ cls := "java/time/Duration", name := "compareTo", desc := "(Ljava/time/Duration;)I" } : Jvm.MethodName) jdk_2316_method_66_code (3 : Nat) (Option.some Jvm.ClassFile.FieldType.int), Jvm.Cond.code ({ cls := "java/lang/Long", name := "compare", desc := "(JJ)I" } : Jvm.MethodName) jdk_35_method_42_code (4 : Nat) (Option.some Jvm.ClassFile.FieldType.int), Jvm.Cond.code ({ cls := "java/time/Duration", name := "toNanos", desc := "()J" } : Jvm.MethodName) jdk_2316_method_58_code (7 : Nat) (Option.some Jvm.ClassFile.FieldType.long), Jvm.Cond.code ({ cls := "java/lang/Math", name := "multiplyExact", desc := "(JJ)J" } : Jvm.MethodName) jdk_29_method_30_code (10 : Nat) (Option.some Jvm.ClassFile.FieldType.long), Jvm.Cond.code ({ cls := "java/lang/Math", name := "abs", desc := "(J)J" } : Jvm.MethodName) jdk_29_method_61_code (2 : Nat) (Option.some Jvm.ClassFile.FieldType.long), Jvm.Cond.code ({ cls := "com/example/tickwell/tickwell/DueTime", name := "after", desc := "(JJ)J" } : Jvm.MethodName) prog_3_method_3_code (4 : Nat) (Option.some Jvm.ClassFile.FieldType.long), Jvm.Cond.code ({ cls := "com/example/tickwell/tickwell/DueTimeAfterPinLaw", name := "expected", desc := "(JJJ)J" } : Jvm.MethodName) method_4_code (10 : Nat) (Option.some Jvm.ClassFile.FieldType.long)]
set_option maxRecDepth 65536 in
theorem codes_eq : words1.filter isCode = codes1 := rfl
theorem w_codes : ∀ c ∈ words1.filter isCode, c.before args0 about1 = true := by
  rw [codes_eq]
  intro c hc
  simp only [codes1, List.mem_cons, List.not_mem_nil, or_false] at hc
  rcases hc with rfl | rfl | rfl | rfl | rfl | rfl | rfl | rfl | rfl | rfl | rfl | rfl | rfl | rfl | rfl | rfl | rfl | rfl | rfl | rfl | rfl
  · exact w_c0
  · exact w_c1
  · exact w_c2
  · exact w_c3
  · exact w_c4
  · exact w_c5
  · exact w_c6
  · exact w_c7
  · exact w_c8
  · exact w_c9
  · exact w_c10
  · exact w_c11
  · exact w_c12
  · exact w_c13
  · exact w_c14
  · exact w_c15
  · exact w_c16
  · exact w_c17
  · exact w_c18
  · exact w_c19
  · exact w_c20
set_option maxRecDepth 65536 in
theorem w_t1 : (words1.take 24).all (fun c => isCode c || c.before args0 about1) = true := by decide +kernel
set_option maxRecDepth 65536 in
theorem w_t2 : ((words1.drop 24).take 24).all (fun c => isCode c || c.before args0 about1) = true := by decide +kernel
set_option maxRecDepth 65536 in
theorem w_t3 : (((words1.drop 24).drop 24).take 24).all (fun c => isCode c || c.before args0 about1) = true := by decide +kernel
set_option maxRecDepth 65536 in
theorem w_t4 : ((((words1.drop 24).drop 24).drop 24).take 24).all (fun c => isCode c || c.before args0 about1) = true := by decide +kernel
set_option maxRecDepth 65536 in
theorem w_t5 : ((((words1.drop 24).drop 24).drop 24).drop 24).all (fun c => isCode c || c.before args0 about1) = true := by decide +kernel
theorem w_tables : (allAtoms (Jvm.Cond.code x code maxLocals ret :: tables_1)).before args0 about1 = true := by
  rw [allAtoms_all]
  show words1.all (fun c => c.before args0 about1) = true
  refine all_split ?_ w_codes
  rw [← List.take_append_drop 24 words1, List.all_append, w_t1, ← List.take_append_drop 24 (words1.drop 24), List.all_append, w_t2, ← List.take_append_drop 24 ((words1.drop 24).drop 24), List.all_append, w_t3, ← List.take_append_drop 24 (((words1.drop 24).drop 24).drop 24), List.all_append, w_t4, w_t5]
  rfl
set_option maxRecDepth 65536 in
theorem w_rest : rest_1_c.before args0 about1 = true := by decide +kernel
set_option maxRecDepth 65536 in
theorem w_case : (Jvm.Cond.and given_1 narrow_1).before args0 about1 = true := by decide +kernel
theorem w_applies : (headSpec (Jvm.Cond.code x code maxLocals ret :: tables_1) room_1).applies x e0.platform about1 = true :=
  (Spec.applies_iff w_frames).mpr ⟨w_running, w_runnable, w_alone, w_named, w_hears, w_ripe, w_room, w_tables⟩
theorem atStart : AtStart classFile x code maxLocals ret World_1 tables_1 room_1 Calls_1 rest_1 Pre_1 launch0 p0 e0 about1 theMethod args0 below0 :=
  ⟨lists_1, trivial, launch0.admits_env _ _ _, launch0.least_env, fairChoices_fair.cas, fairChoices_fair.clock, w_frames, w_args, w_heap, w_applies, trivial, w_rest, w_case⟩
end start1
theorem witness_1 : WitnessClaimed_1 := ⟨start1.p0, start1.e0, start1.about1, start1.theMethod, start1.args0, start1.below0, start1.atStart⟩
end Jvm.Pilot.@@N@@
