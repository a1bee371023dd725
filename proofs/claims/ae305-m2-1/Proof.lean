import JvmDerived
import JvmDerived.Pilot.@@N@@Statement
import JvmDerived.Pilot.@@N@@Code
set_option linter.unusedVariables false
set_option linter.unusedSimpArgs false
namespace Jvm.Pilot.@@N@@
open Jvm Jvm.ClassFile Sem Op Lib Jvm.Free Jvm.Stand Jvm.LawKit Jvm.RoadKit Bundle Jvm.Pilot.@@N@@.Jvm.D
section OwnRet
variable {p : Program} {l : Launch} {e : Env} {R : Room} {s : State} {m : MethodId} {args : Array Value} {below : List Frame} {meth : Method} {c : Code} {T : State} {locs : List Loc} {cells slots : Nat}
theorem own_retI0 (X : Stand p l e R s m args below meth c T locs cells slots) (hx : p.tables.exec = Jvm.exec) {pc : Nat} {Ls : Array Slot} {z : Int32} {rest : List Value} (hret : meth.sig.returnType = some .int) (hd : decode c.code pc = .ok (.ireturn, 1)) {fs : List Frame}
    (hl : ∀ (f : JFrame) (acts : List Action), f.method = m → f.locked = none → f.entered = [] → (doReturn e (T.setTop f) acts (some (.int z))).1 = T.setFrames fs) : Steps p.tables e below (T.setTop (mkF m pc Ls (.int z :: rest))) (T.setFrames fs) :=
  retOut X hx hret rfl (Or.inl ⟨rfl, Or.inl rfl, z, rfl⟩) hd hl
end OwnRet
/-- the array at a: of component type ty, its class k, and just these components -/
def own_A (Z : State) (h : Heap) (a : Addr) (kc : ClassId) (ty : FieldType) (vs : List Value) : Prop := ∃ c : Cell, Arr Z h a c ty ∧ c.cls = kc ∧ c.slots.toList = vs ∧ vs.length < 2 ^ 31 ∧ ∀ v ∈ vs, fits ty v = true
section OwnArr
variable {Z : State} {h h' : Heap} {a b : Addr} {kc : ClassId} {ty : FieldType} {vs : List Value} {sl : Nat} {v w : Value} {ws : List Addr}
theorem own_A.lt (F : own_A Z h a kc ty vs) : a < h.size := by obtain ⟨c, A, -⟩ := F; exact A.lt
theorem own_A.ext (F : own_A Z h a kc ty vs) (E : Ext h h') : own_A Z h' a kc ty vs := by obtain ⟨c, A, r⟩ := F; exact ⟨c, A.ext E, r⟩
theorem own_A.other (F : own_A Z h b kc ty vs) (W : Wr h h' a sl v) (q : b ≠ a) : own_A Z h' b kc ty vs := by obtain ⟨c, A, r⟩ := F; exact ⟨c, A.other W q, r⟩
theorem own_A.keep (F : own_A Z h a kc ty vs) (K : Keep h h' ws) (q : a ∉ ws) : own_A Z h' a kc ty vs := by obtain ⟨c, A, r⟩ := F; exact ⟨c, ⟨K.2.1 a c A.1 q, A.2⟩, r⟩
theorem own_A.same (F : own_A Z h a kc ty vs) (W : Wr h h' a sl v) (hf : fits ty v = true) : own_A Z h' a kc ty (vs.set sl v) := by
  obtain ⟨c, A, r1, r2, r3, r4⟩ := F
  refine ⟨_, A.same W, r1, by show (c.slots.setIfInBounds sl v).toList = _; rw [Array.toList_setIfInBounds, r2], by simpa using r3, fun u hu => ?_⟩
  rcases List.mem_or_eq_of_mem_set hu with q | q
  · exact r4 u q
  · exact q ▸ hf
theorem own_in {c : Cell} {j : Int32} {i : Nat} (r2 : c.slots.toList = vs) (hj : j.toNatClampNeg = i) (hj0 : ¬ j < 0) (hi : i < vs.length) : ¬ (j < 0 ∨ c.slots.size ≤ j.toNatClampNeg) := by
  rintro (q | q)
  · exact hj0 q
  · rw [hj, ← Array.length_toList, r2] at q; omega
theorem own_Ins_keep {C : String} (F : Ins Z h a C true) (K : Keep h h' ws) : Ins Z h' a C true := by
  obtain ⟨cell, cT, h1, h2, h3⟩ := F
  obtain ⟨c', q, r1, r2, -⟩ := K.2.2 a cell h1
  exact ⟨c', cT, q, h2, by rw [r1, r2]; exact h3⟩
theorem own_Sta_keep0 {C nm d : String} (F : Sta Z h C nm d v) (K : Keep h h' []) : Sta Z h' C nm d v := by
  obtain ⟨cf, i, k, f, st, cell, h1, h2, h3, h4, h5, r⟩ := F
  exact ⟨cf, i, k, f, st, cell, h1, h2, h3, h4, K.2.1 st cell h5 nin0, r⟩
theorem own_Sto {x : Addr} {C : String} (F : own_A Z h a kc ty vs) (O : Ovr Z kc C) (I : Ins Z h x C true) : Sto Z h a (.ref x) := by
  obtain ⟨c, A, r, -⟩ := F
  exact Sto.ofV A r O I
theorem own_Sto_keep (F : Sto Z h a v) (K : Keep h h' ws) : Sto Z h' a v := F.imp id fun ⟨c1, c2, k, kv, kc, cp, t, y, h1, h2, h3, h4, h5, h6, h7, h8, h9⟩ => by
  obtain ⟨c1', q1, r1, -, -⟩ := K.2.2 _ _ h1
  obtain ⟨c2', q2, r2, r3, -⟩ := K.2.2 _ _ h6
  exact ⟨c1', c2', k, kv, kc, cp, t, y, q1, by rw [r1]; exact h2, h3, h4, h5, q2, by rw [r3]; exact h7, by rw [r2]; exact h8, by rw [r2]; exact h9⟩
end OwnArr
section OwnKit
variable {p : Program} {l : Launch} {e : Env} {R : Room} {s : State} {m : MethodId} {args : Array Value} {below : List Frame} {meth : Method} {c : Code} {Z T : State} {n0 ml k n : Nat} {y : MethodName} {bytes : ByteArray} {ret : Option FieldType} {h : Heap} {a0 : Array Value} {G : State → Outcome → Prop} {Ls : Array Slot} {st : List Value} {pc : Nat}
/-- the run from this state ends, and G holds of the end -/
def own_Ends (p : Program) (e : Env) (below : List Frame) (G : State → Outcome → Prop) (S : State) : Prop := ∃ s₂ o, Steps p.tables e below S s₂ ∧ s₂.status = .running ∧ Ended s₂ below o ∧ G s₂ o
/-- what a method's end must say -/
def own_Fin (s : State) (n0 C S : Nat) (Q : Option Value → Heap → Prop) (s₂ : State) (o : Outcome) : Prop := ∃ v L, o = .returned v ∧ (Q v s₂.heap ∧ Fr n0 L) ∧ FrameEnd s o s₂ L C S
/-- where a walk stands: the state T, its heap h, k cells and n slots spent, nothing old written -/
def own_W (p : Program) (l : Launch) (e : Env) (R : Room) (s : State) (m : MethodId) (args : Array Value) (below : List Frame) (meth : Method) (c : Code) (Z : State) (n0 : Nat) (y : MethodName) (bytes : ByteArray) (ml : Nat) (ret : Option FieldType) (T : State) (h : Heap) (k n : Nat) : Prop :=
  (∃ locs, Stand p l e R s m args below meth c T locs k n ∧ Fr n0 locs) ∧ T.heap = h ∧ n0 ≤ h.size ∧ p.tables.exec = Jvm.exec ∧ Z.Warmed39 s.vm ∧ c.code = bytes ∧ c.maxLocals = ml ∧ s.vm.findClass y.cls = some m.cls ∧ meth.sig.returnType = ret ∧ meth.locks = false ∧ meth.name = y.name
/-- a body's contract: called with as' over the heap h it returns, Q holds of what it returns and of the heap that it leaves -/
def own_Met (l : Launch) (y : MethodName) (bytes : ByteArray) (ml : Nat) (ret : Option FieldType) (rm : Room) (Z : State) (as' : Array Value) (h : Heap) (n0 : Nat) (Q : Option Value → Heap → Prop) : Prop :=
  ∀ ws, MetFree l y (head1 (Jvm.Cond.code y bytes ml ret :: ws) rm) (fun a U => a = as' ∧ Z.Warmed39 U.vm ∧ U.heap = h) (fun _ _ _ _ _ => True) (fun _ U o U' => ∃ v L, o = .returned v ∧ (Q v U'.heap ∧ Fr n0 L) ∧ FrameEnd U o U' L rm.cells rm.slots)
theorem own_pre {S S' : State} (f : ∀ t, Steps p.tables e below S' t → Steps p.tables e below S t) (K : own_Ends p e below G S') : own_Ends p e below G S := by
  obtain ⟨s2, o, h1, h2⟩ := K
  exact ⟨s2, o, f _ h1, h2⟩
theorem own_W.more {k' n' : Nat} (X : own_W p l e R s m args below meth c Z n0 y bytes ml ret T h k n) (hk : k ≤ k') (hn : n ≤ n') : own_W p l e R s m args below meth c Z n0 y bytes ml ret T h k' n' := by
  obtain ⟨⟨locs, Y, N⟩, r⟩ := X
  exact ⟨⟨locs, Y.more hk hn, N⟩, r⟩
theorem own_W.sz (X : own_W p l e R s m args below meth c Z n0 y bytes ml ret T h k n) : n0 ≤ h.size := X.2.2.1
theorem own_met {rm : Room} {as' : Array Value} {Q : Option Value → Heap → Prop} (hpl : plainFor y = true) (hs0 : n0 ≤ h.size) (hef : ∀ m, entryFrame m as' ml = mkF m 0 Ls [])
    (body : ∀ (p : Program) (e : Env) (s : State) (m : MethodId) (below : List Frame) (meth : Method) (c : Code) (T : State), own_W p l e rm s m as' below meth c Z n0 y bytes ml ret T h 0 0 → own_Ends p e below (own_Fin s n0 rm.cells rm.slots Q) (T.setTop (mkF m 0 Ls []))) :
    own_Met l y bytes ml ret rm Z as' h n0 Q := by
  intro ws
  refine MetFree.of_bodySF hpl hisR ?_
  intro p e s m args below meth c s₁ Bd hml0 hP hK
  obtain ⟨rfl, hZ, hh⟩ := hP
  obtain ⟨s2, o, h1, h2, h3, h4⟩ := body p e s m below meth c s₁ ⟨⟨[], Stand.of_body Bd, Fr.nil n0⟩, by rw [← hh, Bd.state]; rfl, hs0, Bd.exec, hZ, Bd.bytes, hml0, findClass_of_methodNamed Bd.named, Bd.returns, Bd.notSynchronized, (name_of_methodNamed Bd.named Bd.method).1⟩
  exact ⟨s2, o, castTop (hef m) h1, h2, h3, h4⟩
theorem own_iloadN (X : own_W p l e R s m args below meth c Z n0 y bytes ml ret T h k n) (q : Nat) {i : Fin 4} (x : Int32) (hd : decode bytes pc = .ok (.iload_n i, 1)) (hq : pc + 1 = q) (hl : Ls[i.val]? = some (.val (.int x))) (K : own_Ends p e below G (T.setTop (mkF m q Ls (.int x :: st)))) : own_Ends p e below G (T.setTop (mkF m pc Ls st)) := by
  subst hq
  obtain ⟨⟨locs, Y, N⟩, eT, hs0, hx, hZ, hby, hml, hown, hret, hlk, hnm⟩ := X
  exact own_pre (fun t K => XS.iloadN Y.here hx rfl (hb hby hd) hl K) K
theorem own_iload (X : own_W p l e R s m args below meth c Z n0 y bytes ml ret T h k n) (q : Nat) {i : Nat} (x : Int32) (hd : decode bytes pc = .ok (.iload i, 2)) (hq : pc + 2 = q) (hl : Ls[i]? = some (.val (.int x))) (K : own_Ends p e below G (T.setTop (mkF m q Ls (.int x :: st)))) : own_Ends p e below G (T.setTop (mkF m pc Ls st)) := by
  subst hq
  obtain ⟨⟨locs, Y, N⟩, eT, hs0, hx, hZ, hby, hml, hown, hret, hlk, hnm⟩ := X
  exact own_pre (fun t K => XS.iload Y.here hx rfl (hb hby hd) hl K) K
theorem own_lloadN (X : own_W p l e R s m args below meth c Z n0 y bytes ml ret T h k n) (q : Nat) {i : Fin 4} (x : Int64) (hd : decode bytes pc = .ok (.lload_n i, 1)) (hq : pc + 1 = q) (hl : Ls[i.val]? = some (.val (.long x))) (K : own_Ends p e below G (T.setTop (mkF m q Ls (.long x :: st)))) : own_Ends p e below G (T.setTop (mkF m pc Ls st)) := by
  subst hq
  obtain ⟨⟨locs, Y, N⟩, eT, hs0, hx, hZ, hby, hml, hown, hret, hlk, hnm⟩ := X
  exact own_pre (fun t K => XS.lloadN Y.here hx rfl (hb hby hd) hl K) K
theorem own_lload (X : own_W p l e R s m args below meth c Z n0 y bytes ml ret T h k n) (q : Nat) {i : Nat} (x : Int64) (hd : decode bytes pc = .ok (.lload i, 2)) (hq : pc + 2 = q) (hl : Ls[i]? = some (.val (.long x))) (K : own_Ends p e below G (T.setTop (mkF m q Ls (.long x :: st)))) : own_Ends p e below G (T.setTop (mkF m pc Ls st)) := by
  subst hq
  obtain ⟨⟨locs, Y, N⟩, eT, hs0, hx, hZ, hby, hml, hown, hret, hlk, hnm⟩ := X
  exact own_pre (fun t K => XS.lload Y.here hx rfl (hb hby hd) hl K) K
theorem own_aloadN (X : own_W p l e R s m args below meth c Z n0 y bytes ml ret T h k n) (q : Nat) {i : Fin 4} (x : Value) (hd : decode bytes pc = .ok (.aload_n i, 1)) (hq : pc + 1 = q) (hl : Ls[i.val]? = some (.val x)) (hv : x.isRef = true) (K : own_Ends p e below G (T.setTop (mkF m q Ls (x :: st)))) : own_Ends p e below G (T.setTop (mkF m pc Ls st)) := by
  subst hq
  obtain ⟨⟨locs, Y, N⟩, eT, hs0, hx, hZ, hby, hml, hown, hret, hlk, hnm⟩ := X
  exact own_pre (fun t K => XS.aloadN Y.here hx rfl (hb hby hd) hl hv K) K
theorem own_aload (X : own_W p l e R s m args below meth c Z n0 y bytes ml ret T h k n) (q : Nat) {i : Nat} (x : Value) (hd : decode bytes pc = .ok (.aload i, 2)) (hq : pc + 2 = q) (hl : Ls[i]? = some (.val x)) (hv : x.isRef = true) (K : own_Ends p e below G (T.setTop (mkF m q Ls (x :: st)))) : own_Ends p e below G (T.setTop (mkF m pc Ls st)) := by
  subst hq
  obtain ⟨⟨locs, Y, N⟩, eT, hs0, hx, hZ, hby, hml, hown, hret, hlk, hnm⟩ := X
  exact own_pre (fun t K => XS.aload Y.here hx rfl (hb hby hd) hl hv K) K
theorem own_istoreN (X : own_W p l e R s m args below meth c Z n0 y bytes ml ret T h k n) (q : Nat) {i : Fin 4} {x : Int32} (l' : Array Slot) (hd : decode bytes pc = .ok (.istore_n i, 1)) (hq : pc + 1 = q) (hl : storeLocals Ls i.val (.int x) = some l') (K : own_Ends p e below G (T.setTop (mkF m q l' st))) : own_Ends p e below G (T.setTop (mkF m pc Ls (.int x :: st))) := by
  subst hq
  obtain ⟨⟨locs, Y, N⟩, eT, hs0, hx, hZ, hby, hml, hown, hret, hlk, hnm⟩ := X
  exact own_pre (fun t K => XS.istoreN Y.here hx rfl (hb hby hd) rfl hl K) K
theorem own_istore (X : own_W p l e R s m args below meth c Z n0 y bytes ml ret T h k n) (q : Nat) {i : Nat} {x : Int32} (l' : Array Slot) (hd : decode bytes pc = .ok (.istore i, 2)) (hq : pc + 2 = q) (hl : storeLocals Ls i (.int x) = some l') (K : own_Ends p e below G (T.setTop (mkF m q l' st))) : own_Ends p e below G (T.setTop (mkF m pc Ls (.int x :: st))) := by
  subst hq
  obtain ⟨⟨locs, Y, N⟩, eT, hs0, hx, hZ, hby, hml, hown, hret, hlk, hnm⟩ := X
  exact own_pre (fun t K => XS.istore Y.here hx rfl (hb hby hd) rfl hl K) K
theorem own_lstoreN (X : own_W p l e R s m args below meth c Z n0 y bytes ml ret T h k n) (q : Nat) {i : Fin 4} {x : Int64} (l' : Array Slot) (hd : decode bytes pc = .ok (.lstore_n i, 1)) (hq : pc + 1 = q) (hl : storeLocals Ls i.val (.long x) = some l') (K : own_Ends p e below G (T.setTop (mkF m q l' st))) : own_Ends p e below G (T.setTop (mkF m pc Ls (.long x :: st))) := by
  subst hq
  obtain ⟨⟨locs, Y, N⟩, eT, hs0, hx, hZ, hby, hml, hown, hret, hlk, hnm⟩ := X
  exact own_pre (fun t K => XS.lstoreN Y.here hx rfl (hb hby hd) rfl hl K) K
theorem own_lstore (X : own_W p l e R s m args below meth c Z n0 y bytes ml ret T h k n) (q : Nat) {i : Nat} {x : Int64} (l' : Array Slot) (hd : decode bytes pc = .ok (.lstore i, 2)) (hq : pc + 2 = q) (hl : storeLocals Ls i (.long x) = some l') (K : own_Ends p e below G (T.setTop (mkF m q l' st))) : own_Ends p e below G (T.setTop (mkF m pc Ls (.long x :: st))) := by
  subst hq
  obtain ⟨⟨locs, Y, N⟩, eT, hs0, hx, hZ, hby, hml, hown, hret, hlk, hnm⟩ := X
  exact own_pre (fun t K => XS.lstore Y.here hx rfl (hb hby hd) rfl hl K) K
theorem own_astoreN (X : own_W p l e R s m args below meth c Z n0 y bytes ml ret T h k n) (q : Nat) {i : Fin 4} {x : Value} (l' : Array Slot) (hd : decode bytes pc = .ok (.astore_n i, 1)) (hq : pc + 1 = q) (hv : x.isRef = true) (hl : storeLocals Ls i.val x = some l') (K : own_Ends p e below G (T.setTop (mkF m q l' st))) : own_Ends p e below G (T.setTop (mkF m pc Ls (x :: st))) := by
  subst hq
  obtain ⟨⟨locs, Y, N⟩, eT, hs0, hx, hZ, hby, hml, hown, hret, hlk, hnm⟩ := X
  exact own_pre (fun t K => XS.astoreN Y.here hx rfl (hb hby hd) rfl hv hl K) K
theorem own_astore (X : own_W p l e R s m args below meth c Z n0 y bytes ml ret T h k n) (q : Nat) {i : Nat} {x : Value} (l' : Array Slot) (hd : decode bytes pc = .ok (.astore i, 2)) (hq : pc + 2 = q) (hv : x.isRef = true) (hl : storeLocals Ls i x = some l') (K : own_Ends p e below G (T.setTop (mkF m q l' st))) : own_Ends p e below G (T.setTop (mkF m pc Ls (x :: st))) := by
  subst hq
  obtain ⟨⟨locs, Y, N⟩, eT, hs0, hx, hZ, hby, hml, hown, hret, hlk, hnm⟩ := X
  exact own_pre (fun t K => XS.astore Y.here hx rfl (hb hby hd) rfl hv hl K) K
theorem own_iconst (X : own_W p l e R s m args below meth c Z n0 y bytes ml ret T h k n) (q : Nat) {i : Int} (x : Int32) (hd : decode bytes pc = .ok (.iconst i, 1)) (hq : pc + 1 = q) (hv : Int32.ofInt i = x) (K : own_Ends p e below G (T.setTop (mkF m q Ls (.int x :: st)))) : own_Ends p e below G (T.setTop (mkF m pc Ls st)) := by
  subst hq
  obtain ⟨⟨locs, Y, N⟩, eT, hs0, hx, hZ, hby, hml, hown, hret, hlk, hnm⟩ := X
  exact own_pre (fun t K => XT.iconstV Y.here hx rfl x (hb hby hd) hv K) K
theorem own_bipush (X : own_W p l e R s m args below meth c Z n0 y bytes ml ret T h k n) (q : Nat) {i : Int} (x : Int32) (hd : decode bytes pc = .ok (.bipush i, 2)) (hq : pc + 2 = q) (hv : (Int8.ofInt i).toInt32 = x) (K : own_Ends p e below G (T.setTop (mkF m q Ls (.int x :: st)))) : own_Ends p e below G (T.setTop (mkF m pc Ls st)) := by
  subst hq
  obtain ⟨⟨locs, Y, N⟩, eT, hs0, hx, hZ, hby, hml, hown, hret, hlk, hnm⟩ := X
  exact own_pre (fun t K => XT.bipushV Y.here hx rfl x (hb hby hd) hv K) K
theorem own_sipush (X : own_W p l e R s m args below meth c Z n0 y bytes ml ret T h k n) (q : Nat) {i : Int} (x : Int32) (hd : decode bytes pc = .ok (.sipush i, 3)) (hq : pc + 3 = q) (hv : (Int16.ofInt i).toInt32 = x) (K : own_Ends p e below G (T.setTop (mkF m q Ls (.int x :: st)))) : own_Ends p e below G (T.setTop (mkF m pc Ls st)) := by
  subst hq
  obtain ⟨⟨locs, Y, N⟩, eT, hs0, hx, hZ, hby, hml, hown, hret, hlk, hnm⟩ := X
  exact own_pre (fun t K => XT.sipushV Y.here hx rfl x (hb hby hd) hv K) K
theorem own_lconst (X : own_W p l e R s m args below meth c Z n0 y bytes ml ret T h k n) (q : Nat) {i : Fin 2} (x : Int64) (hd : decode bytes pc = .ok (.lconst i, 1)) (hq : pc + 1 = q) (hv : Int64.ofNat i = x) (K : own_Ends p e below G (T.setTop (mkF m q Ls (.long x :: st)))) : own_Ends p e below G (T.setTop (mkF m pc Ls st)) := by
  subst hq
  obtain ⟨⟨locs, Y, N⟩, eT, hs0, hx, hZ, hby, hml, hown, hret, hlk, hnm⟩ := X
  exact own_pre (fun t K => XT.lconstV Y.here hx rfl x (hb hby hd) hv K) K
theorem own_anull (X : own_W p l e R s m args below meth c Z n0 y bytes ml ret T h k n) (q : Nat)  (hd : decode bytes pc = .ok (.aconst_null, 1)) (hq : pc + 1 = q)  (K : own_Ends p e below G (T.setTop (mkF m q Ls (.null :: st)))) : own_Ends p e below G (T.setTop (mkF m pc Ls st)) := by
  subst hq
  obtain ⟨⟨locs, Y, N⟩, eT, hs0, hx, hZ, hby, hml, hown, hret, hlk, hnm⟩ := X
  exact own_pre (fun t K => XS.aconstNull Y.here hx rfl (hb hby hd) K) K
theorem own_ldcI (X : own_W p l e R s m args below meth c Z n0 y bytes ml ret T h k n) (q : Nat) {i : Nat} {x : Int32} (hd : decode bytes pc = .ok (.ldc i, 2)) (hq : pc + 2 = q) (w : (Jvm.Cond.constant y.cls i x).before a0 Z = true) (K : own_Ends p e below G (T.setTop (mkF m q Ls (.int x :: st)))) : own_Ends p e below G (T.setTop (mkF m pc Ls st)) := by
  subst hq
  obtain ⟨⟨locs, Y, N⟩, eT, hs0, hx, hZ, hby, hml, hown, hret, hlk, hnm⟩ := X
  exact own_pre (fun t K => Y.ldcI hx hown (mvT hZ w) rfl (hb hby hd) K) K
theorem own_ldcwI (X : own_W p l e R s m args below meth c Z n0 y bytes ml ret T h k n) (q : Nat) {i : Nat} {x : Int32} (hd : decode bytes pc = .ok (.ldc_w i, 3)) (hq : pc + 3 = q) (w : (Jvm.Cond.constant y.cls i x).before a0 Z = true) (K : own_Ends p e below G (T.setTop (mkF m q Ls (.int x :: st)))) : own_Ends p e below G (T.setTop (mkF m pc Ls st)) := by
  subst hq
  obtain ⟨⟨locs, Y, N⟩, eT, hs0, hx, hZ, hby, hml, hown, hret, hlk, hnm⟩ := X
  exact own_pre (fun t K => Y.ldcWI hx hown (mvT hZ w) rfl (hb hby hd) K) K
theorem own_ldc2J (X : own_W p l e R s m args below meth c Z n0 y bytes ml ret T h k n) (q : Nat) {i : Nat} {x : Int64} (hd : decode bytes pc = .ok (.ldc2_w i, 3)) (hq : pc + 3 = q) (w : (Jvm.Cond.constantLong y.cls i x).before a0 Z = true) (K : own_Ends p e below G (T.setTop (mkF m q Ls (.long x :: st)))) : own_Ends p e below G (T.setTop (mkF m pc Ls st)) := by
  subst hq
  obtain ⟨⟨locs, Y, N⟩, eT, hs0, hx, hZ, hby, hml, hown, hret, hlk, hnm⟩ := X
  exact own_pre (fun t K => Y.ldc2J hx hown (mvT hZ w) rfl (hb hby hd) K) K
theorem own_iadd (X : own_W p l e R s m args below meth c Z n0 y bytes ml ret T h k n) (q : Nat) {x z : Int32} (hd : decode bytes pc = .ok (.iadd, 1)) (hq : pc + 1 = q)  (K : own_Ends p e below G (T.setTop (mkF m q Ls (.int (x + z) :: st)))) : own_Ends p e below G (T.setTop (mkF m pc Ls (.int z :: .int x :: st))) := by
  subst hq
  obtain ⟨⟨locs, Y, N⟩, eT, hs0, hx, hZ, hby, hml, hown, hret, hlk, hnm⟩ := X
  exact own_pre (fun t K => XS.iadd Y.here hx rfl (hb hby hd) rfl K) K
theorem own_isub (X : own_W p l e R s m args below meth c Z n0 y bytes ml ret T h k n) (q : Nat) {x z : Int32} (hd : decode bytes pc = .ok (.isub, 1)) (hq : pc + 1 = q)  (K : own_Ends p e below G (T.setTop (mkF m q Ls (.int (x - z) :: st)))) : own_Ends p e below G (T.setTop (mkF m pc Ls (.int z :: .int x :: st))) := by
  subst hq
  obtain ⟨⟨locs, Y, N⟩, eT, hs0, hx, hZ, hby, hml, hown, hret, hlk, hnm⟩ := X
  exact own_pre (fun t K => XS.isub Y.here hx rfl (hb hby hd) rfl K) K
theorem own_imul (X : own_W p l e R s m args below meth c Z n0 y bytes ml ret T h k n) (q : Nat) {x z : Int32} (hd : decode bytes pc = .ok (.imul, 1)) (hq : pc + 1 = q)  (K : own_Ends p e below G (T.setTop (mkF m q Ls (.int (x * z) :: st)))) : own_Ends p e below G (T.setTop (mkF m pc Ls (.int z :: .int x :: st))) := by
  subst hq
  obtain ⟨⟨locs, Y, N⟩, eT, hs0, hx, hZ, hby, hml, hown, hret, hlk, hnm⟩ := X
  exact own_pre (fun t K => XS.imul Y.here hx rfl (hb hby hd) rfl K) K
theorem own_iand (X : own_W p l e R s m args below meth c Z n0 y bytes ml ret T h k n) (q : Nat) {x z : Int32} (hd : decode bytes pc = .ok (.iand, 1)) (hq : pc + 1 = q)  (K : own_Ends p e below G (T.setTop (mkF m q Ls (.int (x &&& z) :: st)))) : own_Ends p e below G (T.setTop (mkF m pc Ls (.int z :: .int x :: st))) := by
  subst hq
  obtain ⟨⟨locs, Y, N⟩, eT, hs0, hx, hZ, hby, hml, hown, hret, hlk, hnm⟩ := X
  exact own_pre (fun t K => XS.iand Y.here hx rfl (hb hby hd) rfl K) K
theorem own_ior (X : own_W p l e R s m args below meth c Z n0 y bytes ml ret T h k n) (q : Nat) {x z : Int32} (hd : decode bytes pc = .ok (.ior, 1)) (hq : pc + 1 = q)  (K : own_Ends p e below G (T.setTop (mkF m q Ls (.int (x ||| z) :: st)))) : own_Ends p e below G (T.setTop (mkF m pc Ls (.int z :: .int x :: st))) := by
  subst hq
  obtain ⟨⟨locs, Y, N⟩, eT, hs0, hx, hZ, hby, hml, hown, hret, hlk, hnm⟩ := X
  exact own_pre (fun t K => XS.ior Y.here hx rfl (hb hby hd) rfl K) K
theorem own_ixor (X : own_W p l e R s m args below meth c Z n0 y bytes ml ret T h k n) (q : Nat) {x z : Int32} (hd : decode bytes pc = .ok (.ixor, 1)) (hq : pc + 1 = q)  (K : own_Ends p e below G (T.setTop (mkF m q Ls (.int (x ^^^ z) :: st)))) : own_Ends p e below G (T.setTop (mkF m pc Ls (.int z :: .int x :: st))) := by
  subst hq
  obtain ⟨⟨locs, Y, N⟩, eT, hs0, hx, hZ, hby, hml, hown, hret, hlk, hnm⟩ := X
  exact own_pre (fun t K => XS.ixor Y.here hx rfl (hb hby hd) rfl K) K
theorem own_ishl (X : own_W p l e R s m args below meth c Z n0 y bytes ml ret T h k n) (q : Nat) {x z : Int32} (hd : decode bytes pc = .ok (.ishl, 1)) (hq : pc + 1 = q)  (K : own_Ends p e below G (T.setTop (mkF m q Ls (.int (x <<< (z &&& 31)) :: st)))) : own_Ends p e below G (T.setTop (mkF m pc Ls (.int z :: .int x :: st))) := by
  subst hq
  obtain ⟨⟨locs, Y, N⟩, eT, hs0, hx, hZ, hby, hml, hown, hret, hlk, hnm⟩ := X
  exact own_pre (fun t K => XS.ishl Y.here hx rfl (hb hby hd) rfl K) K
theorem own_ishr (X : own_W p l e R s m args below meth c Z n0 y bytes ml ret T h k n) (q : Nat) {x z : Int32} (hd : decode bytes pc = .ok (.ishr, 1)) (hq : pc + 1 = q)  (K : own_Ends p e below G (T.setTop (mkF m q Ls (.int (x >>> (z &&& 31)) :: st)))) : own_Ends p e below G (T.setTop (mkF m pc Ls (.int z :: .int x :: st))) := by
  subst hq
  obtain ⟨⟨locs, Y, N⟩, eT, hs0, hx, hZ, hby, hml, hown, hret, hlk, hnm⟩ := X
  exact own_pre (fun t K => XS.ishr Y.here hx rfl (hb hby hd) rfl K) K
theorem own_iushr (X : own_W p l e R s m args below meth c Z n0 y bytes ml ret T h k n) (q : Nat) {x z : Int32} (hd : decode bytes pc = .ok (.iushr, 1)) (hq : pc + 1 = q)  (K : own_Ends p e below G (T.setTop (mkF m q Ls (.int (XT.ushr x z) :: st)))) : own_Ends p e below G (T.setTop (mkF m pc Ls (.int z :: .int x :: st))) := by
  subst hq
  obtain ⟨⟨locs, Y, N⟩, eT, hs0, hx, hZ, hby, hml, hown, hret, hlk, hnm⟩ := X
  exact own_pre (fun t K => XT.iushr Y.here hx rfl (hb hby hd) rfl K) K
theorem own_idiv (X : own_W p l e R s m args below meth c Z n0 y bytes ml ret T h k n) (q : Nat) {x z : Int32} (hd : decode bytes pc = .ok (.idiv, 1)) (hq : pc + 1 = q) (hz : z ≠ 0) (K : own_Ends p e below G (T.setTop (mkF m q Ls (.int (x / z) :: st)))) : own_Ends p e below G (T.setTop (mkF m pc Ls (.int z :: .int x :: st))) := by
  subst hq
  obtain ⟨⟨locs, Y, N⟩, eT, hs0, hx, hZ, hby, hml, hown, hret, hlk, hnm⟩ := X
  exact own_pre (fun t K => XS.idiv Y.here hx rfl (hb hby hd) rfl hz K) K
theorem own_irem (X : own_W p l e R s m args below meth c Z n0 y bytes ml ret T h k n) (q : Nat) {x z : Int32} (hd : decode bytes pc = .ok (.irem, 1)) (hq : pc + 1 = q) (hz : z ≠ 0) (K : own_Ends p e below G (T.setTop (mkF m q Ls (.int (x % z) :: st)))) : own_Ends p e below G (T.setTop (mkF m pc Ls (.int z :: .int x :: st))) := by
  subst hq
  obtain ⟨⟨locs, Y, N⟩, eT, hs0, hx, hZ, hby, hml, hown, hret, hlk, hnm⟩ := X
  exact own_pre (fun t K => iremM Y hx rfl (hb hby hd) rfl hz K) K
theorem own_ineg (X : own_W p l e R s m args below meth c Z n0 y bytes ml ret T h k n) (q : Nat) {x : Int32} (hd : decode bytes pc = .ok (.ineg, 1)) (hq : pc + 1 = q)  (K : own_Ends p e below G (T.setTop (mkF m q Ls (.int (-x) :: st)))) : own_Ends p e below G (T.setTop (mkF m pc Ls (.int x :: st))) := by
  subst hq
  obtain ⟨⟨locs, Y, N⟩, eT, hs0, hx, hZ, hby, hml, hown, hret, hlk, hnm⟩ := X
  exact own_pre (fun t K => XS.ineg Y.here hx rfl (hb hby hd) rfl K) K
theorem own_i2b (X : own_W p l e R s m args below meth c Z n0 y bytes ml ret T h k n) (q : Nat) {x : Int32} (hd : decode bytes pc = .ok (.i2b, 1)) (hq : pc + 1 = q)  (K : own_Ends p e below G (T.setTop (mkF m q Ls (.int (x.toInt8.toInt32) :: st)))) : own_Ends p e below G (T.setTop (mkF m pc Ls (.int x :: st))) := by
  subst hq
  obtain ⟨⟨locs, Y, N⟩, eT, hs0, hx, hZ, hby, hml, hown, hret, hlk, hnm⟩ := X
  exact own_pre (fun t K => XS.i2b Y.here hx rfl (hb hby hd) rfl K) K
theorem own_i2s (X : own_W p l e R s m args below meth c Z n0 y bytes ml ret T h k n) (q : Nat) {x : Int32} (hd : decode bytes pc = .ok (.i2s, 1)) (hq : pc + 1 = q)  (K : own_Ends p e below G (T.setTop (mkF m q Ls (.int (x.toInt16.toInt32) :: st)))) : own_Ends p e below G (T.setTop (mkF m pc Ls (.int x :: st))) := by
  subst hq
  obtain ⟨⟨locs, Y, N⟩, eT, hs0, hx, hZ, hby, hml, hown, hret, hlk, hnm⟩ := X
  exact own_pre (fun t K => XS.i2s Y.here hx rfl (hb hby hd) rfl K) K
theorem own_i2c (X : own_W p l e R s m args below meth c Z n0 y bytes ml ret T h k n) (q : Nat) {x : Int32} (hd : decode bytes pc = .ok (.i2c, 1)) (hq : pc + 1 = q)  (K : own_Ends p e below G (T.setTop (mkF m q Ls (.int (x.toUInt32.toUInt16.toUInt32.toInt32) :: st)))) : own_Ends p e below G (T.setTop (mkF m pc Ls (.int x :: st))) := by
  subst hq
  obtain ⟨⟨locs, Y, N⟩, eT, hs0, hx, hZ, hby, hml, hown, hret, hlk, hnm⟩ := X
  exact own_pre (fun t K => XS.i2c Y.here hx rfl (hb hby hd) rfl K) K
theorem own_i2l (X : own_W p l e R s m args below meth c Z n0 y bytes ml ret T h k n) (q : Nat) {x : Int32} (hd : decode bytes pc = .ok (.i2l, 1)) (hq : pc + 1 = q)  (K : own_Ends p e below G (T.setTop (mkF m q Ls (.long x.toInt64 :: st)))) : own_Ends p e below G (T.setTop (mkF m pc Ls (.int x :: st))) := by
  subst hq
  obtain ⟨⟨locs, Y, N⟩, eT, hs0, hx, hZ, hby, hml, hown, hret, hlk, hnm⟩ := X
  exact own_pre (fun t K => XS.i2l Y.here hx rfl (hb hby hd) rfl K) K
theorem own_l2i (X : own_W p l e R s m args below meth c Z n0 y bytes ml ret T h k n) (q : Nat) {x : Int64} (hd : decode bytes pc = .ok (.l2i, 1)) (hq : pc + 1 = q)  (K : own_Ends p e below G (T.setTop (mkF m q Ls (.int x.toInt32 :: st)))) : own_Ends p e below G (T.setTop (mkF m pc Ls (.long x :: st))) := by
  subst hq
  obtain ⟨⟨locs, Y, N⟩, eT, hs0, hx, hZ, hby, hml, hown, hret, hlk, hnm⟩ := X
  exact own_pre (fun t K => XS.l2i Y.here hx rfl (hb hby hd) rfl K) K
theorem own_ladd (X : own_W p l e R s m args below meth c Z n0 y bytes ml ret T h k n) (q : Nat) {x z : Int64} (hd : decode bytes pc = .ok (.ladd, 1)) (hq : pc + 1 = q)  (K : own_Ends p e below G (T.setTop (mkF m q Ls (.long (x + z) :: st)))) : own_Ends p e below G (T.setTop (mkF m pc Ls (.long z :: .long x :: st))) := by
  subst hq
  obtain ⟨⟨locs, Y, N⟩, eT, hs0, hx, hZ, hby, hml, hown, hret, hlk, hnm⟩ := X
  exact own_pre (fun t K => XS.ladd Y.here hx rfl (hb hby hd) rfl K) K
theorem own_lsub (X : own_W p l e R s m args below meth c Z n0 y bytes ml ret T h k n) (q : Nat) {x z : Int64} (hd : decode bytes pc = .ok (.lsub, 1)) (hq : pc + 1 = q)  (K : own_Ends p e below G (T.setTop (mkF m q Ls (.long (x - z) :: st)))) : own_Ends p e below G (T.setTop (mkF m pc Ls (.long z :: .long x :: st))) := by
  subst hq
  obtain ⟨⟨locs, Y, N⟩, eT, hs0, hx, hZ, hby, hml, hown, hret, hlk, hnm⟩ := X
  exact own_pre (fun t K => XS.lsub Y.here hx rfl (hb hby hd) rfl K) K
theorem own_lmul (X : own_W p l e R s m args below meth c Z n0 y bytes ml ret T h k n) (q : Nat) {x z : Int64} (hd : decode bytes pc = .ok (.lmul, 1)) (hq : pc + 1 = q)  (K : own_Ends p e below G (T.setTop (mkF m q Ls (.long (x * z) :: st)))) : own_Ends p e below G (T.setTop (mkF m pc Ls (.long z :: .long x :: st))) := by
  subst hq
  obtain ⟨⟨locs, Y, N⟩, eT, hs0, hx, hZ, hby, hml, hown, hret, hlk, hnm⟩ := X
  exact own_pre (fun t K => XS.lmul Y.here hx rfl (hb hby hd) rfl K) K
theorem own_land (X : own_W p l e R s m args below meth c Z n0 y bytes ml ret T h k n) (q : Nat) {x z : Int64} (hd : decode bytes pc = .ok (.land, 1)) (hq : pc + 1 = q)  (K : own_Ends p e below G (T.setTop (mkF m q Ls (.long (x &&& z) :: st)))) : own_Ends p e below G (T.setTop (mkF m pc Ls (.long z :: .long x :: st))) := by
  subst hq
  obtain ⟨⟨locs, Y, N⟩, eT, hs0, hx, hZ, hby, hml, hown, hret, hlk, hnm⟩ := X
  exact own_pre (fun t K => XS.land Y.here hx rfl (hb hby hd) rfl K) K
theorem own_lor (X : own_W p l e R s m args below meth c Z n0 y bytes ml ret T h k n) (q : Nat) {x z : Int64} (hd : decode bytes pc = .ok (.lor, 1)) (hq : pc + 1 = q)  (K : own_Ends p e below G (T.setTop (mkF m q Ls (.long (x ||| z) :: st)))) : own_Ends p e below G (T.setTop (mkF m pc Ls (.long z :: .long x :: st))) := by
  subst hq
  obtain ⟨⟨locs, Y, N⟩, eT, hs0, hx, hZ, hby, hml, hown, hret, hlk, hnm⟩ := X
  exact own_pre (fun t K => XS.lor Y.here hx rfl (hb hby hd) rfl K) K
theorem own_lxor (X : own_W p l e R s m args below meth c Z n0 y bytes ml ret T h k n) (q : Nat) {x z : Int64} (hd : decode bytes pc = .ok (.lxor, 1)) (hq : pc + 1 = q)  (K : own_Ends p e below G (T.setTop (mkF m q Ls (.long (x ^^^ z) :: st)))) : own_Ends p e below G (T.setTop (mkF m pc Ls (.long z :: .long x :: st))) := by
  subst hq
  obtain ⟨⟨locs, Y, N⟩, eT, hs0, hx, hZ, hby, hml, hown, hret, hlk, hnm⟩ := X
  exact own_pre (fun t K => XS.lxor Y.here hx rfl (hb hby hd) rfl K) K
theorem own_lushr (X : own_W p l e R s m args below meth c Z n0 y bytes ml ret T h k n) (q : Nat) {x : Int64} {z : Int32} (hd : decode bytes pc = .ok (.lushr, 1)) (hq : pc + 1 = q)  (K : own_Ends p e below G (T.setTop (mkF m q Ls (.long (XT.ushrL x z) :: st)))) : own_Ends p e below G (T.setTop (mkF m pc Ls (.int z :: .long x :: st))) := by
  subst hq
  obtain ⟨⟨locs, Y, N⟩, eT, hs0, hx, hZ, hby, hml, hown, hret, hlk, hnm⟩ := X
  exact own_pre (fun t K => XT.lushr Y.here hx rfl (hb hby hd) rfl K) K
theorem own_ldiv (X : own_W p l e R s m args below meth c Z n0 y bytes ml ret T h k n) (q : Nat) {x z : Int64} (hd : decode bytes pc = .ok (.ldiv, 1)) (hq : pc + 1 = q) (hz : z ≠ 0) (K : own_Ends p e below G (T.setTop (mkF m q Ls (.long (x / z) :: st)))) : own_Ends p e below G (T.setTop (mkF m pc Ls (.long z :: .long x :: st))) := by
  subst hq
  obtain ⟨⟨locs, Y, N⟩, eT, hs0, hx, hZ, hby, hml, hown, hret, hlk, hnm⟩ := X
  exact own_pre (fun t K => XS.ldiv Y.here hx rfl (hb hby hd) rfl hz K) K
theorem own_lrem (X : own_W p l e R s m args below meth c Z n0 y bytes ml ret T h k n) (q : Nat) {x z : Int64} (hd : decode bytes pc = .ok (.lrem, 1)) (hq : pc + 1 = q) (hz : z ≠ 0) (K : own_Ends p e below G (T.setTop (mkF m q Ls (.long (x - (x / z) * z) :: st)))) : own_Ends p e below G (T.setTop (mkF m pc Ls (.long z :: .long x :: st))) := by
  subst hq
  obtain ⟨⟨locs, Y, N⟩, eT, hs0, hx, hZ, hby, hml, hown, hret, hlk, hnm⟩ := X
  exact own_pre (fun t K => XS.lrem Y.here hx rfl (hb hby hd) rfl hz K) K
theorem own_lneg (X : own_W p l e R s m args below meth c Z n0 y bytes ml ret T h k n) (q : Nat) {x : Int64} (hd : decode bytes pc = .ok (.lneg, 1)) (hq : pc + 1 = q)  (K : own_Ends p e below G (T.setTop (mkF m q Ls (.long (-x) :: st)))) : own_Ends p e below G (T.setTop (mkF m pc Ls (.long x :: st))) := by
  subst hq
  obtain ⟨⟨locs, Y, N⟩, eT, hs0, hx, hZ, hby, hml, hown, hret, hlk, hnm⟩ := X
  exact own_pre (fun t K => XS.lneg Y.here hx rfl (hb hby hd) rfl K) K
theorem own_lcmp (X : own_W p l e R s m args below meth c Z n0 y bytes ml ret T h k n) (q : Nat) {x z : Int64} (hd : decode bytes pc = .ok (.lcmp, 1)) (hq : pc + 1 = q)  (K : own_Ends p e below G (T.setTop (mkF m q Ls (.int (XT.cmpL x z) :: st)))) : own_Ends p e below G (T.setTop (mkF m pc Ls (.long z :: .long x :: st))) := by
  subst hq
  obtain ⟨⟨locs, Y, N⟩, eT, hs0, hx, hZ, hby, hml, hown, hret, hlk, hnm⟩ := X
  exact own_pre (fun t K => XT.lcmp Y.here hx rfl (hb hby hd) rfl K) K
theorem own_iinc (X : own_W p l e R s m args below meth c Z n0 y bytes ml ret T h k n) (q : Nat) {i : Nat} {cst : Int} {x : Int32} (v : Int32) (l' : Array Slot) (hd : decode bytes pc = .ok (.iinc i cst, 3)) (hq : pc + 3 = q) (hv : Int32.ofInt cst = v) (hl : Ls[i]? = some (.val (.int x))) (hl' : storeLocals Ls i (.int (x + v)) = some l') (K : own_Ends p e below G (T.setTop (mkF m q l' st))) : own_Ends p e below G (T.setTop (mkF m pc Ls st)) := by
  subst hq
  obtain ⟨⟨locs, Y, N⟩, eT, hs0, hx, hZ, hby, hml, hown, hret, hlk, hnm⟩ := X
  exact own_pre (fun t K => XT.iincV Y.here hx rfl v (hb hby hd) hv hl hl' K) K
theorem own_dup (X : own_W p l e R s m args below meth c Z n0 y bytes ml ret T h k n) (q : Nat) {x : Value} (hd : decode bytes pc = .ok (.dup, 1)) (hq : pc + 1 = q) (hc : x.category = 1) (K : own_Ends p e below G (T.setTop (mkF m q Ls (x :: x :: st)))) : own_Ends p e below G (T.setTop (mkF m pc Ls (x :: st))) := by
  subst hq
  obtain ⟨⟨locs, Y, N⟩, eT, hs0, hx, hZ, hby, hml, hown, hret, hlk, hnm⟩ := X
  exact own_pre (fun t K => XS.dup Y.here hx rfl (hb hby hd) rfl hc K) K
theorem own_dupX1 (X : own_W p l e R s m args below meth c Z n0 y bytes ml ret T h k n) (q : Nat) {x z : Value} (hd : decode bytes pc = .ok (.dup_x1, 1)) (hq : pc + 1 = q) (hc : x.category = 1) (hc' : z.category = 1) (K : own_Ends p e below G (T.setTop (mkF m q Ls (x :: z :: x :: st)))) : own_Ends p e below G (T.setTop (mkF m pc Ls (x :: z :: st))) := by
  subst hq
  obtain ⟨⟨locs, Y, N⟩, eT, hs0, hx, hZ, hby, hml, hown, hret, hlk, hnm⟩ := X
  exact own_pre (fun t K => XS.dupX1 Y.here hx rfl (hb hby hd) rfl hc hc' K) K
theorem own_dup2 (X : own_W p l e R s m args below meth c Z n0 y bytes ml ret T h k n) (q : Nat) {x z : Value} (hd : decode bytes pc = .ok (.dup2, 1)) (hq : pc + 1 = q) (hc : x.category = 1) (hc' : z.category = 1) (K : own_Ends p e below G (T.setTop (mkF m q Ls (x :: z :: x :: z :: st)))) : own_Ends p e below G (T.setTop (mkF m pc Ls (x :: z :: st))) := by
  subst hq
  obtain ⟨⟨locs, Y, N⟩, eT, hs0, hx, hZ, hby, hml, hown, hret, hlk, hnm⟩ := X
  exact own_pre (fun t K => XT.dup2 Y.here hx rfl (hb hby hd) rfl hc hc' K) K
theorem own_dup2L (X : own_W p l e R s m args below meth c Z n0 y bytes ml ret T h k n) (q : Nat) {x : Int64} (hd : decode bytes pc = .ok (.dup2, 1)) (hq : pc + 1 = q)  (K : own_Ends p e below G (T.setTop (mkF m q Ls (.long x :: .long x :: st)))) : own_Ends p e below G (T.setTop (mkF m pc Ls (.long x :: st))) := by
  subst hq
  obtain ⟨⟨locs, Y, N⟩, eT, hs0, hx, hZ, hby, hml, hown, hret, hlk, hnm⟩ := X
  exact own_pre (fun t K => XT.dup2L Y.here hx rfl (hb hby hd) rfl K) K
theorem own_pop (X : own_W p l e R s m args below meth c Z n0 y bytes ml ret T h k n) (q : Nat) {x : Value} (hd : decode bytes pc = .ok (.pop, 1)) (hq : pc + 1 = q) (hc : x.category = 1) (K : own_Ends p e below G (T.setTop (mkF m q Ls st))) : own_Ends p e below G (T.setTop (mkF m pc Ls (x :: st))) := by
  subst hq
  obtain ⟨⟨locs, Y, N⟩, eT, hs0, hx, hZ, hby, hml, hown, hret, hlk, hnm⟩ := X
  exact own_pre (fun t K => XS.pop Y.here hx rfl (hb hby hd) rfl hc K) K
theorem own_goto (X : own_W p l e R s m args below meth c Z n0 y bytes ml ret T h k n) (q : Nat) {o : Int}  (hd : decode bytes pc = .ok (.goto o, 3)) (ho : 0 ≤ (pc : Int) + o) (hq : ((pc : Int) + o).toNat = q)  (K : own_Ends p e below G (T.setTop (mkF m q Ls st))) : own_Ends p e below G (T.setTop (mkF m pc Ls st)) := by
  obtain ⟨⟨locs, Y, N⟩, eT, hs0, hx, hZ, hby, hml, hown, hret, hlk, hnm⟩ := X
  exact own_pre (fun t K => XS.goto Y.here hx rfl rfl (hb hby hd) ho hq K) K
theorem own_ifY (X : own_W p l e R s m args below meth c Z n0 y bytes ml ret T h k n) (q : Nat) {o : Int} {cd : ClassFile.Cond} {x : Int32} (hd : decode bytes pc = .ok (.ifCond cd o, 3)) (ho : 0 ≤ (pc : Int) + o) (hq : ((pc : Int) + o).toNat = q) (hc : ifCond.holds cd x = true) (K : own_Ends p e below G (T.setTop (mkF m q Ls st))) : own_Ends p e below G (T.setTop (mkF m pc Ls (.int x :: st))) := by
  obtain ⟨⟨locs, Y, N⟩, eT, hs0, hx, hZ, hby, hml, hown, hret, hlk, hnm⟩ := X
  exact own_pre (fun t K => XS.ifYes Y.here hx rfl rfl (hb hby hd) rfl hc ho hq K) K
theorem own_ifN (X : own_W p l e R s m args below meth c Z n0 y bytes ml ret T h k n) (q : Nat) {o : Int} {cd : ClassFile.Cond} {x : Int32} (hd : decode bytes pc = .ok (.ifCond cd o, 3)) (hq : pc + 3 = q) (hc : ifCond.holds cd x = false) (K : own_Ends p e below G (T.setTop (mkF m q Ls st))) : own_Ends p e below G (T.setTop (mkF m pc Ls (.int x :: st))) := by
  subst hq
  obtain ⟨⟨locs, Y, N⟩, eT, hs0, hx, hZ, hby, hml, hown, hret, hlk, hnm⟩ := X
  exact own_pre (fun t K => XS.ifNo Y.here hx rfl (hb hby hd) rfl hc K) K
theorem own_icY (X : own_W p l e R s m args below meth c Z n0 y bytes ml ret T h k n) (q : Nat) {o : Int} {cd : ClassFile.Cond} {x z : Int32} (hd : decode bytes pc = .ok (.if_icmp cd o, 3)) (ho : 0 ≤ (pc : Int) + o) (hq : ((pc : Int) + o).toNat = q) (hc : if_icmp.holds cd x z = true) (K : own_Ends p e below G (T.setTop (mkF m q Ls st))) : own_Ends p e below G (T.setTop (mkF m pc Ls (.int z :: .int x :: st))) := by
  obtain ⟨⟨locs, Y, N⟩, eT, hs0, hx, hZ, hby, hml, hown, hret, hlk, hnm⟩ := X
  exact own_pre (fun t K => XS.icmpYes Y.here hx rfl rfl (hb hby hd) rfl hc ho hq K) K
theorem own_icN (X : own_W p l e R s m args below meth c Z n0 y bytes ml ret T h k n) (q : Nat) {o : Int} {cd : ClassFile.Cond} {x z : Int32} (hd : decode bytes pc = .ok (.if_icmp cd o, 3)) (hq : pc + 3 = q) (hc : if_icmp.holds cd x z = false) (K : own_Ends p e below G (T.setTop (mkF m q Ls st))) : own_Ends p e below G (T.setTop (mkF m pc Ls (.int z :: .int x :: st))) := by
  subst hq
  obtain ⟨⟨locs, Y, N⟩, eT, hs0, hx, hZ, hby, hml, hown, hret, hlk, hnm⟩ := X
  exact own_pre (fun t K => XS.icmpNo Y.here hx rfl (hb hby hd) rfl hc K) K
theorem own_nullY (X : own_W p l e R s m args below meth c Z n0 y bytes ml ret T h k n) (q : Nat) {o : Int}  (hd : decode bytes pc = .ok (.ifnull o, 3)) (ho : 0 ≤ (pc : Int) + o) (hq : ((pc : Int) + o).toNat = q)  (K : own_Ends p e below G (T.setTop (mkF m q Ls st))) : own_Ends p e below G (T.setTop (mkF m pc Ls (.null :: st))) := by
  obtain ⟨⟨locs, Y, N⟩, eT, hs0, hx, hZ, hby, hml, hown, hret, hlk, hnm⟩ := X
  exact own_pre (fun t K => XS.ifnullYes Y.here hx rfl rfl (hb hby hd) rfl ho hq K) K
theorem own_nullN (X : own_W p l e R s m args below meth c Z n0 y bytes ml ret T h k n) (q : Nat) {o : Int} {b : Addr} (hd : decode bytes pc = .ok (.ifnull o, 3)) (hq : pc + 3 = q)  (K : own_Ends p e below G (T.setTop (mkF m q Ls st))) : own_Ends p e below G (T.setTop (mkF m pc Ls (.ref b :: st))) := by
  subst hq
  obtain ⟨⟨locs, Y, N⟩, eT, hs0, hx, hZ, hby, hml, hown, hret, hlk, hnm⟩ := X
  exact own_pre (fun t K => XS.ifnullNo Y.here hx rfl (hb hby hd) rfl K) K
theorem own_nonnullY (X : own_W p l e R s m args below meth c Z n0 y bytes ml ret T h k n) (q : Nat) {o : Int} {b : Addr} (hd : decode bytes pc = .ok (.ifnonnull o, 3)) (ho : 0 ≤ (pc : Int) + o) (hq : ((pc : Int) + o).toNat = q)  (K : own_Ends p e below G (T.setTop (mkF m q Ls st))) : own_Ends p e below G (T.setTop (mkF m pc Ls (.ref b :: st))) := by
  obtain ⟨⟨locs, Y, N⟩, eT, hs0, hx, hZ, hby, hml, hown, hret, hlk, hnm⟩ := X
  exact own_pre (fun t K => XS.ifnonnullYes Y.here hx rfl rfl (hb hby hd) rfl ho hq K) K
theorem own_nonnullN (X : own_W p l e R s m args below meth c Z n0 y bytes ml ret T h k n) (q : Nat) {o : Int}  (hd : decode bytes pc = .ok (.ifnonnull o, 3)) (hq : pc + 3 = q)  (K : own_Ends p e below G (T.setTop (mkF m q Ls st))) : own_Ends p e below G (T.setTop (mkF m pc Ls (.null :: st))) := by
  subst hq
  obtain ⟨⟨locs, Y, N⟩, eT, hs0, hx, hZ, hby, hml, hown, hret, hlk, hnm⟩ := X
  exact own_pre (fun t K => XS.ifnonnullNo Y.here hx rfl (hb hby hd) rfl K) K
theorem own_acY (X : own_W p l e R s m args below meth c Z n0 y bytes ml ret T h k n) (q : Nat) {o : Int} {cd : ClassFile.ACond} {x z : Value} (hd : decode bytes pc = .ok (.if_acmp cd o, 3)) (ho : 0 ≤ (pc : Int) + o) (hq : ((pc : Int) + o).toNat = q) (hx' : x.isRef = true) (hz' : z.isRef = true) (hc : XT.acmp cd x z = true) (K : own_Ends p e below G (T.setTop (mkF m q Ls st))) : own_Ends p e below G (T.setTop (mkF m pc Ls (z :: x :: st))) := by
  obtain ⟨⟨locs, Y, N⟩, eT, hs0, hx, hZ, hby, hml, hown, hret, hlk, hnm⟩ := X
  exact own_pre (fun t K => XT.acmpYes Y.here hx rfl rfl (hb hby hd) rfl hx' hz' hc ho hq K) K
theorem own_acN (X : own_W p l e R s m args below meth c Z n0 y bytes ml ret T h k n) (q : Nat) {o : Int} {cd : ClassFile.ACond} {x z : Value} (hd : decode bytes pc = .ok (.if_acmp cd o, 3)) (hq : pc + 3 = q) (hx' : x.isRef = true) (hz' : z.isRef = true) (hc : XT.acmp cd x z = false) (K : own_Ends p e below G (T.setTop (mkF m q Ls st))) : own_Ends p e below G (T.setTop (mkF m pc Ls (z :: x :: st))) := by
  subst hq
  obtain ⟨⟨locs, Y, N⟩, eT, hs0, hx, hZ, hby, hml, hown, hret, hlk, hnm⟩ := X
  exact own_pre (fun t K => XT.acmpNo Y.here hx rfl (hb hby hd) rfl hx' hz' hc K) K
theorem own_getF (X : own_W p l e R s m args below meth c Z n0 y bytes ml ret T h k n) (q : Nat) {R0 O nm d : String} {i : Nat} {a : Addr} {v : Value} (hd : decode bytes pc = .ok (.getfield i, 3)) (hq : pc + 3 = q) (w : (Jvm.Cond.fieldLink y.cls i R0 nm d).before a0 Z = true) (via : Via Z R0 O nm d) (F : Fld Z h a O nm d v)
    (K : ∀ T', own_W p l e R s m args below meth c Z n0 y bytes ml ret T' h k n → own_Ends p e below G (T'.setTop (mkF m q Ls (v :: st)))) : own_Ends p e below G (T.setTop (mkF m pc Ls (.ref a :: st))) := by
  subst hq
  obtain ⟨⟨locs, Y, N⟩, eT, hs0, hx, hZ, hby, hml, hown, hret, hlk, hnm⟩ := X
  obtain ⟨T1, Y1, e1, st1⟩ := getF Y hx hZ hown (host := "") (Or.inl w) via eT F (g := mkF m pc Ls (.ref a :: st)) rfl rfl (hb hby hd)
  exact own_pre st1 (K T1 ⟨⟨locs, Y1, N⟩, e1, hs0, hx, hZ, hby, hml, hown, hret, hlk, hnm⟩)
theorem own_getFN (X : own_W p l e R s m args below meth c Z n0 y bytes ml ret T h k n) (q : Nat) {R0 O nm d host : String} {i : Nat} {a : Addr} {v : Value} (hd : decode bytes pc = .ok (.getfield i, 3)) (hq : pc + 3 = q) (w : (Jvm.Cond.fieldLinkNest y.cls i R0 nm d host).before a0 Z = true) (via : Via Z R0 O nm d) (F : Fld Z h a O nm d v)
    (K : ∀ T', own_W p l e R s m args below meth c Z n0 y bytes ml ret T' h k n → own_Ends p e below G (T'.setTop (mkF m q Ls (v :: st)))) : own_Ends p e below G (T.setTop (mkF m pc Ls (.ref a :: st))) := by
  subst hq
  obtain ⟨⟨locs, Y, N⟩, eT, hs0, hx, hZ, hby, hml, hown, hret, hlk, hnm⟩ := X
  obtain ⟨T1, Y1, e1, st1⟩ := getF Y hx hZ hown (Or.inr w) via eT F (g := mkF m pc Ls (.ref a :: st)) rfl rfl (hb hby hd)
  exact own_pre st1 (K T1 ⟨⟨locs, Y1, N⟩, e1, hs0, hx, hZ, hby, hml, hown, hret, hlk, hnm⟩)
theorem own_getS (X : own_W p l e R s m args below meth c Z n0 y bytes ml ret T h k n) (q : Nat) {R0 O nm d : String} {i : Nat} {v : Value} (hd : decode bytes pc = .ok (.getstatic i, 3)) (hq : pc + 3 = q) (w : (Jvm.Cond.fieldLink y.cls i R0 nm d).before a0 Z = true) (via : Via Z R0 O nm d) (F : Sta Z h O nm d v)
    (K : ∀ T', own_W p l e R s m args below meth c Z n0 y bytes ml ret T' h k n → own_Ends p e below G (T'.setTop (mkF m q Ls (v :: st)))) : own_Ends p e below G (T.setTop (mkF m pc Ls st)) := by
  subst hq
  obtain ⟨⟨locs, Y, N⟩, eT, hs0, hx, hZ, hby, hml, hown, hret, hlk, hnm⟩ := X
  obtain ⟨T1, Y1, e1, st1⟩ := getS2 Y hx hZ hown (host := "") (Or.inl w) via eT F (g := mkF m pc Ls st) rfl (hb hby hd)
  exact own_pre st1 (K T1 ⟨⟨locs, Y1, N⟩, e1, hs0, hx, hZ, hby, hml, hown, hret, hlk, hnm⟩)
theorem own_getSN (X : own_W p l e R s m args below meth c Z n0 y bytes ml ret T h k n) (q : Nat) {R0 O nm d host : String} {i : Nat} {v : Value} (hd : decode bytes pc = .ok (.getstatic i, 3)) (hq : pc + 3 = q) (w : (Jvm.Cond.fieldLinkNest y.cls i R0 nm d host).before a0 Z = true) (via : Via Z R0 O nm d) (F : Sta Z h O nm d v)
    (K : ∀ T', own_W p l e R s m args below meth c Z n0 y bytes ml ret T' h k n → own_Ends p e below G (T'.setTop (mkF m q Ls (v :: st)))) : own_Ends p e below G (T.setTop (mkF m pc Ls st)) := by
  subst hq
  obtain ⟨⟨locs, Y, N⟩, eT, hs0, hx, hZ, hby, hml, hown, hret, hlk, hnm⟩ := X
  obtain ⟨T1, Y1, e1, st1⟩ := getS2 Y hx hZ hown (Or.inr w) via eT F (g := mkF m pc Ls st) rfl (hb hby hd)
  exact own_pre st1 (K T1 ⟨⟨locs, Y1, N⟩, e1, hs0, hx, hZ, hby, hml, hown, hret, hlk, hnm⟩)
theorem own_putF (X : own_W p l e R s m args below meth c Z n0 y bytes ml ret T h k n) (q : Nat) {R0 O nm d C : String} {i kk : Nat} (ty : FieldType) {a : Addr} {v old : Value} (hd : decode bytes pc = .ok (.putfield i, 3)) (hq : pc + 3 = q) (w : (Jvm.Cond.fieldLink y.cls i R0 nm d).before a0 Z = true) (via : Via Z R0 O nm d) (F : Fld Z h a O nm d old) (E : Exa Z h a C)
    (L : (Jvm.Cond.lays C O nm d).before a0 Z = true ∨ ((Jvm.Cond.laysFinal C O nm d).before a0 Z = true ∧ y.cls = O ∧ y.name = "<init>")) (wi : (Jvm.Cond.instantiable C kk).before a0 Z = true) (hty : parseFieldDescriptor d = some ty) (hn : narrow ty v = v) (hf : fits ty v = true) (hnew : n0 ≤ a)
    (K : ∀ T' h', own_W p l e R s m args below meth c Z n0 y bytes ml ret T' h' k n → Wr h h' a (Jvm.RoadKit.slotOf Z O nm d) v → own_Ends p e below G (T'.setTop (mkF m q Ls st))) : own_Ends p e below G (T.setTop (mkF m pc Ls (v :: .ref a :: st))) := by
  subst hq
  obtain ⟨⟨locs, Y, N⟩, eT, hs0, hx, hZ, hby, hml, hown, hret, hlk, hnm⟩ := X
  obtain ⟨T1, h1, Y1, e1, W1, st1⟩ := putF Y hx hZ hown (host := "") (Or.inl w) via eT F E (L.imp id fun z => ⟨z.1, z.2.1, hnm.trans z.2.2⟩) wi hty hn hf (g := mkF m pc Ls (v :: .ref a :: st)) rfl rfl (hb hby hd)
  exact own_pre st1 (K T1 h1 ⟨⟨_, Y1, Fr.snoc Y1 N hnew⟩, e1, (by rw [W1.size]; exact hs0), hx, hZ, hby, hml, hown, hret, hlk, hnm⟩ W1)
theorem own_putFN (X : own_W p l e R s m args below meth c Z n0 y bytes ml ret T h k n) (q : Nat) {R0 O nm d C : String} {i kk : Nat} (ty : FieldType) {a : Addr} {v v' old : Value} (hd : decode bytes pc = .ok (.putfield i, 3)) (hq : pc + 3 = q) (w : (Jvm.Cond.fieldLink y.cls i R0 nm d).before a0 Z = true) (via : Via Z R0 O nm d) (F : Fld Z h a O nm d old) (E : Exa Z h a C)
    (L : (Jvm.Cond.lays C O nm d).before a0 Z = true ∨ ((Jvm.Cond.laysFinal C O nm d).before a0 Z = true ∧ y.cls = O ∧ y.name = "<init>")) (wi : (Jvm.Cond.instantiable C kk).before a0 Z = true) (hty : parseFieldDescriptor d = some ty) (hn : narrow ty v = v') (hf : fits ty v' = true) (hnew : n0 ≤ a)
    (K : ∀ T' h', own_W p l e R s m args below meth c Z n0 y bytes ml ret T' h' k n → Wr h h' a (Jvm.RoadKit.slotOf Z O nm d) v' → own_Ends p e below G (T'.setTop (mkF m q Ls st))) : own_Ends p e below G (T.setTop (mkF m pc Ls (v :: .ref a :: st))) := by
  subst hq
  obtain ⟨⟨locs, Y, N⟩, eT, hs0, hx, hZ, hby, hml, hown, hret, hlk, hnm⟩ := X
  obtain ⟨T1, h1, Y1, e1, W1, st1⟩ := putFN Y hx hZ hown w via eT F E (L.imp id fun z => ⟨z.1, z.2.1, hnm.trans z.2.2⟩) wi hty hn hf (g := mkF m pc Ls (v :: .ref a :: st)) rfl rfl (hb hby hd)
  exact own_pre st1 (K T1 h1 ⟨⟨_, Y1, Fr.snoc Y1 N hnew⟩, e1, (by rw [W1.size]; exact hs0), hx, hZ, hby, hml, hown, hret, hlk, hnm⟩ W1)
theorem own_new (X : own_W p l e R s m args below meth c Z n0 y bytes ml ret T h k n) (q : Nat) {C : String} {i sl : Nat} (hd : decode bytes pc = .ok (.new i, 3)) (hq : pc + 3 = q) (w : (Jvm.Cond.classLink y.cls i C).before a0 Z = true) (wi : (Jvm.Cond.instantiable C sl).before a0 Z = true) (wz : (Jvm.Cond.initialized C).before a0 Z = true) (hc : k + 1 ≤ R.cells) (hl : n + sl ≤ R.slots)
    (K : ∀ T' h' a, a = h.size → own_W p l e R s m args below meth c Z n0 y bytes ml ret T' h' (k + 1) (n + sl) → Ext h h' → Exa Z h' a C → (∀ {O nm d : String} {ty : FieldType}, Laid Z a0 C O nm d → parseFieldDescriptor d = some ty → Fld Z h' a O nm d (defaultValue ty)) → own_Ends p e below G (T'.setTop (mkF m q Ls (.ref a :: st)))) : own_Ends p e below G (T.setTop (mkF m pc Ls st)) := by
  subst hq
  obtain ⟨⟨locs, Y, N⟩, eT, hs0, hx, hZ, hby, hml, hown, hret, hlk, hnm⟩ := X
  obtain ⟨T1, h1, Y1, e1, E1, A1, D1, -, st1⟩ := newO Y hx hZ hown w wi wz eT (g := mkF m pc Ls st) rfl (hb hby hd) hc hl
  exact own_pre st1 (K T1 h1 _ rfl ⟨⟨locs, Y1, N⟩, e1, (Nat.le_trans hs0 E1.1), hx, hZ, hby, hml, hown, hret, hlk, hnm⟩ E1 A1 D1)
theorem own_castY (X : own_W p l e R s m args below meth c Z n0 y bytes ml ret T h k n) (q : Nat) {C : String} {i : Nat} {a : Addr} (hd : decode bytes pc = .ok (.checkcast i, 3)) (hq : pc + 3 = q) (w : (Jvm.Cond.classLink y.cls i C).before a0 Z = true) (F : Ins Z h a C true)
    (K : ∀ T', own_W p l e R s m args below meth c Z n0 y bytes ml ret T' h k n → own_Ends p e below G (T'.setTop (mkF m q Ls (.ref a :: st)))) : own_Ends p e below G (T.setTop (mkF m pc Ls (.ref a :: st))) := by
  subst hq
  obtain ⟨⟨locs, Y, N⟩, eT, hs0, hx, hZ, hby, hml, hown, hret, hlk, hnm⟩ := X
  obtain ⟨T1, Y1, e1, st1⟩ := castY Y hx hZ hown w eT F (g := mkF m pc Ls (.ref a :: st)) rfl rfl (hb hby hd)
  exact own_pre st1 (K T1 ⟨⟨locs, Y1, N⟩, e1, hs0, hx, hZ, hby, hml, hown, hret, hlk, hnm⟩)
theorem own_castNull (X : own_W p l e R s m args below meth c Z n0 y bytes ml ret T h k n) (q : Nat) {i : Nat} (hd : decode bytes pc = .ok (.checkcast i, 3)) (hq : pc + 3 = q) (K : own_Ends p e below G (T.setTop (mkF m q Ls (.null :: st)))) : own_Ends p e below G (T.setTop (mkF m pc Ls (.null :: st))) := by
  subst hq
  obtain ⟨⟨locs, Y, N⟩, eT, hs0, hx, hZ, hby, hml, hown, hret, hlk, hnm⟩ := X
  exact own_pre (fun t K => Y.checkcastNull hx (g := mkF m pc Ls (.null :: st)) rfl rfl (hb hby hd) t K) K
theorem own_instY (X : own_W p l e R s m args below meth c Z n0 y bytes ml ret T h k n) (q : Nat) {C : String} {i : Nat} {a : Addr} (hd : decode bytes pc = .ok (.instanceof i, 3)) (hq : pc + 3 = q) (w : (Jvm.Cond.classLink y.cls i C).before a0 Z = true) (F : Ins Z h a C true)
    (K : ∀ T', own_W p l e R s m args below meth c Z n0 y bytes ml ret T' h k n → own_Ends p e below G (T'.setTop (mkF m q Ls (.int 1 :: st)))) : own_Ends p e below G (T.setTop (mkF m pc Ls (.ref a :: st))) := by
  subst hq
  obtain ⟨⟨locs, Y, N⟩, eT, hs0, hx, hZ, hby, hml, hown, hret, hlk, hnm⟩ := X
  obtain ⟨T1, Y1, e1, st1⟩ := instY Y hx hZ hown w eT F (g := mkF m pc Ls (.ref a :: st)) rfl rfl (hb hby hd)
  exact own_pre st1 (K T1 ⟨⟨locs, Y1, N⟩, e1, hs0, hx, hZ, hby, hml, hown, hret, hlk, hnm⟩)
theorem own_instNo (X : own_W p l e R s m args below meth c Z n0 y bytes ml ret T h k n) (q : Nat) {C D : String} {i : Nat} {a : Addr} (hd : decode bytes pc = .ok (.instanceof i, 3)) (hq : pc + 3 = q) (w : (Jvm.Cond.classLink y.cls i C).before a0 Z = true) (E : Exa Z h a D) (F : ∃ c t, Z.vm.findClass D = some c ∧ Z.vm.findClass C = some t ∧ Z.vm.assignable c t = false)
    (K : ∀ T', own_W p l e R s m args below meth c Z n0 y bytes ml ret T' h k n → own_Ends p e below G (T'.setTop (mkF m q Ls (.int 0 :: st)))) : own_Ends p e below G (T.setTop (mkF m pc Ls (.ref a :: st))) := by
  subst hq
  obtain ⟨⟨locs, Y, N⟩, eT, hs0, hx, hZ, hby, hml, hown, hret, hlk, hnm⟩ := X
  obtain ⟨T1, Y1, e1, st1⟩ := instNo Y hx hZ hown w eT E F (g := mkF m pc Ls (.ref a :: st)) rfl rfl (hb hby hd)
  exact own_pre st1 (K T1 ⟨⟨locs, Y1, N⟩, e1, hs0, hx, hZ, hby, hml, hown, hret, hlk, hnm⟩)
theorem own_initO (X : own_W p l e R s m args below meth c Z n0 y bytes ml ret T h k n) (q : Nat) {i : Nat} {a : Addr} (hd : decode bytes pc = .ok (.invokespecial i, 3)) (hq : pc + 3 = q) (w1 : (Jvm.Cond.methodLink y.cls i Lib.objectInit).before a0 Z = true) (w2 : (Jvm.Cond.instanceMethod Lib.objectInit).before a0 Z = true) (w3 : (Jvm.Cond.code Lib.objectInit ⟨#[0xb1]⟩ 1 none).before a0 Z = true)
    (hsz : Ls.size = ml) (hf : 1 ≤ R.frames) (hl : (st.map fun v => v.category).sum + 12 ≤ R.locals) (K : ∀ T', own_W p l e R s m args below meth c Z n0 y bytes ml ret T' h k n → own_Ends p e below G (T'.setTop (mkF m q Ls st))) : own_Ends p e below G (T.setTop (mkF m pc Ls (.ref a :: st))) := by
  subst hq
  obtain ⟨⟨locs, Y, N⟩, eT, hs0, hx, hZ, hby, hml, hown, hret, hlk, hnm⟩ := X
  obtain ⟨T1, Y1, e1, st1⟩ := initO Y hx hZ hown w1 w2 w3 eT (g := mkF m pc Ls (.ref a :: st)) rfl (hsz.trans hml.symm) rfl (hb hby hd) hf (W := (st.map fun v => v.category).sum) (by show 2 * 0 + _ ≤ _; omega) hl
  exact own_pre st1 (K T1 ⟨⟨locs, Y1, N⟩, e1, hs0, hx, hZ, hby, hml, hown, hret, hlk, hnm⟩)
theorem own_callS (X : own_W p l e R s m args below meth c Z n0 y bytes ml ret T h k n) (q : Nat) {y' : MethodName} {bytes' : ByteArray} {ml' : Nat} {ret' : Option FieldType} {rm : Room} {as' : Array Value} {Q : Option Value → Heap → Prop} {i : Nat} {ps : List FieldType} {rr : Option FieldType} (argsL rest : List Value) (hd : decode bytes pc = .ok (.invokestatic i, 3)) (hq : pc + 3 = q) (w1 : (Jvm.Cond.methodLink y.cls i y').before a0 Z = true) (w2 : (Jvm.Cond.static y').before a0 Z = true) (w3 : (Jvm.Cond.initialized y'.cls).before a0 Z = true) (w4 : (Jvm.Cond.code y' bytes' ml' ret').before a0 Z = true) (hy : y'.cls ≠ "java/lang/invoke/MethodHandle" ∧ y'.cls ≠ "java/lang/invoke/VarHandle")
    (M : own_Met l y' bytes' ml' ret' rm Z as' h n0 Q) (hkeep : ∀ v h', Q v h' → h.size ≤ h'.size) (has : as' = argsL.toArray) (hpd : parseMethodDescriptor y'.desc = some ⟨ps, rr⟩) (hlen : argsL.length = ps.length) (hst : st = argsL.reverse ++ rest) (hsz : Ls.size = ml) (hf : rm.frames + 1 ≤ R.frames) (hl : (rest.map fun v => v.category).sum + (ml' + 11) + rm.locals ≤ R.locals) (hck : k + rm.cells ≤ R.cells) (hcn : n + rm.slots ≤ R.slots)
    (K : ∀ v T' h', own_W p l e R s m args below meth c Z n0 y bytes ml ret T' h' (k + rm.cells) (n + rm.slots) → Q v h' → own_Ends p e below G (T'.setTop (mkF m q Ls (v.toList ++ rest)))) : own_Ends p e below G (T.setTop (mkF m pc Ls st)) := by
  subst hq has hst
  obtain ⟨⟨locs, Y, N⟩, eT, hs0, hx, hZ, hby, hml, hown, hret, hlk, hnm⟩ := X
  obtain ⟨v1, _, ⟨T1, L1, k1, n1⟩, -, Y1, ⟨Lc1, hQ1, l1, c1, s1⟩, st1⟩ := Jvm.LawKit.callS Y hx hown (mvT hZ w1) (mvT hZ w2) (mvT hZ w3) (mvT hZ w4) hy (backOf (Q := fun v h L => Q v h ∧ Fr n0 L) (W := (rest.map fun v => v.category).sum) (M []) hZ w4 w3 hf (by omega)) (g := mkF m pc Ls (argsL.reverse ++ rest)) rfl (hsz.trans hml.symm) (argsL := argsL) (rest := rest) (lenOf hpd hlen) rfl (by show 2 * 0 + _ ≤ _; omega) (hb hby hd) (fun _ _ => ⟨rfl, eT, hck, hcn⟩)
  dsimp only [Pt.U, Pt.locs, Pt.cells, Pt.slots] at Y1 l1 c1 s1 st1 hQ1
  subst l1 c1 s1
  exact own_pre st1 (K _ _ _ ⟨⟨_, Y1, Fr.app N hQ1.2⟩, rfl, Nat.le_trans hs0 (hkeep _ _ hQ1.1), hx, hZ, hby, hml, hown, hret, hlk, hnm⟩ hQ1.1)
theorem own_init (X : own_W p l e R s m args below meth c Z n0 y bytes ml ret T h k n) (q : Nat) {y' : MethodName} {bytes' : ByteArray} {ml' : Nat} {rm : Room} {as' : Array Value} {Q : Option Value → Heap → Prop} {i : Nat} {ps : List FieldType} {rr : Option FieldType} {a : Addr} (argsL rest : List Value) (hd : decode bytes pc = .ok (.invokespecial i, 3)) (hq : pc + 3 = q) (w1 : (Jvm.Cond.methodLink y.cls i y').before a0 Z = true) (w2 : (Jvm.Cond.instanceMethod y').before a0 Z = true) (w3 : (Jvm.Cond.initialized y'.cls).before a0 Z = true) (w4 : (Jvm.Cond.code y' bytes' ml' none).before a0 Z = true) (hy : y'.cls ≠ "java/lang/invoke/MethodHandle" ∧ y'.cls ≠ "java/lang/invoke/VarHandle") (hy1 : y'.name = "<init>")
    (M : own_Met l y' bytes' ml' none rm Z as' h n0 Q) (hkeep : ∀ v h', Q v h' → h.size ≤ h'.size) (has : as' = (.ref a :: argsL).toArray) (hpd : parseMethodDescriptor y'.desc = some ⟨ps, rr⟩) (hlen : argsL.length = ps.length) (hst : st = argsL.reverse ++ .ref a :: rest) (hsz : Ls.size = ml) (hf : rm.frames + 1 ≤ R.frames) (hl : (rest.map fun v => v.category).sum + (ml' + 11) + rm.locals ≤ R.locals) (hck : k + rm.cells ≤ R.cells) (hcn : n + rm.slots ≤ R.slots)
    (K : ∀ v T' h', own_W p l e R s m args below meth c Z n0 y bytes ml ret T' h' (k + rm.cells) (n + rm.slots) → Q v h' → own_Ends p e below G (T'.setTop (mkF m q Ls (v.toList ++ rest)))) : own_Ends p e below G (T.setTop (mkF m pc Ls st)) := by
  subst hq has hst
  obtain ⟨⟨locs, Y, N⟩, eT, hs0, hx, hZ, hby, hml, hown, hret, hlk, hnm⟩ := X
  obtain ⟨v1, _, ⟨T1, L1, k1, n1⟩, -, Y1, ⟨Lc1, hQ1, l1, c1, s1⟩, st1⟩ := Y.specialBack hx hy1 hown (mvT hZ w1) (mvT hZ w2) (mvT hZ w4) hy (backOf (Q := fun v h L => Q v h ∧ Fr n0 L) (W := (rest.map fun v => v.category).sum) (M []) hZ w4 w3 hf (by omega)) (g := mkF m pc Ls (argsL.reverse ++ .ref a :: rest)) rfl (hsz.trans hml.symm) (Steps.refl _) (a := a) (argsL := argsL) (rest := rest) (lenOf hpd hlen) rfl (by show 2 * 0 + _ ≤ _; omega) (hb hby hd) (fun _ _ => ⟨rfl, eT, hck, hcn⟩)
  dsimp only [Pt.U, Pt.locs, Pt.cells, Pt.slots] at Y1 l1 c1 s1 st1 hQ1
  subst l1 c1 s1
  exact own_pre (fun t K => st1.trans K) (K _ _ _ ⟨⟨_, Y1, Fr.app N hQ1.2⟩, rfl, Nat.le_trans hs0 (hkeep _ _ hQ1.1), hx, hZ, hby, hml, hown, hret, hlk, hnm⟩ hQ1.1)
theorem own_callV (X : own_W p l e R s m args below meth c Z n0 y bytes ml ret T h k n) (q : Nat) {y' : MethodName} {bytes' : ByteArray} {ml' : Nat} {ret' : Option FieldType} {rm : Room} {as' : Array Value} {Q : Option Value → Heap → Prop} {i : Nat} {ps : List FieldType} {rr : Option FieldType} {z : MethodName} {C : String} {a : Addr} (argsL rest : List Value) (hd : decode bytes pc = .ok (.invokevirtual i, 3)) (hq : pc + 3 = q) (w1 : (Jvm.Cond.methodLink y.cls i z).before a0 Z = true) (w2 : (Jvm.Cond.declares z).before a0 Z = true) (nf : NotFace s z) (w5 : (Jvm.Cond.selects C z y').before a0 Z = true) (w6 : (Jvm.Cond.instanceMethod y').before a0 Z = true) (w3 : (Jvm.Cond.initialized y'.cls).before a0 Z = true) (w4 : (Jvm.Cond.code y' bytes' ml' ret').before a0 Z = true) (hy : z.cls ≠ "java/lang/invoke/MethodHandle" ∧ z.cls ≠ "java/lang/invoke/VarHandle") (E : Exa Z h a C)
    (M : own_Met l y' bytes' ml' ret' rm Z as' h n0 Q) (hkeep : ∀ v h', Q v h' → h.size ≤ h'.size) (has : as' = (.ref a :: argsL).toArray) (hpd : parseMethodDescriptor z.desc = some ⟨ps, rr⟩) (hlen : argsL.length = ps.length) (hst : st = argsL.reverse ++ .ref a :: rest) (hsz : Ls.size = ml) (hf : rm.frames + 1 ≤ R.frames) (hl : (rest.map fun v => v.category).sum + (ml' + 11) + rm.locals ≤ R.locals) (hck : k + rm.cells ≤ R.cells) (hcn : n + rm.slots ≤ R.slots)
    (K : ∀ v T' h', own_W p l e R s m args below meth c Z n0 y bytes ml ret T' h' (k + rm.cells) (n + rm.slots) → Q v h' → own_Ends p e below G (T'.setTop (mkF m q Ls (v.toList ++ rest)))) : own_Ends p e below G (T.setTop (mkF m pc Ls st)) := by
  subst hq has hst
  obtain ⟨⟨locs, Y, N⟩, eT, hs0, hx, hZ, hby, hml, hown, hret, hlk, hnm⟩ := X
  obtain ⟨cq, kq, qa, qb, qc⟩ := isOf hZ eT E
  obtain ⟨v1, _, ⟨T1, L1, k1, n1⟩, -, Y1, ⟨Lc1, hQ1, l1, c1, s1⟩, st1⟩ := Y.virtualBack hx hown (mvT hZ w1) (mvT hZ w2) nf (mvT hZ w5) (mvT hZ w6) hy (backOf (Q := fun v h L => Q v h ∧ Fr n0 L) (W := (rest.map fun v => v.category).sum) (M []) hZ w4 w3 hf (by omega)) qa qc (g := mkF m pc Ls (argsL.reverse ++ .ref a :: rest)) rfl (hsz.trans hml.symm) (Steps.refl _) (argsL := argsL) (rest := rest) (lenOf hpd hlen) rfl (by show 2 * 0 + _ ≤ _; omega) (hb hby hd) (fun _ _ => ⟨rfl, eT, hck, hcn⟩)
  dsimp only [Pt.U, Pt.locs, Pt.cells, Pt.slots] at Y1 l1 c1 s1 st1 hQ1
  subst l1 c1 s1
  exact own_pre (fun t K => st1.trans K) (K _ _ _ ⟨⟨_, Y1, Fr.app N hQ1.2⟩, rfl, Nat.le_trans hs0 (hkeep _ _ hQ1.1), hx, hZ, hby, hml, hown, hret, hlk, hnm⟩ hQ1.1)
theorem own_nf {z : MethodName} {s : State} {C : String} (hZ : Z.Warmed39 s.vm) (w : (Jvm.Cond.selects C z z).before a0 Z = true) : NotFace s z := notFace_of_selects (args := #[]) (mvT hZ w)
theorem own_callI (X : own_W p l e R s m args below meth c Z n0 y bytes ml ret T h k n) (q : Nat) {y' : MethodName} {bytes' : ByteArray} {ml' : Nat} {ret' : Option FieldType} {rm : Room} {as' : Array Value} {Q : Option Value → Heap → Prop} {i : Nat} {ps : List FieldType} {rr : Option FieldType} {z : MethodName} {C : String} {cnt : Nat} {a : Addr} (argsL rest : List Value) (hd : decode bytes pc = .ok (.invokeinterface i cnt, 5)) (hq : pc + 5 = q) (w1 : (Jvm.Cond.methodLink y.cls i z).before a0 Z = true) (w2 : (Jvm.Cond.declares z).before a0 Z = true) (w7 : (Jvm.Cond.interfaceMethod z.cls z.cls z.name z.desc).before a0 Z = true) (hfa : ((Jvm.Cond.interfaceMethod z.cls z.cls z.name z.desc).onTables && (Jvm.Cond.interfaceMethod z.cls z.cls z.name z.desc).keepsFace) = true) (w5 : (Jvm.Cond.selects C z y').before a0 Z = true) (w6 : (Jvm.Cond.instanceMethod y').before a0 Z = true) (w8 : (Jvm.Cond.publicMethod y').before a0 Z = true) (w9 : (Jvm.Cond.unhidden C z.name z.desc).before a0 Z = true) (w10 : (Jvm.Cond.castable C z.cls).before a0 Z = true) (w3 : (Jvm.Cond.initialized y'.cls).before a0 Z = true) (w4 : (Jvm.Cond.code y' bytes' ml' ret').before a0 Z = true) (hy : z.cls ≠ "java/lang/invoke/MethodHandle" ∧ z.cls ≠ "java/lang/invoke/VarHandle") (E : Exa Z h a C)
    (M : own_Met l y' bytes' ml' ret' rm Z as' h n0 Q) (hkeep : ∀ v h', Q v h' → h.size ≤ h'.size) (has : as' = (.ref a :: argsL).toArray) (hpd : parseMethodDescriptor z.desc = some ⟨ps, rr⟩) (hlen : argsL.length = ps.length) (hst : st = argsL.reverse ++ .ref a :: rest) (hsz : Ls.size = ml) (hf : rm.frames + 1 ≤ R.frames) (hl : (rest.map fun v => v.category).sum + (ml' + 11) + rm.locals ≤ R.locals) (hck : k + rm.cells ≤ R.cells) (hcn : n + rm.slots ≤ R.slots)
    (K : ∀ v T' h', own_W p l e R s m args below meth c Z n0 y bytes ml ret T' h' (k + rm.cells) (n + rm.slots) → Q v h' → own_Ends p e below G (T'.setTop (mkF m q Ls (v.toList ++ rest)))) : own_Ends p e below G (T.setTop (mkF m pc Ls st)) := by
  subst hq has hst
  obtain ⟨⟨locs, Y, N⟩, eT, hs0, hx, hZ, hby, hml, hown, hret, hlk, hnm⟩ := X
  obtain ⟨cq, kq, qa, qb, qc⟩ := isOf hZ eT E
  obtain ⟨v1, _, ⟨T1, L1, k1, n1⟩, -, Y1, ⟨Lc1, hQ1, l1, c1, s1⟩, st1⟩ := Y.interfaceBack hx hown (mvT hZ w1) (mvT hZ w2) (mvT hZ w7 hfa) (mvT hZ w5) (mvT hZ w6) (mvT hZ w8) (mvT hZ w9) (mvT hZ w10) hy (backOf (Q := fun v h L => Q v h ∧ Fr n0 L) (W := (rest.map fun v => v.category).sum) (M []) hZ w4 w3 hf (by omega)) qa qb qc (g := mkF m pc Ls (argsL.reverse ++ .ref a :: rest)) rfl (hsz.trans hml.symm) (Steps.refl _) (argsL := argsL) (rest := rest) (lenOf hpd hlen) rfl (by show 2 * 0 + _ ≤ _; omega) (hb hby hd) (fun _ _ => ⟨rfl, eT, hck, hcn⟩)
  dsimp only [Pt.U, Pt.locs, Pt.cells, Pt.slots] at Y1 l1 c1 s1 st1 hQ1
  subst l1 c1 s1
  exact own_pre (fun t K => st1.trans K) (K _ _ _ ⟨⟨_, Y1, Fr.app N hQ1.2⟩, rfl, Nat.le_trans hs0 (hkeep _ _ hQ1.1), hx, hZ, hby, hml, hown, hret, hlk, hnm⟩ hQ1.1)
theorem own_ni_inst {Z : State} {C : String} {kk : Nat} {a0 : Array Value} (w : (Jvm.Cond.instantiable C kk).before a0 Z = true) : ∃ c k, Z.vm.findClass C = some c ∧ Z.vm.classes[c]? = some k ∧ k.isInterface = false := by
  obtain ⟨c, k, h1, h2, -, h4, -⟩ := Cond.instantiable_spec w
  exact ⟨c, k, h1, h2, (Bool.or_eq_false_iff.mp h4).1⟩
theorem own_ni_sel {Z : State} {C : String} {x y : MethodName} {a0 : Array Value} (w : (Jvm.Cond.selects C x y).before a0 Z = true) : ∃ c k, Z.vm.findClass y.cls = some c ∧ Z.vm.classes[c]? = some k ∧ k.isInterface = false := by
  obtain ⟨c, r, m, -, -, h3, -, k, h5, h6⟩ := Cond.selects_spec w
  exact ⟨_, k, findClass_of_methodNamed h3, h5, h6⟩
theorem own_selP {Z s : State} {y : MethodName} {a0 args : Array Value} (hZ : Z.Warmed39 s.vm) (hni : ∃ c k, Z.vm.findClass y.cls = some c ∧ Z.vm.classes[c]? = some k ∧ k.isInterface = false) (w6 : (Jvm.Cond.privateMethod y).before a0 Z = true) (w2 : (Jvm.Cond.instanceMethod y).before a0 Z = true) (hy : y.cls ≠ "java/lang/invoke/MethodHandle" ∧ y.cls ≠ "java/lang/invoke/VarHandle") : (Jvm.Cond.selects y.cls y y).before args s = true := by
  obtain ⟨c, k, h1, h2, h3⟩ := hni
  obtain ⟨k', q, z⟩ := hZ.alike.2.2 _ _ h2
  exact selects_self_of_private (by rw [hZ.alike.findClass]; exact h1) q (by rw [z]; exact h3) (Cond.privateMethod_at (mvP hZ w6 (args := #[]))) (mvT hZ w2) hy
theorem own_callP (X : own_W p l e R s m args below meth c Z n0 y bytes ml ret T h k n) (q : Nat) {y' : MethodName} {bytes' : ByteArray} {ml' : Nat} {ret' : Option FieldType} {rm : Room} {as' : Array Value} {Q : Option Value → Heap → Prop} {i : Nat} {ps : List FieldType} {rr : Option FieldType} {C : String} {a : Addr} (argsL rest : List Value) (hd : decode bytes pc = .ok (.invokevirtual i, 3)) (hq : pc + 3 = q) (w1 : (Jvm.Cond.methodLink y.cls i y').before a0 Z = true) (w2 : (Jvm.Cond.instanceMethod y').before a0 Z = true) (hni : ∃ c k, Z.vm.findClass y'.cls = some c ∧ Z.vm.classes[c]? = some k ∧ k.isInterface = false) (w6 : (Jvm.Cond.privateMethod y').before a0 Z = true) (w3 : (Jvm.Cond.initialized y'.cls).before a0 Z = true) (w4 : (Jvm.Cond.code y' bytes' ml' ret').before a0 Z = true) (hy : y'.cls ≠ "java/lang/invoke/MethodHandle" ∧ y'.cls ≠ "java/lang/invoke/VarHandle") (E : Exa Z h a C)
    (M : own_Met l y' bytes' ml' ret' rm Z as' h n0 Q) (hkeep : ∀ v h', Q v h' → h.size ≤ h'.size) (has : as' = (.ref a :: argsL).toArray) (hpd : parseMethodDescriptor y'.desc = some ⟨ps, rr⟩) (hlen : argsL.length = ps.length) (hst : st = argsL.reverse ++ .ref a :: rest) (hsz : Ls.size = ml) (hf : rm.frames + 1 ≤ R.frames) (hl : (rest.map fun v => v.category).sum + (ml' + 11) + rm.locals ≤ R.locals) (hck : k + rm.cells ≤ R.cells) (hcn : n + rm.slots ≤ R.slots)
    (K : ∀ v T' h', own_W p l e R s m args below meth c Z n0 y bytes ml ret T' h' (k + rm.cells) (n + rm.slots) → Q v h' → own_Ends p e below G (T'.setTop (mkF m q Ls (v.toList ++ rest)))) : own_Ends p e below G (T.setTop (mkF m pc Ls st)) := by
  subst hq has hst
  obtain ⟨⟨locs, Y, N⟩, eT, hs0, hx, hZ, hby, hml, hown, hret, hlk, hnm⟩ := X
  obtain ⟨cq, q1, q2⟩ := E.cell
  obtain ⟨v1, _, ⟨T1, L1, k1, n1⟩, -, Y1, ⟨Lc1, hQ1, l1, c1, s1⟩, st1⟩ := Y.privateBack hx hown (mvT hZ w1) (mvT hZ w2) (own_selP hZ hni w6 w2 hy) (Cond.privateMethod_at (mvP hZ w6 (args := #[]))) (mvT hZ w4) hy (backOf (Q := fun v h L => Q v h ∧ Fr n0 L) (W := (rest.map fun v => v.category).sum) (M []) hZ w4 w3 hf (by omega)) (g := mkF m pc Ls (argsL.reverse ++ .ref a :: rest)) rfl (hsz.trans hml.symm) (Steps.refl _) (a := a) (by rw [eT]; exact q1) q2 (argsL := argsL) (rest := rest) (lenOf hpd hlen) rfl (by show 2 * 0 + _ ≤ _; omega) (hb hby hd) (fun _ _ => ⟨rfl, eT, hck, hcn⟩)
  dsimp only [Pt.U, Pt.locs, Pt.cells, Pt.slots] at Y1 l1 c1 s1 st1 hQ1
  subst l1 c1 s1
  exact own_pre (fun t K => st1.trans K) (K _ _ _ ⟨⟨_, Y1, Fr.app N hQ1.2⟩, rfl, Nat.le_trans hs0 (hkeep _ _ hQ1.1), hx, hZ, hby, hml, hown, hret, hlk, hnm⟩ hQ1.1)
theorem own_retI (X : own_W p l e R s m args below meth c Z n0 y bytes ml ret T h k n) {C S : Nat} {Q : Option Value → Heap → Prop} {z : Int32} (hd : decode bytes pc = .ok (.ireturn, 1)) (hr0 : ret = some .int) (hk : k ≤ C) (hn : n ≤ S) (hQ : Q (some (.int z)) h) : own_Ends p e below (own_Fin s n0 C S Q) (T.setTop (mkF m pc Ls (.int z :: st))) := by
  obtain ⟨⟨locs, Y, N⟩, eT, hs0, hx, hZ, hby, hml, hown, hret, hlk, hnm⟩ := X
  obtain ⟨fs, hr, hrun, hended, hW, hsame⟩ := Y.leave (v := some (.int z)) (fun q => by rw [hret, hr0] at q; cases q) hlk
  exact ⟨_, _, own_retI0 Y hx (hret.trans hr0) (hb hby hd) hr, hrun, hended, _, _, rfl, ⟨by show Q _ T.heap; rw [eT]; exact hQ, N⟩, ⟨_, rfl⟩, hW, hsame.mono hk hn⟩
theorem own_retN (X : own_W p l e R s m args below meth c Z n0 y bytes ml ret T h k n) {C S : Nat} {Q : Option Value → Heap → Prop} {z : Int32} (t : FieldType) (hd : decode bytes pc = .ok (.ireturn, 1)) (hr0 : ret = some t) (ht : t = .boolean ∨ t = .byte ∨ t = .char ∨ t = .short) (hk : k ≤ C) (hn : n ≤ S) (hQ : Q (some (.int (nar t z))) h) : own_Ends p e below (own_Fin s n0 C S Q) (T.setTop (mkF m pc Ls (.int z :: st))) := by
  obtain ⟨⟨locs, Y, N⟩, eT, hs0, hx, hZ, hby, hml, hown, hret, hlk, hnm⟩ := X
  obtain ⟨fs, hr, hrun, hended, hW, hsame⟩ := Y.leave (v := some (.int (nar t z))) (fun q => by rw [hret, hr0] at q; cases q) hlk
  exact ⟨_, _, retN Y hx (hret.trans hr0) ht (hb hby hd) hr, hrun, hended, _, _, rfl, ⟨by show Q _ T.heap; rw [eT]; exact hQ, N⟩, ⟨_, rfl⟩, hW, hsame.mono hk hn⟩
theorem own_retJ (X : own_W p l e R s m args below meth c Z n0 y bytes ml ret T h k n) {C S : Nat} {Q : Option Value → Heap → Prop} {z : Int64} (hd : decode bytes pc = .ok (.lreturn, 1)) (hr0 : ret = some .long) (hk : k ≤ C) (hn : n ≤ S) (hQ : Q (some (.long z)) h) : own_Ends p e below (own_Fin s n0 C S Q) (T.setTop (mkF m pc Ls (.long z :: st))) := by
  obtain ⟨⟨locs, Y, N⟩, eT, hs0, hx, hZ, hby, hml, hown, hret, hlk, hnm⟩ := X
  obtain ⟨fs, hr, hrun, hended, hW, hsame⟩ := Y.leave (v := some (.long z)) (fun q => by rw [hret, hr0] at q; cases q) hlk
  exact ⟨_, _, retOut Y hx (hret.trans hr0) rfl (Or.inr (Or.inl ⟨rfl, rfl, z, rfl⟩)) (hb hby hd) hr, hrun, hended, _, _, rfl, ⟨by show Q _ T.heap; rw [eT]; exact hQ, N⟩, ⟨_, rfl⟩, hW, hsame.mono hk hn⟩
theorem own_retA (X : own_W p l e R s m args below meth c Z n0 y bytes ml ret T h k n) {C S : Nat} {Q : Option Value → Heap → Prop} {z : Value} (t : FieldType) (hd : decode bytes pc = .ok (.areturn, 1)) (hr0 : ret = some t) (ht : t.isReference = true) (hz : z.isRef = true) (hnz : narrow t z = z) (hk : k ≤ C) (hn : n ≤ S) (hQ : Q (some z) h) : own_Ends p e below (own_Fin s n0 C S Q) (T.setTop (mkF m pc Ls (z :: st))) := by
  obtain ⟨⟨locs, Y, N⟩, eT, hs0, hx, hZ, hby, hml, hown, hret, hlk, hnm⟩ := X
  obtain ⟨fs, hr, hrun, hended, hW, hsame⟩ := Y.leave (v := some z) (fun q => by rw [hret, hr0] at q; cases q) hlk
  exact ⟨_, _, retOut Y hx (hret.trans hr0) hnz (Or.inr (Or.inr (Or.inr (Or.inr ⟨rfl, ht, hz⟩)))) (hb hby hd) hr, hrun, hended, _, _, rfl, ⟨by show Q _ T.heap; rw [eT]; exact hQ, N⟩, ⟨_, rfl⟩, hW, hsame.mono hk hn⟩
theorem own_retV (X : own_W p l e R s m args below meth c Z n0 y bytes ml ret T h k n) {C S : Nat} {Q : Option Value → Heap → Prop} (hd : decode bytes pc = .ok (.return_, 1)) (hr0 : ret = none) (hk : k ≤ C) (hn : n ≤ S) (hQ : Q none h) : own_Ends p e below (own_Fin s n0 C S Q) (T.setTop (mkF m pc Ls [])) := by
  obtain ⟨⟨locs, Y, N⟩, eT, hs0, hx, hZ, hby, hml, hown, hret, hlk, hnm⟩ := X
  obtain ⟨fs, hr, hrun, hended, hW, hsame⟩ := Y.leave (v := none) (fun _ => rfl) hlk
  exact ⟨_, _, Y.returnOut hx (hret.trans hr0) (hb hby hd) hr, hrun, hended, _, _, rfl, ⟨by show Q _ T.heap; rw [eT]; exact hQ, N⟩, ⟨_, rfl⟩, hW, hsame.mono hk hn⟩
theorem own_iaload (X : own_W p l e R s m args below meth c Z n0 y bytes ml ret T h k n) (q : Nat) {a : Addr} {kc : ClassId} {vs : List Value} {j : Int32} (i : Nat) (v : Value) (hd : decode bytes pc = .ok (.iaload, 1)) (hq : pc + 1 = q) (F : own_A Z h a kc .int vs) (hj : j.toNatClampNeg = i) (hj0 : ¬ j < 0) (hv : vs[i]? = some v)
    (K : own_Ends p e below G (T.setTop (mkF m q Ls (v :: st)))) : own_Ends p e below G (T.setTop (mkF m pc Ls (.int j :: .ref a :: st))) := by
  subst hq
  obtain ⟨⟨locs, Y, N⟩, eT, hs0, hx, hZ, hby, hml, hown, hret, hlk, hnm⟩ := X
  obtain ⟨cl, A, r1, r2, r3, r4⟩ := F
  have hi : i < vs.length := (List.getElem?_eq_some_iff.mp hv).1
  exact own_pre (fun t K => Y.iaload hx (j := j) (v := v) (by rw [eT]; exact A.1) (State.isArrayOf_alike hZ.alike A.2.1) A.2.2 (own_in r2 hj hj0 hi) (by rw [hj, ← Array.getElem?_toList, r2]; exact hv) (g := mkF m pc Ls (.int j :: .ref a :: st)) rfl rfl (hb hby hd) t K) K
theorem own_caload (X : own_W p l e R s m args below meth c Z n0 y bytes ml ret T h k n) (q : Nat) {a : Addr} {kc : ClassId} {vs : List Value} {j : Int32} (i : Nat) (v : Value) (hd : decode bytes pc = .ok (.caload, 1)) (hq : pc + 1 = q) (F : own_A Z h a kc .char vs) (hj : j.toNatClampNeg = i) (hj0 : ¬ j < 0) (hv : vs[i]? = some v)
    (K : own_Ends p e below G (T.setTop (mkF m q Ls (v :: st)))) : own_Ends p e below G (T.setTop (mkF m pc Ls (.int j :: .ref a :: st))) := by
  subst hq
  obtain ⟨⟨locs, Y, N⟩, eT, hs0, hx, hZ, hby, hml, hown, hret, hlk, hnm⟩ := X
  obtain ⟨cl, A, r1, r2, r3, r4⟩ := F
  have hi : i < vs.length := (List.getElem?_eq_some_iff.mp hv).1
  exact own_pre (fun t K => Y.caload hx (j := j) (v := v) (by rw [eT]; exact A.1) (State.isArrayOf_alike hZ.alike A.2.1) A.2.2 (own_in r2 hj hj0 hi) (by rw [hj, ← Array.getElem?_toList, r2]; exact hv) (g := mkF m pc Ls (.int j :: .ref a :: st)) rfl rfl (hb hby hd) t K) K
theorem own_baload (X : own_W p l e R s m args below meth c Z n0 y bytes ml ret T h k n) (q : Nat) {a : Addr} {kc : ClassId} {vs : List Value} {j : Int32} (i : Nat) (v : Value) (hd : decode bytes pc = .ok (.baload, 1)) (hq : pc + 1 = q) (F : own_A Z h a kc .byte vs) (hj : j.toNatClampNeg = i) (hj0 : ¬ j < 0) (hv : vs[i]? = some v)
    (K : own_Ends p e below G (T.setTop (mkF m q Ls (v :: st)))) : own_Ends p e below G (T.setTop (mkF m pc Ls (.int j :: .ref a :: st))) := by
  subst hq
  obtain ⟨⟨locs, Y, N⟩, eT, hs0, hx, hZ, hby, hml, hown, hret, hlk, hnm⟩ := X
  obtain ⟨cl, A, r1, r2, r3, r4⟩ := F
  have hi : i < vs.length := (List.getElem?_eq_some_iff.mp hv).1
  exact own_pre (fun t K => Y.baloadBytes hx (j := j) (v := v) (by rw [eT]; exact A.1) (State.isArrayOf_alike hZ.alike A.2.1) A.2.2 (own_in r2 hj hj0 hi) (by rw [hj, ← Array.getElem?_toList, r2]; exact hv) (g := mkF m pc Ls (.int j :: .ref a :: st)) rfl rfl (hb hby hd) t K) K
theorem own_aaload (X : own_W p l e R s m args below meth c Z n0 y bytes ml ret T h k n) (q : Nat) {a : Addr} {kc : ClassId} {ty : FieldType} {vs : List Value} {j : Int32} (i : Nat) (v : Value) (hd : decode bytes pc = .ok (.aaload, 1)) (hq : pc + 1 = q) (F : own_A Z h a kc ty vs) (hj : j.toNatClampNeg = i) (hj0 : ¬ j < 0) (hv : vs[i]? = some v) (hty : ty.isReference = true)
    (K : own_Ends p e below G (T.setTop (mkF m q Ls (v :: st)))) : own_Ends p e below G (T.setTop (mkF m pc Ls (.int j :: .ref a :: st))) := by
  subst hq
  obtain ⟨⟨locs, Y, N⟩, eT, hs0, hx, hZ, hby, hml, hown, hret, hlk, hnm⟩ := X
  obtain ⟨cl, A, r1, r2, r3, r4⟩ := F
  have hi : i < vs.length := (List.getElem?_eq_some_iff.mp hv).1
  exact own_pre (fun t K => Y.aaload hx (j := j) (v := v) (by rw [eT]; exact A.1) (State.isArrayOf_alike hZ.alike A.2.1) hty A.2.2 (own_in r2 hj hj0 hi) (by rw [hj, ← Array.getElem?_toList, r2]; exact hv) (g := mkF m pc Ls (.int j :: .ref a :: st)) rfl rfl (hb hby hd) t K) K
theorem own_laload (X : own_W p l e R s m args below meth c Z n0 y bytes ml ret T h k n) (q : Nat) {a : Addr} {kc : ClassId} {vs : List Value} {j : Int32} (i : Nat) (v : Value) (hd : decode bytes pc = .ok (.laload, 1)) (hq : pc + 1 = q) (F : own_A Z h a kc .long vs) (hj : j.toNatClampNeg = i) (hj0 : ¬ j < 0) (hv : vs[i]? = some v)
    (K : own_Ends p e below G (T.setTop (mkF m q Ls (v :: st)))) : own_Ends p e below G (T.setTop (mkF m pc Ls (.int j :: .ref a :: st))) := by
  subst hq
  obtain ⟨⟨locs, Y, N⟩, eT, hs0, hx, hZ, hby, hml, hown, hret, hlk, hnm⟩ := X
  obtain ⟨cl, A, r1, r2, r3, r4⟩ := F
  have hi : i < vs.length := (List.getElem?_eq_some_iff.mp hv).1
  exact own_pre (fun t K => Y.laload hx (j := j) (v := v) (by rw [eT]; exact A.1) (State.isArrayOf_alike hZ.alike A.2.1) A.2.2 (own_in r2 hj hj0 hi) (by rw [hj, ← Array.getElem?_toList, r2]; exact hv) (g := mkF m pc Ls (.int j :: .ref a :: st)) rfl rfl (hb hby hd) t K) K
theorem own_len (X : own_W p l e R s m args below meth c Z n0 y bytes ml ret T h k n) (q : Nat) {a : Addr} {kc : ClassId} {ty : FieldType} {vs : List Value} (x : Int32) (hd : decode bytes pc = .ok (.arraylength, 1)) (hq : pc + 1 = q) (F : own_A Z h a kc ty vs) (hx' : vs.length.toInt32 = x)
    (K : own_Ends p e below G (T.setTop (mkF m q Ls (.int x :: st)))) : own_Ends p e below G (T.setTop (mkF m pc Ls (.ref a :: st))) := by
  subst hq hx'
  obtain ⟨⟨locs, Y, N⟩, eT, hs0, hx, hZ, hby, hml, hown, hret, hlk, hnm⟩ := X
  obtain ⟨cl, A, r1, r2, r3, r4⟩ := F
  have hl : vs.length = cl.slots.size := by rw [← r2, Array.length_toList]
  rw [hl] at K
  exact own_pre (fun t K => Y.arraylength hx (by rw [eT]; exact A.1) (State.isArrayOf_alike hZ.alike A.2.1) (g := mkF m pc Ls (.ref a :: st)) rfl rfl (hb hby hd) t K) K
theorem own_iastore (X : own_W p l e R s m args below meth c Z n0 y bytes ml ret T h k n) (q : Nat) {a : Addr} {kc : ClassId} {vs : List Value} {j : Int32} {x : Int32} (i : Nat) (hd : decode bytes pc = .ok (.iastore, 1)) (hq : pc + 1 = q) (F : own_A Z h a kc .int vs) (hj : j.toNatClampNeg = i) (hj0 : ¬ j < 0) (hi : i < vs.length) (hnew : n0 ≤ a)
    (K : ∀ T' h', own_W p l e R s m args below meth c Z n0 y bytes ml ret T' h' k n → Wr h h' a i (.int x) → own_Ends p e below G (T'.setTop (mkF m q Ls st))) : own_Ends p e below G (T.setTop (mkF m pc Ls (.int x :: .int j :: .ref a :: st))) := by
  subst hq
  obtain ⟨⟨locs, Y, N⟩, eT, hs0, hx, hZ, hby, hml, hown, hret, hlk, hnm⟩ := X
  obtain ⟨cl, A, r1, r2, r3, r4⟩ := F
  obtain ⟨T1, h1, Y1, e1, W1, st1⟩ := stI Y hx hZ eT A (j := j) (own_in r2 hj hj0 hi) (g := mkF m pc Ls (.int x :: .int j :: .ref a :: st)) rfl rfl (hb hby hd)
  exact own_pre st1 (K T1 h1 ⟨⟨_, Y1, Fr.snoc Y1 N hnew⟩, e1, (by rw [W1.size]; exact hs0), hx, hZ, hby, hml, hown, hret, hlk, hnm⟩ (hj ▸ W1))
theorem own_castore (X : own_W p l e R s m args below meth c Z n0 y bytes ml ret T h k n) (q : Nat) {a : Addr} {kc : ClassId} {vs : List Value} {j : Int32} {x : Int32} (i : Nat) (hd : decode bytes pc = .ok (.castore, 1)) (hq : pc + 1 = q) (F : own_A Z h a kc .char vs) (hj : j.toNatClampNeg = i) (hj0 : ¬ j < 0) (hi : i < vs.length) (hnew : n0 ≤ a)
    (K : ∀ T' h', own_W p l e R s m args below meth c Z n0 y bytes ml ret T' h' k n → Wr h h' a i (.int (nar .char x)) → own_Ends p e below G (T'.setTop (mkF m q Ls st))) : own_Ends p e below G (T.setTop (mkF m pc Ls (.int x :: .int j :: .ref a :: st))) := by
  subst hq
  obtain ⟨⟨locs, Y, N⟩, eT, hs0, hx, hZ, hby, hml, hown, hret, hlk, hnm⟩ := X
  obtain ⟨cl, A, r1, r2, r3, r4⟩ := F
  obtain ⟨T1, h1, Y1, e1, W1, st1⟩ := stC Y hx hZ eT A (j := j) (own_in r2 hj hj0 hi) (g := mkF m pc Ls (.int x :: .int j :: .ref a :: st)) rfl rfl (hb hby hd)
  exact own_pre st1 (K T1 h1 ⟨⟨_, Y1, Fr.snoc Y1 N hnew⟩, e1, (by rw [W1.size]; exact hs0), hx, hZ, hby, hml, hown, hret, hlk, hnm⟩ (hj ▸ W1))
theorem own_bastore (X : own_W p l e R s m args below meth c Z n0 y bytes ml ret T h k n) (q : Nat) {a : Addr} {kc : ClassId} {vs : List Value} {j : Int32} {x : Int32} (i : Nat) (hd : decode bytes pc = .ok (.bastore, 1)) (hq : pc + 1 = q) (F : own_A Z h a kc .byte vs) (hj : j.toNatClampNeg = i) (hj0 : ¬ j < 0) (hi : i < vs.length) (hnew : n0 ≤ a)
    (K : ∀ T' h', own_W p l e R s m args below meth c Z n0 y bytes ml ret T' h' k n → Wr h h' a i (.int (nar .byte x)) → own_Ends p e below G (T'.setTop (mkF m q Ls st))) : own_Ends p e below G (T.setTop (mkF m pc Ls (.int x :: .int j :: .ref a :: st))) := by
  subst hq
  obtain ⟨⟨locs, Y, N⟩, eT, hs0, hx, hZ, hby, hml, hown, hret, hlk, hnm⟩ := X
  obtain ⟨cl, A, r1, r2, r3, r4⟩ := F
  obtain ⟨T1, h1, Y1, e1, W1, st1⟩ := stB Y hx hZ eT A (j := j) (own_in r2 hj hj0 hi) (g := mkF m pc Ls (.int x :: .int j :: .ref a :: st)) rfl rfl (hb hby hd)
  exact own_pre st1 (K T1 h1 ⟨⟨_, Y1, Fr.snoc Y1 N hnew⟩, e1, (by rw [W1.size]; exact hs0), hx, hZ, hby, hml, hown, hret, hlk, hnm⟩ (hj ▸ W1))
theorem own_zastore (X : own_W p l e R s m args below meth c Z n0 y bytes ml ret T h k n) (q : Nat) {a : Addr} {kc : ClassId} {vs : List Value} {j : Int32} {x : Int32} (i : Nat) (hd : decode bytes pc = .ok (.bastore, 1)) (hq : pc + 1 = q) (F : own_A Z h a kc .boolean vs) (hj : j.toNatClampNeg = i) (hj0 : ¬ j < 0) (hi : i < vs.length) (hnew : n0 ≤ a)
    (K : ∀ T' h', own_W p l e R s m args below meth c Z n0 y bytes ml ret T' h' k n → Wr h h' a i (.int (nar .boolean x)) → own_Ends p e below G (T'.setTop (mkF m q Ls st))) : own_Ends p e below G (T.setTop (mkF m pc Ls (.int x :: .int j :: .ref a :: st))) := by
  subst hq
  obtain ⟨⟨locs, Y, N⟩, eT, hs0, hx, hZ, hby, hml, hown, hret, hlk, hnm⟩ := X
  obtain ⟨cl, A, r1, r2, r3, r4⟩ := F
  obtain ⟨T1, h1, Y1, e1, W1, st1⟩ := stZ Y hx hZ eT A (j := j) (own_in r2 hj hj0 hi) (g := mkF m pc Ls (.int x :: .int j :: .ref a :: st)) rfl rfl (hb hby hd)
  exact own_pre st1 (K T1 h1 ⟨⟨_, Y1, Fr.snoc Y1 N hnew⟩, e1, (by rw [W1.size]; exact hs0), hx, hZ, hby, hml, hown, hret, hlk, hnm⟩ (hj ▸ W1))
theorem own_lastore (X : own_W p l e R s m args below meth c Z n0 y bytes ml ret T h k n) (q : Nat) {a : Addr} {kc : ClassId} {vs : List Value} {j : Int32} {x : Int64} (i : Nat) (hd : decode bytes pc = .ok (.lastore, 1)) (hq : pc + 1 = q) (F : own_A Z h a kc .long vs) (hj : j.toNatClampNeg = i) (hj0 : ¬ j < 0) (hi : i < vs.length) (hnew : n0 ≤ a)
    (K : ∀ T' h', own_W p l e R s m args below meth c Z n0 y bytes ml ret T' h' k n → Wr h h' a i (.long x) → own_Ends p e below G (T'.setTop (mkF m q Ls st))) : own_Ends p e below G (T.setTop (mkF m pc Ls (.long x :: .int j :: .ref a :: st))) := by
  subst hq
  obtain ⟨⟨locs, Y, N⟩, eT, hs0, hx, hZ, hby, hml, hown, hret, hlk, hnm⟩ := X
  obtain ⟨cl, A, r1, r2, r3, r4⟩ := F
  obtain ⟨T1, h1, Y1, e1, W1, st1⟩ := stJ Y hx hZ eT A (j := j) (own_in r2 hj hj0 hi) (g := mkF m pc Ls (.long x :: .int j :: .ref a :: st)) rfl rfl (hb hby hd)
  exact own_pre st1 (K T1 h1 ⟨⟨_, Y1, Fr.snoc Y1 N hnew⟩, e1, (by rw [W1.size]; exact hs0), hx, hZ, hby, hml, hown, hret, hlk, hnm⟩ (hj ▸ W1))
theorem own_aastore (X : own_W p l e R s m args below meth c Z n0 y bytes ml ret T h k n) (q : Nat) {a : Addr} {kc : ClassId} {ty : FieldType} {vs : List Value} {j : Int32} {x : Value} (i : Nat) (hd : decode bytes pc = .ok (.aastore, 1)) (hq : pc + 1 = q) (F : own_A Z h a kc ty vs) (hj : j.toNatClampNeg = i) (hj0 : ¬ j < 0) (hi : i < vs.length) (hty : ty.isReference = true) (hS : Sto Z h a x) (hnew : n0 ≤ a)
    (K : ∀ T' h', own_W p l e R s m args below meth c Z n0 y bytes ml ret T' h' k n → Wr h h' a i x → own_Ends p e below G (T'.setTop (mkF m q Ls st))) : own_Ends p e below G (T.setTop (mkF m pc Ls (x :: .int j :: .ref a :: st))) := by
  subst hq
  obtain ⟨⟨locs, Y, N⟩, eT, hs0, hx, hZ, hby, hml, hown, hret, hlk, hnm⟩ := X
  obtain ⟨cl, A, r1, r2, r3, r4⟩ := F
  obtain ⟨T1, h1, Y1, e1, W1, st1⟩ := stR Y hx hZ eT A (j := j) (own_in r2 hj hj0 hi) hty hS (g := mkF m pc Ls (x :: .int j :: .ref a :: st)) rfl rfl (hb hby hd)
  exact own_pre st1 (K T1 h1 ⟨⟨_, Y1, Fr.snoc Y1 N hnew⟩, e1, (by rw [W1.size]; exact hs0), hx, hZ, hby, hml, hown, hret, hlk, hnm⟩ (hj ▸ W1))
theorem own_A_new {Z : State} {h : Heap} {a : Addr} {kc : ClassId} {ty : FieldType} {z : Int32} {N : Nat} (A : Arr Z h a (newA kc ty z) ty) (hz : ¬ z < 0) (hN : z.toNatClampNeg = N) (hf : fits ty (defaultValue ty) = true) : own_A Z h a kc ty (List.replicate N (defaultValue ty)) := by
  refine ⟨_, A, rfl, by simp [newA, hN], by rw [List.length_replicate, ← hN]; exact (back32 hz).2, fun v hv => ?_⟩
  rw [(List.mem_replicate.mp hv).2]; exact hf
theorem own_newP (X : own_W p l e R s m args below meth c Z n0 y bytes ml ret T h k n) (q : Nat) {aty : ArrayType} {z : Int32} (len cap : Nat) (hd : decode bytes pc = .ok (.newarray aty, 2)) (hq : pc + 2 = q) (w : (Jvm.Cond.arrayClass (newarray.typeOf aty)).before a0 Z = true) (hz : ¬ z < 0) (hN : z.toNatClampNeg = len) (hcap : len ≤ cap) (hb8 : cap * 8 ≤ 536870912) (hc : k + 1 ≤ R.cells) (hl : n + cap ≤ R.slots)
    (K : ∀ T' h' a kc, a = h.size → own_W p l e R s m args below meth c Z n0 y bytes ml ret T' h' (k + 1) (n + cap) → Ext h h' → own_A Z h' a kc (newarray.typeOf aty) (List.replicate len (defaultValue (newarray.typeOf aty))) → own_Ends p e below G (T'.setTop (mkF m q Ls (.ref a :: st)))) : own_Ends p e below G (T.setTop (mkF m pc Ls (.int z :: st))) := by
  subst hq
  obtain ⟨⟨locs, Y, N⟩, eT, hs0, hx, hZ, hby, hml, hown, hret, hlk, hnm⟩ := X
  obtain ⟨T1, h1, kc, Y1, e1, E1, A1, st1⟩ := newP Y hx hZ w eT (g := mkF m pc Ls (.int z :: st)) rfl (hb hby hd) rfl hz (cap := cap) (by omega) hb8 hc hl
  exact own_pre st1 (K T1 h1 _ kc rfl ⟨⟨locs, Y1, N⟩, e1, (Nat.le_trans hs0 E1.1), hx, hZ, hby, hml, hown, hret, hlk, hnm⟩ E1 (own_A_new A1 hz hN (by cases aty <;> rfl)))
theorem own_newR (X : own_W p l e R s m args below meth c Z n0 y bytes ml ret T h k n) (q : Nat) {C : String} {i : Nat} {z : Int32} (len cap : Nat) (hd : decode bytes pc = .ok (.anewarray i, 3)) (hq : pc + 3 = q) (w1 : (Jvm.Cond.classLink y.cls i C).before a0 Z = true) (w2 : (Jvm.Cond.arrayOver (.object C)).before a0 Z = true) (hz : ¬ z < 0) (hN : z.toNatClampNeg = len) (hcap : len ≤ cap) (hb8 : cap * 8 ≤ 536870912) (hc : k + 1 ≤ R.cells) (hl : n + cap ≤ R.slots)
    (K : ∀ T' h' a kc, a = h.size → own_W p l e R s m args below meth c Z n0 y bytes ml ret T' h' (k + 1) (n + cap) → Ext h h' → own_A Z h' a kc (.object C) (List.replicate len .null) → Ovr Z kc C → own_Ends p e below G (T'.setTop (mkF m q Ls (.ref a :: st)))) : own_Ends p e below G (T.setTop (mkF m pc Ls (.int z :: st))) := by
  subst hq
  obtain ⟨⟨locs, Y, N⟩, eT, hs0, hx, hZ, hby, hml, hown, hret, hlk, hnm⟩ := X
  obtain ⟨T1, h1, kc, Y1, e1, E1, A1, O1, st1⟩ := newR Y hx hZ hown w1 w2 eT (g := mkF m pc Ls (.int z :: st)) rfl (hb hby hd) rfl hz (cap := cap) (by omega) hb8 hc hl
  exact own_pre st1 (K T1 h1 _ kc rfl ⟨⟨locs, Y1, N⟩, e1, (Nat.le_trans hs0 E1.1), hx, hZ, hby, hml, hown, hret, hlk, hnm⟩ E1 (own_A_new A1 hz hN rfl) O1)
theorem own_clone (X : own_W p l e R s m args below meth c Z n0 y bytes ml ret T h k n) (q : Nat) {i : Nat} {ad : String} {a : Addr} {kc : ClassId} {ty : FieldType} {vs : List Value} (cap : Nat) (hd : decode bytes pc = .ok (.invokevirtual i, 3)) (hq : pc + 3 = q) (w1 : (Jvm.Cond.methodLink y.cls i ⟨ad, "clone", "()Ljava/lang/Object;"⟩).before a0 Z = true) (w2 : (Jvm.Cond.sameMethod ad "java/lang/Object" "clone" "()Ljava/lang/Object;").before a0 Z = true) (w3 : (Jvm.Cond.native ⟨"java/lang/Object", "clone", "()Ljava/lang/Object;"⟩).before a0 Z = true)
    (w4 : (Jvm.Cond.instanceMethod ⟨"java/lang/Object", "clone", "()Ljava/lang/Object;"⟩).before a0 Z = true) (w5 : (Jvm.Cond.selects ad ⟨ad, "clone", "()Ljava/lang/Object;"⟩ ⟨"java/lang/Object", "clone", "()Ljava/lang/Object;"⟩).before a0 Z = true) (w6 : (Jvm.Cond.castable ad "java/lang/Cloneable").before a0 Z = true)
    (F : own_A Z h a kc ty vs) (E : Exa Z h a ad) (hsz : Ls.size = ml) (hf : 1 ≤ R.frames) (hl : (st.map fun v => v.category).sum + 14 ≤ R.locals) (hcap : vs.length ≤ cap) (hc : k + 1 ≤ R.cells) (hsl : n + cap ≤ R.slots)
    (K : ∀ T' h' b, b = h.size → own_W p l e R s m args below meth c Z n0 y bytes ml ret T' h' (k + 1) (n + cap) → Ext h h' → own_A Z h' b kc ty vs → Exa Z h' b ad → own_Ends p e below G (T'.setTop (mkF m q Ls (.ref b :: st)))) : own_Ends p e below G (T.setTop (mkF m pc Ls (.ref a :: st))) := by
  subst hq
  obtain ⟨⟨locs, Y, N⟩, eT, hs0, hx, hZ, hby, hml, hown, hret, hlk, hnm⟩ := X
  obtain ⟨cl, A, r1, r2, r3, r4⟩ := F
  have hF : FitC Z cl := fitC_of A fun j hj v hv => r4 v (by rw [← r2]; exact List.mem_of_getElem? (by rw [Array.getElem?_toList]; exact hv))
  obtain ⟨T1, h1, Y1, e1, E1, A1, X1, st1⟩ := cloneA Y hx hZ hown w1 w2 w3 w4 w5 w6 eT A E hF (g := mkF m pc Ls (.ref a :: st)) rfl (hsz.trans hml.symm) rfl (hb hby hd) hf (W := (st.map fun v => v.category).sum) (cap := cap) (by show 2 * 0 + _ ≤ _; omega) hl (by rw [← Array.length_toList, r2]; exact hcap) hc hsl
  exact own_pre st1 (K T1 h1 _ rfl ⟨⟨locs, Y1, N⟩, e1, (Nat.le_trans hs0 E1.1), hx, hZ, hby, hml, hown, hret, hlk, hnm⟩ E1 ⟨_, A1, r1, r2, r3, r4⟩ X1)
theorem own_eqInt {args : Array Value} {first s : State} {o : Option Outcome} {idx : List Nat} {a : Term} {n : Int32} (h : (Jvm.Cond.eq a (Jvm.Term.int n)).value args first o s idx = some true) : a.eval args first o idx s = some (.int n) := by
  obtain ⟨x, y, h1, h2, h3, -⟩ := cmp_v (Or.inl h)
  rw [Term.int_eval] at h2
  cases h2
  cases x <;> simp [Kin, Value.isRef] at h3
  rename_i z
  have := gotT (P := z = n) (by simp [Cond.value, h1, Term.int_eval]) h
  rw [h1, this]
theorem own_eqRef {args : Array Value} {first s : State} {o : Option Outcome} {idx : List Nat} {a b : Term} {x : Addr} (h : (Jvm.Cond.eq a b).value args first o s idx = some true) (hb' : b.eval args first o idx s = some (.ref x)) : a.eval args first o idx s = some (.ref x) := by
  obtain ⟨u, v, h1, h2, h3, h4⟩ := cmp_v (Or.inl h)
  cases hb'.symm.trans h2
  have hu : u.isRef = true := by cases u <;> simp [Kin, Value.isRef] at h3 ⊢
  have := gotT (eq_R h1 h2 hu rfl) h
  rw [h1, this]
theorem own_len_size {args : Array Value} {s : State} {t : Term} {a : Addr} {n : Int32} {cell : Cell} {ty : FieldType} (h : (Jvm.Cond.eq (Jvm.Term.length t) (Jvm.Term.int n)).value args s none s [] = some true) (ev : t.eval args s none [] s = some (.ref a)) (A : Arr s s.heap a cell ty) : cell.slots.size < 2 ^ 31 ∧ cell.slots.size.toInt32 = n :=
  IntBox.length_fwd (Cond.before_iff.mpr h) ev A.1 A.2.1 A.2.2
theorem own_A_start {args : Array Value} {s : State} {t : Term} {a : Addr} {ty : FieldType} {n : Int32} {vs : List Value} (hf : Fit s) (ev : t.eval args s none [] s = some (.ref a)) (hA : (Jvm.Cond.arrayOf t ty).value args s none s [] = some true) (hL : (Jvm.Cond.eq (Jvm.Term.length t) (Jvm.Term.int n)).value args s none s [] = some true) (hn : n.toNatClampNeg = vs.length)
    (he : ∀ (i : Nat) (v : Value), vs[i]? = some v → (Jvm.Term.elem t (Jvm.Term.int (Int32.ofNat i))).eval args s none [] s = some v) : ∃ kc, own_A s s.heap a kc ty vs := by
  obtain ⟨c, A⟩ := Arr.start ev hA
  obtain ⟨q1, q2⟩ := own_len_size hL ev A
  have hsz : c.slots.size = vs.length := by
    rw [← hn, ← q2]; show _ = (c.slots.size.toInt32.toInt).toNat; rw [len_toInt q1]; rfl
  refine ⟨c.cls, c, A, rfl, ?_, by omega, ?_⟩
  · apply List.ext_getElem?
    intro i
    by_cases hi : i < vs.length
    · have h1 := elem_in (he i _ (List.getElem?_eq_getElem hi)) ev (Term.int_eval _) A.1
      have hj : (Int32.ofNat i).toNatClampNeg = i := by show (Int32.ofNat i).toInt.toNat = i; rw [Int32.toInt_ofNat_small (by omega)]; rfl
      rw [Array.getElem?_toList, List.getElem?_eq_getElem hi]
      rw [hj] at h1; exact h1.2
    · rw [List.getElem?_eq_none (l := c.slots.toList) (by rw [Array.length_toList]; omega), List.getElem?_eq_none (l := vs) (by omega)]
  · intro v hv
    obtain ⟨i, hi, rfl⟩ := List.getElem_of_mem hv
    have h1 := elem_in (he i _ (List.getElem?_eq_getElem hi)) ev (Term.int_eval _) A.1
    exact elem_fits hf A h1.1 h1.2
end OwnKit
def own_of (x : Int32) (a1 a2 a3 a4 : Addr) : Value := if (1 : Int32) = x then .ref a1 else if (2 : Int32) = x then .ref a2 else if (3 : Int32) = x then .ref a3 else if (4 : Int32) = x then .ref a4 else .null
def own_exp (x : Int32) (a1 a2 a3 a4 : Addr) : Value := if x = (1 : Int32) then .ref a1 else if x = (2 : Int32) then .ref a2 else if x = (3 : Int32) then .ref a3 else if x = (4 : Int32) then .ref a4 else .null
theorem own_of_exp (x : Int32) (a1 a2 a3 a4 : Addr) : own_of x a1 a2 a3 a4 = own_exp x a1 a2 a3 a4 := by simp only [own_of, own_exp, eq_comm]
theorem own_of_ref (x : Int32) (a1 a2 a3 a4 : Addr) : (own_of x a1 a2 a3 a4).isRef = true := by unfold own_of; split <;> (try rfl); split <;> (try rfl); split <;> (try rfl); split <;> rfl
theorem own_exp_ref (x : Int32) (a1 a2 a3 a4 : Addr) : (own_exp x a1 a2 a3 a4).isRef = true := by rw [← own_of_exp]; exact own_of_ref ..
theorem own_and3 (a : Int32) : a &&& 3 = 0 ∨ a &&& 3 = 1 ∨ a &&& 3 = 2 ∨ a &&& 3 = 3 := by
  have h : ∀ b : BitVec 32, b &&& 3#32 = 0#32 ∨ b &&& 3#32 = 1#32 ∨ b &&& 3#32 = 2#32 ∨ b &&& 3#32 = 3#32 := fun b => by
    have hb : (b &&& 3#32).toNat = b.toNat % 4 := by rw [BitVec.toNat_and]; exact Nat.and_two_pow_sub_one_eq_mod b.toNat 2
    simp only [← BitVec.toNat_inj, hb, BitVec.toNat_ofNat]
    omega
  rcases h a.toBitVec with h | h | h | h
  · exact Or.inl (Int32.toBitVec_inj.mp h)
  · exact Or.inr (Or.inl (Int32.toBitVec_inj.mp h))
  · exact Or.inr (Or.inr (Or.inl (Int32.toBitVec_inj.mp h)))
  · exact Or.inr (Or.inr (Or.inr (Int32.toBitVec_inj.mp h)))
theorem own_d2_0 : decode prog_15_method_1_code 0 = .ok (.getstatic 18, 3) := by decide +kernel
theorem own_d2_3 : decode prog_15_method_1_code 3 = .ok (.invokevirtual 22, 3) := by decide +kernel
theorem own_d2_6 : decode prog_15_method_1_code 6 = .ok (.checkcast 23, 3) := by decide +kernel
theorem own_d2_9 : decode prog_15_method_1_code 9 = .ok (.areturn, 1) := by decide +kernel
theorem own_pn2 : plainFor (⟨"com/example/latchwork/latchwork/TransactionLog$RecordType", "values", "()[Lcom/example/latchwork/latchwork/TransactionLog$RecordType;"⟩ : MethodName) = true := plainFor_of_name (by first | (simp [plainName, overriddenIn]; done) | decide +kernel)
set_option maxRecDepth 65536 in
set_option maxHeartbeats 40000000 in
theorem own_mvals (l : Launch) (Z : State) (a0 : Array Value) (hw : ∀ d ∈ tables_1, d.before a0 Z = true)  (av : Addr) (kc : ClassId) (a1 : Addr) (a2 : Addr) (a3 : Addr) (a4 : Addr) (h0 : Heap) (n0 : Nat) (hs0 : n0 ≤ h0.size) (OL : Old Z n0 h0) (z_V : Sta Z Z.heap "com/example/latchwork/latchwork/TransactionLog$RecordType" "$VALUES" "[Lcom/example/latchwork/latchwork/TransactionLog$RecordType;" (.ref av)) (z_A : own_A Z Z.heap av kc (.object "com/example/latchwork/latchwork/TransactionLog$RecordType") [(.ref a1), (.ref a2), (.ref a3), (.ref a4)]) (z_E : Exa Z Z.heap av "[Lcom/example/latchwork/latchwork/TransactionLog$RecordType;") :
    own_Met l (⟨"com/example/latchwork/latchwork/TransactionLog$RecordType", "values", "()[Lcom/example/latchwork/latchwork/TransactionLog$RecordType;"⟩ : MethodName) prog_15_method_1_code 0 (some (.array (.object "com/example/latchwork/latchwork/TransactionLog$RecordType"))) ({ frames := 1, cells := 1, slots := 4, locals := 14 } : Room) Z #[] h0 n0 (fun v h' => Keep h0 h' [] ∧ ∃ b, v = some (.ref b) ∧ h0.size ≤ b ∧ h'.size > b ∧ own_A Z h' b kc (.object "com/example/latchwork/latchwork/TransactionLog$RecordType") [(.ref a1), (.ref a2), (.ref a3), (.ref a4)]) := by
  refine own_met (Ls := #[]) own_pn2 hs0 (fun m => by first | (simp [entryFrame, mkF, argsToLocals, Value.category]; done) | rfl) ?_
  intro p e s m below meth c T X
  have K0 := Keep.refl h0 []
  refine own_getS X 3 own_d2_0 rfl (hw _ (List.mem_of_getElem? (i := 7) rfl)) Via.refl (Sta.ext OL.2 z_V) ?_
  intro T X
  refine own_clone X 6 4 own_d2_3 rfl (hw _ (List.mem_of_getElem? (i := 9) rfl)) (hw _ (List.mem_of_getElem? (i := 10) rfl)) (hw _ (List.mem_of_getElem? (i := 14) rfl)) (hw _ (List.mem_of_getElem? (i := 12) rfl)) (hw _ (List.mem_of_getElem? (i := 13) rfl)) (hw _ (List.mem_of_getElem? (i := 15) rfl)) (own_A.ext z_A OL.2) (Exa.ext OL.2 z_E) rfl (by decide) (by decide) (Nat.le_of_ble_eq_true rfl) (by decide) (by decide) ?_
  intro T h1 b2 g_b2 X E_h1 A_b2 C_b2
  have zs_h1 : h0.size ≤ h1.size := E_h1.1
  have OL := OL.ext E_h1
  have K0 := K0.ext E_h1
  have lo_b2 : h0.size ≤ b2 := Nat.le_of_eq g_b2.symm
  have hi_b2 : h1.size > b2 := A_b2.lt
  refine own_castY X 9 own_d2_6 rfl (hw _ (List.mem_of_getElem? (i := 17) rfl)) (Ins.self C_b2) ?_
  intro T X
  exact own_retA X (.array (.object "com/example/latchwork/latchwork/TransactionLog$RecordType")) own_d2_9 rfl rfl rfl rfl (by decide) (by decide) (⟨K0, b2, rfl, by omega, A_b2.lt, A_b2⟩)
theorem own_d1_0 : decode prog_15_method_4_code 0 = .ok (.invokestatic 44, 3) := by decide +kernel
theorem own_pd0 : parseMethodDescriptor "()[Lcom/example/latchwork/latchwork/TransactionLog$RecordType;" = some ⟨[], some (.array (.object "com/example/latchwork/latchwork/TransactionLog$RecordType"))⟩ := by decide +kernel
theorem own_d1_3 : decode prog_15_method_4_code 3 = .ok (.astore_n 1, 1) := by decide +kernel
theorem own_d1_4 : decode prog_15_method_4_code 4 = .ok (.aload_n 1, 1) := by decide +kernel
theorem own_d1_5 : decode prog_15_method_4_code 5 = .ok (.arraylength, 1) := by decide +kernel
theorem own_d1_6 : decode prog_15_method_4_code 6 = .ok (.istore_n 2, 1) := by decide +kernel
theorem own_d1_7 : decode prog_15_method_4_code 7 = .ok (.iconst 0, 1) := by decide +kernel
theorem own_d1_8 : decode prog_15_method_4_code 8 = .ok (.istore_n 3, 1) := by decide +kernel
theorem own_d1_9 : decode prog_15_method_4_code 9 = .ok (.iload_n 3, 1) := by decide +kernel
theorem own_d1_10 : decode prog_15_method_4_code 10 = .ok (.iload_n 2, 1) := by decide +kernel
theorem own_d1_11 : decode prog_15_method_4_code 11 = .ok (.if_icmp .ge 26, 3) := by decide +kernel
theorem own_d1_14 : decode prog_15_method_4_code 14 = .ok (.aload_n 1, 1) := by decide +kernel
theorem own_d1_15 : decode prog_15_method_4_code 15 = .ok (.iload_n 3, 1) := by decide +kernel
theorem own_d1_16 : decode prog_15_method_4_code 16 = .ok (.aaload, 1) := by decide +kernel
theorem own_d1_17 : decode prog_15_method_4_code 17 = .ok (.astore 4, 2) := by decide +kernel
theorem own_d1_19 : decode prog_15_method_4_code 19 = .ok (.aload 4, 2) := by decide +kernel
theorem own_d1_21 : decode prog_15_method_4_code 21 = .ok (.getfield 37, 3) := by decide +kernel
theorem own_d1_24 : decode prog_15_method_4_code 24 = .ok (.iload_n 0, 1) := by decide +kernel
theorem own_d1_25 : decode prog_15_method_4_code 25 = .ok (.if_icmp .ne 6, 3) := by decide +kernel
theorem own_d1_28 : decode prog_15_method_4_code 28 = .ok (.aload 4, 2) := by decide +kernel
theorem own_d1_30 : decode prog_15_method_4_code 30 = .ok (.areturn, 1) := by decide +kernel
theorem own_d1_31 : decode prog_15_method_4_code 31 = .ok (.iinc 3 1, 3) := by decide +kernel
theorem own_d1_34 : decode prog_15_method_4_code 34 = .ok (.goto (-25), 3) := by decide +kernel
theorem own_d1_37 : decode prog_15_method_4_code 37 = .ok (.aconst_null, 1) := by decide +kernel
theorem own_d1_38 : decode prog_15_method_4_code 38 = .ok (.areturn, 1) := by decide +kernel
theorem own_pn1 : plainFor (⟨"com/example/latchwork/latchwork/TransactionLog$RecordType", "of", "(I)Lcom/example/latchwork/latchwork/TransactionLog$RecordType;"⟩ : MethodName) = true := plainFor_of_name (by first | (simp [plainName, overriddenIn]; done) | decide +kernel)
set_option maxRecDepth 65536 in
set_option maxHeartbeats 40000000 in
theorem own_mof (l : Launch) (Z : State) (a0 : Array Value) (hw : ∀ d ∈ tables_1, d.before a0 Z = true) (x : Int32) (av : Addr) (kc : ClassId) (a1 : Addr) (a2 : Addr) (a3 : Addr) (a4 : Addr) (h0 : Heap) (n0 : Nat) (hs0 : n0 ≤ h0.size) (OL : Old Z n0 h0) (z_V : Sta Z Z.heap "com/example/latchwork/latchwork/TransactionLog$RecordType" "$VALUES" "[Lcom/example/latchwork/latchwork/TransactionLog$RecordType;" (.ref av)) (z_A : own_A Z Z.heap av kc (.object "com/example/latchwork/latchwork/TransactionLog$RecordType") [(.ref a1), (.ref a2), (.ref a3), (.ref a4)]) (z_E : Exa Z Z.heap av "[Lcom/example/latchwork/latchwork/TransactionLog$RecordType;") (z_F1 : Fld Z Z.heap a1 "com/example/latchwork/latchwork/TransactionLog$RecordType" "code" "I" (.int (1 : Int32))) (z_F2 : Fld Z Z.heap a2 "com/example/latchwork/latchwork/TransactionLog$RecordType" "code" "I" (.int (2 : Int32))) (z_F3 : Fld Z Z.heap a3 "com/example/latchwork/latchwork/TransactionLog$RecordType" "code" "I" (.int (3 : Int32))) (z_F4 : Fld Z Z.heap a4 "com/example/latchwork/latchwork/TransactionLog$RecordType" "code" "I" (.int (4 : Int32))) :
    own_Met l (⟨"com/example/latchwork/latchwork/TransactionLog$RecordType", "of", "(I)Lcom/example/latchwork/latchwork/TransactionLog$RecordType;"⟩ : MethodName) prog_15_method_4_code 5 (some (.object "com/example/latchwork/latchwork/TransactionLog$RecordType")) ({ frames := 2, cells := 1, slots := 4, locals := 25 } : Room) Z #[(.int x)] h0 n0 (fun v h' => Keep h0 h' [] ∧ v = some (own_of x a1 a2 a3 a4)) := by
  refine own_met (Ls := #[.val (.int x), .unset, .unset, .unset, .unset]) own_pn1 hs0 (fun m => by first | (simp [entryFrame, mkF, argsToLocals, Value.category]; done) | rfl) ?_
  intro p e s m below meth c T X
  have K0 := Keep.refl h0 []
  refine own_callS X 3 [] [] own_d1_0 rfl (hw _ (List.mem_of_getElem? (i := 4) rfl)) (hw _ (List.mem_of_getElem? (i := 5) rfl)) (hw _ (List.mem_of_getElem? (i := 2) rfl)) (hw _ (List.mem_of_getElem? (i := 6) rfl)) (by decide) (own_mvals l Z a0 hw av kc a1 a2 a3 a4 h0 n0 X.sz OL z_V z_A z_E) (fun _ _ q => q.1.1) rfl own_pd0 rfl rfl rfl (by decide) (Nat.le_of_ble_eq_true rfl) (by decide) (by decide) ?_
  rintro v0 T h2 X ⟨K_, b1, rfl, lo_b1, hi_b1, A_b1⟩
  have zs_h2 : h0.size ≤ h2.size := K_.1
  have OL := OL.keep K_ all0
  have K0 := K0.trans K_ all0
  show own_Ends p e below _ (T.setTop (mkF m 3 #[.val (.int x), .unset, .unset, .unset, .unset] [(.ref b1)]))
  refine own_astoreN X 4 #[.val (.int x), .val (.ref b1), .unset, .unset, .unset] own_d1_3 rfl rfl rfl ?_
  refine own_aloadN X 5 (.ref b1) own_d1_4 rfl rfl rfl ?_
  refine own_len X 6 (4 : Int32) own_d1_5 rfl A_b1 rfl ?_
  refine own_istoreN X 7 #[.val (.int x), .val (.ref b1), .val (.int (4 : Int32)), .unset, .unset] own_d1_6 rfl rfl ?_
  refine own_iconst X 8 (0 : Int32) own_d1_7 rfl rfl ?_
  refine own_istoreN X 9 #[.val (.int x), .val (.ref b1), .val (.int (4 : Int32)), .val (.int (0 : Int32)), .unset] own_d1_8 rfl rfl ?_
  refine own_iloadN X 10 (0 : Int32) own_d1_9 rfl rfl ?_
  refine own_iloadN X 11 (4 : Int32) own_d1_10 rfl rfl ?_
  refine own_icN X 14 own_d1_11 rfl (XT.ii_ge_f (by decide)) ?_
  refine own_aloadN X 15 (.ref b1) own_d1_14 rfl rfl rfl ?_
  refine own_iloadN X 16 (0 : Int32) own_d1_15 rfl rfl ?_
  refine own_aaload X 17 0 (.ref a1) own_d1_16 rfl A_b1 (by decide) (by decide) rfl rfl ?_
  refine own_astore X 19 #[.val (.int x), .val (.ref b1), .val (.int (4 : Int32)), .val (.int (0 : Int32)), .val (.ref a1)] own_d1_17 rfl rfl rfl ?_
  refine own_aload X 21 (.ref a1) own_d1_19 rfl rfl rfl ?_
  refine own_getF X 24 own_d1_21 rfl (hw _ (List.mem_of_getElem? (i := 19) rfl)) Via.refl (Fld.ext OL.2 z_F1) ?_
  intro T X
  refine own_iloadN X 25 x own_d1_24 rfl rfl ?_
  by_cases hc25 : (1 : Int32) = x
  · refine own_icN X 28 own_d1_25 rfl (XT.ii_ne_f hc25) ?_
    refine own_aload X 30 (.ref a1) own_d1_28 rfl rfl rfl ?_
    exact own_retA X (.object "com/example/latchwork/latchwork/TransactionLog$RecordType") own_d1_30 rfl rfl rfl rfl (by decide) (by decide) (⟨K0, by simp [own_of, *]⟩)
  · refine own_icY X 31 own_d1_25 (by decide) (by decide) (XT.ii_ne_t hc25) ?_
    refine own_iinc X 34 (1 : Int32) #[.val (.int x), .val (.ref b1), .val (.int (4 : Int32)), .val (.int ((0 : Int32) + (1 : Int32))), .val (.ref a1)] own_d1_31 rfl rfl rfl rfl ?_
    refine own_goto X 9 own_d1_34 (by decide) (by decide) ?_
    refine own_iloadN X 10 ((0 : Int32) + (1 : Int32)) own_d1_9 rfl rfl ?_
    refine own_iloadN X 11 (4 : Int32) own_d1_10 rfl rfl ?_
    refine own_icN X 14 own_d1_11 rfl (XT.ii_ge_f (by decide)) ?_
    refine own_aloadN X 15 (.ref b1) own_d1_14 rfl rfl rfl ?_
    refine own_iloadN X 16 ((0 : Int32) + (1 : Int32)) own_d1_15 rfl rfl ?_
    refine own_aaload X 17 1 (.ref a2) own_d1_16 rfl A_b1 (by decide) (by decide) rfl rfl ?_
    refine own_astore X 19 #[.val (.int x), .val (.ref b1), .val (.int (4 : Int32)), .val (.int ((0 : Int32) + (1 : Int32))), .val (.ref a2)] own_d1_17 rfl rfl rfl ?_
    refine own_aload X 21 (.ref a2) own_d1_19 rfl rfl rfl ?_
    refine own_getF X 24 own_d1_21 rfl (hw _ (List.mem_of_getElem? (i := 19) rfl)) Via.refl (Fld.ext OL.2 z_F2) ?_
    intro T X
    refine own_iloadN X 25 x own_d1_24 rfl rfl ?_
    by_cases hc25 : (2 : Int32) = x
    · refine own_icN X 28 own_d1_25 rfl (XT.ii_ne_f hc25) ?_
      refine own_aload X 30 (.ref a2) own_d1_28 rfl rfl rfl ?_
      exact own_retA X (.object "com/example/latchwork/latchwork/TransactionLog$RecordType") own_d1_30 rfl rfl rfl rfl (by decide) (by decide) (⟨K0, by simp [own_of, *]⟩)
    · refine own_icY X 31 own_d1_25 (by decide) (by decide) (XT.ii_ne_t hc25) ?_
      refine own_iinc X 34 (1 : Int32) #[.val (.int x), .val (.ref b1), .val (.int (4 : Int32)), .val (.int (((0 : Int32) + (1 : Int32)) + (1 : Int32))), .val (.ref a2)] own_d1_31 rfl rfl rfl rfl ?_
      refine own_goto X 9 own_d1_34 (by decide) (by decide) ?_
      refine own_iloadN X 10 (((0 : Int32) + (1 : Int32)) + (1 : Int32)) own_d1_9 rfl rfl ?_
      refine own_iloadN X 11 (4 : Int32) own_d1_10 rfl rfl ?_
      refine own_icN X 14 own_d1_11 rfl (XT.ii_ge_f (by decide)) ?_
      refine own_aloadN X 15 (.ref b1) own_d1_14 rfl rfl rfl ?_
      refine own_iloadN X 16 (((0 : Int32) + (1 : Int32)) + (1 : Int32)) own_d1_15 rfl rfl ?_
      refine own_aaload X 17 2 (.ref a3) own_d1_16 rfl A_b1 (by decide) (by decide) rfl rfl ?_
      refine own_astore X 19 #[.val (.int x), .val (.ref b1), .val (.int (4 : Int32)), .val (.int (((0 : Int32) + (1 : Int32)) + (1 : Int32))), .val (.ref a3)] own_d1_17 rfl rfl rfl ?_
      refine own_aload X 21 (.ref a3) own_d1_19 rfl rfl rfl ?_
      refine own_getF X 24 own_d1_21 rfl (hw _ (List.mem_of_getElem? (i := 19) rfl)) Via.refl (Fld.ext OL.2 z_F3) ?_
      intro T X
      refine own_iloadN X 25 x own_d1_24 rfl rfl ?_
      by_cases hc25 : (3 : Int32) = x
      · refine own_icN X 28 own_d1_25 rfl (XT.ii_ne_f hc25) ?_
        refine own_aload X 30 (.ref a3) own_d1_28 rfl rfl rfl ?_
        exact own_retA X (.object "com/example/latchwork/latchwork/TransactionLog$RecordType") own_d1_30 rfl rfl rfl rfl (by decide) (by decide) (⟨K0, by simp [own_of, *]⟩)
      · refine own_icY X 31 own_d1_25 (by decide) (by decide) (XT.ii_ne_t hc25) ?_
        refine own_iinc X 34 (1 : Int32) #[.val (.int x), .val (.ref b1), .val (.int (4 : Int32)), .val (.int ((((0 : Int32) + (1 : Int32)) + (1 : Int32)) + (1 : Int32))), .val (.ref a3)] own_d1_31 rfl rfl rfl rfl ?_
        refine own_goto X 9 own_d1_34 (by decide) (by decide) ?_
        refine own_iloadN X 10 ((((0 : Int32) + (1 : Int32)) + (1 : Int32)) + (1 : Int32)) own_d1_9 rfl rfl ?_
        refine own_iloadN X 11 (4 : Int32) own_d1_10 rfl rfl ?_
        refine own_icN X 14 own_d1_11 rfl (XT.ii_ge_f (by decide)) ?_
        refine own_aloadN X 15 (.ref b1) own_d1_14 rfl rfl rfl ?_
        refine own_iloadN X 16 ((((0 : Int32) + (1 : Int32)) + (1 : Int32)) + (1 : Int32)) own_d1_15 rfl rfl ?_
        refine own_aaload X 17 3 (.ref a4) own_d1_16 rfl A_b1 (by decide) (by decide) rfl rfl ?_
        refine own_astore X 19 #[.val (.int x), .val (.ref b1), .val (.int (4 : Int32)), .val (.int ((((0 : Int32) + (1 : Int32)) + (1 : Int32)) + (1 : Int32))), .val (.ref a4)] own_d1_17 rfl rfl rfl ?_
        refine own_aload X 21 (.ref a4) own_d1_19 rfl rfl rfl ?_
        refine own_getF X 24 own_d1_21 rfl (hw _ (List.mem_of_getElem? (i := 19) rfl)) Via.refl (Fld.ext OL.2 z_F4) ?_
        intro T X
        refine own_iloadN X 25 x own_d1_24 rfl rfl ?_
        by_cases hc25 : (4 : Int32) = x
        · refine own_icN X 28 own_d1_25 rfl (XT.ii_ne_f hc25) ?_
          refine own_aload X 30 (.ref a4) own_d1_28 rfl rfl rfl ?_
          exact own_retA X (.object "com/example/latchwork/latchwork/TransactionLog$RecordType") own_d1_30 rfl rfl rfl rfl (by decide) (by decide) (⟨K0, by simp [own_of, *]⟩)
        · refine own_icY X 31 own_d1_25 (by decide) (by decide) (XT.ii_ne_t hc25) ?_
          refine own_iinc X 34 (1 : Int32) #[.val (.int x), .val (.ref b1), .val (.int (4 : Int32)), .val (.int (((((0 : Int32) + (1 : Int32)) + (1 : Int32)) + (1 : Int32)) + (1 : Int32))), .val (.ref a4)] own_d1_31 rfl rfl rfl rfl ?_
          refine own_goto X 9 own_d1_34 (by decide) (by decide) ?_
          refine own_iloadN X 10 (((((0 : Int32) + (1 : Int32)) + (1 : Int32)) + (1 : Int32)) + (1 : Int32)) own_d1_9 rfl rfl ?_
          refine own_iloadN X 11 (4 : Int32) own_d1_10 rfl rfl ?_
          refine own_icY X 37 own_d1_11 (by decide) (by decide) (XT.ii_ge_t (by decide)) ?_
          refine own_anull X 38 own_d1_37 rfl ?_
          exact own_retA X (.object "com/example/latchwork/latchwork/TransactionLog$RecordType") own_d1_38 rfl rfl rfl rfl (by decide) (by decide) (⟨K0, by simp [own_of, *]⟩)
theorem own_d3_0 : decode method_2_code 0 = .ok (.iload_n 0, 1) := by decide +kernel
theorem own_d3_1 : decode method_2_code 1 = .ok (.iconst 1, 1) := by decide +kernel
theorem own_d3_2 : decode method_2_code 2 = .ok (.if_icmp .ne 7, 3) := by decide +kernel
theorem own_d3_5 : decode method_2_code 5 = .ok (.getstatic 7, 3) := by decide +kernel
theorem own_d3_8 : decode method_2_code 8 = .ok (.areturn, 1) := by decide +kernel
theorem own_d3_9 : decode method_2_code 9 = .ok (.iload_n 0, 1) := by decide +kernel
theorem own_d3_10 : decode method_2_code 10 = .ok (.iconst 2, 1) := by decide +kernel
theorem own_d3_11 : decode method_2_code 11 = .ok (.if_icmp .ne 7, 3) := by decide +kernel
theorem own_d3_14 : decode method_2_code 14 = .ok (.getstatic 13, 3) := by decide +kernel
theorem own_d3_17 : decode method_2_code 17 = .ok (.areturn, 1) := by decide +kernel
theorem own_d3_18 : decode method_2_code 18 = .ok (.iload_n 0, 1) := by decide +kernel
theorem own_d3_19 : decode method_2_code 19 = .ok (.iconst 3, 1) := by decide +kernel
theorem own_d3_20 : decode method_2_code 20 = .ok (.if_icmp .ne 7, 3) := by decide +kernel
theorem own_d3_23 : decode method_2_code 23 = .ok (.getstatic 16, 3) := by decide +kernel
theorem own_d3_26 : decode method_2_code 26 = .ok (.areturn, 1) := by decide +kernel
theorem own_d3_27 : decode method_2_code 27 = .ok (.iload_n 0, 1) := by decide +kernel
theorem own_d3_28 : decode method_2_code 28 = .ok (.iconst 4, 1) := by decide +kernel
theorem own_d3_29 : decode method_2_code 29 = .ok (.if_icmp .ne 7, 3) := by decide +kernel
theorem own_d3_32 : decode method_2_code 32 = .ok (.getstatic 19, 3) := by decide +kernel
theorem own_d3_35 : decode method_2_code 35 = .ok (.areturn, 1) := by decide +kernel
theorem own_d3_36 : decode method_2_code 36 = .ok (.aconst_null, 1) := by decide +kernel
theorem own_d3_37 : decode method_2_code 37 = .ok (.areturn, 1) := by decide +kernel
theorem own_pn3 : plainFor (⟨"com/example/latchwork/latchwork/RecordTypeOfPinLaw", "expected", "(I)Lcom/example/latchwork/latchwork/TransactionLog$RecordType;"⟩ : MethodName) = true := plainFor_of_name (by first | (simp [plainName, overriddenIn]; done) | decide +kernel)
set_option maxRecDepth 65536 in
set_option maxHeartbeats 40000000 in
theorem own_mexp (l : Launch) (Z : State) (a0 : Array Value) (hw : ∀ d ∈ tables_1, d.before a0 Z = true) (x : Int32) (av : Addr) (kc : ClassId) (a1 : Addr) (a2 : Addr) (a3 : Addr) (a4 : Addr) (h0 : Heap) (n0 : Nat) (hs0 : n0 ≤ h0.size) (OL : Old Z n0 h0) (z_S1 : Sta Z Z.heap "com/example/latchwork/latchwork/TransactionLog$RecordType" "COMMIT" "Lcom/example/latchwork/latchwork/TransactionLog$RecordType;" (.ref a1)) (z_S2 : Sta Z Z.heap "com/example/latchwork/latchwork/TransactionLog$RecordType" "FINISHED" "Lcom/example/latchwork/latchwork/TransactionLog$RecordType;" (.ref a2)) (z_S3 : Sta Z Z.heap "com/example/latchwork/latchwork/TransactionLog$RecordType" "STEP" "Lcom/example/latchwork/latchwork/TransactionLog$RecordType;" (.ref a3)) (z_S4 : Sta Z Z.heap "com/example/latchwork/latchwork/TransactionLog$RecordType" "UNDONE" "Lcom/example/latchwork/latchwork/TransactionLog$RecordType;" (.ref a4)) :
    own_Met l (⟨"com/example/latchwork/latchwork/RecordTypeOfPinLaw", "expected", "(I)Lcom/example/latchwork/latchwork/TransactionLog$RecordType;"⟩ : MethodName) method_2_code 1 (some (.object "com/example/latchwork/latchwork/TransactionLog$RecordType")) ({ frames := 0, cells := 0, slots := 0, locals := 0 } : Room) Z #[(.int x)] h0 n0 (fun v h' => h' = h0 ∧ v = some (own_exp x a1 a2 a3 a4)) := by
  refine own_met (Ls := #[.val (.int x)]) own_pn3 hs0 (fun m => by first | (simp [entryFrame, mkF, argsToLocals, Value.category]; done) | rfl) ?_
  intro p e s m below meth c T X
  refine own_iloadN X 1 x own_d3_0 rfl rfl ?_
  refine own_iconst X 2 (1 : Int32) own_d3_1 rfl rfl ?_
  by_cases hc2 : x = (1 : Int32)
  · refine own_icN X 5 own_d3_2 rfl (XT.ii_ne_f hc2) ?_
    refine own_getS X 8 own_d3_5 rfl (hw _ (List.mem_of_getElem? (i := 36) rfl)) Via.refl (Sta.ext OL.2 z_S1) ?_
    intro T X
    exact own_retA X (.object "com/example/latchwork/latchwork/TransactionLog$RecordType") own_d3_8 rfl rfl rfl rfl (by decide) (by decide) (⟨rfl, by simp [own_exp, *]⟩)
  · refine own_icY X 9 own_d3_2 (by decide) (by decide) (XT.ii_ne_t hc2) ?_
    refine own_iloadN X 10 x own_d3_9 rfl rfl ?_
    refine own_iconst X 11 (2 : Int32) own_d3_10 rfl rfl ?_
    by_cases hc11 : x = (2 : Int32)
    · refine own_icN X 14 own_d3_11 rfl (XT.ii_ne_f hc11) ?_
      refine own_getS X 17 own_d3_14 rfl (hw _ (List.mem_of_getElem? (i := 34) rfl)) Via.refl (Sta.ext OL.2 z_S2) ?_
      intro T X
      exact own_retA X (.object "com/example/latchwork/latchwork/TransactionLog$RecordType") own_d3_17 rfl rfl rfl rfl (by decide) (by decide) (⟨rfl, by simp [own_exp, *]⟩)
    · refine own_icY X 18 own_d3_11 (by decide) (by decide) (XT.ii_ne_t hc11) ?_
      refine own_iloadN X 19 x own_d3_18 rfl rfl ?_
      refine own_iconst X 20 (3 : Int32) own_d3_19 rfl rfl ?_
      by_cases hc20 : x = (3 : Int32)
      · refine own_icN X 23 own_d3_20 rfl (XT.ii_ne_f hc20) ?_
        refine own_getS X 26 own_d3_23 rfl (hw _ (List.mem_of_getElem? (i := 38) rfl)) Via.refl (Sta.ext OL.2 z_S3) ?_
        intro T X
        exact own_retA X (.object "com/example/latchwork/latchwork/TransactionLog$RecordType") own_d3_26 rfl rfl rfl rfl (by decide) (by decide) (⟨rfl, by simp [own_exp, *]⟩)
      · refine own_icY X 27 own_d3_20 (by decide) (by decide) (XT.ii_ne_t hc20) ?_
        refine own_iloadN X 28 x own_d3_27 rfl rfl ?_
        refine own_iconst X 29 (4 : Int32) own_d3_28 rfl rfl ?_
        by_cases hc29 : x = (4 : Int32)
        · refine own_icN X 32 own_d3_29 rfl (XT.ii_ne_f hc29) ?_
          refine own_getS X 35 own_d3_32 rfl (hw _ (List.mem_of_getElem? (i := 31) rfl)) Via.refl (Sta.ext OL.2 z_S4) ?_
          intro T X
          exact own_retA X (.object "com/example/latchwork/latchwork/TransactionLog$RecordType") own_d3_35 rfl rfl rfl rfl (by decide) (by decide) (⟨rfl, by simp [own_exp, *]⟩)
        · refine own_icY X 36 own_d3_29 (by decide) (by decide) (XT.ii_ne_t hc29) ?_
          refine own_anull X 37 own_d3_36 rfl ?_
          exact own_retA X (.object "com/example/latchwork/latchwork/TransactionLog$RecordType") own_d3_37 rfl rfl rfl rfl (by decide) (by decide) (⟨rfl, by simp [own_exp, *]⟩)
def own_pick (x : Int32) (a1 a2 a3 a4 : Addr) : Addr := if x = 0 then a1 else if x = 1 then a2 else if x = 2 then a3 else a4
theorem own_d4_0 : decode method_3_code 0 = .ok (.iload_n 0, 1) := by decide +kernel
theorem own_d4_1 : decode method_3_code 1 = .ok (.ifCond .ne 7, 3) := by decide +kernel
theorem own_d4_4 : decode method_3_code 4 = .ok (.getstatic 7, 3) := by decide +kernel
theorem own_d4_7 : decode method_3_code 7 = .ok (.areturn, 1) := by decide +kernel
theorem own_d4_8 : decode method_3_code 8 = .ok (.iload_n 0, 1) := by decide +kernel
theorem own_d4_9 : decode method_3_code 9 = .ok (.iconst 1, 1) := by decide +kernel
theorem own_d4_10 : decode method_3_code 10 = .ok (.if_icmp .ne 7, 3) := by decide +kernel
theorem own_d4_13 : decode method_3_code 13 = .ok (.getstatic 13, 3) := by decide +kernel
theorem own_d4_16 : decode method_3_code 16 = .ok (.areturn, 1) := by decide +kernel
theorem own_d4_17 : decode method_3_code 17 = .ok (.iload_n 0, 1) := by decide +kernel
theorem own_d4_18 : decode method_3_code 18 = .ok (.iconst 2, 1) := by decide +kernel
theorem own_d4_19 : decode method_3_code 19 = .ok (.if_icmp .ne 7, 3) := by decide +kernel
theorem own_d4_22 : decode method_3_code 22 = .ok (.getstatic 16, 3) := by decide +kernel
theorem own_d4_25 : decode method_3_code 25 = .ok (.areturn, 1) := by decide +kernel
theorem own_d4_26 : decode method_3_code 26 = .ok (.getstatic 19, 3) := by decide +kernel
theorem own_d4_29 : decode method_3_code 29 = .ok (.areturn, 1) := by decide +kernel
theorem own_pn4 : plainFor (⟨"com/example/latchwork/latchwork/RecordTypeOfPinLaw", "pick", "(I)Lcom/example/latchwork/latchwork/TransactionLog$RecordType;"⟩ : MethodName) = true := plainFor_of_name (by first | (simp [plainName, overriddenIn]; done) | decide +kernel)
set_option maxRecDepth 65536 in
set_option maxHeartbeats 40000000 in
theorem own_mpick (l : Launch) (Z : State) (a0 : Array Value) (hw : ∀ d ∈ tables_1, d.before a0 Z = true) (x : Int32) (av : Addr) (kc : ClassId) (a1 : Addr) (a2 : Addr) (a3 : Addr) (a4 : Addr) (h0 : Heap) (n0 : Nat) (hs0 : n0 ≤ h0.size) (OL : Old Z n0 h0) (z_S1 : Sta Z Z.heap "com/example/latchwork/latchwork/TransactionLog$RecordType" "COMMIT" "Lcom/example/latchwork/latchwork/TransactionLog$RecordType;" (.ref a1)) (z_S2 : Sta Z Z.heap "com/example/latchwork/latchwork/TransactionLog$RecordType" "FINISHED" "Lcom/example/latchwork/latchwork/TransactionLog$RecordType;" (.ref a2)) (z_S3 : Sta Z Z.heap "com/example/latchwork/latchwork/TransactionLog$RecordType" "STEP" "Lcom/example/latchwork/latchwork/TransactionLog$RecordType;" (.ref a3)) (z_S4 : Sta Z Z.heap "com/example/latchwork/latchwork/TransactionLog$RecordType" "UNDONE" "Lcom/example/latchwork/latchwork/TransactionLog$RecordType;" (.ref a4)) :
    own_Met l (⟨"com/example/latchwork/latchwork/RecordTypeOfPinLaw", "pick", "(I)Lcom/example/latchwork/latchwork/TransactionLog$RecordType;"⟩ : MethodName) method_3_code 1 (some (.object "com/example/latchwork/latchwork/TransactionLog$RecordType")) ({ frames := 0, cells := 0, slots := 0, locals := 0 } : Room) Z #[(.int x)] h0 n0 (fun v h' => h' = h0 ∧ v = some (.ref (own_pick x a1 a2 a3 a4))) := by
  refine own_met (Ls := #[.val (.int x)]) own_pn4 hs0 (fun m => by first | (simp [entryFrame, mkF, argsToLocals, Value.category]; done) | rfl) ?_
  intro p e s m below meth c T X
  refine own_iloadN X 1 x own_d4_0 rfl rfl ?_
  by_cases hc1 : x = (0 : Int32)
  · refine own_ifN X 4 own_d4_1 rfl (XT.i0_ne_f hc1) ?_
    refine own_getS X 7 own_d4_4 rfl (hw _ (List.mem_of_getElem? (i := 36) rfl)) Via.refl (Sta.ext OL.2 z_S1) ?_
    intro T X
    exact own_retA X (.object "com/example/latchwork/latchwork/TransactionLog$RecordType") own_d4_7 rfl rfl rfl rfl (by decide) (by decide) (⟨rfl, by simp [own_pick, *]⟩)
  · refine own_ifY X 8 own_d4_1 (by decide) (by decide) (XT.i0_ne_t hc1) ?_
    refine own_iloadN X 9 x own_d4_8 rfl rfl ?_
    refine own_iconst X 10 (1 : Int32) own_d4_9 rfl rfl ?_
    by_cases hc10 : x = (1 : Int32)
    · refine own_icN X 13 own_d4_10 rfl (XT.ii_ne_f hc10) ?_
      refine own_getS X 16 own_d4_13 rfl (hw _ (List.mem_of_getElem? (i := 34) rfl)) Via.refl (Sta.ext OL.2 z_S2) ?_
      intro T X
      exact own_retA X (.object "com/example/latchwork/latchwork/TransactionLog$RecordType") own_d4_16 rfl rfl rfl rfl (by decide) (by decide) (⟨rfl, by simp [own_pick, *]⟩)
    · refine own_icY X 17 own_d4_10 (by decide) (by decide) (XT.ii_ne_t hc10) ?_
      refine own_iloadN X 18 x own_d4_17 rfl rfl ?_
      refine own_iconst X 19 (2 : Int32) own_d4_18 rfl rfl ?_
      by_cases hc19 : x = (2 : Int32)
      · refine own_icN X 22 own_d4_19 rfl (XT.ii_ne_f hc19) ?_
        refine own_getS X 25 own_d4_22 rfl (hw _ (List.mem_of_getElem? (i := 38) rfl)) Via.refl (Sta.ext OL.2 z_S3) ?_
        intro T X
        exact own_retA X (.object "com/example/latchwork/latchwork/TransactionLog$RecordType") own_d4_25 rfl rfl rfl rfl (by decide) (by decide) (⟨rfl, by simp [own_pick, *]⟩)
      · refine own_icY X 26 own_d4_19 (by decide) (by decide) (XT.ii_ne_t hc19) ?_
        refine own_getS X 29 own_d4_26 rfl (hw _ (List.mem_of_getElem? (i := 31) rfl)) Via.refl (Sta.ext OL.2 z_S4) ?_
        intro T X
        exact own_retA X (.object "com/example/latchwork/latchwork/TransactionLog$RecordType") own_d4_29 rfl rfl rfl rfl (by decide) (by decide) (⟨rfl, by simp [own_pick, *]⟩)
theorem own_pd1 : parseMethodDescriptor "(I)Lcom/example/latchwork/latchwork/TransactionLog$RecordType;" = some ⟨[.int], some (.object "com/example/latchwork/latchwork/TransactionLog$RecordType")⟩ := by decide +kernel
theorem own_pn0 : plainFor x = true := plainFor_of_name (by first | (simp [plainName, overriddenIn]; done) | decide +kernel)
set_option maxRecDepth 65536 in
set_option maxHeartbeats 40000000 in
theorem own_m0 (l : Launch) (Z : State) (a0 : Array Value) (hw : ∀ d ∈ tables_1, d.before a0 Z = true) (pa : Int32) (pb : Int32) (av : Addr) (kc : ClassId) (a1 : Addr) (a2 : Addr) (a3 : Addr) (a4 : Addr) (h0 : Heap) (n0 : Nat) (hs0 : n0 ≤ h0.size) (OL : Old Z n0 h0) (z_V : Sta Z Z.heap "com/example/latchwork/latchwork/TransactionLog$RecordType" "$VALUES" "[Lcom/example/latchwork/latchwork/TransactionLog$RecordType;" (.ref av)) (z_A : own_A Z Z.heap av kc (.object "com/example/latchwork/latchwork/TransactionLog$RecordType") [(.ref a1), (.ref a2), (.ref a3), (.ref a4)]) (z_E : Exa Z Z.heap av "[Lcom/example/latchwork/latchwork/TransactionLog$RecordType;") (z_F1 : Fld Z Z.heap a1 "com/example/latchwork/latchwork/TransactionLog$RecordType" "code" "I" (.int (1 : Int32))) (z_F2 : Fld Z Z.heap a2 "com/example/latchwork/latchwork/TransactionLog$RecordType" "code" "I" (.int (2 : Int32))) (z_F3 : Fld Z Z.heap a3 "com/example/latchwork/latchwork/TransactionLog$RecordType" "code" "I" (.int (3 : Int32))) (z_F4 : Fld Z Z.heap a4 "com/example/latchwork/latchwork/TransactionLog$RecordType" "code" "I" (.int (4 : Int32))) (z_S1 : Sta Z Z.heap "com/example/latchwork/latchwork/TransactionLog$RecordType" "COMMIT" "Lcom/example/latchwork/latchwork/TransactionLog$RecordType;" (.ref a1)) (z_S2 : Sta Z Z.heap "com/example/latchwork/latchwork/TransactionLog$RecordType" "FINISHED" "Lcom/example/latchwork/latchwork/TransactionLog$RecordType;" (.ref a2)) (z_S3 : Sta Z Z.heap "com/example/latchwork/latchwork/TransactionLog$RecordType" "STEP" "Lcom/example/latchwork/latchwork/TransactionLog$RecordType;" (.ref a3)) (z_S4 : Sta Z Z.heap "com/example/latchwork/latchwork/TransactionLog$RecordType" "UNDONE" "Lcom/example/latchwork/latchwork/TransactionLog$RecordType;" (.ref a4)) :
    own_Met l x code maxLocals ret room_1 Z #[(.int pa), (.int pb)] h0 n0 (fun v h' => v = some (.int 1)) := by
  refine own_met (Ls := #[.val (.int pa), .val (.int pb), .unset, .unset, .unset, .unset]) own_pn0 hs0 (fun m => by first | (simp [entryFrame, mkF, argsToLocals, Value.category, maxLocals]; done) | rfl) ?_
  intro p e s m below meth c T X
  refine own_iloadN X 1 pa at_0 rfl rfl ?_
  refine own_callS X 4 [(.int pa)] [] at_1 rfl (hw _ (List.mem_of_getElem? (i := 0) rfl)) (hw _ (List.mem_of_getElem? (i := 1) rfl)) (hw _ (List.mem_of_getElem? (i := 2) rfl)) (hw _ (List.mem_of_getElem? (i := 3) rfl)) (by decide) (own_mof l Z a0 hw pa av kc a1 a2 a3 a4 h0 n0 X.sz OL z_V z_A z_E z_F1 z_F2 z_F3 z_F4) (fun _ _ q => q.1.1) rfl own_pd1 rfl rfl rfl (by decide) (Nat.le_of_ble_eq_true rfl) (by decide) (by decide) ?_
  rintro v1 T h1 X ⟨K_, rfl⟩
  have zs_h1 : h0.size ≤ h1.size := K_.1
  have OL := OL.keep K_ all0
  show own_Ends p e below _ (T.setTop (mkF m 4 #[.val (.int pa), .val (.int pb), .unset, .unset, .unset, .unset] [(own_of pa a1 a2 a3 a4)]))
  refine own_astoreN X 5 #[.val (.int pa), .val (.int pb), .val (own_of pa a1 a2 a3 a4), .unset, .unset, .unset] at_4 rfl (own_of_ref ..) (XS.store1 rfl (Or.inl rfl) (XT.cat1 (own_of_ref ..))) ?_
  refine own_aloadN X 6 (own_of pa a1 a2 a3 a4) at_5 rfl rfl (own_of_ref ..) ?_
  refine own_iloadN X 7 pa at_6 rfl rfl ?_
  refine own_callS X 10 [(.int pa)] [(own_of pa a1 a2 a3 a4)] at_7 rfl (hw _ (List.mem_of_getElem? (i := 24) rfl)) (hw _ (List.mem_of_getElem? (i := 25) rfl)) (hw _ (List.mem_of_getElem? (i := 26) rfl)) (hw _ (List.mem_of_getElem? (i := 27) rfl)) (by decide) (own_mexp l Z a0 hw pa av kc a1 a2 a3 a4 h1 n0 X.sz OL z_S1 z_S2 z_S3 z_S4) (fun _ _ q => Nat.le_of_eq (congrArg Array.size q.1.symm)) rfl own_pd1 rfl rfl rfl (by decide) (by simp only [List.map_cons, List.map_nil, List.sum_cons, List.sum_nil, (XT.cat1 (own_of_ref ..))]; exact Nat.le_of_ble_eq_true rfl) (by decide) (by decide) ?_
  rintro v7 T h_ X ⟨eh_, rfl⟩
  rw [eh_] at X
  show own_Ends p e below _ (T.setTop (mkF m 10 #[.val (.int pa), .val (.int pb), .val (own_of pa a1 a2 a3 a4), .unset, .unset, .unset] [(own_exp pa a1 a2 a3 a4), (own_of pa a1 a2 a3 a4)]))
  refine own_acN X 13 at_10 rfl (own_of_ref ..) (own_exp_ref ..) (XT.aa_ne_f (own_of_exp ..)) ?_
  refine own_iconst X 14 (1 : Int32) at_13 rfl rfl ?_
  refine own_goto X 18 at_14 (by decide) (by decide) ?_
  refine own_istoreN X 19 #[.val (.int pa), .val (.int pb), .val (own_of pa a1 a2 a3 a4), .val (.int (1 : Int32)), .unset, .unset] at_18 rfl rfl ?_
  refine own_iloadN X 20 pb at_19 rfl rfl ?_
  refine own_iconst X 21 (3 : Int32) at_20 rfl rfl ?_
  refine own_iand X 22 at_21 rfl ?_
  have hwh := own_and3 pb
  rcases hwh with hwh | hwh | hwh | hwh
  · rw [hwh]
    refine own_callS X 25 [(.int (0 : Int32))] [] at_22 rfl (hw _ (List.mem_of_getElem? (i := 28) rfl)) (hw _ (List.mem_of_getElem? (i := 29) rfl)) (hw _ (List.mem_of_getElem? (i := 26) rfl)) (hw _ (List.mem_of_getElem? (i := 30) rfl)) (by decide) (own_mpick l Z a0 hw (0 : Int32) av kc a1 a2 a3 a4 h1 n0 X.sz OL z_S1 z_S2 z_S3 z_S4) (fun _ _ q => Nat.le_of_eq (congrArg Array.size q.1.symm)) rfl own_pd1 rfl rfl rfl (by decide) (Nat.le_of_ble_eq_true rfl) (by decide) (by decide) ?_
    rintro v22 T h_ X ⟨eh_, rfl⟩
    rw [eh_] at X
    show own_Ends p e below _ (T.setTop (mkF m 25 #[.val (.int pa), .val (.int pb), .val (own_of pa a1 a2 a3 a4), .val (.int (1 : Int32)), .unset, .unset] [(.ref (own_pick (0 : Int32) a1 a2 a3 a4))]))
    rw [show own_pick (0 : Int32) a1 a2 a3 a4 = a1 from by simp [own_pick]]
    refine own_astore X 27 #[.val (.int pa), .val (.int pb), .val (own_of pa a1 a2 a3 a4), .val (.int (1 : Int32)), .val (.ref a1), .unset] at_25 rfl rfl rfl ?_
    refine own_aload X 29 (.ref a1) at_27 rfl rfl rfl ?_
    refine own_getF X 32 at_29 rfl (hw _ (List.mem_of_getElem? (i := 33) rfl)) Via.refl (Fld.ext OL.2 z_F1) ?_
    intro T X
    refine own_callS X 35 [(.int (1 : Int32))] [] at_32 rfl (hw _ (List.mem_of_getElem? (i := 0) rfl)) (hw _ (List.mem_of_getElem? (i := 1) rfl)) (hw _ (List.mem_of_getElem? (i := 2) rfl)) (hw _ (List.mem_of_getElem? (i := 3) rfl)) (by decide) (own_mof l Z a0 hw (1 : Int32) av kc a1 a2 a3 a4 h1 n0 X.sz OL z_V z_A z_E z_F1 z_F2 z_F3 z_F4) (fun _ _ q => q.1.1) rfl own_pd1 rfl rfl rfl (by decide) (Nat.le_of_ble_eq_true rfl) (by decide) (by decide) ?_
    rintro v32 T h2 X ⟨K_, rfl⟩
    have zs_h2 : h1.size ≤ h2.size := K_.1
    have OL := OL.keep K_ all0
    show own_Ends p e below _ (T.setTop (mkF m 35 #[.val (.int pa), .val (.int pb), .val (own_of pa a1 a2 a3 a4), .val (.int (1 : Int32)), .val (.ref a1), .unset] [(own_of (1 : Int32) a1 a2 a3 a4)]))
    rw [show own_of (1 : Int32) a1 a2 a3 a4 = .ref a1 from by simp [own_of]]
    refine own_aload X 37 (.ref a1) at_35 rfl rfl rfl ?_
    refine own_acN X 40 at_37 rfl rfl rfl (XT.aa_ne_f rfl) ?_
    refine own_iconst X 41 (1 : Int32) at_40 rfl rfl ?_
    refine own_goto X 45 at_41 (by decide) (by decide) ?_
    refine own_istore X 47 #[.val (.int pa), .val (.int pb), .val (own_of pa a1 a2 a3 a4), .val (.int (1 : Int32)), .val (.ref a1), .val (.int (1 : Int32))] at_45 rfl rfl ?_
    refine own_iloadN X 48 (1 : Int32) at_47 rfl rfl ?_
    refine own_ifN X 51 at_48 rfl (XT.i0_eq_f (by decide)) ?_
    refine own_iload X 53 (1 : Int32) at_51 rfl rfl ?_
    refine own_ifN X 56 at_53 rfl (XT.i0_eq_f (by decide)) ?_
    refine own_iconst X 57 (1 : Int32) at_56 rfl rfl ?_
    refine own_goto X 61 at_57 (by decide) (by decide) ?_
    exact own_retN X .boolean at_61 rfl (by simp) (by decide) (by decide) (by decide)
  · rw [hwh]
    refine own_callS X 25 [(.int (1 : Int32))] [] at_22 rfl (hw _ (List.mem_of_getElem? (i := 28) rfl)) (hw _ (List.mem_of_getElem? (i := 29) rfl)) (hw _ (List.mem_of_getElem? (i := 26) rfl)) (hw _ (List.mem_of_getElem? (i := 30) rfl)) (by decide) (own_mpick l Z a0 hw (1 : Int32) av kc a1 a2 a3 a4 h1 n0 X.sz OL z_S1 z_S2 z_S3 z_S4) (fun _ _ q => Nat.le_of_eq (congrArg Array.size q.1.symm)) rfl own_pd1 rfl rfl rfl (by decide) (Nat.le_of_ble_eq_true rfl) (by decide) (by decide) ?_
    rintro v22 T h_ X ⟨eh_, rfl⟩
    rw [eh_] at X
    show own_Ends p e below _ (T.setTop (mkF m 25 #[.val (.int pa), .val (.int pb), .val (own_of pa a1 a2 a3 a4), .val (.int (1 : Int32)), .unset, .unset] [(.ref (own_pick (1 : Int32) a1 a2 a3 a4))]))
    rw [show own_pick (1 : Int32) a1 a2 a3 a4 = a2 from by simp [own_pick]]
    refine own_astore X 27 #[.val (.int pa), .val (.int pb), .val (own_of pa a1 a2 a3 a4), .val (.int (1 : Int32)), .val (.ref a2), .unset] at_25 rfl rfl rfl ?_
    refine own_aload X 29 (.ref a2) at_27 rfl rfl rfl ?_
    refine own_getF X 32 at_29 rfl (hw _ (List.mem_of_getElem? (i := 33) rfl)) Via.refl (Fld.ext OL.2 z_F2) ?_
    intro T X
    refine own_callS X 35 [(.int (2 : Int32))] [] at_32 rfl (hw _ (List.mem_of_getElem? (i := 0) rfl)) (hw _ (List.mem_of_getElem? (i := 1) rfl)) (hw _ (List.mem_of_getElem? (i := 2) rfl)) (hw _ (List.mem_of_getElem? (i := 3) rfl)) (by decide) (own_mof l Z a0 hw (2 : Int32) av kc a1 a2 a3 a4 h1 n0 X.sz OL z_V z_A z_E z_F1 z_F2 z_F3 z_F4) (fun _ _ q => q.1.1) rfl own_pd1 rfl rfl rfl (by decide) (Nat.le_of_ble_eq_true rfl) (by decide) (by decide) ?_
    rintro v32 T h3 X ⟨K_, rfl⟩
    have zs_h3 : h1.size ≤ h3.size := K_.1
    have OL := OL.keep K_ all0
    show own_Ends p e below _ (T.setTop (mkF m 35 #[.val (.int pa), .val (.int pb), .val (own_of pa a1 a2 a3 a4), .val (.int (1 : Int32)), .val (.ref a2), .unset] [(own_of (2 : Int32) a1 a2 a3 a4)]))
    rw [show own_of (2 : Int32) a1 a2 a3 a4 = .ref a2 from by simp [own_of]]
    refine own_aload X 37 (.ref a2) at_35 rfl rfl rfl ?_
    refine own_acN X 40 at_37 rfl rfl rfl (XT.aa_ne_f rfl) ?_
    refine own_iconst X 41 (1 : Int32) at_40 rfl rfl ?_
    refine own_goto X 45 at_41 (by decide) (by decide) ?_
    refine own_istore X 47 #[.val (.int pa), .val (.int pb), .val (own_of pa a1 a2 a3 a4), .val (.int (1 : Int32)), .val (.ref a2), .val (.int (1 : Int32))] at_45 rfl rfl ?_
    refine own_iloadN X 48 (1 : Int32) at_47 rfl rfl ?_
    refine own_ifN X 51 at_48 rfl (XT.i0_eq_f (by decide)) ?_
    refine own_iload X 53 (1 : Int32) at_51 rfl rfl ?_
    refine own_ifN X 56 at_53 rfl (XT.i0_eq_f (by decide)) ?_
    refine own_iconst X 57 (1 : Int32) at_56 rfl rfl ?_
    refine own_goto X 61 at_57 (by decide) (by decide) ?_
    exact own_retN X .boolean at_61 rfl (by simp) (by decide) (by decide) (by decide)
  · rw [hwh]
    refine own_callS X 25 [(.int (2 : Int32))] [] at_22 rfl (hw _ (List.mem_of_getElem? (i := 28) rfl)) (hw _ (List.mem_of_getElem? (i := 29) rfl)) (hw _ (List.mem_of_getElem? (i := 26) rfl)) (hw _ (List.mem_of_getElem? (i := 30) rfl)) (by decide) (own_mpick l Z a0 hw (2 : Int32) av kc a1 a2 a3 a4 h1 n0 X.sz OL z_S1 z_S2 z_S3 z_S4) (fun _ _ q => Nat.le_of_eq (congrArg Array.size q.1.symm)) rfl own_pd1 rfl rfl rfl (by decide) (Nat.le_of_ble_eq_true rfl) (by decide) (by decide) ?_
    rintro v22 T h_ X ⟨eh_, rfl⟩
    rw [eh_] at X
    show own_Ends p e below _ (T.setTop (mkF m 25 #[.val (.int pa), .val (.int pb), .val (own_of pa a1 a2 a3 a4), .val (.int (1 : Int32)), .unset, .unset] [(.ref (own_pick (2 : Int32) a1 a2 a3 a4))]))
    rw [show own_pick (2 : Int32) a1 a2 a3 a4 = a3 from by simp [own_pick]]
    refine own_astore X 27 #[.val (.int pa), .val (.int pb), .val (own_of pa a1 a2 a3 a4), .val (.int (1 : Int32)), .val (.ref a3), .unset] at_25 rfl rfl rfl ?_
    refine own_aload X 29 (.ref a3) at_27 rfl rfl rfl ?_
    refine own_getF X 32 at_29 rfl (hw _ (List.mem_of_getElem? (i := 33) rfl)) Via.refl (Fld.ext OL.2 z_F3) ?_
    intro T X
    refine own_callS X 35 [(.int (3 : Int32))] [] at_32 rfl (hw _ (List.mem_of_getElem? (i := 0) rfl)) (hw _ (List.mem_of_getElem? (i := 1) rfl)) (hw _ (List.mem_of_getElem? (i := 2) rfl)) (hw _ (List.mem_of_getElem? (i := 3) rfl)) (by decide) (own_mof l Z a0 hw (3 : Int32) av kc a1 a2 a3 a4 h1 n0 X.sz OL z_V z_A z_E z_F1 z_F2 z_F3 z_F4) (fun _ _ q => q.1.1) rfl own_pd1 rfl rfl rfl (by decide) (Nat.le_of_ble_eq_true rfl) (by decide) (by decide) ?_
    rintro v32 T h4 X ⟨K_, rfl⟩
    have zs_h4 : h1.size ≤ h4.size := K_.1
    have OL := OL.keep K_ all0
    show own_Ends p e below _ (T.setTop (mkF m 35 #[.val (.int pa), .val (.int pb), .val (own_of pa a1 a2 a3 a4), .val (.int (1 : Int32)), .val (.ref a3), .unset] [(own_of (3 : Int32) a1 a2 a3 a4)]))
    rw [show own_of (3 : Int32) a1 a2 a3 a4 = .ref a3 from by simp [own_of]]
    refine own_aload X 37 (.ref a3) at_35 rfl rfl rfl ?_
    refine own_acN X 40 at_37 rfl rfl rfl (XT.aa_ne_f rfl) ?_
    refine own_iconst X 41 (1 : Int32) at_40 rfl rfl ?_
    refine own_goto X 45 at_41 (by decide) (by decide) ?_
    refine own_istore X 47 #[.val (.int pa), .val (.int pb), .val (own_of pa a1 a2 a3 a4), .val (.int (1 : Int32)), .val (.ref a3), .val (.int (1 : Int32))] at_45 rfl rfl ?_
    refine own_iloadN X 48 (1 : Int32) at_47 rfl rfl ?_
    refine own_ifN X 51 at_48 rfl (XT.i0_eq_f (by decide)) ?_
    refine own_iload X 53 (1 : Int32) at_51 rfl rfl ?_
    refine own_ifN X 56 at_53 rfl (XT.i0_eq_f (by decide)) ?_
    refine own_iconst X 57 (1 : Int32) at_56 rfl rfl ?_
    refine own_goto X 61 at_57 (by decide) (by decide) ?_
    exact own_retN X .boolean at_61 rfl (by simp) (by decide) (by decide) (by decide)
  · rw [hwh]
    refine own_callS X 25 [(.int (3 : Int32))] [] at_22 rfl (hw _ (List.mem_of_getElem? (i := 28) rfl)) (hw _ (List.mem_of_getElem? (i := 29) rfl)) (hw _ (List.mem_of_getElem? (i := 26) rfl)) (hw _ (List.mem_of_getElem? (i := 30) rfl)) (by decide) (own_mpick l Z a0 hw (3 : Int32) av kc a1 a2 a3 a4 h1 n0 X.sz OL z_S1 z_S2 z_S3 z_S4) (fun _ _ q => Nat.le_of_eq (congrArg Array.size q.1.symm)) rfl own_pd1 rfl rfl rfl (by decide) (Nat.le_of_ble_eq_true rfl) (by decide) (by decide) ?_
    rintro v22 T h_ X ⟨eh_, rfl⟩
    rw [eh_] at X
    show own_Ends p e below _ (T.setTop (mkF m 25 #[.val (.int pa), .val (.int pb), .val (own_of pa a1 a2 a3 a4), .val (.int (1 : Int32)), .unset, .unset] [(.ref (own_pick (3 : Int32) a1 a2 a3 a4))]))
    rw [show own_pick (3 : Int32) a1 a2 a3 a4 = a4 from by simp [own_pick]]
    refine own_astore X 27 #[.val (.int pa), .val (.int pb), .val (own_of pa a1 a2 a3 a4), .val (.int (1 : Int32)), .val (.ref a4), .unset] at_25 rfl rfl rfl ?_
    refine own_aload X 29 (.ref a4) at_27 rfl rfl rfl ?_
    refine own_getF X 32 at_29 rfl (hw _ (List.mem_of_getElem? (i := 33) rfl)) Via.refl (Fld.ext OL.2 z_F4) ?_
    intro T X
    refine own_callS X 35 [(.int (4 : Int32))] [] at_32 rfl (hw _ (List.mem_of_getElem? (i := 0) rfl)) (hw _ (List.mem_of_getElem? (i := 1) rfl)) (hw _ (List.mem_of_getElem? (i := 2) rfl)) (hw _ (List.mem_of_getElem? (i := 3) rfl)) (by decide) (own_mof l Z a0 hw (4 : Int32) av kc a1 a2 a3 a4 h1 n0 X.sz OL z_V z_A z_E z_F1 z_F2 z_F3 z_F4) (fun _ _ q => q.1.1) rfl own_pd1 rfl rfl rfl (by decide) (Nat.le_of_ble_eq_true rfl) (by decide) (by decide) ?_
    rintro v32 T h5 X ⟨K_, rfl⟩
    have zs_h5 : h1.size ≤ h5.size := K_.1
    have OL := OL.keep K_ all0
    show own_Ends p e below _ (T.setTop (mkF m 35 #[.val (.int pa), .val (.int pb), .val (own_of pa a1 a2 a3 a4), .val (.int (1 : Int32)), .val (.ref a4), .unset] [(own_of (4 : Int32) a1 a2 a3 a4)]))
    rw [show own_of (4 : Int32) a1 a2 a3 a4 = .ref a4 from by simp [own_of]]
    refine own_aload X 37 (.ref a4) at_35 rfl rfl rfl ?_
    refine own_acN X 40 at_37 rfl rfl rfl (XT.aa_ne_f rfl) ?_
    refine own_iconst X 41 (1 : Int32) at_40 rfl rfl ?_
    refine own_goto X 45 at_41 (by decide) (by decide) ?_
    refine own_istore X 47 #[.val (.int pa), .val (.int pb), .val (own_of pa a1 a2 a3 a4), .val (.int (1 : Int32)), .val (.ref a4), .val (.int (1 : Int32))] at_45 rfl rfl ?_
    refine own_iloadN X 48 (1 : Int32) at_47 rfl rfl ?_
    refine own_ifN X 51 at_48 rfl (XT.i0_eq_f (by decide)) ?_
    refine own_iload X 53 (1 : Int32) at_51 rfl rfl ?_
    refine own_ifN X 56 at_53 rfl (XT.i0_eq_f (by decide)) ?_
    refine own_iconst X 57 (1 : Int32) at_56 rfl rfl ?_
    refine own_goto X 61 at_57 (by decide) (by decide) ?_
    exact own_retN X .boolean at_61 rfl (by simp) (by decide) (by decide) (by decide)
set_option maxRecDepth 65536 in
set_option maxHeartbeats 40000000 in
theorem comes_1 {Post : Tables → Env → Array Value → State → Outcome → State → Prop} (hpost : ∀ tb e args s v u, (limb_1_1.after args s (.returned v) u = true ∧ limb_1_2.after args s (.returned v) u = true ∧ True) → FrameEnd s (.returned v) u (Jvm.fieldLocs frame_1_writes args s ++ Jvm.arrayLocs frame_1_arrays args s ++ Jvm.staticLocs frame_1_statics s) 16 128 → Post tb e args s (.returned v) u) :
    ArmFor flags0 classFile x code maxLocals ret World_1 tables_1 room_1 Calls_1 rest_1 Pre_1 Post := by
  intro l hfl _ _ p e ha hc hk s m args below hf hA hF happ hP
  obtain ⟨hcalls, hrest, hpre⟩ := hP
  obtain ⟨-, -, -, hnamed, -, -, -, hat⟩ := (Spec.applies_iff hf).mp happ
  obtain ⟨hg, hn⟩ := and_e (Cond.before_iff.mp (show (Jvm.Cond.and given_1 narrow_1).before args s = true from hpre))
  obtain ⟨hcount, hg0⟩ := and_e hg
  obtain ⟨ha0, hg1⟩ := and_e hg0
  have ha1 := hg1
  obtain ⟨w0, w1, rfl⟩ : ∃ w0 w1 : Value, args = #[w0, w1] := by
    have hs : args.size = 2 := by simpa [Cond.value, given_1] using hcount
    obtain ⟨L⟩ := args
    match L, hs with
    | [w0, w1], _ => exact ⟨w0, w1, rfl⟩
  have hw := fun d (hd : d ∈ tables_1) => atoms_spec (ws := Jvm.Cond.code x code maxLocals ret :: tables_1) hat d (List.mem_cons_of_mem _ hd)
  have hfit : Fit s := fun {y c} hc i hi => by
    obtain ⟨ha, rfl⟩ := Array.getElem?_eq_some_iff.mp hc
    have q := List.all_eq_true.mp ((Array.all_eq_true_iff_forall_mem.mp hF) _ (Array.getElem_mem ha)) i (List.mem_range.mpr hi)
    simpa [Array.getElem?_eq_getElem hi] using q
  obtain ⟨i0, ei0⟩ := is_v ha0
  obtain rfl : w0 = (.int i0) := Option.some.inj ei0
  obtain ⟨i1, ei1⟩ := is_v ha1
  obtain rfl : w1 = (.int i1) := Option.some.inj ei1
  obtain ⟨c0, hn⟩ := and_e hn
  obtain ⟨c1, hn⟩ := and_e hn
  obtain ⟨c2, hn⟩ := and_e hn
  obtain ⟨e0, hn⟩ := and_e hn
  obtain ⟨e1, hn⟩ := and_e hn
  obtain ⟨e2, hn⟩ := and_e hn
  obtain ⟨e3, hn⟩ := and_e hn
  obtain ⟨e4, hn⟩ := and_e hn
  obtain ⟨e5, hn⟩ := and_e hn
  obtain ⟨e6, hn⟩ := and_e hn
  obtain ⟨e7, hn⟩ := and_e hn
  obtain ⟨e8, hn⟩ := and_e hn
  obtain ⟨e9, hn⟩ := and_e hn
  obtain ⟨e10, hn⟩ := and_e hn
  obtain ⟨av, ev⟩ := exa_v c1
  have S1 := Sta.start ev (Or.inl (hw _ (List.mem_of_getElem? (i := 16) rfl)))
  have E1 := Exa.start ev c1
  obtain ⟨a1, v1⟩ := exa_v e0
  have F1 := Fld.start ((fld_at v1).symm.trans (own_eqInt e4))
  obtain ⟨a2, v2⟩ := exa_v e1
  have F2 := Fld.start ((fld_at v2).symm.trans (own_eqInt e5))
  obtain ⟨a3, v3⟩ := exa_v e2
  have F3 := Fld.start ((fld_at v3).symm.trans (own_eqInt e6))
  obtain ⟨a4, v4⟩ := exa_v e3
  have F4 := Fld.start ((fld_at v4).symm.trans (own_eqInt e7))
  obtain ⟨kc, A1⟩ := own_A_start (vs := [(.ref a1), (.ref a2), (.ref a3), (.ref a4)]) hfit ev c0 c2 (by show (4 : Int32).toNatClampNeg = 4; decide) (by
    intro i v hi
    rcases i with _ | _ | _ | _ | i <;> simp at hi <;> subst hi <;> assumption)
  have T4 := Sta.start (own_eqRef e8 v4) (Or.inr ⟨(hw _ (List.mem_of_getElem? (i := 2) rfl)), (hw _ (List.mem_of_getElem? (i := 32) rfl))⟩)
  have T2 := Sta.start (own_eqRef e9 v2) (Or.inr ⟨(hw _ (List.mem_of_getElem? (i := 2) rfl)), (hw _ (List.mem_of_getElem? (i := 35) rfl))⟩)
  have T1 := Sta.start (own_eqRef e10 v1) (Or.inr ⟨(hw _ (List.mem_of_getElem? (i := 2) rfl)), (hw _ (List.mem_of_getElem? (i := 37) rfl))⟩)
  have T3 := Sta.start (own_eqRef hn v3) (Or.inr ⟨(hw _ (List.mem_of_getElem? (i := 2) rfl)), (hw _ (List.mem_of_getElem? (i := 39) rfl))⟩)
  obtain ⟨n, o, h1, h2, h3, _, L, rfl, ⟨rfl, N⟩, hq⟩ := own_m0 l s _ hw i0 i1 av kc a1 a2 a3 a4 s.heap s.heap.size (Nat.le_refl _) (Old.start s) S1 A1 E1 F1 F2 F3 F4 T1 T2 T3 T4 tables_1 p e ha hc hk s m _ below hf ((Spec.applies_iff_loose hf).mp happ).1 ⟨rfl, State.Warmed39.refl s, rfl⟩ trivial
  refine ⟨n, _, h1, h2, h3, hpost _ _ _ _ _ _ ⟨Cond.after_iff.mpr rfl, Cond.after_iff.mpr (eq_i res_at (Term.int_eval (1)) rfl), trivial⟩ ⟨hq.1, hq.2.1, (hq.2.2.sift fun y hy => Or.inr (N y hy)).mono (by decide) (by decide)⟩⟩
theorem main_1_1 : Claimed_1_1 := comes_1 fun _ _ _ _ _ _ h hF => ⟨h.1, hF⟩
theorem main_1_2 : Claimed_1_2 := comes_1 fun _ _ _ _ _ _ h hF => ⟨h.2.1, hF⟩
end Jvm.Pilot.@@N@@
namespace Jvm.Pilot.@@N@@
open Jvm Jvm.ClassFile Sem Op Lib Jvm.Free Jvm.Stand Jvm.Pilot.@@N@@.Jvm.D
/-! MADE BY PROGRAM (witnessworld.py) out of the Statement's table words and the real class files: 17 classes; the members and pool entries that the words name. The judged class is class 1, her method 3. -/
namespace start1
open Jvm.ClassFile
def u (s : String) : CpInfo := .utf8 (stringToUtf16 s)
/-- a pool by its gaps: so many unusable entries, then the entry; so many at the end -/
def gap : Nat → List CpInfo → List CpInfo
  | 0, r => r
  | n + 1, r => .unusable :: gap n r
def poolList (es : List (Nat × CpInfo)) (last : Nat) : List CpInfo := es.foldr (fun e r => gap e.1 (e.2 :: r)) (gap last [])
def pool (es : List (Nat × CpInfo)) (last : Nat) : Array CpInfo := ⟨poolList es last⟩
def fileOf (pool : Array CpInfo) (this : Nat) (attrs : Array Attribute := #[]) (ms : Array MethodInfo := #[]) (fl : Nat := 33) (sup : Nat := 0) (ifs : Array Nat := #[]) (fds : Array FieldInfo := #[]) : ClassFile where
  minorVersion := 0
  majorVersion := 65
  constantPool := pool
  accessFlags := fl
  thisClass := this
  superClass := sup
  interfaces := ifs
  fields := fds
  methods := ms
  attributes := attrs
def plain (name : String) (sup : Option ClassId) : Class where
  name := name
  kind := .ordinary
  loader := none
  accessFlags := 33
  super := sup
  interfaces := #[]
  cf := none
  fields := #[]
  methods := #[]
  instanceTypes := #[]
  staticTypes := #[]
  resolved := #[]
  callSites := []
  init := .initialized
  statics := none
  mirror := none

def pool0 : Array CpInfo := pool [(5, u "<init>"), (0, u "()V"), (1, .class_ 10), (1, u "java/lang/Object"), (85, u "clone"), (0, u "()Ljava/lang/Object;")] 26

def k0m0 : Method := { name := "<init>", desc := "()V", sig := { parameters := [], returnType := none }, accessFlags := 1, code := none }
def k0m1 : Method := { name := "clone", desc := "()Ljava/lang/Object;", sig := { parameters := [], returnType := some (.object "java/lang/Object") }, accessFlags := 260, code := none }
/-- java/lang/Object -/
def k0 : Class := { plain "java/lang/Object" none with
  accessFlags := 33
  interfaces := #[]
  cf := some (fileOf pool0 8 #[] #[{ accessFlags := 1, nameIndex := 5, descriptorIndex := 6, attributes := #[] }, { accessFlags := 260, nameIndex := 96, descriptorIndex := 97, attributes := #[] }] 33 0 #[] #[])
  fields := #[]
  methods := #[k0m0, k0m1]
  instanceTypes := #[]
  staticTypes := #[]
  resolved := Array.replicate 124 none
  statics := none }

def pool1 : Array CpInfo := pool [(2, .class_ 4), (1, u "java/lang/Object"), (0, u "<init>"), (0, u "()V"), (0, .fieldref 8 9), (0, .class_ 10), (0, .nameAndType 11 12), (0, u "com/example/latchwork/latchwork/TransactionLog$RecordType"), (0, u "COMMIT"), (0, u "Lcom/example/latchwork/latchwork/TransactionLog$RecordType;"), (0, .fieldref 8 14), (0, .nameAndType 15 12), (0, u "FINISHED"), (0, .fieldref 8 17), (0, .nameAndType 18 12), (0, u "STEP"), (0, .fieldref 8 20), (0, .nameAndType 21 12), (0, u "UNDONE"), (0, .methodref 8 23), (0, .nameAndType 24 25), (0, u "of"), (0, u "(I)Lcom/example/latchwork/latchwork/TransactionLog$RecordType;"), (0, .methodref 27 28), (0, .class_ 29), (0, .nameAndType 30 25), (0, u "com/example/latchwork/latchwork/RecordTypeOfPinLaw"), (0, u "expected"), (0, .methodref 27 32), (0, .nameAndType 33 25), (0, u "pick"), (0, .fieldref 8 35), (0, .nameAndType 36 37), (0, u "code"), (0, u "I"), (3, u "law"), (0, u "(II)Z")] 6

def k1m0 : Method := { name := "<init>", desc := "()V", sig := { parameters := [], returnType := none }, accessFlags := 2, code := none }
def k1c1 : Code := { maxStack := 2, maxLocals := 1, code := method_2_code, exceptionTable := #[], attributes := #[] }
def k1m1 : Method := { name := "expected", desc := "(I)Lcom/example/latchwork/latchwork/TransactionLog$RecordType;", sig := { parameters := [.int], returnType := some (.object "com/example/latchwork/latchwork/TransactionLog$RecordType") }, accessFlags := 10, code := some k1c1 }
def k1c2 : Code := { maxStack := 2, maxLocals := 1, code := method_3_code, exceptionTable := #[], attributes := #[] }
def k1m2 : Method := { name := "pick", desc := "(I)Lcom/example/latchwork/latchwork/TransactionLog$RecordType;", sig := { parameters := [.int], returnType := some (.object "com/example/latchwork/latchwork/TransactionLog$RecordType") }, accessFlags := 10, code := some k1c2 }
def k1c3 : Code := { maxStack := 2, maxLocals := 6, code := code, exceptionTable := #[], attributes := #[] }
def k1m3 : Method := { name := "law", desc := "(II)Z", sig := { parameters := [.int, .int], returnType := some .boolean }, accessFlags := 9, code := some k1c3 }
/-- com/example/latchwork/latchwork/RecordTypeOfPinLaw -/
def k1 : Class := { plain "com/example/latchwork/latchwork/RecordTypeOfPinLaw" (some 0) with
  accessFlags := 49
  interfaces := #[]
  cf := some (fileOf pool1 27 #[] #[{ accessFlags := 2, nameIndex := 5, descriptorIndex := 6, attributes := #[] }, { accessFlags := 10, nameIndex := 30, descriptorIndex := 25, attributes := #[] }, { accessFlags := 10, nameIndex := 33, descriptorIndex := 25, attributes := #[] }, { accessFlags := 9, nameIndex := 41, descriptorIndex := 42, attributes := #[] }] 49 2 #[] #[])
  fields := #[]
  methods := #[k1m0, k1m1, k1m2, k1m3]
  instanceTypes := #[]
  staticTypes := #[]
  resolved := Array.replicate 49 none
  statics := none }

def pool2 : Array CpInfo := pool [(1, .class_ 2), (0, u "java/lang/constant/Constable"), (0, .class_ 4), (0, u "java/lang/Object")] 6

/-- java/lang/constant/Constable -/
def k2 : Class := { plain "java/lang/constant/Constable" (some 0) with
  accessFlags := 1537
  interfaces := #[]
  cf := some (fileOf pool2 1 #[] #[] 1537 3 #[] #[])
  fields := #[]
  methods := #[]
  instanceTypes := #[]
  staticTypes := #[]
  resolved := Array.replicate 11 none
  statics := none }

def pool3 : Array CpInfo := pool [(1, .class_ 2), (0, u "java/lang/Comparable"), (0, .class_ 4), (0, u "java/lang/Object")] 7

/-- java/lang/Comparable -/
def k3 : Class := { plain "java/lang/Comparable" (some 0) with
  accessFlags := 1537
  interfaces := #[]
  cf := some (fileOf pool3 1 #[] #[] 1537 3 #[] #[])
  fields := #[]
  methods := #[]
  instanceTypes := #[]
  staticTypes := #[]
  resolved := Array.replicate 12 none
  statics := none }

def pool4 : Array CpInfo := pool [(1, .class_ 2), (0, u "java/io/Serializable"), (0, .class_ 4), (0, u "java/lang/Object")] 2

/-- java/io/Serializable -/
def k4 : Class := { plain "java/io/Serializable" (some 0) with
  accessFlags := 1537
  interfaces := #[]
  cf := some (fileOf pool4 1 #[] #[] 1537 3 #[] #[])
  fields := #[]
  methods := #[]
  instanceTypes := #[]
  staticTypes := #[]
  resolved := Array.replicate 7 none
  statics := none }

def pool5 : Array CpInfo := pool [(2, .class_ 4), (1, u "java/lang/Enum"), (0, u "name"), (0, u "Ljava/lang/String;"), (2, u "ordinal"), (0, u "I"), (1, .class_ 14), (1, u "java/lang/Object"), (4, u "hash"), (86, .class_ 108), (1, u "java/lang/Enum$EnumDesc"), (2, .class_ 112), (0, u "java/lang/constant/Constable"), (0, .class_ 114), (0, u "java/lang/Comparable"), (0, .class_ 116), (0, u "java/io/Serializable")] 87

/-- java/lang/Enum -/
def k5 : Class := { plain "java/lang/Enum" (some 0) with
  accessFlags := 1057
  interfaces := #[2, 3, 4]
  cf := some (fileOf pool5 2 #[.nestMembers #[106]] #[] 1057 12 #[111, 113, 115] #[{ accessFlags := 18, nameIndex := 5, descriptorIndex := 6, attributes := #[] }, { accessFlags := 18, nameIndex := 9, descriptorIndex := 10, attributes := #[] }, { accessFlags := 2, nameIndex := 19, descriptorIndex := 10, attributes := #[] }])
  fields := #[{ name := "name", type := (.object "java/lang/String"), accessFlags := 18, slot := 0, constantValue := 0 }, { name := "ordinal", type := .int, accessFlags := 18, slot := 1, constantValue := 0 }, { name := "hash", type := .int, accessFlags := 2, slot := 2, constantValue := 0 }]
  methods := #[]
  instanceTypes := #[(.object "java/lang/String"), .int, .int]
  staticTypes := #[]
  resolved := Array.replicate 204 none
  statics := none }

def pool6 : Array CpInfo := pool [(1, .class_ 2), (0, u "com/example/latchwork/latchwork/TransactionLog"), (0, .class_ 4), (0, u "com/example/latchwork/latchwork/TransactionLog$RecordType"), (2, u "COMMIT"), (0, u "Lcom/example/latchwork/latchwork/TransactionLog$RecordType;"), (2, u "FINISHED"), (2, u "STEP"), (2, u "UNDONE"), (0, .fieldref 3 19), (0, .nameAndType 20 21), (0, u "$VALUES"), (0, u "[Lcom/example/latchwork/latchwork/TransactionLog$RecordType;"), (0, .methodref 23 24), (0, .class_ 21), (0, .nameAndType 25 26), (0, u "clone"), (0, u "()Ljava/lang/Object;"), (1, .class_ 30), (1, u "java/lang/Enum"), (6, .fieldref 3 38), (0, .nameAndType 39 40), (0, u "code"), (0, u "I"), (2, u "maxTail"), (0, .methodref 3 45), (0, .nameAndType 46 47), (0, u "values"), (0, u "()[Lcom/example/latchwork/latchwork/TransactionLog$RecordType;"), (39, u "of"), (0, u "(I)Lcom/example/latchwork/latchwork/TransactionLog$RecordType;")] 18

def k6c0 : Code := { maxStack := 1, maxLocals := 0, code := prog_15_method_1_code, exceptionTable := #[], attributes := #[] }
def k6m0 : Method := { name := "values", desc := "()[Lcom/example/latchwork/latchwork/TransactionLog$RecordType;", sig := { parameters := [], returnType := some (.array (.object "com/example/latchwork/latchwork/TransactionLog$RecordType")) }, accessFlags := 9, code := some k6c0 }
def k6c1 : Code := { maxStack := 2, maxLocals := 5, code := prog_15_method_4_code, exceptionTable := #[], attributes := #[] }
def k6m1 : Method := { name := "of", desc := "(I)Lcom/example/latchwork/latchwork/TransactionLog$RecordType;", sig := { parameters := [.int], returnType := some (.object "com/example/latchwork/latchwork/TransactionLog$RecordType") }, accessFlags := 8, code := some k6c1 }
/-- com/example/latchwork/latchwork/TransactionLog$RecordType -/
def k6 : Class := { plain "com/example/latchwork/latchwork/TransactionLog$RecordType" (some 5) with
  accessFlags := 17440
  interfaces := #[]
  cf := some (fileOf pool6 3 #[.nestHost 1] #[{ accessFlags := 9, nameIndex := 46, descriptorIndex := 47, attributes := #[] }, { accessFlags := 8, nameIndex := 87, descriptorIndex := 88, attributes := #[] }] 17440 28 #[] #[{ accessFlags := 16409, nameIndex := 7, descriptorIndex := 8, attributes := #[] }, { accessFlags := 16409, nameIndex := 11, descriptorIndex := 8, attributes := #[] }, { accessFlags := 16409, nameIndex := 14, descriptorIndex := 8, attributes := #[] }, { accessFlags := 16409, nameIndex := 17, descriptorIndex := 8, attributes := #[] }, { accessFlags := 16, nameIndex := 39, descriptorIndex := 40, attributes := #[] }, { accessFlags := 18, nameIndex := 43, descriptorIndex := 40, attributes := #[] }, { accessFlags := 4122, nameIndex := 20, descriptorIndex := 21, attributes := #[] }])
  fields := #[{ name := "COMMIT", type := (.object "com/example/latchwork/latchwork/TransactionLog$RecordType"), accessFlags := 16409, slot := 0, constantValue := 0 }, { name := "FINISHED", type := (.object "com/example/latchwork/latchwork/TransactionLog$RecordType"), accessFlags := 16409, slot := 1, constantValue := 0 }, { name := "STEP", type := (.object "com/example/latchwork/latchwork/TransactionLog$RecordType"), accessFlags := 16409, slot := 2, constantValue := 0 }, { name := "UNDONE", type := (.object "com/example/latchwork/latchwork/TransactionLog$RecordType"), accessFlags := 16409, slot := 3, constantValue := 0 }, { name := "code", type := .int, accessFlags := 16, slot := 3, constantValue := 0 }, { name := "maxTail", type := .int, accessFlags := 18, slot := 4, constantValue := 0 }, { name := "$VALUES", type := (.array (.object "com/example/latchwork/latchwork/TransactionLog$RecordType")), accessFlags := 4122, slot := 4, constantValue := 0 }]
  methods := #[k6m0, k6m1]
  instanceTypes := #[(.object "java/lang/String"), .int, .int, .int, .int]
  staticTypes := #[(.object "com/example/latchwork/latchwork/TransactionLog$RecordType"), (.object "com/example/latchwork/latchwork/TransactionLog$RecordType"), (.object "com/example/latchwork/latchwork/TransactionLog$RecordType"), (.object "com/example/latchwork/latchwork/TransactionLog$RecordType"), (.array (.object "com/example/latchwork/latchwork/TransactionLog$RecordType"))]
  resolved := Array.replicate 107 none
  statics := some 0 }

def pool7 : Array CpInfo := pool [(1, .class_ 2), (0, u "java/lang/Cloneable"), (0, .class_ 4), (0, u "java/lang/Object")] 2

/-- java/lang/Cloneable -/
def k7 : Class := { plain "java/lang/Cloneable" (some 0) with
  accessFlags := 1537
  interfaces := #[]
  cf := some (fileOf pool7 1 #[] #[] 1537 3 #[] #[])
  fields := #[]
  methods := #[]
  instanceTypes := #[]
  staticTypes := #[]
  resolved := Array.replicate 7 none
  statics := none }

def pool8 : Array CpInfo := pool [(1, .class_ 2), (0, u "com/example/latchwork/latchwork/TransactionLog"), (1, .class_ 6), (1, u "com/example/latchwork/latchwork/TransactionLog$RecordType"), (94, .class_ 102), (0, u "com/example/latchwork/latchwork/TransactionLog$RecordType$1")] 29

/-- com/example/latchwork/latchwork/TransactionLog$RecordType$1 -/
def k8 : Class := { plain "com/example/latchwork/latchwork/TransactionLog$RecordType$1" (some 6) with
  accessFlags := 16432
  interfaces := #[]
  cf := some (fileOf pool8 101 #[.nestHost 1] #[] 16432 4 #[] #[])
  fields := #[]
  methods := #[]
  instanceTypes := #[(.object "java/lang/String"), .int, .int, .int, .int]
  staticTypes := #[]
  resolved := Array.replicate 132 none
  statics := none }

def pool9 : Array CpInfo := pool [(2, .class_ 4), (1, u "com/example/latchwork/latchwork/TransactionLog$RecordType"), (13, .class_ 19), (0, u "com/example/latchwork/latchwork/TransactionLog$RecordType$2"), (11, .class_ 32), (0, u "com/example/latchwork/latchwork/TransactionLog")] 3

/-- com/example/latchwork/latchwork/TransactionLog$RecordType$2 -/
def k9 : Class := { plain "com/example/latchwork/latchwork/TransactionLog$RecordType$2" (some 6) with
  accessFlags := 16432
  interfaces := #[]
  cf := some (fileOf pool9 18 #[.nestHost 31] #[] 16432 2 #[] #[])
  fields := #[]
  methods := #[]
  instanceTypes := #[(.object "java/lang/String"), .int, .int, .int, .int]
  staticTypes := #[]
  resolved := Array.replicate 36 none
  statics := none }

def pool10 : Array CpInfo := pool [(2, .class_ 4), (1, u "com/example/latchwork/latchwork/TransactionLog$RecordType"), (16, .class_ 23), (1, u "com/example/latchwork/latchwork/TransactionLog"), (82, .class_ 107), (0, u "com/example/latchwork/latchwork/TransactionLog$RecordType$3")] 18

/-- com/example/latchwork/latchwork/TransactionLog$RecordType$3 -/
def k10 : Class := { plain "com/example/latchwork/latchwork/TransactionLog$RecordType$3" (some 6) with
  accessFlags := 16432
  interfaces := #[]
  cf := some (fileOf pool10 106 #[.nestHost 21] #[] 16432 2 #[] #[])
  fields := #[]
  methods := #[]
  instanceTypes := #[(.object "java/lang/String"), .int, .int, .int, .int]
  staticTypes := #[]
  resolved := Array.replicate 126 none
  statics := none }

def pool11 : Array CpInfo := pool [(2, .class_ 4), (1, u "com/example/latchwork/latchwork/TransactionLog$RecordType"), (44, .class_ 50), (0, u "com/example/latchwork/latchwork/TransactionLog$RecordType$4"), (12, .class_ 64), (0, u "com/example/latchwork/latchwork/TransactionLog")] 4

/-- com/example/latchwork/latchwork/TransactionLog$RecordType$4 -/
def k11 : Class := { plain "com/example/latchwork/latchwork/TransactionLog$RecordType$4" (some 6) with
  accessFlags := 16432
  interfaces := #[]
  cf := some (fileOf pool11 49 #[.nestHost 63] #[] 16432 2 #[] #[])
  fields := #[]
  methods := #[]
  instanceTypes := #[(.object "java/lang/String"), .int, .int, .int, .int]
  staticTypes := #[]
  resolved := Array.replicate 69 none
  statics := none }

/-- the primitive byte -/
def k12 : Class := { plain "byte" none with kind := .primitive 'B', accessFlags := 0x411 }
/-- [B -/
def k13 : Class := { plain "[B" (some 0) with kind := .array 12 .byte, interfaces := #[7, 4], accessFlags := 1041 }

/-- the primitive int -/
def k14 : Class := { plain "int" none with kind := .primitive 'I', accessFlags := 0x411 }
/-- [I -/
def k15 : Class := { plain "[I" (some 0) with kind := .array 14 .int, interfaces := #[7, 4], accessFlags := 1041 }

/-- [Lcom/example/latchwork/latchwork/TransactionLog$RecordType; -/
def k16 : Class := { plain "[Lcom/example/latchwork/latchwork/TransactionLog$RecordType;" (some 0) with kind := .array 6 (.object "com/example/latchwork/latchwork/TransactionLog$RecordType"), interfaces := #[7, 4], accessFlags := 1041 }

def heap : Heap := #[{ cls := 6, slots := #[.ref 2, .ref 3, .ref 4, .ref 5, .ref 1], vm := .statics 6 },
  { cls := 16, slots := #[.ref 2, .ref 3, .ref 4, .ref 5], vm := .none },
  { cls := 8, slots := #[.null, .int 0, .int 0, .int 1, .int 0], vm := .none },
  { cls := 9, slots := #[.null, .int 1, .int 0, .int 2, .int 0], vm := .none },
  { cls := 10, slots := #[.null, .int 2, .int 0, .int 3, .int 0], vm := .none },
  { cls := 11, slots := #[.null, .int 3, .int 0, .int 4, .int 0], vm := .none }]
def classes : Array Class := #[k0, k1, k2, k3, k4, k5, k6, k7, k8, k9, k10, k11, k12, k13, k14, k15, k16]
def interned : List (Array UInt16 × Addr) := []
def slotsUsed : Nat := 29
def theMethod : MethodId := ⟨1, 3⟩
def args0 : Array Value := #[.int 3, .int 2]
def aboutOver (below : List Frame) : State where
  vm := { classes := classes, interned := interned.toArray }
  heap := heap
  slotsUsed := slotsUsed
  threads := #[{ frames := .invoking theMethod args0 :: below }]
def below0 : List Frame := [.native { method := ⟨0, 0⟩, args := #[] }]
def about1 : State := aboutOver below0
def p0 : Program := .bare "" "" ""
def e0 : Env := launch0.env 0 0 0
theorem w_frames : about1.frames = Frame.invoking theMethod args0 :: below0 := rfl
set_option maxRecDepth 65536 in
theorem w_args : argsFit about1.vm theMethod args0 = true := by decide +kernel
set_option maxRecDepth 65536 in
theorem w_heap : heapFits about1 = true := by decide +kernel
set_option maxRecDepth 65536 in
theorem w_runnable : about1.curStatus? = some .runnable := by decide +kernel
set_option maxRecDepth 65536 in
theorem w_alone : about1.alone = true := by decide +kernel
set_option maxRecDepth 65536 in
theorem w_named : about1.methodNamed? x = some theMethod := by decide +kernel
set_option maxRecDepth 65536 in
theorem w_hears : about1.hears theMethod below0 = true := by decide +kernel
set_option maxRecDepth 65536 in
theorem w_ripe : about1.ripe theMethod args0 below0 = true := by decide +kernel
theorem w_running : about1.status = .running := rfl
set_option maxRecDepth 65536 in
theorem w_room : about1.hasRoom e0.platform room_1 = true :=
  launch0.hasRoom_least _ room_1 (by decide +kernel) (by decide +kernel) (by decide +kernel) (by decide +kernel) (by decide +kernel) (by decide +kernel)
theorem allAtoms_all (ts : List Jvm.Cond) (a : Array Jvm.Value) (st : Jvm.State) : (allAtoms ts).before a st = ts.all (fun c => c.before a st) := by
  induction ts with
  | nil => rfl
  | cons c t ih =>
    show (Jvm.Cond.and c (allAtoms t)).before a st = _
    rw [Jvm.Cond.before_and, ih, List.all_cons]
def words1 : List Jvm.Cond := Jvm.Cond.code x code maxLocals ret :: tables_1
/-- a 'code' word, met by the world's own term for the bytes: nothing is compared byte by byte -/
theorem code_word {y : MethodName} {bytes : ByteArray} {mx : Nat} {rt : Option FieldType} {a : Array Value} {s : State} {m : MethodId} {meth : Method} {c : Code} (h1 : s.methodNamed? y = some m) (h2 : s.vm.method? m = some meth) (h3 : meth.code = some c) (h4 : c.code = bytes)
    (h5 : (c.maxLocals == mx && c.exceptionTable.isEmpty && decide (c.maxStack ≤ mostOperands) && decide (meth.sig.returnType = rt) && !meth.locks && decide (parseMethodDescriptor y.desc = some meth.sig)) = true) : (Jvm.Cond.code y bytes mx rt).before a s = true := by
  simp only [Bool.and_eq_true, beq_iff_eq, Bool.not_eq_true', decide_eq_true_eq] at h5
  obtain ⟨⟨⟨⟨⟨g1, g2⟩, g3⟩, g4⟩, g5⟩, g6⟩ := h5
  simp [Cond.before, Cond.holds, Cond.value, h1, h2, h3, h4, g1, g2, g3, g4, g5, g6]
def isCode : Jvm.Cond → Bool
  | .code _ _ _ _ => true
  | _ => false
theorem all_split {L : List Jvm.Cond} {P : Jvm.Cond → Bool} (h1 : L.all (fun c => isCode c || P c) = true) (h2 : ∀ c ∈ L.filter isCode, P c = true) : L.all P = true := by
  refine List.all_eq_true.mpr fun c hc => ?_
  have h := List.all_eq_true.mp h1 c hc
  rcases Bool.eq_false_or_eq_true (isCode c) with hi | hi
  · exact h2 c (List.mem_filter.mpr ⟨hc, hi⟩)
  · simpa [hi] using h
set_option maxRecDepth 65536 in
theorem w_c0 : (Jvm.Cond.code x code maxLocals ret).before args0 about1 = true := code_word (m := ⟨1, 3⟩) (meth := k1m3) (c := k1c3) (by decide +kernel) rfl rfl rfl (by decide +kernel)
set_option maxRecDepth 65536 in
theorem w_c1 : (Jvm.Cond.code ({ cls := "com/example/latchwork/latchwork/TransactionLog$RecordType", name := "of", desc := "(I)Lcom/example/latchwork/latchwork/TransactionLog$RecordType;" } : Jvm.MethodName) prog_15_method_4_code (5 : Nat) (Option.some (Jvm.ClassFile.FieldType.object "com/example/latchwork/latchwork/TransactionLog$RecordType"))).before args0 about1 = true := code_word (m := ⟨6, 1⟩) (meth := k6m1) (c := k6c1) (by decide +kernel) rfl rfl rfl (by decide +kernel)
set_option maxRecDepth 65536 in
theorem w_c2 : (Jvm.Cond.code ({ cls := "com/example/latchwork/latchwork/TransactionLog$RecordType", name := "values", desc := "()[Lcom/example/latchwork/latchwork/TransactionLog$RecordType;" } : Jvm.MethodName) prog_15_method_1_code (0 : Nat) (Option.some (Jvm.ClassFile.FieldType.array (Jvm.ClassFile.FieldType.object "com/example/latchwork/latchwork/TransactionLog$RecordType")))).before args0 about1 = true := code_word (m := ⟨6, 0⟩) (meth := k6m0) (c := k6c0) (by decide +kernel) rfl rfl rfl (by decide +kernel)
set_option maxRecDepth 65536 in
theorem w_c3 : (Jvm.Cond.code ({ cls := "com/example/latchwork/latchwork/RecordTypeOfPinLaw", name := "expected", desc := "(I)Lcom/example/latchwork/latchwork/TransactionLog$RecordType;" } : Jvm.MethodName) method_2_code (1 : Nat) (Option.some (Jvm.ClassFile.FieldType.object "com/example/latchwork/latchwork/TransactionLog$RecordType"))).before args0 about1 = true := code_word (m := ⟨1, 1⟩) (meth := k1m1) (c := k1c1) (by decide +kernel) rfl rfl rfl (by decide +kernel)
set_option maxRecDepth 65536 in
theorem w_c4 : (Jvm.Cond.code ({ cls := "com/example/latchwork/latchwork/RecordTypeOfPinLaw", name := "pick", desc := "(I)Lcom/example/latchwork/latchwork/TransactionLog$RecordType;" } : Jvm.MethodName) method_3_code (1 : Nat) (Option.some (Jvm.ClassFile.FieldType.object "com/example/latchwork/latchwork/TransactionLog$RecordType"))).before args0 about1 = true := code_word (m := ⟨1, 2⟩) (meth := k1m2) (c := k1c2) (by decide +kernel) rfl rfl rfl (by decide +kernel)
def codes1 : List Jvm.Cond := [Jvm.Cond.code x code maxLocals ret, Jvm.Cond.code ({ cls := "com/example/latchwork/latchwork/TransactionLog$RecordType", name := "of", desc := "(I)Lcom/example/latchwork/latchwork/TransactionLog$RecordType;" } : Jvm.MethodName) prog_15_method_4_code (5 : Nat) (Option.some (Jvm.ClassFile.FieldType.object "com/example/latchwork/latchwork/TransactionLog$RecordType")), Jvm.Cond.code ({ cls := "com/example/latchwork/latchwork/TransactionLog$RecordType", name := "values", desc := "()[Lcom/example/latchwork/latchwork/TransactionLog$RecordType;" } : Jvm.MethodName) prog_15_method_1_code (0 : Nat) (Option.some (Jvm.ClassFile.FieldType.array (Jvm.ClassFile.FieldType.object "com/example/latchwork/latchwork/TransactionLog$RecordType"))), Jvm.Cond.code ({ cls := "com/example/latchwork/latchwork/RecordTypeOfPinLaw", name := "expected", desc := "(I)Lcom/example/latchwork/latchwork/TransactionLog$RecordType;" } : Jvm.MethodName) method_2_code (1 : Nat) (Option.some (Jvm.ClassFile.FieldType.object "com/example/latchwork/latchwork/TransactionLog$RecordType")), Jvm.Cond.code ({ cls := "com/example/latchwork/latchwork/RecordTypeOfPinLaw", name := "pick", desc := "(I)Lcom/example/latchwork/latchwork/TransactionLog$RecordType;" } : Jvm.MethodName) method_3_code (1 : Nat) (Option.some (Jvm.ClassFile.FieldType.object "com/example/latchwork/latchwork/TransactionLog$RecordType"))]
set_option maxRecDepth 65536 in
theorem codes_eq : words1.filter isCode = codes1 := rfl
theorem w_codes : ∀ c ∈ words1.filter isCode, c.before args0 about1 = true := by
  rw [codes_eq]
  intro c hc
  simp only [codes1, List.mem_cons, List.not_mem_nil, or_false] at hc
  rcases hc with rfl | rfl | rfl | rfl | rfl
  · exact w_c0
  · exact w_c1
  · exact w_c2
  · exact w_c3
  · exact w_c4
set_option maxRecDepth 65536 in
theorem w_t1 : (words1.take 24).all (fun c => isCode c || c.before args0 about1) = true := by decide +kernel
set_option maxRecDepth 65536 in
theorem w_t2 : (words1.drop 24).all (fun c => isCode c || c.before args0 about1) = true := by decide +kernel
theorem w_tables : (allAtoms (Jvm.Cond.code x code maxLocals ret :: tables_1)).before args0 about1 = true := by
  rw [allAtoms_all]
  show words1.all (fun c => c.before args0 about1) = true
  refine all_split ?_ w_codes
  rw [← List.take_append_drop 24 words1, List.all_append, w_t1, w_t2]
  rfl
set_option maxRecDepth 65536 in
theorem w_case : (Jvm.Cond.and given_1 narrow_1).before args0 about1 = true := by decide +kernel
theorem w_applies : (headSpec (Jvm.Cond.code x code maxLocals ret :: tables_1) room_1).applies x e0.platform about1 = true :=
  (Spec.applies_iff w_frames).mpr ⟨w_running, w_runnable, w_alone, w_named, w_hears, w_ripe, w_room, w_tables⟩
theorem atStart : AtStart classFile x code maxLocals ret World_1 tables_1 room_1 Calls_1 rest_1 Pre_1 launch0 p0 e0 about1 theMethod args0 below0 :=
  ⟨lists_1, trivial, launch0.admits_env _ _ _, launch0.least_env, fairChoices_fair.cas, fairChoices_fair.clock, w_frames, w_args, w_heap, w_applies, trivial, trivial, w_case⟩
end start1
theorem witness_1 : WitnessClaimed_1 := ⟨start1.p0, start1.e0, start1.about1, start1.theMethod, start1.args0, start1.below0, start1.atStart⟩
end Jvm.Pilot.@@N@@
