import JvmDerived
import JvmDerived.Pilot.@@N@@Statement
import JvmDerived.Pilot.@@N@@Code
set_option linter.unusedVariables false
set_option linter.unusedSimpArgs false
namespace Jvm.Pilot.@@N@@
open Jvm Jvm.ClassFile Sem Op Lib Jvm.Free Jvm.Stand Jvm.LawKit Jvm.RoadKit Bundle Jvm.Pilot.@@N@@.Jvm.D
section OwnRet
variable {p : Program} {l : Launch} {e : Env} {R : Room} {s : State} {m : MethodId} {args : Array Value} {below : List Frame} {meth : Method} {c : Code} {T : State} {locs : List Loc} {cells slots : Nat}
theorem own_retI0 (X : Stand p l e R s m args below meth c T locs cells slots) (hx : p.tables.exec = Jvm.exec) {pc : Nat} {Ls : Array Slot} {z : Int32} {rest : List Value} (hret : meth.sig.returnType = some .int) (hd : decode c.code pc = .ok (.ireturn, 1)) {fs : List Frame}
    (hl : ∀ (f : JFrame) (acts : List Action), f.method = m → f.locked = none → f.entered = [] → (doReturn e (T.setTop f) acts (some (.int z))).1 = T.setFrames fs) : Steps p.tables e below (T.setTop (mkF m pc Ls (.int z :: rest))) (T.setFrames fs) :=
  retOut X hx hret rfl (Or.inl ⟨rfl, Or.inl rfl, z, rfl⟩) hd hl
end OwnRet
/-- the array at a: of component type ty, its class k, and just these components -/
def own_A (Z : State) (h : Heap) (a : Addr) (kc : ClassId) (ty : FieldType) (vs : List Value) : Prop := ∃ c : Cell, Arr Z h a c ty ∧ c.cls = kc ∧ c.slots.toList = vs ∧ vs.length < 2 ^ 31 ∧ ∀ v ∈ vs, fits ty v = true
section OwnArr
variable {Z : State} {h h' : Heap} {a b : Addr} {kc : ClassId} {ty : FieldType} {vs : List Value} {sl : Nat} {v w : Value} {ws : List Addr}
theorem own_A.lt (F : own_A Z h a kc ty vs) : a < h.size := by obtain ⟨c, A, -⟩ := F; exact A.lt
theorem own_A.ext (F : own_A Z h a kc ty vs) (E : Ext h h') : own_A Z h' a kc ty vs := by obtain ⟨c, A, r⟩ := F; exact ⟨c, A.ext E, r⟩
theorem own_A.other (F : own_A Z h b kc ty vs) (W : Wr h h' a sl v) (q : b ≠ a) : own_A Z h' b kc ty vs := by obtain ⟨c, A, r⟩ := F; exact ⟨c, A.other W q, r⟩
theorem own_A.keep (F : own_A Z h a kc ty vs) (K : Keep h h' ws) (q : a ∉ ws) : own_A Z h' a kc ty vs := by obtain ⟨c, A, r⟩ := F; exact ⟨c, ⟨K.2.1 a c A.1 q, A.2⟩, r⟩
theorem own_A.same (F : own_A Z h a kc ty vs) (W : Wr h h' a sl v) (hf : fits ty v = true) : own_A Z h' a kc ty (vs.set sl v) := by
  obtain ⟨c, A, r1, r2, r3, r4⟩ := F
  refine ⟨_, A.same W, r1, by show (c.slots.setIfInBounds sl v).toList = _; rw [Array.toList_setIfInBounds, r2], by simpa using r3, fun u hu => ?_⟩
  rcases List.mem_or_eq_of_mem_set hu with q | q
  · exact r4 u q
  · exact q ▸ hf
theorem own_in {c : Cell} {j : Int32} {i : Nat} (r2 : c.slots.toList = vs) (hj : j.toNatClampNeg = i) (hj0 : ¬ j < 0) (hi : i < vs.length) : ¬ (j < 0 ∨ c.slots.size ≤ j.toNatClampNeg) := by
  rintro (q | q)
  · exact hj0 q
  · rw [hj, ← Array.length_toList, r2] at q; omega
theorem own_Ins_keep {C : String} (F : Ins Z h a C true) (K : Keep h h' ws) : Ins Z h' a C true := by
  obtain ⟨cell, cT, h1, h2, h3⟩ := F
  obtain ⟨c', q, r1, r2, -⟩ := K.2.2 a cell h1
  exact ⟨c', cT, q, h2, by rw [r1, r2]; exact h3⟩
theorem own_Sta_keep0 {C nm d : String} (F : Sta Z h C nm d v) (K : Keep h h' []) : Sta Z h' C nm d v := by
  obtain ⟨cf, i, k, f, st, cell, h1, h2, h3, h4, h5, r⟩ := F
  exact ⟨cf, i, k, f, st, cell, h1, h2, h3, h4, K.2.1 st cell h5 nin0, r⟩
theorem own_Sto {x : Addr} {C : String} (F : own_A Z h a kc ty vs) (O : Ovr Z kc C) (I : Ins Z h x C true) : Sto Z h a (.ref x) := by
  obtain ⟨c, A, r, -⟩ := F
  exact Sto.ofV A r O I
theorem own_Sto_keep (F : Sto Z h a v) (K : Keep h h' ws) : Sto Z h' a v := F.imp id fun ⟨c1, c2, k, kv, kc, cp, t, y, h1, h2, h3, h4, h5, h6, h7, h8, h9⟩ => by
  obtain ⟨c1', q1, r1, -, -⟩ := K.2.2 _ _ h1
  obtain ⟨c2', q2, r2, r3, -⟩ := K.2.2 _ _ h6
  exact ⟨c1', c2', k, kv, kc, cp, t, y, q1, by rw [r1]; exact h2, h3, h4, h5, q2, by rw [r3]; exact h7, by rw [r2]; exact h8, by rw [r2]; exact h9⟩
end OwnArr
section OwnKit
variable {p : Program} {l : Launch} {e : Env} {R : Room} {s : State} {m : MethodId} {args : Array Value} {below : List Frame} {meth : Method} {c : Code} {Z T : State} {n0 ml k n : Nat} {y : MethodName} {bytes : ByteArray} {ret : Option FieldType} {h : Heap} {a0 : Array Value} {G : State → Outcome → Prop} {Ls : Array Slot} {st : List Value} {pc : Nat}
/-- the run from this state ends, and G holds of the end -/
def own_Ends (p : Program) (e : Env) (below : List Frame) (G : State → Outcome → Prop) (S : State) : Prop := ∃ s₂ o, Steps p.tables e below S s₂ ∧ s₂.status = .running ∧ Ended s₂ below o ∧ G s₂ o
/-- what a method's end must say -/
def own_Fin (s : State) (n0 C S : Nat) (Q : Option Value → Heap → Prop) (s₂ : State) (o : Outcome) : Prop := ∃ v L, o = .returned v ∧ (Q v s₂.heap ∧ Fr n0 L) ∧ FrameEnd s o s₂ L C S
/-- where a walk stands: the state T, its heap h, k cells and n slots spent, nothing old written -/
def own_W (p : Program) (l : Launch) (e : Env) (R : Room) (s : State) (m : MethodId) (args : Array Value) (below : List Frame) (meth : Method) (c : Code) (Z : State) (n0 : Nat) (y : MethodName) (bytes : ByteArray) (ml : Nat) (ret : Option FieldType) (T : State) (h : Heap) (k n : Nat) : Prop :=
  (∃ locs, Stand p l e R s m args below meth c T locs k n ∧ Fr n0 locs) ∧ T.heap = h ∧ n0 ≤ h.size ∧ p.tables.exec = Jvm.exec ∧ Z.Warmed39 s.vm ∧ c.code = bytes ∧ c.maxLocals = ml ∧ s.vm.findClass y.cls = some m.cls ∧ meth.sig.returnType = ret ∧ meth.locks = false ∧ meth.name = y.name
/-- a body's contract: called with as' over the heap h it returns, Q holds of what it returns and of the heap that it leaves -/
def own_Met (l : Launch) (y : MethodName) (bytes : ByteArray) (ml : Nat) (ret : Option FieldType) (rm : Room) (Z : State) (as' : Array Value) (h : Heap) (n0 : Nat) (Q : Option Value → Heap → Prop) : Prop :=
  ∀ ws, MetFree l y (head1 (Jvm.Cond.code y bytes ml ret :: ws) rm) (fun a U => a = as' ∧ Z.Warmed39 U.vm ∧ U.heap = h) (fun _ _ _ _ _ => True) (fun _ U o U' => ∃ v L, o = .returned v ∧ (Q v U'.heap ∧ Fr n0 L) ∧ FrameEnd U o U' L rm.cells rm.slots)
theorem own_pre {S S' : State} (f : ∀ t, Steps p.tables e below S' t → Steps p.tables e below S t) (K : own_Ends p e below G S') : own_Ends p e below G S := by
  obtain ⟨s2, o, h1, h2⟩ := K
  exact ⟨s2, o, f _ h1, h2⟩
theorem own_W.more {k' n' : Nat} (X : own_W p l e R s m args below meth c Z n0 y bytes ml ret T h k n) (hk : k ≤ k') (hn : n ≤ n') : own_W p l e R s m args below meth c Z n0 y bytes ml ret T h k' n' := by
  obtain ⟨⟨locs, Y, N⟩, r⟩ := X
  exact ⟨⟨locs, Y.more hk hn, N⟩, r⟩
theorem own_W.sz (X : own_W p l e R s m args below meth c Z n0 y bytes ml ret T h k n) : n0 ≤ h.size := X.2.2.1
theorem own_met {rm : Room} {as' : Array Value} {Q : Option Value → Heap → Prop} (hpl : plainFor y = true) (hs0 : n0 ≤ h.size) (hef : ∀ m, entryFrame m as' ml = mkF m 0 Ls [])
    (body : ∀ (p : Program) (e : Env) (s : State) (m : MethodId) (below : List Frame) (meth : Method) (c : Code) (T : State), own_W p l e rm s m as' below meth c Z n0 y bytes ml ret T h 0 0 → own_Ends p e below (own_Fin s n0 rm.cells rm.slots Q) (T.setTop (mkF m 0 Ls []))) :
    own_Met l y bytes ml ret rm Z as' h n0 Q := by
  intro ws
  refine MetFree.of_bodySF hpl hisR ?_
  intro p e s m args below meth c s₁ Bd hml0 hP hK
  obtain ⟨rfl, hZ, hh⟩ := hP
  obtain ⟨s2, o, h1, h2, h3, h4⟩ := body p e s m below meth c s₁ ⟨⟨[], Stand.of_body Bd, Fr.nil n0⟩, by rw [← hh, Bd.state]; rfl, hs0, Bd.exec, hZ, Bd.bytes, hml0, findClass_of_methodNamed Bd.named, Bd.returns, Bd.notSynchronized, (name_of_methodNamed Bd.named Bd.method).1⟩
  exact ⟨s2, o, castTop (hef m) h1, h2, h3, h4⟩
theorem own_iloadN (X : own_W p l e R s m args below meth c Z n0 y bytes ml ret T h k n) (q : Nat) {i : Fin 4} (x : Int32) (hd : decode bytes pc = .ok (.iload_n i, 1)) (hq : pc + 1 = q) (hl : Ls[i.val]? = some (.val (.int x))) (K : own_Ends p e below G (T.setTop (mkF m q Ls (.int x :: st)))) : own_Ends p e below G (T.setTop (mkF m pc Ls st)) := by
  subst hq
  obtain ⟨⟨locs, Y, N⟩, eT, hs0, hx, hZ, hby, hml, hown, hret, hlk, hnm⟩ := X
  exact own_pre (fun t K => XS.iloadN Y.here hx rfl (hb hby hd) hl K) K
theorem own_iload (X : own_W p l e R s m args below meth c Z n0 y bytes ml ret T h k n) (q : Nat) {i : Nat} (x : Int32) (hd : decode bytes pc = .ok (.iload i, 2)) (hq : pc + 2 = q) (hl : Ls[i]? = some (.val (.int x))) (K : own_Ends p e below G (T.setTop (mkF m q Ls (.int x :: st)))) : own_Ends p e below G (T.setTop (mkF m pc Ls st)) := by
  subst hq
  obtain ⟨⟨locs, Y, N⟩, eT, hs0, hx, hZ, hby, hml, hown, hret, hlk, hnm⟩ := X
  exact own_pre (fun t K => XS.iload Y.here hx rfl (hb hby hd) hl K) K
theorem own_lloadN (X : own_W p l e R s m args below meth c Z n0 y bytes ml ret T h k n) (q : Nat) {i : Fin 4} (x : Int64) (hd : decode bytes pc = .ok (.lload_n i, 1)) (hq : pc + 1 = q) (hl : Ls[i.val]? = some (.val (.long x))) (K : own_Ends p e below G (T.setTop (mkF m q Ls (.long x :: st)))) : own_Ends p e below G (T.setTop (mkF m pc Ls st)) := by
  subst hq
  obtain ⟨⟨locs, Y, N⟩, eT, hs0, hx, hZ, hby, hml, hown, hret, hlk, hnm⟩ := X
  exact own_pre (fun t K => XS.lloadN Y.here hx rfl (hb hby hd) hl K) K
theorem own_lload (X : own_W p l e R s m args below meth c Z n0 y bytes ml ret T h k n) (q : Nat) {i : Nat} (x : Int64) (hd : decode bytes pc = .ok (.lload i, 2)) (hq : pc + 2 = q) (hl : Ls[i]? = some (.val (.long x))) (K : own_Ends p e below G (T.setTop (mkF m q Ls (.long x :: st)))) : own_Ends p e below G (T.setTop (mkF m pc Ls st)) := by
  subst hq
  obtain ⟨⟨locs, Y, N⟩, eT, hs0, hx, hZ, hby, hml, hown, hret, hlk, hnm⟩ := X
  exact own_pre (fun t K => XS.lload Y.here hx rfl (hb hby hd) hl K) K
theorem own_aloadN (X : own_W p l e R s m args below meth c Z n0 y bytes ml ret T h k n) (q : Nat) {i : Fin 4} (x : Value) (hd : decode bytes pc = .ok (.aload_n i, 1)) (hq : pc + 1 = q) (hl : Ls[i.val]? = some (.val x)) (hv : x.isRef = true) (K : own_Ends p e below G (T.setTop (mkF m q Ls (x :: st)))) : own_Ends p e below G (T.setTop (mkF m pc Ls st)) := by
  subst hq
  obtain ⟨⟨locs, Y, N⟩, eT, hs0, hx, hZ, hby, hml, hown, hret, hlk, hnm⟩ := X
  exact own_pre (fun t K => XS.aloadN Y.here hx rfl (hb hby hd) hl hv K) K
theorem own_aload (X : own_W p l e R s m args below meth c Z n0 y bytes ml ret T h k n) (q : Nat) {i : Nat} (x : Value) (hd : decode bytes pc = .ok (.aload i, 2)) (hq : pc + 2 = q) (hl : Ls[i]? = some (.val x)) (hv : x.isRef = true) (K : own_Ends p e below G (T.setTop (mkF m q Ls (x :: st)))) : own_Ends p e below G (T.setTop (mkF m pc Ls st)) := by
  subst hq
  obtain ⟨⟨locs, Y, N⟩, eT, hs0, hx, hZ, hby, hml, hown, hret, hlk, hnm⟩ := X
  exact own_pre (fun t K => XS.aload Y.here hx rfl (hb hby hd) hl hv K) K
theorem own_istoreN (X : own_W p l e R s m args below meth c Z n0 y bytes ml ret T h k n) (q : Nat) {i : Fin 4} {x : Int32} (l' : Array Slot) (hd : decode bytes pc = .ok (.istore_n i, 1)) (hq : pc + 1 = q) (hl : storeLocals Ls i.val (.int x) = some l') (K : own_Ends p e below G (T.setTop (mkF m q l' st))) : own_Ends p e below G (T.setTop (mkF m pc Ls (.int x :: st))) := by
  subst hq
  obtain ⟨⟨locs, Y, N⟩, eT, hs0, hx, hZ, hby, hml, hown, hret, hlk, hnm⟩ := X
  exact own_pre (fun t K => XS.istoreN Y.here hx rfl (hb hby hd) rfl hl K) K
theorem own_istore (X : own_W p l e R s m args below meth c Z n0 y bytes ml ret T h k n) (q : Nat) {i : Nat} {x : Int32} (l' : Array Slot) (hd : decode bytes pc = .ok (.istore i, 2)) (hq : pc + 2 = q) (hl : storeLocals Ls i (.int x) = some l') (K : own_Ends p e below G (T.setTop (mkF m q l' st))) : own_Ends p e below G (T.setTop (mkF m pc Ls (.int x :: st))) := by
  subst hq
  obtain ⟨⟨locs, Y, N⟩, eT, hs0, hx, hZ, hby, hml, hown, hret, hlk, hnm⟩ := X
  exact own_pre (fun t K => XS.istore Y.here hx rfl (hb hby hd) rfl hl K) K
theorem own_lstoreN (X : own_W p l e R s m args below meth c Z n0 y bytes ml ret T h k n) (q : Nat) {i : Fin 4} {x : Int64} (l' : Array Slot) (hd : decode bytes pc = .ok (.lstore_n i, 1)) (hq : pc + 1 = q) (hl : storeLocals Ls i.val (.long x) = some l') (K : own_Ends p e below G (T.setTop (mkF m q l' st))) : own_Ends p e below G (T.setTop (mkF m pc Ls (.long x :: st))) := by
  subst hq
  obtain ⟨⟨locs, Y, N⟩, eT, hs0, hx, hZ, hby, hml, hown, hret, hlk, hnm⟩ := X
  exact own_pre (fun t K => XS.lstoreN Y.here hx rfl (hb hby hd) rfl hl K) K
theorem own_lstore (X : own_W p l e R s m args below meth c Z n0 y bytes ml ret T h k n) (q : Nat) {i : Nat} {x : Int64} (l' : Array Slot) (hd : decode bytes pc = .ok (.lstore i, 2)) (hq : pc + 2 = q) (hl : storeLocals Ls i (.long x) = some l') (K : own_Ends p e below G (T.setTop (mkF m q l' st))) : own_Ends p e below G (T.setTop (mkF m pc Ls (.long x :: st))) := by
  subst hq
  obtain ⟨⟨locs, Y, N⟩, eT, hs0, hx, hZ, hby, hml, hown, hret, hlk, hnm⟩ := X
  exact own_pre (fun t K => XS.lstore Y.here hx rfl (hb hby hd) rfl hl K) K
theorem own_astoreN (X : own_W p l e R s m args below meth c Z n0 y bytes ml ret T h k n) (q : Nat) {i : Fin 4} {x : Value} (l' : Array Slot) (hd : decode bytes pc = .ok (.astore_n i, 1)) (hq : pc + 1 = q) (hv : x.isRef = true) (hl : storeLocals Ls i.val x = some l') (K : own_Ends p e below G (T.setTop (mkF m q l' st))) : own_Ends p e below G (T.setTop (mkF m pc Ls (x :: st))) := by
  subst hq
  obtain ⟨⟨locs, Y, N⟩, eT, hs0, hx, hZ, hby, hml, hown, hret, hlk, hnm⟩ := X
  exact own_pre (fun t K => XS.astoreN Y.here hx rfl (hb hby hd) rfl hv hl K) K
theorem own_astore (X : own_W p l e R s m args below meth c Z n0 y bytes ml ret T h k n) (q : Nat) {i : Nat} {x : Value} (l' : Array Slot) (hd : decode bytes pc = .ok (.astore i, 2)) (hq : pc + 2 = q) (hv : x.isRef = true) (hl : storeLocals Ls i x = some l') (K : own_Ends p e below G (T.setTop (mkF m q l' st))) : own_Ends p e below G (T.setTop (mkF m pc Ls (x :: st))) := by
  subst hq
  obtain ⟨⟨locs, Y, N⟩, eT, hs0, hx, hZ, hby, hml, hown, hret, hlk, hnm⟩ := X
  exact own_pre (fun t K => XS.astore Y.here hx rfl (hb hby hd) rfl hv hl K) K
theorem own_iconst (X : own_W p l e R s m args below meth c Z n0 y bytes ml ret T h k n) (q : Nat) {i : Int} (x : Int32) (hd : decode bytes pc = .ok (.iconst i, 1)) (hq : pc + 1 = q) (hv : Int32.ofInt i = x) (K : own_Ends p e below G (T.setTop (mkF m q Ls (.int x :: st)))) : own_Ends p e below G (T.setTop (mkF m pc Ls st)) := by
  subst hq
  obtain ⟨⟨locs, Y, N⟩, eT, hs0, hx, hZ, hby, hml, hown, hret, hlk, hnm⟩ := X
  exact own_pre (fun t K => XT.iconstV Y.here hx rfl x (hb hby hd) hv K) K
theorem own_bipush (X : own_W p l e R s m args below meth c Z n0 y bytes ml ret T h k n) (q : Nat) {i : Int} (x : Int32) (hd : decode bytes pc = .ok (.bipush i, 2)) (hq : pc + 2 = q) (hv : (Int8.ofInt i).toInt32 = x) (K : own_Ends p e below G (T.setTop (mkF m q Ls (.int x :: st)))) : own_Ends p e below G (T.setTop (mkF m pc Ls st)) := by
  subst hq
  obtain ⟨⟨locs, Y, N⟩, eT, hs0, hx, hZ, hby, hml, hown, hret, hlk, hnm⟩ := X
  exact own_pre (fun t K => XT.bipushV Y.here hx rfl x (hb hby hd) hv K) K
theorem own_sipush (X : own_W p l e R s m args below meth c Z n0 y bytes ml ret T h k n) (q : Nat) {i : Int} (x : Int32) (hd : decode bytes pc = .ok (.sipush i, 3)) (hq : pc + 3 = q) (hv : (Int16.ofInt i).toInt32 = x) (K : own_Ends p e below G (T.setTop (mkF m q Ls (.int x :: st)))) : own_Ends p e below G (T.setTop (mkF m pc Ls st)) := by
  subst hq
  obtain ⟨⟨locs, Y, N⟩, eT, hs0, hx, hZ, hby, hml, hown, hret, hlk, hnm⟩ := X
  exact own_pre (fun t K => XT.sipushV Y.here hx rfl x (hb hby hd) hv K) K
theorem own_lconst (X : own_W p l e R s m args below meth c Z n0 y bytes ml ret T h k n) (q : Nat) {i : Fin 2} (x : Int64) (hd : decode bytes pc = .ok (.lconst i, 1)) (hq : pc + 1 = q) (hv : Int64.ofNat i = x) (K : own_Ends p e below G (T.setTop (mkF m q Ls (.long x :: st)))) : own_Ends p e below G (T.setTop (mkF m pc Ls st)) := by
  subst hq
  obtain ⟨⟨locs, Y, N⟩, eT, hs0, hx, hZ, hby, hml, hown, hret, hlk, hnm⟩ := X
  exact own_pre (fun t K => XT.lconstV Y.here hx rfl x (hb hby hd) hv K) K
theorem own_anull (X : own_W p l e R s m args below meth c Z n0 y bytes ml ret T h k n) (q : Nat)  (hd : decode bytes pc = .ok (.aconst_null, 1)) (hq : pc + 1 = q)  (K : own_Ends p e below G (T.setTop (mkF m q Ls (.null :: st)))) : own_Ends p e below G (T.setTop (mkF m pc Ls st)) := by
  subst hq
  obtain ⟨⟨locs, Y, N⟩, eT, hs0, hx, hZ, hby, hml, hown, hret, hlk, hnm⟩ := X
  exact own_pre (fun t K => XS.aconstNull Y.here hx rfl (hb hby hd) K) K
theorem own_ldcI (X : own_W p l e R s m args below meth c Z n0 y bytes ml ret T h k n) (q : Nat) {i : Nat} {x : Int32} (hd : decode bytes pc = .ok (.ldc i, 2)) (hq : pc + 2 = q) (w : (Jvm.Cond.constant y.cls i x).before a0 Z = true) (K : own_Ends p e below G (T.setTop (mkF m q Ls (.int x :: st)))) : own_Ends p e below G (T.setTop (mkF m pc Ls st)) := by
  subst hq
  obtain ⟨⟨locs, Y, N⟩, eT, hs0, hx, hZ, hby, hml, hown, hret, hlk, hnm⟩ := X
  exact own_pre (fun t K => Y.ldcI hx hown (mvT hZ w) rfl (hb hby hd) K) K
theorem own_ldcwI (X : own_W p l e R s m args below meth c Z n0 y bytes ml ret T h k n) (q : Nat) {i : Nat} {x : Int32} (hd : decode bytes pc = .ok (.ldc_w i, 3)) (hq : pc + 3 = q) (w : (Jvm.Cond.constant y.cls i x).before a0 Z = true) (K : own_Ends p e below G (T.setTop (mkF m q Ls (.int x :: st)))) : own_Ends p e below G (T.setTop (mkF m pc Ls st)) := by
  subst hq
  obtain ⟨⟨locs, Y, N⟩, eT, hs0, hx, hZ, hby, hml, hown, hret, hlk, hnm⟩ := X
  exact own_pre (fun t K => Y.ldcWI hx hown (mvT hZ w) rfl (hb hby hd) K) K
theorem own_ldc2J (X : own_W p l e R s m args below meth c Z n0 y bytes ml ret T h k n) (q : Nat) {i : Nat} {x : Int64} (hd : decode bytes pc = .ok (.ldc2_w i, 3)) (hq : pc + 3 = q) (w : (Jvm.Cond.constantLong y.cls i x).before a0 Z = true) (K : own_Ends p e below G (T.setTop (mkF m q Ls (.long x :: st)))) : own_Ends p e below G (T.setTop (mkF m pc Ls st)) := by
  subst hq
  obtain ⟨⟨locs, Y, N⟩, eT, hs0, hx, hZ, hby, hml, hown, hret, hlk, hnm⟩ := X
  exact own_pre (fun t K => Y.ldc2J hx hown (mvT hZ w) rfl (hb hby hd) K) K
theorem own_iadd (X : own_W p l e R s m args below meth c Z n0 y bytes ml ret T h k n) (q : Nat) {x z : Int32} (hd : decode bytes pc = .ok (.iadd, 1)) (hq : pc + 1 = q)  (K : own_Ends p e below G (T.setTop (mkF m q Ls (.int (x + z) :: st)))) : own_Ends p e below G (T.setTop (mkF m pc Ls (.int z :: .int x :: st))) := by
  subst hq
  obtain ⟨⟨locs, Y, N⟩, eT, hs0, hx, hZ, hby, hml, hown, hret, hlk, hnm⟩ := X
  exact own_pre (fun t K => XS.iadd Y.here hx rfl (hb hby hd) rfl K) K
theorem own_isub (X : own_W p l e R s m args below meth c Z n0 y bytes ml ret T h k n) (q : Nat) {x z : Int32} (hd : decode bytes pc = .ok (.isub, 1)) (hq : pc + 1 = q)  (K : own_Ends p e below G (T.setTop (mkF m q Ls (.int (x - z) :: st)))) : own_Ends p e below G (T.setTop (mkF m pc Ls (.int z :: .int x :: st))) := by
  subst hq
  obtain ⟨⟨locs, Y, N⟩, eT, hs0, hx, hZ, hby, hml, hown, hret, hlk, hnm⟩ := X
  exact own_pre (fun t K => XS.isub Y.here hx rfl (hb hby hd) rfl K) K
theorem own_imul (X : own_W p l e R s m args below meth c Z n0 y bytes ml ret T h k n) (q : Nat) {x z : Int32} (hd : decode bytes pc = .ok (.imul, 1)) (hq : pc + 1 = q)  (K : own_Ends p e below G (T.setTop (mkF m q Ls (.int (x * z) :: st)))) : own_Ends p e below G (T.setTop (mkF m pc Ls (.int z :: .int x :: st))) := by
  subst hq
  obtain ⟨⟨locs, Y, N⟩, eT, hs0, hx, hZ, hby, hml, hown, hret, hlk, hnm⟩ := X
  exact own_pre (fun t K => XS.imul Y.here hx rfl (hb hby hd) rfl K) K
theorem own_iand (X : own_W p l e R s m args below meth c Z n0 y bytes ml ret T h k n) (q : Nat) {x z : Int32} (hd : decode bytes pc = .ok (.iand, 1)) (hq : pc + 1 = q)  (K : own_Ends p e below G (T.setTop (mkF m q Ls (.int (x &&& z) :: st)))) : own_Ends p e below G (T.setTop (mkF m pc Ls (.int z :: .int x :: st))) := by
  subst hq
  obtain ⟨⟨locs, Y, N⟩, eT, hs0, hx, hZ, hby, hml, hown, hret, hlk, hnm⟩ := X
  exact own_pre (fun t K => XS.iand Y.here hx rfl (hb hby hd) rfl K) K
theorem own_ior (X : own_W p l e R s m args below meth c Z n0 y bytes ml ret T h k n) (q : Nat) {x z : Int32} (hd : decode bytes pc = .ok (.ior, 1)) (hq : pc + 1 = q)  (K : own_Ends p e below G (T.setTop (mkF m q Ls (.int (x ||| z) :: st)))) : own_Ends p e below G (T.setTop (mkF m pc Ls (.int z :: .int x :: st))) := by
  subst hq
  obtain ⟨⟨locs, Y, N⟩, eT, hs0, hx, hZ, hby, hml, hown, hret, hlk, hnm⟩ := X
  exact own_pre (fun t K => XS.ior Y.here hx rfl (hb hby hd) rfl K) K
theorem own_ixor (X : own_W p l e R s m args below meth c Z n0 y bytes ml ret T h k n) (q : Nat) {x z : Int32} (hd : decode bytes pc = .ok (.ixor, 1)) (hq : pc + 1 = q)  (K : own_Ends p e below G (T.setTop (mkF m q Ls (.int (x ^^^ z) :: st)))) : own_Ends p e below G (T.setTop (mkF m pc Ls (.int z :: .int x :: st))) := by
  subst hq
  obtain ⟨⟨locs, Y, N⟩, eT, hs0, hx, hZ, hby, hml, hown, hret, hlk, hnm⟩ := X
  exact own_pre (fun t K => XS.ixor Y.here hx rfl (hb hby hd) rfl K) K
theorem own_ishl (X : own_W p l e R s m args below meth c Z n0 y bytes ml ret T h k n) (q : Nat) {x z : Int32} (hd : decode bytes pc = .ok (.ishl, 1)) (hq : pc + 1 = q)  (K : own_Ends p e below G (T.setTop (mkF m q Ls (.int (x <<< (z &&& 31)) :: st)))) : own_Ends p e below G (T.setTop (mkF m pc Ls (.int z :: .int x :: st))) := by
  subst hq
  obtain ⟨⟨locs, Y, N⟩, eT, hs0, hx, hZ, hby, hml, hown, hret, hlk, hnm⟩ := X
  exact own_pre (fun t K => XS.ishl Y.here hx rfl (hb hby hd) rfl K) K
theorem own_ishr (X : own_W p l e R s m args below meth c Z n0 y bytes ml ret T h k n) (q : Nat) {x z : Int32} (hd : decode bytes pc = .ok (.ishr, 1)) (hq : pc + 1 = q)  (K : own_Ends p e below G (T.setTop (mkF m q Ls (.int (x >>> (z &&& 31)) :: st)))) : own_Ends p e below G (T.setTop (mkF m pc Ls (.int z :: .int x :: st))) := by
  subst hq
  obtain ⟨⟨locs, Y, N⟩, eT, hs0, hx, hZ, hby, hml, hown, hret, hlk, hnm⟩ := X
  exact own_pre (fun t K => XS.ishr Y.here hx rfl (hb hby hd) rfl K) K
theorem own_iushr (X : own_W p l e R s m args below meth c Z n0 y bytes ml ret T h k n) (q : Nat) {x z : Int32} (hd : decode bytes pc = .ok (.iushr, 1)) (hq : pc + 1 = q)  (K : own_Ends p e below G (T.setTop (mkF m q Ls (.int (XT.ushr x z) :: st)))) : own_Ends p e below G (T.setTop (mkF m pc Ls (.int z :: .int x :: st))) := by
  subst hq
  obtain ⟨⟨locs, Y, N⟩, eT, hs0, hx, hZ, hby, hml, hown, hret, hlk, hnm⟩ := X
  exact own_pre (fun t K => XT.iushr Y.here hx rfl (hb hby hd) rfl K) K
theorem own_idiv (X : own_W p l e R s m args below meth c Z n0 y bytes ml ret T h k n) (q : Nat) {x z : Int32} (hd : decode bytes pc = .ok (.idiv, 1)) (hq : pc + 1 = q) (hz : z ≠ 0) (K : own_Ends p e below G (T.setTop (mkF m q Ls (.int (x / z) :: st)))) : own_Ends p e below G (T.setTop (mkF m pc Ls (.int z :: .int x :: st))) := by
  subst hq
  obtain ⟨⟨locs, Y, N⟩, eT, hs0, hx, hZ, hby, hml, hown, hret, hlk, hnm⟩ := X
  exact own_pre (fun t K => XS.idiv Y.here hx rfl (hb hby hd) rfl hz K) K
theorem own_irem (X : own_W p l e R s m args below meth c Z n0 y bytes ml ret T h k n) (q : Nat) {x z : Int32} (hd : decode bytes pc = .ok (.irem, 1)) (hq : pc + 1 = q) (hz : z ≠ 0) (K : own_Ends p e below G (T.setTop (mkF m q Ls (.int (x % z) :: st)))) : own_Ends p e below G (T.setTop (mkF m pc Ls (.int z :: .int x :: st))) := by
  subst hq
  obtain ⟨⟨locs, Y, N⟩, eT, hs0, hx, hZ, hby, hml, hown, hret, hlk, hnm⟩ := X
  exact own_pre (fun t K => iremM Y hx rfl (hb hby hd) rfl hz K) K
theorem own_ineg (X : own_W p l e R s m args below meth c Z n0 y bytes ml ret T h k n) (q : Nat) {x : Int32} (hd : decode bytes pc = .ok (.ineg, 1)) (hq : pc + 1 = q)  (K : own_Ends p e below G (T.setTop (mkF m q Ls (.int (-x) :: st)))) : own_Ends p e below G (T.setTop (mkF m pc Ls (.int x :: st))) := by
  subst hq
  obtain ⟨⟨locs, Y, N⟩, eT, hs0, hx, hZ, hby, hml, hown, hret, hlk, hnm⟩ := X
  exact own_pre (fun t K => XS.ineg Y.here hx rfl (hb hby hd) rfl K) K
theorem own_i2b (X : own_W p l e R s m args below meth c Z n0 y bytes ml ret T h k n) (q : Nat) {x : Int32} (hd : decode bytes pc = .ok (.i2b, 1)) (hq : pc + 1 = q)  (K : own_Ends p e below G (T.setTop (mkF m q Ls (.int (x.toInt8.toInt32) :: st)))) : own_Ends p e below G (T.setTop (mkF m pc Ls (.int x :: st))) := by
  subst hq
  obtain ⟨⟨locs, Y, N⟩, eT, hs0, hx, hZ, hby, hml, hown, hret, hlk, hnm⟩ := X
  exact own_pre (fun t K => XS.i2b Y.here hx rfl (hb hby hd) rfl K) K
theorem own_i2s (X : own_W p l e R s m args below meth c Z n0 y bytes ml ret T h k n) (q : Nat) {x : Int32} (hd : decode bytes pc = .ok (.i2s, 1)) (hq : pc + 1 = q)  (K : own_Ends p e below G (T.setTop (mkF m q Ls (.int (x.toInt16.toInt32) :: st)))) : own_Ends p e below G (T.setTop (mkF m pc Ls (.int x :: st))) := by
  subst hq
  obtain ⟨⟨locs, Y, N⟩, eT, hs0, hx, hZ, hby, hml, hown, hret, hlk, hnm⟩ := X
  exact own_pre (fun t K => XS.i2s Y.here hx rfl (hb hby hd) rfl K) K
theorem own_i2c (X : own_W p l e R s m args below meth c Z n0 y bytes ml ret T h k n) (q : Nat) {x : Int32} (hd : decode bytes pc = .ok (.i2c, 1)) (hq : pc + 1 = q)  (K : own_Ends p e below G (T.setTop (mkF m q Ls (.int (x.toUInt32.toUInt16.toUInt32.toInt32) :: st)))) : own_Ends p e below G (T.setTop (mkF m pc Ls (.int x :: st))) := by
  subst hq
  obtain ⟨⟨locs, Y, N⟩, eT, hs0, hx, hZ, hby, hml, hown, hret, hlk, hnm⟩ := X
  exact own_pre (fun t K => XS.i2c Y.here hx rfl (hb hby hd) rfl K) K
theorem own_i2l (X : own_W p l e R s m args below meth c Z n0 y bytes ml ret T h k n) (q : Nat) {x : Int32} (hd : decode bytes pc = .ok (.i2l, 1)) (hq : pc + 1 = q)  (K : own_Ends p e below G (T.setTop (mkF m q Ls (.long x.toInt64 :: st)))) : own_Ends p e below G (T.setTop (mkF m pc Ls (.int x :: st))) := by
  subst hq
  obtain ⟨⟨locs, Y, N⟩, eT, hs0, hx, hZ, hby, hml, hown, hret, hlk, hnm⟩ := X
  exact own_pre (fun t K => XS.i2l Y.here hx rfl (hb hby hd) rfl K) K
theorem own_l2i (X : own_W p l e R s m args below meth c Z n0 y bytes ml ret T h k n) (q : Nat) {x : Int64} (hd : decode bytes pc = .ok (.l2i, 1)) (hq : pc + 1 = q)  (K : own_Ends p e below G (T.setTop (mkF m q Ls (.int x.toInt32 :: st)))) : own_Ends p e below G (T.setTop (mkF m pc Ls (.long x :: st))) := by
  subst hq
  obtain ⟨⟨locs, Y, N⟩, eT, hs0, hx, hZ, hby, hml, hown, hret, hlk, hnm⟩ := X
  exact own_pre (fun t K => XS.l2i Y.here hx rfl (hb hby hd) rfl K) K
theorem own_ladd (X : own_W p l e R s m args below meth c Z n0 y bytes ml ret T h k n) (q : Nat) {x z : Int64} (hd : decode bytes pc = .ok (.ladd, 1)) (hq : pc + 1 = q)  (K : own_Ends p e below G (T.setTop (mkF m q Ls (.long (x + z) :: st)))) : own_Ends p e below G (T.setTop (mkF m pc Ls (.long z :: .long x :: st))) := by
  subst hq
  obtain ⟨⟨locs, Y, N⟩, eT, hs0, hx, hZ, hby, hml, hown, hret, hlk, hnm⟩ := X
  exact own_pre (fun t K => XS.ladd Y.here hx rfl (hb hby hd) rfl K) K
theorem own_lsub (X : own_W p l e R s m args below meth c Z n0 y bytes ml ret T h k n) (q : Nat) {x z : Int64} (hd : decode bytes pc = .ok (.lsub, 1)) (hq : pc + 1 = q)  (K : own_Ends p e below G (T.setTop (mkF m q Ls (.long (x - z) :: st)))) : own_Ends p e below G (T.setTop (mkF m pc Ls (.long z :: .long x :: st))) := by
  subst hq
  obtain ⟨⟨locs, Y, N⟩, eT, hs0, hx, hZ, hby, hml, hown, hret, hlk, hnm⟩ := X
  exact own_pre (fun t K => XS.lsub Y.here hx rfl (hb hby hd) rfl K) K
theorem own_lmul (X : own_W p l e R s m args below meth c Z n0 y bytes ml ret T h k n) (q : Nat) {x z : Int64} (hd : decode bytes pc = .ok (.lmul, 1)) (hq : pc + 1 = q)  (K : own_Ends p e below G (T.setTop (mkF m q Ls (.long (x * z) :: st)))) : own_Ends p e below G (T.setTop (mkF m pc Ls (.long z :: .long x :: st))) := by
  subst hq
  obtain ⟨⟨locs, Y, N⟩, eT, hs0, hx, hZ, hby, hml, hown, hret, hlk, hnm⟩ := X
  exact own_pre (fun t K => XS.lmul Y.here hx rfl (hb hby hd) rfl K) K
theorem own_land (X : own_W p l e R s m args below meth c Z n0 y bytes ml ret T h k n) (q : Nat) {x z : Int64} (hd : decode bytes pc = .ok (.land, 1)) (hq : pc + 1 = q)  (K : own_Ends p e below G (T.setTop (mkF m q Ls (.long (x &&& z) :: st)))) : own_Ends p e below G (T.setTop (mkF m pc Ls (.long z :: .long x :: st))) := by
  subst hq
  obtain ⟨⟨locs, Y, N⟩, eT, hs0, hx, hZ, hby, hml, hown, hret, hlk, hnm⟩ := X
  exact own_pre (fun t K => XS.land Y.here hx rfl (hb hby hd) rfl K) K
theorem own_lor (X : own_W p l e R s m args below meth c Z n0 y bytes ml ret T h k n) (q : Nat) {x z : Int64} (hd : decode bytes pc = .ok (.lor, 1)) (hq : pc + 1 = q)  (K : own_Ends p e below G (T.setTop (mkF m q Ls (.long (x ||| z) :: st)))) : own_Ends p e below G (T.setTop (mkF m pc Ls (.long z :: .long x :: st))) := by
  subst hq
  obtain ⟨⟨locs, Y, N⟩, eT, hs0, hx, hZ, hby, hml, hown, hret, hlk, hnm⟩ := X
  exact own_pre (fun t K => XS.lor Y.here hx rfl (hb hby hd) rfl K) K
theorem own_lxor (X : own_W p l e R s m args below meth c Z n0 y bytes ml ret T h k n) (q : Nat) {x z : Int64} (hd : decode bytes pc = .ok (.lxor, 1)) (hq : pc + 1 = q)  (K : own_Ends p e below G (T.setTop (mkF m q Ls (.long (x ^^^ z) :: st)))) : own_Ends p e below G (T.setTop (mkF m pc Ls (.long z :: .long x :: st))) := by
  subst hq
  obtain ⟨⟨locs, Y, N⟩, eT, hs0, hx, hZ, hby, hml, hown, hret, hlk, hnm⟩ := X
  exact own_pre (fun t K => XS.lxor Y.here hx rfl (hb hby hd) rfl K) K
theorem own_lushr (X : own_W p l e R s m args below meth c Z n0 y bytes ml ret T h k n) (q : Nat) {x : Int64} {z : Int32} (hd : decode bytes pc = .ok (.lushr, 1)) (hq : pc + 1 = q)  (K : own_Ends p e below G (T.setTop (mkF m q Ls (.long (XT.ushrL x z) :: st)))) : own_Ends p e below G (T.setTop (mkF m pc Ls (.int z :: .long x :: st))) := by
  subst hq
  obtain ⟨⟨locs, Y, N⟩, eT, hs0, hx, hZ, hby, hml, hown, hret, hlk, hnm⟩ := X
  exact own_pre (fun t K => XT.lushr Y.here hx rfl (hb hby hd) rfl K) K
theorem own_ldiv (X : own_W p l e R s m args below meth c Z n0 y bytes ml ret T h k n) (q : Nat) {x z : Int64} (hd : decode bytes pc = .ok (.ldiv, 1)) (hq : pc + 1 = q) (hz : z ≠ 0) (K : own_Ends p e below G (T.setTop (mkF m q Ls (.long (x / z) :: st)))) : own_Ends p e below G (T.setTop (mkF m pc Ls (.long z :: .long x :: st))) := by
  subst hq
  obtain ⟨⟨locs, Y, N⟩, eT, hs0, hx, hZ, hby, hml, hown, hret, hlk, hnm⟩ := X
  exact own_pre (fun t K => XS.ldiv Y.here hx rfl (hb hby hd) rfl hz K) K
theorem own_lrem (X : own_W p l e R s m args below meth c Z n0 y bytes ml ret T h k n) (q : Nat) {x z : Int64} (hd : decode bytes pc = .ok (.lrem, 1)) (hq : pc + 1 = q) (hz : z ≠ 0) (K : own_Ends p e below G (T.setTop (mkF m q Ls (.long (x - (x / z) * z) :: st)))) : own_Ends p e below G (T.setTop (mkF m pc Ls (.long z :: .long x :: st))) := by
  subst hq
  obtain ⟨⟨locs, Y, N⟩, eT, hs0, hx, hZ, hby, hml, hown, hret, hlk, hnm⟩ := X
  exact own_pre (fun t K => XS.lrem Y.here hx rfl (hb hby hd) rfl hz K) K
theorem own_lneg (X : own_W p l e R s m args below meth c Z n0 y bytes ml ret T h k n) (q : Nat) {x : Int64} (hd : decode bytes pc = .ok (.lneg, 1)) (hq : pc + 1 = q)  (K : own_Ends p e below G (T.setTop (mkF m q Ls (.long (-x) :: st)))) : own_Ends p e below G (T.setTop (mkF m pc Ls (.long x :: st))) := by
  subst hq
  obtain ⟨⟨locs, Y, N⟩, eT, hs0, hx, hZ, hby, hml, hown, hret, hlk, hnm⟩ := X
  exact own_pre (fun t K => XS.lneg Y.here hx rfl (hb hby hd) rfl K) K
theorem own_lcmp (X : own_W p l e R s m args below meth c Z n0 y bytes ml ret T h k n) (q : Nat) {x z : Int64} (hd : decode bytes pc = .ok (.lcmp, 1)) (hq : pc + 1 = q)  (K : own_Ends p e below G (T.setTop (mkF m q Ls (.int (XT.cmpL x z) :: st)))) : own_Ends p e below G (T.setTop (mkF m pc Ls (.long z :: .long x :: st))) := by
  subst hq
  obtain ⟨⟨locs, Y, N⟩, eT, hs0, hx, hZ, hby, hml, hown, hret, hlk, hnm⟩ := X
  exact own_pre (fun t K => XT.lcmp Y.here hx rfl (hb hby hd) rfl K) K
theorem own_iinc (X : own_W p l e R s m args below meth c Z n0 y bytes ml ret T h k n) (q : Nat) {i : Nat} {cst : Int} {x : Int32} (v : Int32) (l' : Array Slot) (hd : decode bytes pc = .ok (.iinc i cst, 3)) (hq : pc + 3 = q) (hv : Int32.ofInt cst = v) (hl : Ls[i]? = some (.val (.int x))) (hl' : storeLocals Ls i (.int (x + v)) = some l') (K : own_Ends p e below G (T.setTop (mkF m q l' st))) : own_Ends p e below G (T.setTop (mkF m pc Ls st)) := by
  subst hq
  obtain ⟨⟨locs, Y, N⟩, eT, hs0, hx, hZ, hby, hml, hown, hret, hlk, hnm⟩ := X
  exact own_pre (fun t K => XT.iincV Y.here hx rfl v (hb hby hd) hv hl hl' K) K
theorem own_dup (X : own_W p l e R s m args below meth c Z n0 y bytes ml ret T h k n) (q : Nat) {x : Value} (hd : decode bytes pc = .ok (.dup, 1)) (hq : pc + 1 = q) (hc : x.category = 1) (K : own_Ends p e below G (T.setTop (mkF m q Ls (x :: x :: st)))) : own_Ends p e below G (T.setTop (mkF m pc Ls (x :: st))) := by
  subst hq
  obtain ⟨⟨locs, Y, N⟩, eT, hs0, hx, hZ, hby, hml, hown, hret, hlk, hnm⟩ := X
  exact own_pre (fun t K => XS.dup Y.here hx rfl (hb hby hd) rfl hc K) K
theorem own_dupX1 (X : own_W p l e R s m args below meth c Z n0 y bytes ml ret T h k n) (q : Nat) {x z : Value} (hd : decode bytes pc = .ok (.dup_x1, 1)) (hq : pc + 1 = q) (hc : x.category = 1) (hc' : z.category = 1) (K : own_Ends p e below G (T.setTop (mkF m q Ls (x :: z :: x :: st)))) : own_Ends p e below G (T.setTop (mkF m pc Ls (x :: z :: st))) := by
  subst hq
  obtain ⟨⟨locs, Y, N⟩, eT, hs0, hx, hZ, hby, hml, hown, hret, hlk, hnm⟩ := X
  exact own_pre (fun t K => XS.dupX1 Y.here hx rfl (hb hby hd) rfl hc hc' K) K
theorem own_dup2 (X : own_W p l e R s m args below meth c Z n0 y bytes ml ret T h k n) (q : Nat) {x z : Value} (hd : decode bytes pc = .ok (.dup2, 1)) (hq : pc + 1 = q) (hc : x.category = 1) (hc' : z.category = 1) (K : own_Ends p e below G (T.setTop (mkF m q Ls (x :: z :: x :: z :: st)))) : own_Ends p e below G (T.setTop (mkF m pc Ls (x :: z :: st))) := by
  subst hq
  obtain ⟨⟨locs, Y, N⟩, eT, hs0, hx, hZ, hby, hml, hown, hret, hlk, hnm⟩ := X
  exact own_pre (fun t K => XT.dup2 Y.here hx rfl (hb hby hd) rfl hc hc' K) K
theorem own_dup2L (X : own_W p l e R s m args below meth c Z n0 y bytes ml ret T h k n) (q : Nat) {x : Int64} (hd : decode bytes pc = .ok (.dup2, 1)) (hq : pc + 1 = q)  (K : own_Ends p e below G (T.setTop (mkF m q Ls (.long x :: .long x :: st)))) : own_Ends p e below G (T.setTop (mkF m pc Ls (.long x :: st))) := by
  subst hq
  obtain ⟨⟨locs, Y, N⟩, eT, hs0, hx, hZ, hby, hml, hown, hret, hlk, hnm⟩ := X
  exact own_pre (fun t K => XT.dup2L Y.here hx rfl (hb hby hd) rfl K) K
theorem own_pop (X : own_W p l e R s m args below meth c Z n0 y bytes ml ret T h k n) (q : Nat) {x : Value} (hd : decode bytes pc = .ok (.pop, 1)) (hq : pc + 1 = q) (hc : x.category = 1) (K : own_Ends p e below G (T.setTop (mkF m q Ls st))) : own_Ends p e below G (T.setTop (mkF m pc Ls (x :: st))) := by
  subst hq
  obtain ⟨⟨locs, Y, N⟩, eT, hs0, hx, hZ, hby, hml, hown, hret, hlk, hnm⟩ := X
  exact own_pre (fun t K => XS.pop Y.here hx rfl (hb hby hd) rfl hc K) K
theorem own_goto (X : own_W p l e R s m args below meth c Z n0 y bytes ml ret T h k n) (q : Nat) {o : Int}  (hd : decode bytes pc = .ok (.goto o, 3)) (ho : 0 ≤ (pc : Int) + o) (hq : ((pc : Int) + o).toNat = q)  (K : own_Ends p e below G (T.setTop (mkF m q Ls st))) : own_Ends p e below G (T.setTop (mkF m pc Ls st)) := by
  obtain ⟨⟨locs, Y, N⟩, eT, hs0, hx, hZ, hby, hml, hown, hret, hlk, hnm⟩ := X
  exact own_pre (fun t K => XS.goto Y.here hx rfl rfl (hb hby hd) ho hq K) K
theorem own_ifY (X : own_W p l e R s m args below meth c Z n0 y bytes ml ret T h k n) (q : Nat) {o : Int} {cd : ClassFile.Cond} {x : Int32} (hd : decode bytes pc = .ok (.ifCond cd o, 3)) (ho : 0 ≤ (pc : Int) + o) (hq : ((pc : Int) + o).toNat = q) (hc : ifCond.holds cd x = true) (K : own_Ends p e below G (T.setTop (mkF m q Ls st))) : own_Ends p e below G (T.setTop (mkF m pc Ls (.int x :: st))) := by
  obtain ⟨⟨locs, Y, N⟩, eT, hs0, hx, hZ, hby, hml, hown, hret, hlk, hnm⟩ := X
  exact own_pre (fun t K => XS.ifYes Y.here hx rfl rfl (hb hby hd) rfl hc ho hq K) K
theorem own_ifN (X : own_W p l e R s m args below meth c Z n0 y bytes ml ret T h k n) (q : Nat) {o : Int} {cd : ClassFile.Cond} {x : Int32} (hd : decode bytes pc = .ok (.ifCond cd o, 3)) (hq : pc + 3 = q) (hc : ifCond.holds cd x = false) (K : own_Ends p e below G (T.setTop (mkF m q Ls st))) : own_Ends p e below G (T.setTop (mkF m pc Ls (.int x :: st))) := by
  subst hq
  obtain ⟨⟨locs, Y, N⟩, eT, hs0, hx, hZ, hby, hml, hown, hret, hlk, hnm⟩ := X
  exact own_pre (fun t K => XS.ifNo Y.here hx rfl (hb hby hd) rfl hc K) K
theorem own_icY (X : own_W p l e R s m args below meth c Z n0 y bytes ml ret T h k n) (q : Nat) {o : Int} {cd : ClassFile.Cond} {x z : Int32} (hd : decode bytes pc = .ok (.if_icmp cd o, 3)) (ho : 0 ≤ (pc : Int) + o) (hq : ((pc : Int) + o).toNat = q) (hc : if_icmp.holds cd x z = true) (K : own_Ends p e below G (T.setTop (mkF m q Ls st))) : own_Ends p e below G (T.setTop (mkF m pc Ls (.int z :: .int x :: st))) := by
  obtain ⟨⟨locs, Y, N⟩, eT, hs0, hx, hZ, hby, hml, hown, hret, hlk, hnm⟩ := X
  exact own_pre (fun t K => XS.icmpYes Y.here hx rfl rfl (hb hby hd) rfl hc ho hq K) K
theorem own_icN (X : own_W p l e R s m args below meth c Z n0 y bytes ml ret T h k n) (q : Nat) {o : Int} {cd : ClassFile.Cond} {x z : Int32} (hd : decode bytes pc = .ok (.if_icmp cd o, 3)) (hq : pc + 3 = q) (hc : if_icmp.holds cd x z = false) (K : own_Ends p e below G (T.setTop (mkF m q Ls st))) : own_Ends p e below G (T.setTop (mkF m pc Ls (.int z :: .int x :: st))) := by
  subst hq
  obtain ⟨⟨locs, Y, N⟩, eT, hs0, hx, hZ, hby, hml, hown, hret, hlk, hnm⟩ := X
  exact own_pre (fun t K => XS.icmpNo Y.here hx rfl (hb hby hd) rfl hc K) K
theorem own_nullY (X : own_W p l e R s m args below meth c Z n0 y bytes ml ret T h k n) (q : Nat) {o : Int}  (hd : decode bytes pc = .ok (.ifnull o, 3)) (ho : 0 ≤ (pc : Int) + o) (hq : ((pc : Int) + o).toNat = q)  (K : own_Ends p e below G (T.setTop (mkF m q Ls st))) : own_Ends p e below G (T.setTop (mkF m pc Ls (.null :: st))) := by
  obtain ⟨⟨locs, Y, N⟩, eT, hs0, hx, hZ, hby, hml, hown, hret, hlk, hnm⟩ := X
  exact own_pre (fun t K => XS.ifnullYes Y.here hx rfl rfl (hb hby hd) rfl ho hq K) K
theorem own_nullN (X : own_W p l e R s m args below meth c Z n0 y bytes ml ret T h k n) (q : Nat) {o : Int} {b : Addr} (hd : decode bytes pc = .ok (.ifnull o, 3)) (hq : pc + 3 = q)  (K : own_Ends p e below G (T.setTop (mkF m q Ls st))) : own_Ends p e below G (T.setTop (mkF m pc Ls (.ref b :: st))) := by
  subst hq
  obtain ⟨⟨locs, Y, N⟩, eT, hs0, hx, hZ, hby, hml, hown, hret, hlk, hnm⟩ := X
  exact own_pre (fun t K => XS.ifnullNo Y.here hx rfl (hb hby hd) rfl K) K
theorem own_nonnullY (X : own_W p l e R s m args below meth c Z n0 y bytes ml ret T h k n) (q : Nat) {o : Int} {b : Addr} (hd : decode bytes pc = .ok (.ifnonnull o, 3)) (ho : 0 ≤ (pc : Int) + o) (hq : ((pc : Int) + o).toNat = q)  (K : own_Ends p e below G (T.setTop (mkF m q Ls st))) : own_Ends p e below G (T.setTop (mkF m pc Ls (.ref b :: st))) := by
  obtain ⟨⟨locs, Y, N⟩, eT, hs0, hx, hZ, hby, hml, hown, hret, hlk, hnm⟩ := X
  exact own_pre (fun t K => XS.ifnonnullYes Y.here hx rfl rfl (hb hby hd) rfl ho hq K) K
theorem own_nonnullN (X : own_W p l e R s m args below meth c Z n0 y bytes ml ret T h k n) (q : Nat) {o : Int}  (hd : decode bytes pc = .ok (.ifnonnull o, 3)) (hq : pc + 3 = q)  (K : own_Ends p e below G (T.setTop (mkF m q Ls st))) : own_Ends p e below G (T.setTop (mkF m pc Ls (.null :: st))) := by
  subst hq
  obtain ⟨⟨locs, Y, N⟩, eT, hs0, hx, hZ, hby, hml, hown, hret, hlk, hnm⟩ := X
  exact own_pre (fun t K => XS.ifnonnullNo Y.here hx rfl (hb hby hd) rfl K) K
theorem own_acY (X : own_W p l e R s m args below meth c Z n0 y bytes ml ret T h k n) (q : Nat) {o : Int} {cd : ClassFile.ACond} {x z : Value} (hd : decode bytes pc = .ok (.if_acmp cd o, 3)) (ho : 0 ≤ (pc : Int) + o) (hq : ((pc : Int) + o).toNat = q) (hx' : x.isRef = true) (hz' : z.isRef = true) (hc : XT.acmp cd x z = true) (K : own_Ends p e below G (T.setTop (mkF m q Ls st))) : own_Ends p e below G (T.setTop (mkF m pc Ls (z :: x :: st))) := by
  obtain ⟨⟨locs, Y, N⟩, eT, hs0, hx, hZ, hby, hml, hown, hret, hlk, hnm⟩ := X
  exact own_pre (fun t K => XT.acmpYes Y.here hx rfl rfl (hb hby hd) rfl hx' hz' hc ho hq K) K
theorem own_acN (X : own_W p l e R s m args below meth c Z n0 y bytes ml ret T h k n) (q : Nat) {o : Int} {cd : ClassFile.ACond} {x z : Value} (hd : decode bytes pc = .ok (.if_acmp cd o, 3)) (hq : pc + 3 = q) (hx' : x.isRef = true) (hz' : z.isRef = true) (hc : XT.acmp cd x z = false) (K : own_Ends p e below G (T.setTop (mkF m q Ls st))) : own_Ends p e below G (T.setTop (mkF m pc Ls (z :: x :: st))) := by
  subst hq
  obtain ⟨⟨locs, Y, N⟩, eT, hs0, hx, hZ, hby, hml, hown, hret, hlk, hnm⟩ := X
  exact own_pre (fun t K => XT.acmpNo Y.here hx rfl (hb hby hd) rfl hx' hz' hc K) K
theorem own_getF (X : own_W p l e R s m args below meth c Z n0 y bytes ml ret T h k n) (q : Nat) {R0 O nm d : String} {i : Nat} {a : Addr} {v : Value} (hd : decode bytes pc = .ok (.getfield i, 3)) (hq : pc + 3 = q) (w : (Jvm.Cond.fieldLink y.cls i R0 nm d).before a0 Z = true) (via : Via Z R0 O nm d) (F : Fld Z h a O nm d v)
    (K : ∀ T', own_W p l e R s m args below meth c Z n0 y bytes ml ret T' h k n → own_Ends p e below G (T'.setTop (mkF m q Ls (v :: st)))) : own_Ends p e below G (T.setTop (mkF m pc Ls (.ref a :: st))) := by
  subst hq
  obtain ⟨⟨locs, Y, N⟩, eT, hs0, hx, hZ, hby, hml, hown, hret, hlk, hnm⟩ := X
  obtain ⟨T1, Y1, e1, st1⟩ := getF Y hx hZ hown (host := "") (Or.inl w) via eT F (g := mkF m pc Ls (.ref a :: st)) rfl rfl (hb hby hd)
  exact own_pre st1 (K T1 ⟨⟨locs, Y1, N⟩, e1, hs0, hx, hZ, hby, hml, hown, hret, hlk, hnm⟩)
theorem own_getFN (X : own_W p l e R s m args below meth c Z n0 y bytes ml ret T h k n) (q : Nat) {R0 O nm d host : String} {i : Nat} {a : Addr} {v : Value} (hd : decode bytes pc = .ok (.getfield i, 3)) (hq : pc + 3 = q) (w : (Jvm.Cond.fieldLinkNest y.cls i R0 nm d host).before a0 Z = true) (via : Via Z R0 O nm d) (F : Fld Z h a O nm d v)
    (K : ∀ T', own_W p l e R s m args below meth c Z n0 y bytes ml ret T' h k n → own_Ends p e below G (T'.setTop (mkF m q Ls (v :: st)))) : own_Ends p e below G (T.setTop (mkF m pc Ls (.ref a :: st))) := by
  subst hq
  obtain ⟨⟨locs, Y, N⟩, eT, hs0, hx, hZ, hby, hml, hown, hret, hlk, hnm⟩ := X
  obtain ⟨T1, Y1, e1, st1⟩ := getF Y hx hZ hown (Or.inr w) via eT F (g := mkF m pc Ls (.ref a :: st)) rfl rfl (hb hby hd)
  exact own_pre st1 (K T1 ⟨⟨locs, Y1, N⟩, e1, hs0, hx, hZ, hby, hml, hown, hret, hlk, hnm⟩)
theorem own_getS (X : own_W p l e R s m args below meth c Z n0 y bytes ml ret T h k n) (q : Nat) {R0 O nm d : String} {i : Nat} {v : Value} (hd : decode bytes pc = .ok (.getstatic i, 3)) (hq : pc + 3 = q) (w : (Jvm.Cond.fieldLink y.cls i R0 nm d).before a0 Z = true) (via : Via Z R0 O nm d) (F : Sta Z h O nm d v)
    (K : ∀ T', own_W p l e R s m args below meth c Z n0 y bytes ml ret T' h k n → own_Ends p e below G (T'.setTop (mkF m q Ls (v :: st)))) : own_Ends p e below G (T.setTop (mkF m pc Ls st)) := by
  subst hq
  obtain ⟨⟨locs, Y, N⟩, eT, hs0, hx, hZ, hby, hml, hown, hret, hlk, hnm⟩ := X
  obtain ⟨T1, Y1, e1, st1⟩ := getS2 Y hx hZ hown (host := "") (Or.inl w) via eT F (g := mkF m pc Ls st) rfl (hb hby hd)
  exact own_pre st1 (K T1 ⟨⟨locs, Y1, N⟩, e1, hs0, hx, hZ, hby, hml, hown, hret, hlk, hnm⟩)
theorem own_getSN (X : own_W p l e R s m args below meth c Z n0 y bytes ml ret T h k n) (q : Nat) {R0 O nm d host : String} {i : Nat} {v : Value} (hd : decode bytes pc = .ok (.getstatic i, 3)) (hq : pc + 3 = q) (w : (Jvm.Cond.fieldLinkNest y.cls i R0 nm d host).before a0 Z = true) (via : Via Z R0 O nm d) (F : Sta Z h O nm d v)
    (K : ∀ T', own_W p l e R s m args below meth c Z n0 y bytes ml ret T' h k n → own_Ends p e below G (T'.setTop (mkF m q Ls (v :: st)))) : own_Ends p e below G (T.setTop (mkF m pc Ls st)) := by
  subst hq
  obtain ⟨⟨locs, Y, N⟩, eT, hs0, hx, hZ, hby, hml, hown, hret, hlk, hnm⟩ := X
  obtain ⟨T1, Y1, e1, st1⟩ := getS2 Y hx hZ hown (Or.inr w) via eT F (g := mkF m pc Ls st) rfl (hb hby hd)
  exact own_pre st1 (K T1 ⟨⟨locs, Y1, N⟩, e1, hs0, hx, hZ, hby, hml, hown, hret, hlk, hnm⟩)
theorem own_putF (X : own_W p l e R s m args below meth c Z n0 y bytes ml ret T h k n) (q : Nat) {R0 O nm d C : String} {i kk : Nat} (ty : FieldType) {a : Addr} {v old : Value} (hd : decode bytes pc = .ok (.putfield i, 3)) (hq : pc + 3 = q) (w : (Jvm.Cond.fieldLink y.cls i R0 nm d).before a0 Z = true) (via : Via Z R0 O nm d) (F : Fld Z h a O nm d old) (E : Exa Z h a C)
    (L : (Jvm.Cond.lays C O nm d).before a0 Z = true ∨ ((Jvm.Cond.laysFinal C O nm d).before a0 Z = true ∧ y.cls = O ∧ y.name = "<init>")) (wi : (Jvm.Cond.instantiable C kk).before a0 Z = true) (hty : parseFieldDescriptor d = some ty) (hn : narrow ty v = v) (hf : fits ty v = true) (hnew : n0 ≤ a)
    (K : ∀ T' h', own_W p l e R s m args below meth c Z n0 y bytes ml ret T' h' k n → Wr h h' a (Jvm.RoadKit.slotOf Z O nm d) v → own_Ends p e below G (T'.setTop (mkF m q Ls st))) : own_Ends p e below G (T.setTop (mkF m pc Ls (v :: .ref a :: st))) := by
  subst hq
  obtain ⟨⟨locs, Y, N⟩, eT, hs0, hx, hZ, hby, hml, hown, hret, hlk, hnm⟩ := X
  obtain ⟨T1, h1, Y1, e1, W1, st1⟩ := putF Y hx hZ hown (host := "") (Or.inl w) via eT F E (L.imp id fun z => ⟨z.1, z.2.1, hnm.trans z.2.2⟩) wi hty hn hf (g := mkF m pc Ls (v :: .ref a :: st)) rfl rfl (hb hby hd)
  exact own_pre st1 (K T1 h1 ⟨⟨_, Y1, Fr.snoc Y1 N hnew⟩, e1, (by rw [W1.size]; exact hs0), hx, hZ, hby, hml, hown, hret, hlk, hnm⟩ W1)
theorem own_putFN (X : own_W p l e R s m args below meth c Z n0 y bytes ml ret T h k n) (q : Nat) {R0 O nm d C : String} {i kk : Nat} (ty : FieldType) {a : Addr} {v v' old : Value} (hd : decode bytes pc = .ok (.putfield i, 3)) (hq : pc + 3 = q) (w : (Jvm.Cond.fieldLink y.cls i R0 nm d).before a0 Z = true) (via : Via Z R0 O nm d) (F : Fld Z h a O nm d old) (E : Exa Z h a C)
    (L : (Jvm.Cond.lays C O nm d).before a0 Z = true ∨ ((Jvm.Cond.laysFinal C O nm d).before a0 Z = true ∧ y.cls = O ∧ y.name = "<init>")) (wi : (Jvm.Cond.instantiable C kk).before a0 Z = true) (hty : parseFieldDescriptor d = some ty) (hn : narrow ty v = v') (hf : fits ty v' = true) (hnew : n0 ≤ a)
    (K : ∀ T' h', own_W p l e R s m args below meth c Z n0 y bytes ml ret T' h' k n → Wr h h' a (Jvm.RoadKit.slotOf Z O nm d) v' → own_Ends p e below G (T'.setTop (mkF m q Ls st))) : own_Ends p e below G (T.setTop (mkF m pc Ls (v :: .ref a :: st))) := by
  subst hq
  obtain ⟨⟨locs, Y, N⟩, eT, hs0, hx, hZ, hby, hml, hown, hret, hlk, hnm⟩ := X
  obtain ⟨T1, h1, Y1, e1, W1, st1⟩ := putFN Y hx hZ hown w via eT F E (L.imp id fun z => ⟨z.1, z.2.1, hnm.trans z.2.2⟩) wi hty hn hf (g := mkF m pc Ls (v :: .ref a :: st)) rfl rfl (hb hby hd)
  exact own_pre st1 (K T1 h1 ⟨⟨_, Y1, Fr.snoc Y1 N hnew⟩, e1, (by rw [W1.size]; exact hs0), hx, hZ, hby, hml, hown, hret, hlk, hnm⟩ W1)
theorem own_new (X : own_W p l e R s m args below meth c Z n0 y bytes ml ret T h k n) (q : Nat) {C : String} {i sl : Nat} (hd : decode bytes pc = .ok (.new i, 3)) (hq : pc + 3 = q) (w : (Jvm.Cond.classLink y.cls i C).before a0 Z = true) (wi : (Jvm.Cond.instantiable C sl).before a0 Z = true) (wz : (Jvm.Cond.initialized C).before a0 Z = true) (hc : k + 1 ≤ R.cells) (hl : n + sl ≤ R.slots)
    (K : ∀ T' h' a, a = h.size → own_W p l e R s m args below meth c Z n0 y bytes ml ret T' h' (k + 1) (n + sl) → Ext h h' → Exa Z h' a C → (∀ {O nm d : String} {ty : FieldType}, Laid Z a0 C O nm d → parseFieldDescriptor d = some ty → Fld Z h' a O nm d (defaultValue ty)) → own_Ends p e below G (T'.setTop (mkF m q Ls (.ref a :: st)))) : own_Ends p e below G (T.setTop (mkF m pc Ls st)) := by
  subst hq
  obtain ⟨⟨locs, Y, N⟩, eT, hs0, hx, hZ, hby, hml, hown, hret, hlk, hnm⟩ := X
  obtain ⟨T1, h1, Y1, e1, E1, A1, D1, -, st1⟩ := newO Y hx hZ hown w wi wz eT (g := mkF m pc Ls st) rfl (hb hby hd) hc hl
  exact own_pre st1 (K T1 h1 _ rfl ⟨⟨locs, Y1, N⟩, e1, (Nat.le_trans hs0 E1.1), hx, hZ, hby, hml, hown, hret, hlk, hnm⟩ E1 A1 D1)
theorem own_castY (X : own_W p l e R s m args below meth c Z n0 y bytes ml ret T h k n) (q : Nat) {C : String} {i : Nat} {a : Addr} (hd : decode bytes pc = .ok (.checkcast i, 3)) (hq : pc + 3 = q) (w : (Jvm.Cond.classLink y.cls i C).before a0 Z = true) (F : Ins Z h a C true)
    (K : ∀ T', own_W p l e R s m args below meth c Z n0 y bytes ml ret T' h k n → own_Ends p e below G (T'.setTop (mkF m q Ls (.ref a :: st)))) : own_Ends p e below G (T.setTop (mkF m pc Ls (.ref a :: st))) := by
  subst hq
  obtain ⟨⟨locs, Y, N⟩, eT, hs0, hx, hZ, hby, hml, hown, hret, hlk, hnm⟩ := X
  obtain ⟨T1, Y1, e1, st1⟩ := castY Y hx hZ hown w eT F (g := mkF m pc Ls (.ref a :: st)) rfl rfl (hb hby hd)
  exact own_pre st1 (K T1 ⟨⟨locs, Y1, N⟩, e1, hs0, hx, hZ, hby, hml, hown, hret, hlk, hnm⟩)
theorem own_castNull (X : own_W p l e R s m args below meth c Z n0 y bytes ml ret T h k n) (q : Nat) {i : Nat} (hd : decode bytes pc = .ok (.checkcast i, 3)) (hq : pc + 3 = q) (K : own_Ends p e below G (T.setTop (mkF m q Ls (.null :: st)))) : own_Ends p e below G (T.setTop (mkF m pc Ls (.null :: st))) := by
  subst hq
  obtain ⟨⟨locs, Y, N⟩, eT, hs0, hx, hZ, hby, hml, hown, hret, hlk, hnm⟩ := X
  exact own_pre (fun t K => Y.checkcastNull hx (g := mkF m pc Ls (.null :: st)) rfl rfl (hb hby hd) t K) K
theorem own_instY (X : own_W p l e R s m args below meth c Z n0 y bytes ml ret T h k n) (q : Nat) {C : String} {i : Nat} {a : Addr} (hd : decode bytes pc = .ok (.instanceof i, 3)) (hq : pc + 3 = q) (w : (Jvm.Cond.classLink y.cls i C).before a0 Z = true) (F : Ins Z h a C true)
    (K : ∀ T', own_W p l e R s m args below meth c Z n0 y bytes ml ret T' h k n → own_Ends p e below G (T'.setTop (mkF m q Ls (.int 1 :: st)))) : own_Ends p e below G (T.setTop (mkF m pc Ls (.ref a :: st))) := by
  subst hq
  obtain ⟨⟨locs, Y, N⟩, eT, hs0, hx, hZ, hby, hml, hown, hret, hlk, hnm⟩ := X
  obtain ⟨T1, Y1, e1, st1⟩ := instY Y hx hZ hown w eT F (g := mkF m pc Ls (.ref a :: st)) rfl rfl (hb hby hd)
  exact own_pre st1 (K T1 ⟨⟨locs, Y1, N⟩, e1, hs0, hx, hZ, hby, hml, hown, hret, hlk, hnm⟩)
theorem own_instNo (X : own_W p l e R s m args below meth c Z n0 y bytes ml ret T h k n) (q : Nat) {C D : String} {i : Nat} {a : Addr} (hd : decode bytes pc = .ok (.instanceof i, 3)) (hq : pc + 3 = q) (w : (Jvm.Cond.classLink y.cls i C).before a0 Z = true) (E : Exa Z h a D) (F : ∃ c t, Z.vm.findClass D = some c ∧ Z.vm.findClass C = some t ∧ Z.vm.assignable c t = false)
    (K : ∀ T', own_W p l e R s m args below meth c Z n0 y bytes ml ret T' h k n → own_Ends p e below G (T'.setTop (mkF m q Ls (.int 0 :: st)))) : own_Ends p e below G (T.setTop (mkF m pc Ls (.ref a :: st))) := by
  subst hq
  obtain ⟨⟨locs, Y, N⟩, eT, hs0, hx, hZ, hby, hml, hown, hret, hlk, hnm⟩ := X
  obtain ⟨T1, Y1, e1, st1⟩ := instNo Y hx hZ hown w eT E F (g := mkF m pc Ls (.ref a :: st)) rfl rfl (hb hby hd)
  exact own_pre st1 (K T1 ⟨⟨locs, Y1, N⟩, e1, hs0, hx, hZ, hby, hml, hown, hret, hlk, hnm⟩)
theorem own_initO (X : own_W p l e R s m args below meth c Z n0 y bytes ml ret T h k n) (q : Nat) {i : Nat} {a : Addr} (hd : decode bytes pc = .ok (.invokespecial i, 3)) (hq : pc + 3 = q) (w1 : (Jvm.Cond.methodLink y.cls i Lib.objectInit).before a0 Z = true) (w2 : (Jvm.Cond.instanceMethod Lib.objectInit).before a0 Z = true) (w3 : (Jvm.Cond.code Lib.objectInit ⟨#[0xb1]⟩ 1 none).before a0 Z = true)
    (hsz : Ls.size = ml) (hf : 1 ≤ R.frames) (hl : (st.map fun v => v.category).sum + 12 ≤ R.locals) (K : ∀ T', own_W p l e R s m args below meth c Z n0 y bytes ml ret T' h k n → own_Ends p e below G (T'.setTop (mkF m q Ls st))) : own_Ends p e below G (T.setTop (mkF m pc Ls (.ref a :: st))) := by
  subst hq
  obtain ⟨⟨locs, Y, N⟩, eT, hs0, hx, hZ, hby, hml, hown, hret, hlk, hnm⟩ := X
  obtain ⟨T1, Y1, e1, st1⟩ := initO Y hx hZ hown w1 w2 w3 eT (g := mkF m pc Ls (.ref a :: st)) rfl (hsz.trans hml.symm) rfl (hb hby hd) hf (W := (st.map fun v => v.category).sum) (by show 2 * 0 + _ ≤ _; omega) hl
  exact own_pre st1 (K T1 ⟨⟨locs, Y1, N⟩, e1, hs0, hx, hZ, hby, hml, hown, hret, hlk, hnm⟩)
theorem own_callS (X : own_W p l e R s m args below meth c Z n0 y bytes ml ret T h k n) (q : Nat) {y' : MethodName} {bytes' : ByteArray} {ml' : Nat} {ret' : Option FieldType} {rm : Room} {as' : Array Value} {Q : Option Value → Heap → Prop} {i : Nat} {ps : List FieldType} {rr : Option FieldType} (argsL rest : List Value) (hd : decode bytes pc = .ok (.invokestatic i, 3)) (hq : pc + 3 = q) (w1 : (Jvm.Cond.methodLink y.cls i y').before a0 Z = true) (w2 : (Jvm.Cond.static y').before a0 Z = true) (w3 : (Jvm.Cond.initialized y'.cls).before a0 Z = true) (w4 : (Jvm.Cond.code y' bytes' ml' ret').before a0 Z = true) (hy : y'.cls ≠ "java/lang/invoke/MethodHandle" ∧ y'.cls ≠ "java/lang/invoke/VarHandle")
    (M : own_Met l y' bytes' ml' ret' rm Z as' h n0 Q) (hkeep : ∀ v h', Q v h' → h.size ≤ h'.size) (has : as' = argsL.toArray) (hpd : parseMethodDescriptor y'.desc = some ⟨ps, rr⟩) (hlen : argsL.length = ps.length) (hst : st = argsL.reverse ++ rest) (hsz : Ls.size = ml) (hf : rm.frames + 1 ≤ R.frames) (hl : (rest.map fun v => v.category).sum + (ml' + 11) + rm.locals ≤ R.locals) (hck : k + rm.cells ≤ R.cells) (hcn : n + rm.slots ≤ R.slots)
    (K : ∀ v T' h', own_W p l e R s m args below meth c Z n0 y bytes ml ret T' h' (k + rm.cells) (n + rm.slots) → Q v h' → own_Ends p e below G (T'.setTop (mkF m q Ls (v.toList ++ rest)))) : own_Ends p e below G (T.setTop (mkF m pc Ls st)) := by
  subst hq has hst
  obtain ⟨⟨locs, Y, N⟩, eT, hs0, hx, hZ, hby, hml, hown, hret, hlk, hnm⟩ := X
  obtain ⟨v1, _, ⟨T1, L1, k1, n1⟩, -, Y1, ⟨Lc1, hQ1, l1, c1, s1⟩, st1⟩ := Jvm.LawKit.callS Y hx hown (mvT hZ w1) (mvT hZ w2) (mvT hZ w3) (mvT hZ w4) hy (backOf (Q := fun v h L => Q v h ∧ Fr n0 L) (W := (rest.map fun v => v.category).sum) (M []) hZ w4 w3 hf (by omega)) (g := mkF m pc Ls (argsL.reverse ++ rest)) rfl (hsz.trans hml.symm) (argsL := argsL) (rest := rest) (lenOf hpd hlen) rfl (by show 2 * 0 + _ ≤ _; omega) (hb hby hd) (fun _ _ => ⟨rfl, eT, hck, hcn⟩)
  dsimp only [Pt.U, Pt.locs, Pt.cells, Pt.slots] at Y1 l1 c1 s1 st1 hQ1
  subst l1 c1 s1
  exact own_pre st1 (K _ _ _ ⟨⟨_, Y1, Fr.app N hQ1.2⟩, rfl, Nat.le_trans hs0 (hkeep _ _ hQ1.1), hx, hZ, hby, hml, hown, hret, hlk, hnm⟩ hQ1.1)
theorem own_init (X : own_W p l e R s m args below meth c Z n0 y bytes ml ret T h k n) (q : Nat) {y' : MethodName} {bytes' : ByteArray} {ml' : Nat} {rm : Room} {as' : Array Value} {Q : Option Value → Heap → Prop} {i : Nat} {ps : List FieldType} {rr : Option FieldType} {a : Addr} (argsL rest : List Value) (hd : decode bytes pc = .ok (.invokespecial i, 3)) (hq : pc + 3 = q) (w1 : (Jvm.Cond.methodLink y.cls i y').before a0 Z = true) (w2 : (Jvm.Cond.instanceMethod y').before a0 Z = true) (w3 : (Jvm.Cond.initialized y'.cls).before a0 Z = true) (w4 : (Jvm.Cond.code y' bytes' ml' none).before a0 Z = true) (hy : y'.cls ≠ "java/lang/invoke/MethodHandle" ∧ y'.cls ≠ "java/lang/invoke/VarHandle") (hy1 : y'.name = "<init>")
    (M : own_Met l y' bytes' ml' none rm Z as' h n0 Q) (hkeep : ∀ v h', Q v h' → h.size ≤ h'.size) (has : as' = (.ref a :: argsL).toArray) (hpd : parseMethodDescriptor y'.desc = some ⟨ps, rr⟩) (hlen : argsL.length = ps.length) (hst : st = argsL.reverse ++ .ref a :: rest) (hsz : Ls.size = ml) (hf : rm.frames + 1 ≤ R.frames) (hl : (rest.map fun v => v.category).sum + (ml' + 11) + rm.locals ≤ R.locals) (hck : k + rm.cells ≤ R.cells) (hcn : n + rm.slots ≤ R.slots)
    (K : ∀ v T' h', own_W p l e R s m args below meth c Z n0 y bytes ml ret T' h' (k + rm.cells) (n + rm.slots) → Q v h' → own_Ends p e below G (T'.setTop (mkF m q Ls (v.toList ++ rest)))) : own_Ends p e below G (T.setTop (mkF m pc Ls st)) := by
  subst hq has hst
  obtain ⟨⟨locs, Y, N⟩, eT, hs0, hx, hZ, hby, hml, hown, hret, hlk, hnm⟩ := X
  obtain ⟨v1, _, ⟨T1, L1, k1, n1⟩, -, Y1, ⟨Lc1, hQ1, l1, c1, s1⟩, st1⟩ := Y.specialBack hx hy1 hown (mvT hZ w1) (mvT hZ w2) (mvT hZ w4) hy (backOf (Q := fun v h L => Q v h ∧ Fr n0 L) (W := (rest.map fun v => v.category).sum) (M []) hZ w4 w3 hf (by omega)) (g := mkF m pc Ls (argsL.reverse ++ .ref a :: rest)) rfl (hsz.trans hml.symm) (Steps.refl _) (a := a) (argsL := argsL) (rest := rest) (lenOf hpd hlen) rfl (by show 2 * 0 + _ ≤ _; omega) (hb hby hd) (fun _ _ => ⟨rfl, eT, hck, hcn⟩)
  dsimp only [Pt.U, Pt.locs, Pt.cells, Pt.slots] at Y1 l1 c1 s1 st1 hQ1
  subst l1 c1 s1
  exact own_pre (fun t K => st1.trans K) (K _ _ _ ⟨⟨_, Y1, Fr.app N hQ1.2⟩, rfl, Nat.le_trans hs0 (hkeep _ _ hQ1.1), hx, hZ, hby, hml, hown, hret, hlk, hnm⟩ hQ1.1)
theorem own_callV (X : own_W p l e R s m args below meth c Z n0 y bytes ml ret T h k n) (q : Nat) {y' : MethodName} {bytes' : ByteArray} {ml' : Nat} {ret' : Option FieldType} {rm : Room} {as' : Array Value} {Q : Option Value → Heap → Prop} {i : Nat} {ps : List FieldType} {rr : Option FieldType} {z : MethodName} {C : String} {a : Addr} (argsL rest : List Value) (hd : decode bytes pc = .ok (.invokevirtual i, 3)) (hq : pc + 3 = q) (w1 : (Jvm.Cond.methodLink y.cls i z).before a0 Z = true) (w2 : (Jvm.Cond.declares z).before a0 Z = true) (nf : NotFace s z) (w5 : (Jvm.Cond.selects C z y').before a0 Z = true) (w6 : (Jvm.Cond.instanceMethod y').before a0 Z = true) (w3 : (Jvm.Cond.initialized y'.cls).before a0 Z = true) (w4 : (Jvm.Cond.code y' bytes' ml' ret').before a0 Z = true) (hy : z.cls ≠ "java/lang/invoke/MethodHandle" ∧ z.cls ≠ "java/lang/invoke/VarHandle") (E : Exa Z h a C)
    (M : own_Met l y' bytes' ml' ret' rm Z as' h n0 Q) (hkeep : ∀ v h', Q v h' → h.size ≤ h'.size) (has : as' = (.ref a :: argsL).toArray) (hpd : parseMethodDescriptor z.desc = some ⟨ps, rr⟩) (hlen : argsL.length = ps.length) (hst : st = argsL.reverse ++ .ref a :: rest) (hsz : Ls.size = ml) (hf : rm.frames + 1 ≤ R.frames) (hl : (rest.map fun v => v.category).sum + (ml' + 11) + rm.locals ≤ R.locals) (hck : k + rm.cells ≤ R.cells) (hcn : n + rm.slots ≤ R.slots)
    (K : ∀ v T' h', own_W p l e R s m args below meth c Z n0 y bytes ml ret T' h' (k + rm.cells) (n + rm.slots) → Q v h' → own_Ends p e below G (T'.setTop (mkF m q Ls (v.toList ++ rest)))) : own_Ends p e below G (T.setTop (mkF m pc Ls st)) := by
  subst hq has hst
  obtain ⟨⟨locs, Y, N⟩, eT, hs0, hx, hZ, hby, hml, hown, hret, hlk, hnm⟩ := X
  obtain ⟨cq, kq, qa, qb, qc⟩ := isOf hZ eT E
  obtain ⟨v1, _, ⟨T1, L1, k1, n1⟩, -, Y1, ⟨Lc1, hQ1, l1, c1, s1⟩, st1⟩ := Y.virtualBack hx hown (mvT hZ w1) (mvT hZ w2) nf (mvT hZ w5) (mvT hZ w6) hy (backOf (Q := fun v h L => Q v h ∧ Fr n0 L) (W := (rest.map fun v => v.category).sum) (M []) hZ w4 w3 hf (by omega)) qa qc (g := mkF m pc Ls (argsL.reverse ++ .ref a :: rest)) rfl (hsz.trans hml.symm) (Steps.refl _) (argsL := argsL) (rest := rest) (lenOf hpd hlen) rfl (by show 2 * 0 + _ ≤ _; omega) (hb hby hd) (fun _ _ => ⟨rfl, eT, hck, hcn⟩)
  dsimp only [Pt.U, Pt.locs, Pt.cells, Pt.slots] at Y1 l1 c1 s1 st1 hQ1
  subst l1 c1 s1
  exact own_pre (fun t K => st1.trans K) (K _ _ _ ⟨⟨_, Y1, Fr.app N hQ1.2⟩, rfl, Nat.le_trans hs0 (hkeep _ _ hQ1.1), hx, hZ, hby, hml, hown, hret, hlk, hnm⟩ hQ1.1)
theorem own_nf {z : MethodName} {s : State} {C : String} (hZ : Z.Warmed39 s.vm) (w : (Jvm.Cond.selects C z z).before a0 Z = true) : NotFace s z := notFace_of_selects (args := #[]) (mvT hZ w)
theorem own_callI (X : own_W p l e R s m args below meth c Z n0 y bytes ml ret T h k n) (q : Nat) {y' : MethodName} {bytes' : ByteArray} {ml' : Nat} {ret' : Option FieldType} {rm : Room} {as' : Array Value} {Q : Option Value → Heap → Prop} {i : Nat} {ps : List FieldType} {rr : Option FieldType} {z : MethodName} {C : String} {cnt : Nat} {a : Addr} (argsL rest : List Value) (hd : decode bytes pc = .ok (.invokeinterface i cnt, 5)) (hq : pc + 5 = q) (w1 : (Jvm.Cond.methodLink y.cls i z).before a0 Z = true) (w2 : (Jvm.Cond.declares z).before a0 Z = true) (w7 : (Jvm.Cond.interfaceMethod z.cls z.cls z.name z.desc).before a0 Z = true) (hfa : ((Jvm.Cond.interfaceMethod z.cls z.cls z.name z.desc).onTables && (Jvm.Cond.interfaceMethod z.cls z.cls z.name z.desc).keepsFace) = true) (w5 : (Jvm.Cond.selects C z y').before a0 Z = true) (w6 : (Jvm.Cond.instanceMethod y').before a0 Z = true) (w8 : (Jvm.Cond.publicMethod y').before a0 Z = true) (w9 : (Jvm.Cond.unhidden C z.name z.desc).before a0 Z = true) (w10 : (Jvm.Cond.castable C z.cls).before a0 Z = true) (w3 : (Jvm.Cond.initialized y'.cls).before a0 Z = true) (w4 : (Jvm.Cond.code y' bytes' ml' ret').before a0 Z = true) (hy : z.cls ≠ "java/lang/invoke/MethodHandle" ∧ z.cls ≠ "java/lang/invoke/VarHandle") (E : Exa Z h a C)
    (M : own_Met l y' bytes' ml' ret' rm Z as' h n0 Q) (hkeep : ∀ v h', Q v h' → h.size ≤ h'.size) (has : as' = (.ref a :: argsL).toArray) (hpd : parseMethodDescriptor z.desc = some ⟨ps, rr⟩) (hlen : argsL.length = ps.length) (hst : st = argsL.reverse ++ .ref a :: rest) (hsz : Ls.size = ml) (hf : rm.frames + 1 ≤ R.frames) (hl : (rest.map fun v => v.category).sum + (ml' + 11) + rm.locals ≤ R.locals) (hck : k + rm.cells ≤ R.cells) (hcn : n + rm.slots ≤ R.slots)
    (K : ∀ v T' h', own_W p l e R s m args below meth c Z n0 y bytes ml ret T' h' (k + rm.cells) (n + rm.slots) → Q v h' → own_Ends p e below G (T'.setTop (mkF m q Ls (v.toList ++ rest)))) : own_Ends p e below G (T.setTop (mkF m pc Ls st)) := by
  subst hq has hst
  obtain ⟨⟨locs, Y, N⟩, eT, hs0, hx, hZ, hby, hml, hown, hret, hlk, hnm⟩ := X
  obtain ⟨cq, kq, qa, qb, qc⟩ := isOf hZ eT E
  obtain ⟨v1, _, ⟨T1, L1, k1, n1⟩, -, Y1, ⟨Lc1, hQ1, l1, c1, s1⟩, st1⟩ := Y.interfaceBack hx hown (mvT hZ w1) (mvT hZ w2) (mvT hZ w7 hfa) (mvT hZ w5) (mvT hZ w6) (mvT hZ w8) (mvT hZ w9) (mvT hZ w10) hy (backOf (Q := fun v h L => Q v h ∧ Fr n0 L) (W := (rest.map fun v => v.category).sum) (M []) hZ w4 w3 hf (by omega)) qa qb qc (g := mkF m pc Ls (argsL.reverse ++ .ref a :: rest)) rfl (hsz.trans hml.symm) (Steps.refl _) (argsL := argsL) (rest := rest) (lenOf hpd hlen) rfl (by show 2 * 0 + _ ≤ _; omega) (hb hby hd) (fun _ _ => ⟨rfl, eT, hck, hcn⟩)
  dsimp only [Pt.U, Pt.locs, Pt.cells, Pt.slots] at Y1 l1 c1 s1 st1 hQ1
  subst l1 c1 s1
  exact own_pre (fun t K => st1.trans K) (K _ _ _ ⟨⟨_, Y1, Fr.app N hQ1.2⟩, rfl, Nat.le_trans hs0 (hkeep _ _ hQ1.1), hx, hZ, hby, hml, hown, hret, hlk, hnm⟩ hQ1.1)
theorem own_ni_inst {Z : State} {C : String} {kk : Nat} {a0 : Array Value} (w : (Jvm.Cond.instantiable C kk).before a0 Z = true) : ∃ c k, Z.vm.findClass C = some c ∧ Z.vm.classes[c]? = some k ∧ k.isInterface = false := by
  obtain ⟨c, k, h1, h2, -, h4, -⟩ := Cond.instantiable_spec w
  exact ⟨c, k, h1, h2, (Bool.or_eq_false_iff.mp h4).1⟩
theorem own_ni_sel {Z : State} {C : String} {x y : MethodName} {a0 : Array Value} (w : (Jvm.Cond.selects C x y).before a0 Z = true) : ∃ c k, Z.vm.findClass y.cls = some c ∧ Z.vm.classes[c]? = some k ∧ k.isInterface = false := by
  obtain ⟨c, r, m, -, -, h3, -, k, h5, h6⟩ := Cond.selects_spec w
  exact ⟨_, k, findClass_of_methodNamed h3, h5, h6⟩
theorem own_selP {Z s : State} {y : MethodName} {a0 args : Array Value} (hZ : Z.Warmed39 s.vm) (hni : ∃ c k, Z.vm.findClass y.cls = some c ∧ Z.vm.classes[c]? = some k ∧ k.isInterface = false) (w6 : (Jvm.Cond.privateMethod y).before a0 Z = true) (w2 : (Jvm.Cond.instanceMethod y).before a0 Z = true) (hy : y.cls ≠ "java/lang/invoke/MethodHandle" ∧ y.cls ≠ "java/lang/invoke/VarHandle") : (Jvm.Cond.selects y.cls y y).before args s = true := by
  obtain ⟨c, k, h1, h2, h3⟩ := hni
  obtain ⟨k', q, z⟩ := hZ.alike.2.2 _ _ h2
  exact selects_self_of_private (by rw [hZ.alike.findClass]; exact h1) q (by rw [z]; exact h3) (Cond.privateMethod_at (mvP hZ w6 (args := #[]))) (mvT hZ w2) hy
theorem own_callP (X : own_W p l e R s m args below meth c Z n0 y bytes ml ret T h k n) (q : Nat) {y' : MethodName} {bytes' : ByteArray} {ml' : Nat} {ret' : Option FieldType} {rm : Room} {as' : Array Value} {Q : Option Value → Heap → Prop} {i : Nat} {ps : List FieldType} {rr : Option FieldType} {C : String} {a : Addr} (argsL rest : List Value) (hd : decode bytes pc = .ok (.invokevirtual i, 3)) (hq : pc + 3 = q) (w1 : (Jvm.Cond.methodLink y.cls i y').before a0 Z = true) (w2 : (Jvm.Cond.instanceMethod y').before a0 Z = true) (hni : ∃ c k, Z.vm.findClass y'.cls = some c ∧ Z.vm.classes[c]? = some k ∧ k.isInterface = false) (w6 : (Jvm.Cond.privateMethod y').before a0 Z = true) (w3 : (Jvm.Cond.initialized y'.cls).before a0 Z = true) (w4 : (Jvm.Cond.code y' bytes' ml' ret').before a0 Z = true) (hy : y'.cls ≠ "java/lang/invoke/MethodHandle" ∧ y'.cls ≠ "java/lang/invoke/VarHandle") (E : Exa Z h a C)
    (M : own_Met l y' bytes' ml' ret' rm Z as' h n0 Q) (hkeep : ∀ v h', Q v h' → h.size ≤ h'.size) (has : as' = (.ref a :: argsL).toArray) (hpd : parseMethodDescriptor y'.desc = some ⟨ps, rr⟩) (hlen : argsL.length = ps.length) (hst : st = argsL.reverse ++ .ref a :: rest) (hsz : Ls.size = ml) (hf : rm.frames + 1 ≤ R.frames) (hl : (rest.map fun v => v.category).sum + (ml' + 11) + rm.locals ≤ R.locals) (hck : k + rm.cells ≤ R.cells) (hcn : n + rm.slots ≤ R.slots)
    (K : ∀ v T' h', own_W p l e R s m args below meth c Z n0 y bytes ml ret T' h' (k + rm.cells) (n + rm.slots) → Q v h' → own_Ends p e below G (T'.setTop (mkF m q Ls (v.toList ++ rest)))) : own_Ends p e below G (T.setTop (mkF m pc Ls st)) := by
  subst hq has hst
  obtain ⟨⟨locs, Y, N⟩, eT, hs0, hx, hZ, hby, hml, hown, hret, hlk, hnm⟩ := X
  obtain ⟨cq, q1, q2⟩ := E.cell
  obtain ⟨v1, _, ⟨T1, L1, k1, n1⟩, -, Y1, ⟨Lc1, hQ1, l1, c1, s1⟩, st1⟩ := Y.privateBack hx hown (mvT hZ w1) (mvT hZ w2) (own_selP hZ hni w6 w2 hy) (Cond.privateMethod_at (mvP hZ w6 (args := #[]))) (mvT hZ w4) hy (backOf (Q := fun v h L => Q v h ∧ Fr n0 L) (W := (rest.map fun v => v.category).sum) (M []) hZ w4 w3 hf (by omega)) (g := mkF m pc Ls (argsL.reverse ++ .ref a :: rest)) rfl (hsz.trans hml.symm) (Steps.refl _) (a := a) (by rw [eT]; exact q1) q2 (argsL := argsL) (rest := rest) (lenOf hpd hlen) rfl (by show 2 * 0 + _ ≤ _; omega) (hb hby hd) (fun _ _ => ⟨rfl, eT, hck, hcn⟩)
  dsimp only [Pt.U, Pt.locs, Pt.cells, Pt.slots] at Y1 l1 c1 s1 st1 hQ1
  subst l1 c1 s1
  exact own_pre (fun t K => st1.trans K) (K _ _ _ ⟨⟨_, Y1, Fr.app N hQ1.2⟩, rfl, Nat.le_trans hs0 (hkeep _ _ hQ1.1), hx, hZ, hby, hml, hown, hret, hlk, hnm⟩ hQ1.1)
theorem own_retI (X : own_W p l e R s m args below meth c Z n0 y bytes ml ret T h k n) {C S : Nat} {Q : Option Value → Heap → Prop} {z : Int32} (hd : decode bytes pc = .ok (.ireturn, 1)) (hr0 : ret = some .int) (hk : k ≤ C) (hn : n ≤ S) (hQ : Q (some (.int z)) h) : own_Ends p e below (own_Fin s n0 C S Q) (T.setTop (mkF m pc Ls (.int z :: st))) := by
  obtain ⟨⟨locs, Y, N⟩, eT, hs0, hx, hZ, hby, hml, hown, hret, hlk, hnm⟩ := X
  obtain ⟨fs, hr, hrun, hended, hW, hsame⟩ := Y.leave (v := some (.int z)) (fun q => by rw [hret, hr0] at q; cases q) hlk
  exact ⟨_, _, own_retI0 Y hx (hret.trans hr0) (hb hby hd) hr, hrun, hended, _, _, rfl, ⟨by show Q _ T.heap; rw [eT]; exact hQ, N⟩, ⟨_, rfl⟩, hW, hsame.mono hk hn⟩
theorem own_retN (X : own_W p l e R s m args below meth c Z n0 y bytes ml ret T h k n) {C S : Nat} {Q : Option Value → Heap → Prop} {z : Int32} (t : FieldType) (hd : decode bytes pc = .ok (.ireturn, 1)) (hr0 : ret = some t) (ht : t = .boolean ∨ t = .byte ∨ t = .char ∨ t = .short) (hk : k ≤ C) (hn : n ≤ S) (hQ : Q (some (.int (nar t z))) h) : own_Ends p e below (own_Fin s n0 C S Q) (T.setTop (mkF m pc Ls (.int z :: st))) := by
  obtain ⟨⟨locs, Y, N⟩, eT, hs0, hx, hZ, hby, hml, hown, hret, hlk, hnm⟩ := X
  obtain ⟨fs, hr, hrun, hended, hW, hsame⟩ := Y.leave (v := some (.int (nar t z))) (fun q => by rw [hret, hr0] at q; cases q) hlk
  exact ⟨_, _, retN Y hx (hret.trans hr0) ht (hb hby hd) hr, hrun, hended, _, _, rfl, ⟨by show Q _ T.heap; rw [eT]; exact hQ, N⟩, ⟨_, rfl⟩, hW, hsame.mono hk hn⟩
theorem own_retJ (X : own_W p l e R s m args below meth c Z n0 y bytes ml ret T h k n) {C S : Nat} {Q : Option Value → Heap → Prop} {z : Int64} (hd : decode bytes pc = .ok (.lreturn, 1)) (hr0 : ret = some .long) (hk : k ≤ C) (hn : n ≤ S) (hQ : Q (some (.long z)) h) : own_Ends p e below (own_Fin s n0 C S Q) (T.setTop (mkF m pc Ls (.long z :: st))) := by
  obtain ⟨⟨locs, Y, N⟩, eT, hs0, hx, hZ, hby, hml, hown, hret, hlk, hnm⟩ := X
  obtain ⟨fs, hr, hrun, hended, hW, hsame⟩ := Y.leave (v := some (.long z)) (fun q => by rw [hret, hr0] at q; cases q) hlk
  exact ⟨_, _, retOut Y hx (hret.trans hr0) rfl (Or.inr (Or.inl ⟨rfl, rfl, z, rfl⟩)) (hb hby hd) hr, hrun, hended, _, _, rfl, ⟨by show Q _ T.heap; rw [eT]; exact hQ, N⟩, ⟨_, rfl⟩, hW, hsame.mono hk hn⟩
theorem own_retA (X : own_W p l e R s m args below meth c Z n0 y bytes ml ret T h k n) {C S : Nat} {Q : Option Value → Heap → Prop} {z : Value} (t : FieldType) (hd : decode bytes pc = .ok (.areturn, 1)) (hr0 : ret = some t) (ht : t.isReference = true) (hz : z.isRef = true) (hnz : narrow t z = z) (hk : k ≤ C) (hn : n ≤ S) (hQ : Q (some z) h) : own_Ends p e below (own_Fin s n0 C S Q) (T.setTop (mkF m pc Ls (z :: st))) := by
  obtain ⟨⟨locs, Y, N⟩, eT, hs0, hx, hZ, hby, hml, hown, hret, hlk, hnm⟩ := X
  obtain ⟨fs, hr, hrun, hended, hW, hsame⟩ := Y.leave (v := some z) (fun q => by rw [hret, hr0] at q; cases q) hlk
  exact ⟨_, _, retOut Y hx (hret.trans hr0) hnz (Or.inr (Or.inr (Or.inr (Or.inr ⟨rfl, ht, hz⟩)))) (hb hby hd) hr, hrun, hended, _, _, rfl, ⟨by show Q _ T.heap; rw [eT]; exact hQ, N⟩, ⟨_, rfl⟩, hW, hsame.mono hk hn⟩
theorem own_retV (X : own_W p l e R s m args below meth c Z n0 y bytes ml ret T h k n) {C S : Nat} {Q : Option Value → Heap → Prop} (hd : decode bytes pc = .ok (.return_, 1)) (hr0 : ret = none) (hk : k ≤ C) (hn : n ≤ S) (hQ : Q none h) : own_Ends p e below (own_Fin s n0 C S Q) (T.setTop (mkF m pc Ls [])) := by
  obtain ⟨⟨locs, Y, N⟩, eT, hs0, hx, hZ, hby, hml, hown, hret, hlk, hnm⟩ := X
  obtain ⟨fs, hr, hrun, hended, hW, hsame⟩ := Y.leave (v := none) (fun _ => rfl) hlk
  exact ⟨_, _, Y.returnOut hx (hret.trans hr0) (hb hby hd) hr, hrun, hended, _, _, rfl, ⟨by show Q _ T.heap; rw [eT]; exact hQ, N⟩, ⟨_, rfl⟩, hW, hsame.mono hk hn⟩
theorem own_iaload (X : own_W p l e R s m args below meth c Z n0 y bytes ml ret T h k n) (q : Nat) {a : Addr} {kc : ClassId} {vs : List Value} {j : Int32} (i : Nat) (v : Value) (hd : decode bytes pc = .ok (.iaload, 1)) (hq : pc + 1 = q) (F : own_A Z h a kc .int vs) (hj : j.toNatClampNeg = i) (hj0 : ¬ j < 0) (hv : vs[i]? = some v)
    (K : own_Ends p e below G (T.setTop (mkF m q Ls (v :: st)))) : own_Ends p e below G (T.setTop (mkF m pc Ls (.int j :: .ref a :: st))) := by
  subst hq
  obtain ⟨⟨locs, Y, N⟩, eT, hs0, hx, hZ, hby, hml, hown, hret, hlk, hnm⟩ := X
  obtain ⟨cl, A, r1, r2, r3, r4⟩ := F
  have hi : i < vs.length := (List.getElem?_eq_some_iff.mp hv).1
  exact own_pre (fun t K => Y.iaload hx (j := j) (v := v) (by rw [eT]; exact A.1) (State.isArrayOf_alike hZ.alike A.2.1) A.2.2 (own_in r2 hj hj0 hi) (by rw [hj, ← Array.getElem?_toList, r2]; exact hv) (g := mkF m pc Ls (.int j :: .ref a :: st)) rfl rfl (hb hby hd) t K) K
theorem own_caload (X : own_W p l e R s m args below meth c Z n0 y bytes ml ret T h k n) (q : Nat) {a : Addr} {kc : ClassId} {vs : List Value} {j : Int32} (i : Nat) (v : Value) (hd : decode bytes pc = .ok (.caload, 1)) (hq : pc + 1 = q) (F : own_A Z h a kc .char vs) (hj : j.toNatClampNeg = i) (hj0 : ¬ j < 0) (hv : vs[i]? = some v)
    (K : own_Ends p e below G (T.setTop (mkF m q Ls (v :: st)))) : own_Ends p e below G (T.setTop (mkF m pc Ls (.int j :: .ref a :: st))) := by
  subst hq
  obtain ⟨⟨locs, Y, N⟩, eT, hs0, hx, hZ, hby, hml, hown, hret, hlk, hnm⟩ := X
  obtain ⟨cl, A, r1, r2, r3, r4⟩ := F
  have hi : i < vs.length := (List.getElem?_eq_some_iff.mp hv).1
  exact own_pre (fun t K => Y.caload hx (j := j) (v := v) (by rw [eT]; exact A.1) (State.isArrayOf_alike hZ.alike A.2.1) A.2.2 (own_in r2 hj hj0 hi) (by rw [hj, ← Array.getElem?_toList, r2]; exact hv) (g := mkF m pc Ls (.int j :: .ref a :: st)) rfl rfl (hb hby hd) t K) K
theorem own_baload (X : own_W p l e R s m args below meth c Z n0 y bytes ml ret T h k n) (q : Nat) {a : Addr} {kc : ClassId} {vs : List Value} {j : Int32} (i : Nat) (v : Value) (hd : decode bytes pc = .ok (.baload, 1)) (hq : pc + 1 = q) (F : own_A Z h a kc .byte vs) (hj : j.toNatClampNeg = i) (hj0 : ¬ j < 0) (hv : vs[i]? = some v)
    (K : own_Ends p e below G (T.setTop (mkF m q Ls (v :: st)))) : own_Ends p e below G (T.setTop (mkF m pc Ls (.int j :: .ref a :: st))) := by
  subst hq
  obtain ⟨⟨locs, Y, N⟩, eT, hs0, hx, hZ, hby, hml, hown, hret, hlk, hnm⟩ := X
  obtain ⟨cl, A, r1, r2, r3, r4⟩ := F
  have hi : i < vs.length := (List.getElem?_eq_some_iff.mp hv).1
  exact own_pre (fun t K => Y.baloadBytes hx (j := j) (v := v) (by rw [eT]; exact A.1) (State.isArrayOf_alike hZ.alike A.2.1) A.2.2 (own_in r2 hj hj0 hi) (by rw [hj, ← Array.getElem?_toList, r2]; exact hv) (g := mkF m pc Ls (.int j :: .ref a :: st)) rfl rfl (hb hby hd) t K) K
theorem own_aaload (X : own_W p l e R s m args below meth c Z n0 y bytes ml ret T h k n) (q : Nat) {a : Addr} {kc : ClassId} {ty : FieldType} {vs : List Value} {j : Int32} (i : Nat) (v : Value) (hd : decode bytes pc = .ok (.aaload, 1)) (hq : pc + 1 = q) (F : own_A Z h a kc ty vs) (hj : j.toNatClampNeg = i) (hj0 : ¬ j < 0) (hv : vs[i]? = some v) (hty : ty.isReference = true)
    (K : own_Ends p e below G (T.setTop (mkF m q Ls (v :: st)))) : own_Ends p e below G (T.setTop (mkF m pc Ls (.int j :: .ref a :: st))) := by
  subst hq
  obtain ⟨⟨locs, Y, N⟩, eT, hs0, hx, hZ, hby, hml, hown, hret, hlk, hnm⟩ := X
  obtain ⟨cl, A, r1, r2, r3, r4⟩ := F
  have hi : i < vs.length := (List.getElem?_eq_some_iff.mp hv).1
  exact own_pre (fun t K => Y.aaload hx (j := j) (v := v) (by rw [eT]; exact A.1) (State.isArrayOf_alike hZ.alike A.2.1) hty A.2.2 (own_in r2 hj hj0 hi) (by rw [hj, ← Array.getElem?_toList, r2]; exact hv) (g := mkF m pc Ls (.int j :: .ref a :: st)) rfl rfl (hb hby hd) t K) K
theorem own_laload (X : own_W p l e R s m args below meth c Z n0 y bytes ml ret T h k n) (q : Nat) {a : Addr} {kc : ClassId} {vs : List Value} {j : Int32} (i : Nat) (v : Value) (hd : decode bytes pc = .ok (.laload, 1)) (hq : pc + 1 = q) (F : own_A Z h a kc .long vs) (hj : j.toNatClampNeg = i) (hj0 : ¬ j < 0) (hv : vs[i]? = some v)
    (K : own_Ends p e below G (T.setTop (mkF m q Ls (v :: st)))) : own_Ends p e below G (T.setTop (mkF m pc Ls (.int j :: .ref a :: st))) := by
  subst hq
  obtain ⟨⟨locs, Y, N⟩, eT, hs0, hx, hZ, hby, hml, hown, hret, hlk, hnm⟩ := X
  obtain ⟨cl, A, r1, r2, r3, r4⟩ := F
  have hi : i < vs.length := (List.getElem?_eq_some_iff.mp hv).1
  exact own_pre (fun t K => Y.laload hx (j := j) (v := v) (by rw [eT]; exact A.1) (State.isArrayOf_alike hZ.alike A.2.1) A.2.2 (own_in r2 hj hj0 hi) (by rw [hj, ← Array.getElem?_toList, r2]; exact hv) (g := mkF m pc Ls (.int j :: .ref a :: st)) rfl rfl (hb hby hd) t K) K
theorem own_len (X : own_W p l e R s m args below meth c Z n0 y bytes ml ret T h k n) (q : Nat) {a : Addr} {kc : ClassId} {ty : FieldType} {vs : List Value} (x : Int32) (hd : decode bytes pc = .ok (.arraylength, 1)) (hq : pc + 1 = q) (F : own_A Z h a kc ty vs) (hx' : vs.length.toInt32 = x)
    (K : own_Ends p e below G (T.setTop (mkF m q Ls (.int x :: st)))) : own_Ends p e below G (T.setTop (mkF m pc Ls (.ref a :: st))) := by
  subst hq hx'
  obtain ⟨⟨locs, Y, N⟩, eT, hs0, hx, hZ, hby, hml, hown, hret, hlk, hnm⟩ := X
  obtain ⟨cl, A, r1, r2, r3, r4⟩ := F
  have hl : vs.length = cl.slots.size := by rw [← r2, Array.length_toList]
  rw [hl] at K
  exact own_pre (fun t K => Y.arraylength hx (by rw [eT]; exact A.1) (State.isArrayOf_alike hZ.alike A.2.1) (g := mkF m pc Ls (.ref a :: st)) rfl rfl (hb hby hd) t K) K
theorem own_iastore (X : own_W p l e R s m args below meth c Z n0 y bytes ml ret T h k n) (q : Nat) {a : Addr} {kc : ClassId} {vs : List Value} {j : Int32} {x : Int32} (i : Nat) (hd : decode bytes pc = .ok (.iastore, 1)) (hq : pc + 1 = q) (F : own_A Z h a kc .int vs) (hj : j.toNatClampNeg = i) (hj0 : ¬ j < 0) (hi : i < vs.length) (hnew : n0 ≤ a)
    (K : ∀ T' h', own_W p l e R s m args below meth c Z n0 y bytes ml ret T' h' k n → Wr h h' a i (.int x) → own_Ends p e below G (T'.setTop (mkF m q Ls st))) : own_Ends p e below G (T.setTop (mkF m pc Ls (.int x :: .int j :: .ref a :: st))) := by
  subst hq
  obtain ⟨⟨locs, Y, N⟩, eT, hs0, hx, hZ, hby, hml, hown, hret, hlk, hnm⟩ := X
  obtain ⟨cl, A, r1, r2, r3, r4⟩ := F
  obtain ⟨T1, h1, Y1, e1, W1, st1⟩ := stI Y hx hZ eT A (j := j) (own_in r2 hj hj0 hi) (g := mkF m pc Ls (.int x :: .int j :: .ref a :: st)) rfl rfl (hb hby hd)
  exact own_pre st1 (K T1 h1 ⟨⟨_, Y1, Fr.snoc Y1 N hnew⟩, e1, (by rw [W1.size]; exact hs0), hx, hZ, hby, hml, hown, hret, hlk, hnm⟩ (hj ▸ W1))
theorem own_castore (X : own_W p l e R s m args below meth c Z n0 y bytes ml ret T h k n) (q : Nat) {a : Addr} {kc : ClassId} {vs : List Value} {j : Int32} {x : Int32} (i : Nat) (hd : decode bytes pc = .ok (.castore, 1)) (hq : pc + 1 = q) (F : own_A Z h a kc .char vs) (hj : j.toNatClampNeg = i) (hj0 : ¬ j < 0) (hi : i < vs.length) (hnew : n0 ≤ a)
    (K : ∀ T' h', own_W p l e R s m args below meth c Z n0 y bytes ml ret T' h' k n → Wr h h' a i (.int (nar .char x)) → own_Ends p e below G (T'.setTop (mkF m q Ls st))) : own_Ends p e below G (T.setTop (mkF m pc Ls (.int x :: .int j :: .ref a :: st))) := by
  subst hq
  obtain ⟨⟨locs, Y, N⟩, eT, hs0, hx, hZ, hby, hml, hown, hret, hlk, hnm⟩ := X
  obtain ⟨cl, A, r1, r2, r3, r4⟩ := F
  obtain ⟨T1, h1, Y1, e1, W1, st1⟩ := stC Y hx hZ eT A (j := j) (own_in r2 hj hj0 hi) (g := mkF m pc Ls (.int x :: .int j :: .ref a :: st)) rfl rfl (hb hby hd)
  exact own_pre st1 (K T1 h1 ⟨⟨_, Y1, Fr.snoc Y1 N hnew⟩, e1, (by rw [W1.size]; exact hs0), hx, hZ, hby, hml, hown, hret, hlk, hnm⟩ (hj ▸ W1))
theorem own_bastore (X : own_W p l e R s m args below meth c Z n0 y bytes ml ret T h k n) (q : Nat) {a : Addr} {kc : ClassId} {vs : List Value} {j : Int32} {x : Int32} (i : Nat) (hd : decode bytes pc = .ok (.bastore, 1)) (hq : pc + 1 = q) (F : own_A Z h a kc .byte vs) (hj : j.toNatClampNeg = i) (hj0 : ¬ j < 0) (hi : i < vs.length) (hnew : n0 ≤ a)
    (K : ∀ T' h', own_W p l e R s m args below meth c Z n0 y bytes ml ret T' h' k n → Wr h h' a i (.int (nar .byte x)) → own_Ends p e below G (T'.setTop (mkF m q Ls st))) : own_Ends p e below G (T.setTop (mkF m pc Ls (.int x :: .int j :: .ref a :: st))) := by
  subst hq
  obtain ⟨⟨locs, Y, N⟩, eT, hs0, hx, hZ, hby, hml, hown, hret, hlk, hnm⟩ := X
  obtain ⟨cl, A, r1, r2, r3, r4⟩ := F
  obtain ⟨T1, h1, Y1, e1, W1, st1⟩ := stB Y hx hZ eT A (j := j) (own_in r2 hj hj0 hi) (g := mkF m pc Ls (.int x :: .int j :: .ref a :: st)) rfl rfl (hb hby hd)
  exact own_pre st1 (K T1 h1 ⟨⟨_, Y1, Fr.snoc Y1 N hnew⟩, e1, (by rw [W1.size]; exact hs0), hx, hZ, hby, hml, hown, hret, hlk, hnm⟩ (hj ▸ W1))
theorem own_zastore (X : own_W p l e R s m args below meth c Z n0 y bytes ml ret T h k n) (q : Nat) {a : Addr} {kc : ClassId} {vs : List Value} {j : Int32} {x : Int32} (i : Nat) (hd : decode bytes pc = .ok (.bastore, 1)) (hq : pc + 1 = q) (F : own_A Z h a kc .boolean vs) (hj : j.toNatClampNeg = i) (hj0 : ¬ j < 0) (hi : i < vs.length) (hnew : n0 ≤ a)
    (K : ∀ T' h', own_W p l e R s m args below meth c Z n0 y bytes ml ret T' h' k n → Wr h h' a i (.int (nar .boolean x)) → own_Ends p e below G (T'.setTop (mkF m q Ls st))) : own_Ends p e below G (T.setTop (mkF m pc Ls (.int x :: .int j :: .ref a :: st))) := by
  subst hq
  obtain ⟨⟨locs, Y, N⟩, eT, hs0, hx, hZ, hby, hml, hown, hret, hlk, hnm⟩ := X
  obtain ⟨cl, A, r1, r2, r3, r4⟩ := F
  obtain ⟨T1, h1, Y1, e1, W1, st1⟩ := stZ Y hx hZ eT A (j := j) (own_in r2 hj hj0 hi) (g := mkF m pc Ls (.int x :: .int j :: .ref a :: st)) rfl rfl (hb hby hd)
  exact own_pre st1 (K T1 h1 ⟨⟨_, Y1, Fr.snoc Y1 N hnew⟩, e1, (by rw [W1.size]; exact hs0), hx, hZ, hby, hml, hown, hret, hlk, hnm⟩ (hj ▸ W1))
theorem own_lastore (X : own_W p l e R s m args below meth c Z n0 y bytes ml ret T h k n) (q : Nat) {a : Addr} {kc : ClassId} {vs : List Value} {j : Int32} {x : Int64} (i : Nat) (hd : decode bytes pc = .ok (.lastore, 1)) (hq : pc + 1 = q) (F : own_A Z h a kc .long vs) (hj : j.toNatClampNeg = i) (hj0 : ¬ j < 0) (hi : i < vs.length) (hnew : n0 ≤ a)
    (K : ∀ T' h', own_W p l e R s m args below meth c Z n0 y bytes ml ret T' h' k n → Wr h h' a i (.long x) → own_Ends p e below G (T'.setTop (mkF m q Ls st))) : own_Ends p e below G (T.setTop (mkF m pc Ls (.long x :: .int j :: .ref a :: st))) := by
  subst hq
  obtain ⟨⟨locs, Y, N⟩, eT, hs0, hx, hZ, hby, hml, hown, hret, hlk, hnm⟩ := X
  obtain ⟨cl, A, r1, r2, r3, r4⟩ := F
  obtain ⟨T1, h1, Y1, e1, W1, st1⟩ := stJ Y hx hZ eT A (j := j) (own_in r2 hj hj0 hi) (g := mkF m pc Ls (.long x :: .int j :: .ref a :: st)) rfl rfl (hb hby hd)
  exact own_pre st1 (K T1 h1 ⟨⟨_, Y1, Fr.snoc Y1 N hnew⟩, e1, (by rw [W1.size]; exact hs0), hx, hZ, hby, hml, hown, hret, hlk, hnm⟩ (hj ▸ W1))
theorem own_aastore (X : own_W p l e R s m args below meth c Z n0 y bytes ml ret T h k n) (q : Nat) {a : Addr} {kc : ClassId} {ty : FieldType} {vs : List Value} {j : Int32} {x : Value} (i : Nat) (hd : decode bytes pc = .ok (.aastore, 1)) (hq : pc + 1 = q) (F : own_A Z h a kc ty vs) (hj : j.toNatClampNeg = i) (hj0 : ¬ j < 0) (hi : i < vs.length) (hty : ty.isReference = true) (hS : Sto Z h a x) (hnew : n0 ≤ a)
    (K : ∀ T' h', own_W p l e R s m args below meth c Z n0 y bytes ml ret T' h' k n → Wr h h' a i x → own_Ends p e below G (T'.setTop (mkF m q Ls st))) : own_Ends p e below G (T.setTop (mkF m pc Ls (x :: .int j :: .ref a :: st))) := by
  subst hq
  obtain ⟨⟨locs, Y, N⟩, eT, hs0, hx, hZ, hby, hml, hown, hret, hlk, hnm⟩ := X
  obtain ⟨cl, A, r1, r2, r3, r4⟩ := F
  obtain ⟨T1, h1, Y1, e1, W1, st1⟩ := stR Y hx hZ eT A (j := j) (own_in r2 hj hj0 hi) hty hS (g := mkF m pc Ls (x :: .int j :: .ref a :: st)) rfl rfl (hb hby hd)
  exact own_pre st1 (K T1 h1 ⟨⟨_, Y1, Fr.snoc Y1 N hnew⟩, e1, (by rw [W1.size]; exact hs0), hx, hZ, hby, hml, hown, hret, hlk, hnm⟩ (hj ▸ W1))
theorem own_A_new {Z : State} {h : Heap} {a : Addr} {kc : ClassId} {ty : FieldType} {z : Int32} {N : Nat} (A : Arr Z h a (newA kc ty z) ty) (hz : ¬ z < 0) (hN : z.toNatClampNeg = N) (hf : fits ty (defaultValue ty) = true) : own_A Z h a kc ty (List.replicate N (defaultValue ty)) := by
  refine ⟨_, A, rfl, by simp [newA, hN], by rw [List.length_replicate, ← hN]; exact (back32 hz).2, fun v hv => ?_⟩
  rw [(List.mem_replicate.mp hv).2]; exact hf
theorem own_newP (X : own_W p l e R s m args below meth c Z n0 y bytes ml ret T h k n) (q : Nat) {aty : ArrayType} {z : Int32} (len cap : Nat) (hd : decode bytes pc = .ok (.newarray aty, 2)) (hq : pc + 2 = q) (w : (Jvm.Cond.arrayClass (newarray.typeOf aty)).before a0 Z = true) (hz : ¬ z < 0) (hN : z.toNatClampNeg = len) (hcap : len ≤ cap) (hb8 : cap * 8 ≤ 536870912) (hc : k + 1 ≤ R.cells) (hl : n + cap ≤ R.slots)
    (K : ∀ T' h' a kc, a = h.size → own_W p l e R s m args below meth c Z n0 y bytes ml ret T' h' (k + 1) (n + cap) → Ext h h' → own_A Z h' a kc (newarray.typeOf aty) (List.replicate len (defaultValue (newarray.typeOf aty))) → own_Ends p e below G (T'.setTop (mkF m q Ls (.ref a :: st)))) : own_Ends p e below G (T.setTop (mkF m pc Ls (.int z :: st))) := by
  subst hq
  obtain ⟨⟨locs, Y, N⟩, eT, hs0, hx, hZ, hby, hml, hown, hret, hlk, hnm⟩ := X
  obtain ⟨T1, h1, kc, Y1, e1, E1, A1, st1⟩ := newP Y hx hZ w eT (g := mkF m pc Ls (.int z :: st)) rfl (hb hby hd) rfl hz (cap := cap) (by omega) hb8 hc hl
  exact own_pre st1 (K T1 h1 _ kc rfl ⟨⟨locs, Y1, N⟩, e1, (Nat.le_trans hs0 E1.1), hx, hZ, hby, hml, hown, hret, hlk, hnm⟩ E1 (own_A_new A1 hz hN (by cases aty <;> rfl)))
theorem own_newR (X : own_W p l e R s m args below meth c Z n0 y bytes ml ret T h k n) (q : Nat) {C : String} {i : Nat} {z : Int32} (len cap : Nat) {ad : String} (hd : decode bytes pc = .ok (.anewarray i, 3)) (hq : pc + 3 = q) (w1 : (Jvm.Cond.classLink y.cls i C).before a0 Z = true) (w2 : (Jvm.Cond.arrayOver (.object C)).before a0 Z = true) (hz : ¬ z < 0) (hN : z.toNatClampNeg = len) (hcap : len ≤ cap) (hb8 : cap * 8 ≤ 536870912) (hc : k + 1 ≤ R.cells) (hl : n + cap ≤ R.slots) (had : "[" ++ (FieldType.object C).toString = ad)
    (K : ∀ T' h' a kc, a = h.size → own_W p l e R s m args below meth c Z n0 y bytes ml ret T' h' (k + 1) (n + cap) → Ext h h' → own_A Z h' a kc (.object C) (List.replicate len .null) → Ovr Z kc C → Exa Z h' a ad → own_Ends p e below G (T'.setTop (mkF m q Ls (.ref a :: st)))) : own_Ends p e below G (T.setTop (mkF m pc Ls (.int z :: st))) := by
  subst hq
  obtain ⟨⟨locs, Y, N⟩, eT, hs0, hx, hZ, hby, hml, hown, hret, hlk, hnm⟩ := X
  obtain ⟨T1, h1, kc, Y1, e1, E1, A1, X1, O1, st1⟩ := newRE Y hx hZ hown w1 w2 eT (g := mkF m pc Ls (.int z :: st)) rfl (hb hby hd) rfl hz (cap := cap) (by omega) hb8 hc hl had
  exact own_pre st1 (K T1 h1 _ kc rfl ⟨⟨locs, Y1, N⟩, e1, (Nat.le_trans hs0 E1.1), hx, hZ, hby, hml, hown, hret, hlk, hnm⟩ E1 (own_A_new A1 hz hN rfl) O1 X1)
theorem own_clone (X : own_W p l e R s m args below meth c Z n0 y bytes ml ret T h k n) (q : Nat) {i : Nat} {ad : String} {a : Addr} {kc : ClassId} {ty : FieldType} {vs : List Value} (cap : Nat) (hd : decode bytes pc = .ok (.invokevirtual i, 3)) (hq : pc + 3 = q) (w1 : (Jvm.Cond.methodLink y.cls i ⟨ad, "clone", "()Ljava/lang/Object;"⟩).before a0 Z = true) (w2 : (Jvm.Cond.sameMethod ad "java/lang/Object" "clone" "()Ljava/lang/Object;").before a0 Z = true) (w3 : (Jvm.Cond.native ⟨"java/lang/Object", "clone", "()Ljava/lang/Object;"⟩).before a0 Z = true)
    (w4 : (Jvm.Cond.instanceMethod ⟨"java/lang/Object", "clone", "()Ljava/lang/Object;"⟩).before a0 Z = true) (w5 : (Jvm.Cond.selects ad ⟨ad, "clone", "()Ljava/lang/Object;"⟩ ⟨"java/lang/Object", "clone", "()Ljava/lang/Object;"⟩).before a0 Z = true) (w6 : (Jvm.Cond.castable ad "java/lang/Cloneable").before a0 Z = true)
    (F : own_A Z h a kc ty vs) (E : Exa Z h a ad) (hsz : Ls.size = ml) (hf : 1 ≤ R.frames) (hl : (st.map fun v => v.category).sum + 14 ≤ R.locals) (hcap : vs.length ≤ cap) (hc : k + 1 ≤ R.cells) (hsl : n + cap ≤ R.slots)
    (K : ∀ T' h' b, b = h.size → own_W p l e R s m args below meth c Z n0 y bytes ml ret T' h' (k + 1) (n + cap) → Ext h h' → own_A Z h' b kc ty vs → Exa Z h' b ad → own_Ends p e below G (T'.setTop (mkF m q Ls (.ref b :: st)))) : own_Ends p e below G (T.setTop (mkF m pc Ls (.ref a :: st))) := by
  subst hq
  obtain ⟨⟨locs, Y, N⟩, eT, hs0, hx, hZ, hby, hml, hown, hret, hlk, hnm⟩ := X
  obtain ⟨cl, A, r1, r2, r3, r4⟩ := F
  have hF : FitC Z cl := fitC_of A fun j hj v hv => r4 v (by rw [← r2]; exact List.mem_of_getElem? (by rw [Array.getElem?_toList]; exact hv))
  obtain ⟨T1, h1, Y1, e1, E1, A1, X1, st1⟩ := cloneA Y hx hZ hown w1 w2 w3 w4 w5 w6 eT A E hF (g := mkF m pc Ls (.ref a :: st)) rfl (hsz.trans hml.symm) rfl (hb hby hd) hf (W := (st.map fun v => v.category).sum) (cap := cap) (by show 2 * 0 + _ ≤ _; omega) hl (by rw [← Array.length_toList, r2]; exact hcap) hc hsl
  exact own_pre st1 (K T1 h1 _ rfl ⟨⟨locs, Y1, N⟩, e1, (Nat.le_trans hs0 E1.1), hx, hZ, hby, hml, hown, hret, hlk, hnm⟩ E1 ⟨_, A1, r1, r2, r3, r4⟩ X1)
theorem own_eqInt {args : Array Value} {first s : State} {o : Option Outcome} {idx : List Nat} {a : Term} {n : Int32} (h : (Jvm.Cond.eq a (Jvm.Term.int n)).value args first o s idx = some true) : a.eval args first o idx s = some (.int n) := by
  obtain ⟨x, y, h1, h2, h3, -⟩ := cmp_v (Or.inl h)
  rw [Term.int_eval] at h2
  cases h2
  cases x <;> simp [Kin, Value.isRef] at h3
  rename_i z
  have := gotT (P := z = n) (by simp [Cond.value, h1, Term.int_eval]) h
  rw [h1, this]
theorem own_eqRef {args : Array Value} {first s : State} {o : Option Outcome} {idx : List Nat} {a b : Term} {x : Addr} (h : (Jvm.Cond.eq a b).value args first o s idx = some true) (hb' : b.eval args first o idx s = some (.ref x)) : a.eval args first o idx s = some (.ref x) := by
  obtain ⟨u, v, h1, h2, h3, h4⟩ := cmp_v (Or.inl h)
  cases hb'.symm.trans h2
  have hu : u.isRef = true := by cases u <;> simp [Kin, Value.isRef] at h3 ⊢
  have := gotT (eq_R h1 h2 hu rfl) h
  rw [h1, this]
theorem own_len_size {args : Array Value} {s : State} {t : Term} {a : Addr} {n : Int32} {cell : Cell} {ty : FieldType} (h : (Jvm.Cond.eq (Jvm.Term.length t) (Jvm.Term.int n)).value args s none s [] = some true) (ev : t.eval args s none [] s = some (.ref a)) (A : Arr s s.heap a cell ty) : cell.slots.size < 2 ^ 31 ∧ cell.slots.size.toInt32 = n :=
  IntBox.length_fwd (Cond.before_iff.mpr h) ev A.1 A.2.1 A.2.2
theorem own_A_start {args : Array Value} {s : State} {t : Term} {a : Addr} {ty : FieldType} {n : Int32} {vs : List Value} (hf : Fit s) (ev : t.eval args s none [] s = some (.ref a)) (hA : (Jvm.Cond.arrayOf t ty).value args s none s [] = some true) (hL : (Jvm.Cond.eq (Jvm.Term.length t) (Jvm.Term.int n)).value args s none s [] = some true) (hn : n.toNatClampNeg = vs.length)
    (he : ∀ (i : Nat) (v : Value), vs[i]? = some v → (Jvm.Term.elem t (Jvm.Term.int (Int32.ofNat i))).eval args s none [] s = some v) : ∃ kc, own_A s s.heap a kc ty vs := by
  obtain ⟨c, A⟩ := Arr.start ev hA
  obtain ⟨q1, q2⟩ := own_len_size hL ev A
  have hsz : c.slots.size = vs.length := by
    rw [← hn, ← q2]; show _ = (c.slots.size.toInt32.toInt).toNat; rw [len_toInt q1]; rfl
  refine ⟨c.cls, c, A, rfl, ?_, by omega, ?_⟩
  · apply List.ext_getElem?
    intro i
    by_cases hi : i < vs.length
    · have h1 := elem_in (he i _ (List.getElem?_eq_getElem hi)) ev (Term.int_eval _) A.1
      have hj : (Int32.ofNat i).toNatClampNeg = i := by show (Int32.ofNat i).toInt.toNat = i; rw [Int32.toInt_ofNat_small (by omega)]; rfl
      rw [Array.getElem?_toList, List.getElem?_eq_getElem hi]
      rw [hj] at h1; exact h1.2
    · rw [List.getElem?_eq_none (l := c.slots.toList) (by rw [Array.length_toList]; omega), List.getElem?_eq_none (l := vs) (by omega)]
  · intro v hv
    obtain ⟨i, hi, rfl⟩ := List.getElem_of_mem hv
    have h1 := elem_in (he i _ (List.getElem?_eq_getElem hi)) ev (Term.int_eval _) A.1
    exact elem_fits hf A h1.1 h1.2
/-- the Class object of C -/
def own_Mir (Z : State) (C : String) (mr : Addr) : Prop := ∃ (c : ClassId) (k : Class), Z.vm.findClass C = some c ∧ Z.vm.classes[c]? = some k ∧ k.mirror = some mr
theorem own_gcls (X : own_W p l e R s m args below meth c Z n0 y bytes ml ret T h k n) (q : Nat) {i : Nat} {C : String} {a mr : Addr} (hd : decode bytes pc = .ok (.invokevirtual i, 3)) (hq : pc + 3 = q) (w1 : (Jvm.Cond.methodLink y.cls i ⟨"java/lang/Object", "getClass", "()Ljava/lang/Class;"⟩).before a0 Z = true) (w2 : (Jvm.Cond.declares ⟨"java/lang/Object", "getClass", "()Ljava/lang/Class;"⟩).before a0 Z = true) (w3 : (Jvm.Cond.noSuperclass "java/lang/Object").before a0 Z = true) (w4 : (Jvm.Cond.selects C ⟨"java/lang/Object", "getClass", "()Ljava/lang/Class;"⟩ ⟨"java/lang/Object", "getClass", "()Ljava/lang/Class;"⟩).before a0 Z = true)
    (w5 : (Jvm.Cond.instanceMethod ⟨"java/lang/Object", "getClass", "()Ljava/lang/Class;"⟩).before a0 Z = true) (w6 : (Jvm.Cond.native ⟨"java/lang/Object", "getClass", "()Ljava/lang/Class;"⟩).before a0 Z = true) (E : Exa Z h a C) (M : own_Mir Z C mr) (hsz : Ls.size = ml) (hf : 1 ≤ R.frames) (hl : (st.map fun v => v.category).sum + 14 ≤ R.locals)
    (K : ∀ T', own_W p l e R s m args below meth c Z n0 y bytes ml ret T' h k n → own_Ends p e below G (T'.setTop (mkF m q Ls (.ref mr :: st)))) : own_Ends p e below G (T.setTop (mkF m pc Ls (.ref a :: st))) := by
  subst hq
  obtain ⟨⟨locs, Y, N⟩, eT, hs0, hx, hZ, hby, hml, hown, hret, hlk, hnm⟩ := X
  obtain ⟨cB, kB, i1, i2, i3⟩ := isOf hZ eT E
  obtain ⟨cc, kc, m1, m2, m3⟩ := M
  rw [hZ.alike.findClass] at i1
  cases i1.symm.trans m1
  obtain ⟨k', q, ek⟩ := hZ.alike.2.2 _ _ m2
  obtain ⟨vm', Y1, st1⟩ := Y.getClassOf hx hown (mvT hZ w1) (mvT hZ w2) (nf_top (args := #[]) (mvT hZ w3)) (mvT hZ w4) (mvT hZ w5) (mvT hZ w6) (by rw [hZ.alike.findClass]; exact m1) i3 q (by rw [ek]; exact m3) (g := mkF m pc Ls (.ref a :: st)) rfl (hsz.trans hml.symm) rfl (hb hby hd) hf (by show 2 * 0 + _ + (nativeFrameWords "java/lang/Object" "getClass" 1 + 11) ≤ _; rw [show nativeFrameWords "java/lang/Object" "getClass" 1 = 3 from by decide]; omega)
  exact own_pre st1 (K _ ⟨⟨locs, Y1, N⟩, eT, hs0, hx, hZ, hby, hml, hown, hret, hlk, hnm⟩)
theorem own_ldcM (X : own_W p l e R s m args below meth c Z n0 y bytes ml ret T h k n) (q : Nat) {i : Nat} {C : String} {mr : Addr} (hd : decode bytes pc = .ok (.ldc i, 2)) (hq : pc + 2 = q) (w : (Jvm.Cond.classLink y.cls i C).before a0 Z = true) (M : own_Mir Z C mr)
    (K : ∀ T', own_W p l e R s m args below meth c Z n0 y bytes ml ret T' h k n → own_Ends p e below G (T'.setTop (mkF m q Ls (.ref mr :: st)))) : own_Ends p e below G (T.setTop (mkF m pc Ls st)) := by
  subst hq
  obtain ⟨⟨locs, Y, N⟩, eT, hs0, hx, hZ, hby, hml, hown, hret, hlk, hnm⟩ := X
  obtain ⟨cc, kc, m1, m2, m3⟩ := M
  obtain ⟨k', q, ek⟩ := hZ.alike.2.2 _ _ m2
  have hk' : k'.mirror = some mr := by rw [ek]; exact m3
  have hf' : s.vm.findClass C = some cc := by rw [hZ.alike.findClass]; exact m1
  obtain ⟨vm', Y1, st1⟩ := Y.ldcMirror hx hown (mvT hZ w) (a := mr) (by simp [Term.eval, hf', q, hk']) (g := mkF m pc Ls st) rfl (hb hby hd)
  exact own_pre st1 (K _ ⟨⟨locs, Y1, N⟩, eT, hs0, hx, hZ, hby, hml, hown, hret, hlk, hnm⟩)
theorem own_tswIn (X : own_W p l e R s m args below meth c Z n0 y bytes ml ret T h k n) (q : Nat) {dflt low high o : Int} {offs : Array Int} {len : Nat} {x : Int32} (hd : decode bytes pc = .ok (.tableswitch dflt low high offs, len)) (hin : ¬ (x.toInt < low ∨ x.toInt > high)) (hoff : offs[(x.toInt - low).toNat]? = some o) (ho : 0 ≤ (pc : Int) + o) (hq : ((pc : Int) + o).toNat = q) (K : own_Ends p e below G (T.setTop (mkF m q Ls st))) : own_Ends p e below G (T.setTop (mkF m pc Ls (.int x :: st))) := by
  obtain ⟨⟨locs, Y, N⟩, eT, hs0, hx, hZ, hby, hml, hown, hret, hlk, hnm⟩ := X
  exact own_pre (fun t K => XS.tswIn Y.here hx rfl rfl (hb hby hd) rfl hin hoff ho hq K) K
theorem own_tswOut (X : own_W p l e R s m args below meth c Z n0 y bytes ml ret T h k n) (q : Nat) {dflt low high : Int} {offs : Array Int} {len : Nat} {x : Int32} (hd : decode bytes pc = .ok (.tableswitch dflt low high offs, len)) (hout : x.toInt < low ∨ x.toInt > high) (ho : 0 ≤ (pc : Int) + dflt) (hq : ((pc : Int) + dflt).toNat = q) (K : own_Ends p e below G (T.setTop (mkF m q Ls st))) : own_Ends p e below G (T.setTop (mkF m pc Ls (.int x :: st))) := by
  obtain ⟨⟨locs, Y, N⟩, eT, hs0, hx, hZ, hby, hml, hown, hret, hlk, hnm⟩ := X
  exact own_pre (fun t K => XS.tswOut Y.here hx rfl rfl (hb hby hd) rfl hout ho hq K) K
theorem own_initN (X : own_W p l e R s m args below meth c Z n0 y bytes ml ret T h k n) (q : Nat) {y' : MethodName} {bytes' : ByteArray} {ml' : Nat} {rm : Room} {as' : Array Value} {Q : Option Value → Heap → Prop} {i : Nat} {ps : List FieldType} {rr : Option FieldType} {a : Addr} {host : String} (argsL rest : List Value) (hd : decode bytes pc = .ok (.invokespecial i, 3)) (hq : pc + 3 = q) (w1 : (Jvm.Cond.methodLinkNest y.cls i y' host).before a0 Z = true) (w2 : (Jvm.Cond.instanceMethod y').before a0 Z = true) (w3 : (Jvm.Cond.initialized y'.cls).before a0 Z = true) (w4 : (Jvm.Cond.code y' bytes' ml' none).before a0 Z = true) (hy : y'.cls ≠ "java/lang/invoke/MethodHandle" ∧ y'.cls ≠ "java/lang/invoke/VarHandle") (hy1 : y'.name = "<init>")
    (M : own_Met l y' bytes' ml' none rm Z as' h n0 Q) (hkeep : ∀ v h', Q v h' → h.size ≤ h'.size) (has : as' = (.ref a :: argsL).toArray) (hpd : parseMethodDescriptor y'.desc = some ⟨ps, rr⟩) (hlen : argsL.length = ps.length) (hst : st = argsL.reverse ++ .ref a :: rest) (hsz : Ls.size = ml) (hf : rm.frames + 1 ≤ R.frames) (hl : (rest.map fun v => v.category).sum + (ml' + 11) + rm.locals ≤ R.locals) (hck : k + rm.cells ≤ R.cells) (hcn : n + rm.slots ≤ R.slots)
    (K : ∀ v T' h', own_W p l e R s m args below meth c Z n0 y bytes ml ret T' h' (k + rm.cells) (n + rm.slots) → Q v h' → own_Ends p e below G (T'.setTop (mkF m q Ls (v.toList ++ rest)))) : own_Ends p e below G (T.setTop (mkF m pc Ls st)) := by
  subst hq has hst
  obtain ⟨⟨locs, Y, N⟩, eT, hs0, hx, hZ, hby, hml, hown, hret, hlk, hnm⟩ := X
  obtain ⟨v1, _, ⟨T1, L1, k1, n1⟩, -, Y1, ⟨Lc1, hQ1, l1, c1, s1⟩, st1⟩ := Y.specialBackNest hx hy1 hown (Cond.methodLinkNest_wide hZ w1 :) (mvT hZ w2) (mvT hZ w4) hy (backOf (Q := fun v h L => Q v h ∧ Fr n0 L) (W := (rest.map fun v => v.category).sum) (M []) hZ w4 w3 hf (by omega)) (g := mkF m pc Ls (argsL.reverse ++ .ref a :: rest)) rfl (hsz.trans hml.symm) (Steps.refl _) (a := a) (argsL := argsL) (rest := rest) (lenOf hpd hlen) rfl (by show 2 * 0 + _ ≤ _; omega) (hb hby hd) (fun _ _ => ⟨rfl, eT, hck, hcn⟩)
  dsimp only [Pt.U, Pt.locs, Pt.cells, Pt.slots] at Y1 l1 c1 s1 st1 hQ1
  subst l1 c1 s1
  exact own_pre (fun t K => st1.trans K) (K _ _ _ ⟨⟨_, Y1, Fr.app N hQ1.2⟩, rfl, Nat.le_trans hs0 (hkeep _ _ hQ1.1), hx, hZ, hby, hml, hown, hret, hlk, hnm⟩ hQ1.1)
theorem own_A_arv {Z : State} {h : Heap} {a : Addr} {kc : ClassId} {ty : FieldType} {vs : List Value} (F : own_A Z h a kc ty vs) : Arv Z h a kc ty vs.length.toInt32 vs .null ∧ vs.length.toInt32.toNatClampNeg = vs.length := by
  obtain ⟨c, A, r1, r2, r3, r4⟩ := F
  have hz : vs.length.toInt32.toNatClampNeg = vs.length := by show (vs.length.toInt32.toInt).toNat = _; rw [len_toInt r3]; rfl
  have hs : c.slots.size = vs.length := by rw [← r2, Array.length_toList]
  refine ⟨⟨c, A, r1, by rw [hz, hs], ?_, fun i hi => ?_, fun i hi => ?_⟩, hz⟩
  · rw [Int32.lt_iff_toInt_lt, len_toInt r3, show (0 : Int32).toInt = 0 from by decide]; omega
  · rw [hs] at hi
    rw [← Array.getElem?_toList, r2, List.getD_eq_getElem?_getD, List.getElem?_eq_getElem hi]; rfl
  · rw [hs] at hi
    rw [List.getD_eq_getElem?_getD, List.getElem?_eq_getElem hi]; exact r4 _ (List.getElem_mem hi)
theorem own_A_of {Z : State} {h : Heap} {a : Addr} {kc : ClassId} {ty : FieldType} {z : Int32} {vs : List Value} {d : Value} (F : Arv Z h a kc ty z vs d) (hl : z.toNatClampNeg = vs.length) : own_A Z h a kc ty vs := by
  obtain ⟨c, A, r1, r2, r3, r4, r5⟩ := F
  have hs : c.slots.size = vs.length := by rw [r2, hl]
  have h31 : vs.length < 2 ^ 31 := by rw [← hl]; exact (back32 r3).2
  have hL : c.slots.toList = vs := by
    apply List.ext_getElem?
    intro i
    by_cases hi : i < vs.length
    · rw [Array.getElem?_toList, r4 i (by omega), List.getD_eq_getElem?_getD, List.getElem?_eq_getElem hi]; rfl
    · rw [List.getElem?_eq_none (l := c.slots.toList) (by rw [Array.length_toList]; omega), List.getElem?_eq_none (l := vs) (by omega)]
  refine ⟨c, A, r1, hL, h31, fun v hv => ?_⟩
  obtain ⟨i, hi, rfl⟩ := List.getElem_of_mem hv
  have := r5 i (by omega)
  rwa [List.getD_eq_getElem?_getD, List.getElem?_eq_getElem hi] at this
theorem own_cpy (X : own_W p l e R s m args below meth c Z n0 y bytes ml ret T h k n) (q : Nat) {i : Nat} {a b : Addr} {k1 k2 : ClassId} {ty1 ty2 : FieldType} {vs vd : List Value} {sp dp nn : Int32} (sn dn cn : Nat) (us res : List Value) (hd : decode bytes pc = .ok (.invokestatic i, 3)) (hq : pc + 3 = q) (w1 : (Jvm.Cond.methodLink y.cls i Jvm.Stand.acN).before a0 Z = true) (w2 : (Jvm.Cond.native Jvm.Stand.acN).before a0 Z = true) (w3 : (Jvm.Cond.static Jvm.Stand.acN).before a0 Z = true) (w4 : (Jvm.Cond.initialized "java/lang/System").before a0 Z = true)
    (A : own_A Z h a k1 ty1 vs) (B : own_A Z h b k2 ty2 vd) (hty : (ty1 = ty2 ∧ refKind ty1 = false) ∨ (refKind ty1 = true ∧ refKind ty2 = true ∧ StoL Z h b us)) (h1 : sp.toNatClampNeg = sn) (h1' : ¬ sp < 0) (h2 : dp.toNatClampNeg = dn) (h2' : ¬ dp < 0) (h3 : nn.toNatClampNeg = cn) (h3' : ¬ nn < 0) (h4 : sn + cn ≤ vs.length) (h5 : dn + cn ≤ vd.length)
    (hus : us = (List.range cn).map fun i => vs.getD (sn + i) .null) (hres : vd.take dn ++ us ++ vd.drop (dn + cn) = res) (hnew : n0 ≤ b) (hsz : Ls.size = ml) (hf : 1 ≤ R.frames) (hl : (st.map fun v => v.category).sum + 18 ≤ R.locals)
    (K : ∀ T' h', own_W p l e R s m args below meth c Z n0 y bytes ml ret T' h' k n → Keep h h' [b] → own_A Z h' b k2 ty2 res → own_Ends p e below G (T'.setTop (mkF m q Ls st))) : own_Ends p e below G (T.setTop (mkF m pc Ls (.int nn :: .int dp :: .ref b :: .int sp :: .ref a :: st))) := by
  subst hq h1 h2 h3 hres
  obtain ⟨⟨locs, Y, N⟩, eT, hs0, hx, hZ, hby, hml, hown, hret, hlk, hnm⟩ := X
  obtain ⟨A1, A2⟩ := own_A_arv A
  obtain ⟨B1, B2⟩ := own_A_arv B
  obtain ⟨T1, h1, L1, Y1, e1, N1, K1, V1, st1⟩ := cpA Y hx hZ hown w1 w2 w3 w4 eT (us := us) A1 B1 hty h1' h2' h3' (by rw [A2]; exact h4) (by rw [B2]; exact h5) hus h5 N hnew (g := mkF m pc Ls (.int nn :: .int dp :: .ref b :: .int sp :: .ref a :: st)) rfl (hsz.trans hml.symm) rfl (hb hby hd) hf (W := (st.map fun v => v.category).sum) (by show 2 * 0 + _ ≤ _; omega) (by rw [show nativeFrameWords "java/lang/System" "arraycopy" 5 = 7 from by decide]; exact hl)
  exact own_pre st1 (K T1 h1 ⟨⟨L1, Y1, N1⟩, e1, Nat.le_trans hs0 K1.1, hx, hZ, hby, hml, hown, hret, hlk, hnm⟩ K1 (own_A_of V1 (by rw [B2, hus]; simp only [List.length_append, List.length_take, List.length_drop, List.length_map, List.length_range]; omega)))
end OwnKit
theorem own_and3 (a : Int32) : a &&& 3 = 0 ∨ a &&& 3 = 1 ∨ a &&& 3 = 2 ∨ a &&& 3 = 3 := by
  have h : ∀ b : BitVec 32, b &&& 3#32 = 0#32 ∨ b &&& 3#32 = 1#32 ∨ b &&& 3#32 = 2#32 ∨ b &&& 3#32 = 3#32 := fun b => by
    have hb : (b &&& 3#32).toNat = b.toNat % 4 := by rw [BitVec.toNat_and]; exact Nat.and_two_pow_sub_one_eq_mod b.toNat 2
    simp only [← BitVec.toNat_inj, hb, BitVec.toNat_ofNat]
    omega
  rcases h a.toBitVec with h | h | h | h
  · exact Or.inl (Int32.toBitVec_inj.mp h)
  · exact Or.inr (Or.inl (Int32.toBitVec_inj.mp h))
  · exact Or.inr (Or.inr (Or.inl (Int32.toBitVec_inj.mp h)))
  · exact Or.inr (Or.inr (Or.inr (Int32.toBitVec_inj.mp h)))
theorem own_NS_root {Z : State} {a0 : Array Value} {O K : String} {n : Nat} (w : (Jvm.Cond.noSuperclass O).before a0 Z = true) (wk : (Jvm.Cond.instantiable K n).before a0 Z = true) (hn : O ≠ K) : NS Z O K := by
  obtain ⟨c, k, h1, h2, h3, -, -⟩ := Cond.noSuperclass_spec w
  obtain ⟨t, kt, g1, -⟩ := Cond.instantiable_spec wk
  have ne := ids_ne h1 g1 hn
  refine ⟨c, t, h1, g1, fun fuel => ?_⟩
  cases fuel with
  | zero => rfl
  | succ f => simp [Vm.isSubclassAux, ne, h2, h3]
theorem own_NS_no {Z : State} {a0 : Array Value} {C S K : String} {n : Nat} (w : (Jvm.Cond.superclass C S).before a0 Z = true) (wk : (Jvm.Cond.instantiable K n).before a0 Z = true) (N : NS Z C K) (hn : C ≠ K) : ∃ c t, Z.vm.findClass C = some c ∧ Z.vm.findClass K = some t ∧ Z.vm.assignable c t = false := by
  obtain ⟨c, t, h0, g0, n3⟩ := N
  obtain ⟨p, k, kp, h1, h2, h3, h4, h5, -, h7⟩ := Cond.superclass_spec h0 w
  obtain ⟨t', k', g1, g2, g5, g6, -⟩ := Cond.instantiable_spec wk
  cases g0.symm.trans g1
  have g7 := (Bool.or_eq_false_iff.mp g6).1
  have ne := ids_ne h0 g0 hn
  refine ⟨c, _, h0, g0, ?_⟩
  show Z.vm.assignableAux (255 + 1) c _ = false
  simp [Vm.assignableAux, ne, h2, g2, h5, g5, g7, Vm.isSubclass, n3]
def own_min (x y : Int32) : Int32 := if y < x then y else x
def own_max (x y : Int32) : Int32 := if x < y then y else x
theorem own_d6_0 : decode jdk_22_method_1_code 0 = .ok (.aload_n 0, 1) := by decide +kernel
theorem own_d6_1 : decode jdk_22_method_1_code 1 = .ok (.invokespecial 1, 3) := by decide +kernel
theorem own_d6_4 : decode jdk_22_method_1_code 4 = .ok (.return_, 1) := by decide +kernel
theorem own_pn6 : plainFor (⟨"java/util/AbstractCollection", "<init>", "()V"⟩ : MethodName) = true := plainFor_of_name (by first | (simp [plainName, overriddenIn]; done) | decide +kernel)
set_option maxRecDepth 65536 in
set_option maxHeartbeats 40000000 in
theorem own_abc (l : Launch) (Z : State) (a0 : Array Value) (hw : ∀ d ∈ tables_1, d.before a0 Z = true) (a : Addr) (h0 : Heap) (n0 : Nat) (hs0 : n0 ≤ h0.size) :
    own_Met l (⟨"java/util/AbstractCollection", "<init>", "()V"⟩ : MethodName) jdk_22_method_1_code 1 none ({ frames := 1, cells := 0, slots := 0, locals := 12 } : Room) Z #[(.ref a)] h0 n0 (fun v h' => h' = h0 ∧ v = none) := by
  refine own_met (Ls := #[.val (.ref a)]) own_pn6 hs0 (fun m => by first | (simp [entryFrame, mkF, argsToLocals, Value.category]; done) | rfl) ?_
  intro p e s m below meth c T X
  refine own_aloadN X 1 (.ref a) own_d6_0 rfl rfl rfl ?_
  refine own_initO X 4 own_d6_1 rfl (hw _ (List.mem_of_getElem? (i := 40) rfl)) (hw _ (List.mem_of_getElem? (i := 12) rfl)) (hw _ (List.mem_of_getElem? (i := 13) rfl)) rfl (by decide) (Nat.le_of_ble_eq_true rfl) ?_
  intro T X
  exact own_retV X own_d6_4 rfl (by decide) (by decide) (⟨rfl, rfl⟩)
theorem own_d5_0 : decode jdk_39_method_1_code 0 = .ok (.aload_n 0, 1) := by decide +kernel
theorem own_d5_1 : decode jdk_39_method_1_code 1 = .ok (.invokespecial 1, 3) := by decide +kernel
theorem own_pd0 : parseMethodDescriptor "()V" = some ⟨[], none⟩ := by decide +kernel
theorem own_d5_4 : decode jdk_39_method_1_code 4 = .ok (.aload_n 0, 1) := by decide +kernel
theorem own_d5_5 : decode jdk_39_method_1_code 5 = .ok (.iconst 0, 1) := by decide +kernel
theorem own_d5_6 : decode jdk_39_method_1_code 6 = .ok (.putfield 7, 3) := by decide +kernel
theorem own_d5_9 : decode jdk_39_method_1_code 9 = .ok (.return_, 1) := by decide +kernel
theorem own_pn5 : plainFor (⟨"java/util/AbstractList", "<init>", "()V"⟩ : MethodName) = true := plainFor_of_name (by first | (simp [plainName, overriddenIn]; done) | decide +kernel)
set_option maxRecDepth 65536 in
set_option maxHeartbeats 40000000 in
theorem own_abl (l : Launch) (Z : State) (a0 : Array Value) (hw : ∀ d ∈ tables_1, d.before a0 Z = true) (a : Addr) (h0 : Heap) (n0 : Nat) (hs0 : n0 ≤ h0.size) (Fm : Fld Z h0 a "java/util/AbstractList" "modCount" "I" (.int 0)) (Fs : Fld Z h0 a "java/util/ArrayList" "size" "I" (.int 0)) (Fe : Fld Z h0 a "java/util/ArrayList" "elementData" "[Ljava/lang/Object;" .null) (Ea : Exa Z h0 a "java/util/ArrayList") (ga : n0 ≤ a) :
    own_Met l (⟨"java/util/AbstractList", "<init>", "()V"⟩ : MethodName) jdk_39_method_1_code 1 none ({ frames := 2, cells := 0, slots := 0, locals := 24 } : Room) Z #[(.ref a)] h0 n0 (fun v h' => Keep h0 h' [a] ∧ v = none ∧ Fld Z h' a "java/util/AbstractList" "modCount" "I" (.int 0) ∧ Fld Z h' a "java/util/ArrayList" "size" "I" (.int 0) ∧ Fld Z h' a "java/util/ArrayList" "elementData" "[Ljava/lang/Object;" .null) := by
  refine own_met (Ls := #[.val (.ref a)]) own_pn5 hs0 (fun m => by first | (simp [entryFrame, mkF, argsToLocals, Value.category]; done) | rfl) ?_
  intro p e s m below meth c T X
  have K0 := Keep.refl h0 [a]
  have hi_a : h0.size > a := Fm.lt
  refine own_aloadN X 1 (.ref a) own_d5_0 rfl rfl rfl ?_
  refine own_init X 4 [] [] own_d5_1 rfl (hw _ (List.mem_of_getElem? (i := 34) rfl)) (hw _ (List.mem_of_getElem? (i := 35) rfl)) (hw _ (List.mem_of_getElem? (i := 38) rfl)) (hw _ (List.mem_of_getElem? (i := 39) rfl)) (by decide) rfl (own_abc l Z a0 hw a h0 n0 X.sz) (fun _ _ q => Nat.le_of_eq (congrArg Array.size q.1.symm)) rfl own_pd0 rfl rfl rfl (by decide) (Nat.le_of_ble_eq_true rfl) (by decide) (by decide) ?_
  rintro v1 T h_ X ⟨eh_, rfl⟩
  rw [eh_] at X
  show own_Ends p e below _ (T.setTop (mkF m 4 #[.val (.ref a)] []))
  refine own_aloadN X 5 (.ref a) own_d5_4 rfl rfl rfl ?_
  refine own_iconst X 6 (0 : Int32) own_d5_5 rfl rfl ?_
  refine own_putF X 9 .int own_d5_6 rfl (hw _ (List.mem_of_getElem? (i := 41) rfl)) Via.refl Fm Ea (Or.inl (hw _ (List.mem_of_getElem? (i := 42) rfl))) (hw _ (List.mem_of_getElem? (i := 23) rfl)) (by decide) rfl rfl (by omega) ?_
  intro T h1 X W_h1
  have nw_h1 := Fld.same W_h1 Fm
  have zs_h1 : h0.size ≤ h1.size := (Nat.le_of_eq W_h1.size.symm)
  have Fs := Fld.other W_h1 Fs (Or.inr (slot_ne (Or.inl (hw _ (List.mem_of_getElem? (i := 58) rfl))) (Or.inl (hw _ (List.mem_of_getElem? (i := 42) rfl))) (by decide) (t := .int) (t' := .int) (by decide) (by decide)))
  have Fe := Fld.other W_h1 Fe (Or.inr (slot_ne (Or.inl (hw _ (List.mem_of_getElem? (i := 45) rfl))) (Or.inl (hw _ (List.mem_of_getElem? (i := 42) rfl))) (by decide) (t := (.array (.object "java/lang/Object"))) (t' := .int) (by decide) (by decide)))
  have Ea := Exa.wr W_h1 Ea
  have K0 := K0.wr W_h1 (Or.inl (by simp))
  have Fm := nw_h1
  exact own_retV X own_d5_9 rfl (by decide) (by decide) (⟨K0, rfl, Fm, Fs, Fe⟩)
theorem own_d4_0 : decode jdk_38_method_2_code 0 = .ok (.aload_n 0, 1) := by decide +kernel
theorem own_d4_1 : decode jdk_38_method_2_code 1 = .ok (.invokespecial 1, 3) := by decide +kernel
theorem own_d4_4 : decode jdk_38_method_2_code 4 = .ok (.aload_n 0, 1) := by decide +kernel
theorem own_d4_5 : decode jdk_38_method_2_code 5 = .ok (.getstatic 39, 3) := by decide +kernel
theorem own_d4_8 : decode jdk_38_method_2_code 8 = .ok (.putfield 9, 3) := by decide +kernel
theorem own_d4_11 : decode jdk_38_method_2_code 11 = .ok (.return_, 1) := by decide +kernel
theorem own_pn4 : plainFor (⟨"java/util/ArrayList", "<init>", "()V"⟩ : MethodName) = true := plainFor_of_name (by first | (simp [plainName, overriddenIn]; done) | decide +kernel)
set_option maxRecDepth 65536 in
set_option maxHeartbeats 40000000 in
theorem own_alinit (l : Launch) (Z : State) (a0 : Array Value) (hw : ∀ d ∈ tables_1, d.before a0 Z = true) (a : Addr) (de : Addr) (h0 : Heap) (n0 : Nat) (hs0 : n0 ≤ h0.size) (OL : Old Z n0 h0) (z_de : Sta Z Z.heap "java/util/ArrayList" "DEFAULTCAPACITY_EMPTY_ELEMENTDATA" "[Ljava/lang/Object;" (.ref de)) (Fm : Fld Z h0 a "java/util/AbstractList" "modCount" "I" (.int 0)) (Fs : Fld Z h0 a "java/util/ArrayList" "size" "I" (.int 0)) (Fe : Fld Z h0 a "java/util/ArrayList" "elementData" "[Ljava/lang/Object;" .null) (Ea : Exa Z h0 a "java/util/ArrayList") (ga : n0 ≤ a) :
    own_Met l (⟨"java/util/ArrayList", "<init>", "()V"⟩ : MethodName) jdk_38_method_2_code 1 none ({ frames := 3, cells := 0, slots := 0, locals := 36 } : Room) Z #[(.ref a)] h0 n0 (fun v h' => Keep h0 h' [a] ∧ v = none ∧ Fld Z h' a "java/util/AbstractList" "modCount" "I" (.int 0) ∧ Fld Z h' a "java/util/ArrayList" "size" "I" (.int 0) ∧ Fld Z h' a "java/util/ArrayList" "elementData" "[Ljava/lang/Object;" (.ref de)) := by
  refine own_met (Ls := #[.val (.ref a)]) own_pn4 hs0 (fun m => by first | (simp [entryFrame, mkF, argsToLocals, Value.category]; done) | rfl) ?_
  intro p e s m below meth c T X
  have K0 := Keep.refl h0 [a]
  have hi_a : h0.size > a := Fm.lt
  refine own_aloadN X 1 (.ref a) own_d4_0 rfl rfl rfl ?_
  refine own_init X 4 [] [] own_d4_1 rfl (hw _ (List.mem_of_getElem? (i := 28) rfl)) (hw _ (List.mem_of_getElem? (i := 29) rfl)) (hw _ (List.mem_of_getElem? (i := 32) rfl)) (hw _ (List.mem_of_getElem? (i := 33) rfl)) (by decide) rfl (own_abl l Z a0 hw a h0 n0 X.sz Fm Fs Fe Ea (by omega)) (fun _ _ q => q.1.1) rfl own_pd0 rfl rfl rfl (by decide) (Nat.le_of_ble_eq_true rfl) (by decide) (by decide) ?_
  rintro v1 T h1 X ⟨K_, rfl, Fm_, Fs_, Fe_⟩
  have zs_h1 : h0.size ≤ h1.size := K_.1
  have OL := OL.keep K_ (allS (by omega) all0)
  have Ea := Ea.keep K_
  have K0 := K0.trans K_ (allS (Or.inl (by simp)) all0)
  have F_modCount_a := Fm_
  have F_size_a := Fs_
  have F_elementData_a := Fe_
  show own_Ends p e below _ (T.setTop (mkF m 4 #[.val (.ref a)] []))
  refine own_aloadN X 5 (.ref a) own_d4_4 rfl rfl rfl ?_
  refine own_getS X 8 own_d4_5 rfl (hw _ (List.mem_of_getElem? (i := 43) rfl)) Via.refl (Sta.ext OL.2 z_de) ?_
  intro T X
  refine own_putF X 11 (.array (.object "java/lang/Object")) own_d4_8 rfl (hw _ (List.mem_of_getElem? (i := 44) rfl)) Via.refl F_elementData_a Ea (Or.inl (hw _ (List.mem_of_getElem? (i := 45) rfl))) (hw _ (List.mem_of_getElem? (i := 23) rfl)) (by decide) rfl rfl (by omega) ?_
  intro T h2 X W_h2
  have nw_h2 := Fld.same W_h2 F_elementData_a
  have zs_h2 : h1.size ≤ h2.size := (Nat.le_of_eq W_h2.size.symm)
  have OL := OL.wr W_h2 (by omega)
  have Ea := Exa.wr W_h2 Ea
  have K0 := K0.wr W_h2 (Or.inl (by simp))
  have F_modCount_a := Fld.other W_h2 F_modCount_a (Or.inr (slot_ne (Or.inl (hw _ (List.mem_of_getElem? (i := 42) rfl))) (Or.inl (hw _ (List.mem_of_getElem? (i := 45) rfl))) (by decide) (t := .int) (t' := (.array (.object "java/lang/Object"))) (by decide) (by decide)))
  have F_size_a := Fld.other W_h2 F_size_a (Or.inr (slot_ne (Or.inl (hw _ (List.mem_of_getElem? (i := 58) rfl))) (Or.inl (hw _ (List.mem_of_getElem? (i := 45) rfl))) (by decide) (t := .int) (t' := (.array (.object "java/lang/Object"))) (by decide) (by decide)))
  have F_elementData_a := nw_h2
  exact own_retV X own_d4_11 rfl (by decide) (by decide) (⟨K0, rfl, F_modCount_a, F_size_a, F_elementData_a⟩)
theorem own_d12_0 : decode jdk_29_method_65_code 0 = .ok (.iload_n 0, 1) := by decide +kernel
theorem own_d12_1 : decode jdk_29_method_65_code 1 = .ok (.iload_n 1, 1) := by decide +kernel
theorem own_d12_2 : decode jdk_29_method_65_code 2 = .ok (.if_icmp .lt 7, 3) := by decide +kernel
theorem own_d12_9 : decode jdk_29_method_65_code 9 = .ok (.iload_n 1, 1) := by decide +kernel
theorem own_d12_10 : decode jdk_29_method_65_code 10 = .ok (.ireturn, 1) := by decide +kernel
theorem own_d12_5 : decode jdk_29_method_65_code 5 = .ok (.iload_n 0, 1) := by decide +kernel
theorem own_d12_6 : decode jdk_29_method_65_code 6 = .ok (.goto 4, 3) := by decide +kernel
theorem own_pn12 : plainFor (⟨"java/lang/Math", "max", "(II)I"⟩ : MethodName) = true := Jvm.Free.JP.mathPlain rfl (by decide +kernel)
set_option maxRecDepth 65536 in
set_option maxHeartbeats 40000000 in
theorem own_mmax (l : Launch) (Z : State) (a0 : Array Value) (hw : ∀ d ∈ tables_1, d.before a0 Z = true) (x : Int32) (y : Int32) (h0 : Heap) (n0 : Nat) (hs0 : n0 ≤ h0.size) :
    own_Met l (⟨"java/lang/Math", "max", "(II)I"⟩ : MethodName) jdk_29_method_65_code 2 (some .int) ({ frames := 0, cells := 0, slots := 0, locals := 0 } : Room) Z #[(.int x), (.int y)] h0 n0 (fun v h' => h' = h0 ∧ v = some (.int (own_max x y))) := by
  refine own_met (Ls := #[.val (.int x), .val (.int y)]) own_pn12 hs0 (fun m => by first | (simp [entryFrame, mkF, argsToLocals, Value.category]; done) | rfl) ?_
  intro p e s m below meth c T X
  refine own_iloadN X 1 x own_d12_0 rfl rfl ?_
  refine own_iloadN X 2 y own_d12_1 rfl rfl ?_
  by_cases hc2 : x < y
  · refine own_icY X 9 own_d12_2 (by decide) (by decide) (XT.ii_lt_t hc2) ?_
    refine own_iloadN X 10 y own_d12_9 rfl rfl ?_
    exact own_retI X own_d12_10 rfl (by decide) (by decide) (⟨rfl, by simp [own_max, *]⟩)
  · refine own_icN X 5 own_d12_2 rfl (XT.ii_lt_f hc2) ?_
    refine own_iloadN X 6 x own_d12_5 rfl rfl ?_
    refine own_goto X 10 own_d12_6 (by decide) (by decide) ?_
    exact own_retI X own_d12_10 rfl (by decide) (by decide) (⟨rfl, by simp [own_max, *]⟩)
theorem own_d11_0 : decode jdk_38_method_6_code 0 = .ok (.aload_n 0, 1) := by decide +kernel
theorem own_d11_1 : decode jdk_38_method_6_code 1 = .ok (.getfield 9, 3) := by decide +kernel
theorem own_d11_4 : decode jdk_38_method_6_code 4 = .ok (.arraylength, 1) := by decide +kernel
theorem own_d11_5 : decode jdk_38_method_6_code 5 = .ok (.istore_n 2, 1) := by decide +kernel
theorem own_d11_6 : decode jdk_38_method_6_code 6 = .ok (.iload_n 2, 1) := by decide +kernel
theorem own_d11_7 : decode jdk_38_method_6_code 7 = .ok (.ifCond .gt 13, 3) := by decide +kernel
theorem own_d11_10 : decode jdk_38_method_6_code 10 = .ok (.aload_n 0, 1) := by decide +kernel
theorem own_d11_11 : decode jdk_38_method_6_code 11 = .ok (.getfield 9, 3) := by decide +kernel
theorem own_d11_14 : decode jdk_38_method_6_code 14 = .ok (.getstatic 39, 3) := by decide +kernel
theorem own_d11_17 : decode jdk_38_method_6_code 17 = .ok (.if_acmp .eq 28, 3) := by decide +kernel
theorem own_d11_45 : decode jdk_38_method_6_code 45 = .ok (.aload_n 0, 1) := by decide +kernel
theorem own_d11_46 : decode jdk_38_method_6_code 46 = .ok (.bipush 10, 2) := by decide +kernel
theorem own_d11_48 : decode jdk_38_method_6_code 48 = .ok (.iload_n 1, 1) := by decide +kernel
theorem own_d11_49 : decode jdk_38_method_6_code 49 = .ok (.invokestatic 79, 3) := by decide +kernel
theorem own_pd1 : parseMethodDescriptor "(II)I" = some ⟨[.int, .int], some .int⟩ := by decide +kernel
theorem own_d11_52 : decode jdk_38_method_6_code 52 = .ok (.anewarray 7, 3) := by decide +kernel
theorem own_d11_55 : decode jdk_38_method_6_code 55 = .ok (.dup_x1, 1) := by decide +kernel
theorem own_d11_56 : decode jdk_38_method_6_code 56 = .ok (.putfield 9, 3) := by decide +kernel
theorem own_d11_59 : decode jdk_38_method_6_code 59 = .ok (.areturn, 1) := by decide +kernel
theorem own_pn11 : plainFor (⟨"java/util/ArrayList", "grow", "(I)[Ljava/lang/Object;"⟩ : MethodName) = true := plainFor_of_name (by first | (simp [plainName, overriddenIn]; done) | decide +kernel)
set_option maxRecDepth 65536 in
set_option maxHeartbeats 40000000 in
theorem own_grow1 (l : Launch) (Z : State) (a0 : Array Value) (hw : ∀ d ∈ tables_1, d.before a0 Z = true) (a : Addr) (mn : Int32) (de : Addr) (kd : ClassId) (mc : Int32) (h0 : Heap) (n0 : Nat) (hs0 : n0 ≤ h0.size) (OL : Old Z n0 h0) (z_de : Sta Z Z.heap "java/util/ArrayList" "DEFAULTCAPACITY_EMPTY_ELEMENTDATA" "[Ljava/lang/Object;" (.ref de)) (z_dA : own_A Z Z.heap de kd (.object "java/lang/Object") []) (Fm : Fld Z h0 a "java/util/AbstractList" "modCount" "I" (.int mc)) (Fs : Fld Z h0 a "java/util/ArrayList" "size" "I" (.int 0)) (Fe : Fld Z h0 a "java/util/ArrayList" "elementData" "[Ljava/lang/Object;" (.ref de)) (Ea : Exa Z h0 a "java/util/ArrayList") (ga : n0 ≤ a) (hmn : mn = 1) :
    own_Met l (⟨"java/util/ArrayList", "grow", "(I)[Ljava/lang/Object;"⟩ : MethodName) jdk_38_method_6_code 4 (some (.array (.object "java/lang/Object"))) ({ frames := 1, cells := 1, slots := 10, locals := 14 } : Room) Z #[(.ref a), (.int mn)] h0 n0 (fun v h' => Keep h0 h' [a] ∧ ∃ b kc, v = some (.ref b) ∧ h0.size ≤ b ∧ h'.size > b ∧ own_A Z h' b kc (.object "java/lang/Object") (List.replicate 10 .null) ∧ Ovr Z kc "java/lang/Object" ∧ Exa Z h' b "[Ljava/lang/Object;" ∧ Fld Z h' a "java/util/AbstractList" "modCount" "I" (.int mc) ∧ Fld Z h' a "java/util/ArrayList" "size" "I" (.int 0) ∧ Fld Z h' a "java/util/ArrayList" "elementData" "[Ljava/lang/Object;" (.ref b)) := by
  refine own_met (Ls := #[.val (.ref a), .val (.int mn), .unset, .unset]) own_pn11 hs0 (fun m => by first | (simp [entryFrame, mkF, argsToLocals, Value.category]; done) | rfl) ?_
  intro p e s m below meth c T X
  have K0 := Keep.refl h0 [a]
  have hi_de : n0 > de := (OL.1 ▸ z_dA.lt)
  have hi_a : h0.size > a := Fm.lt
  subst hmn
  refine own_aloadN X 1 (.ref a) own_d11_0 rfl rfl rfl ?_
  refine own_getF X 4 own_d11_1 rfl (hw _ (List.mem_of_getElem? (i := 44) rfl)) Via.refl Fe ?_
  intro T X
  refine own_len X 5 (0 : Int32) own_d11_4 rfl (own_A.ext z_dA OL.2) (by decide) ?_
  refine own_istoreN X 6 #[.val (.ref a), .val (.int (1 : Int32)), .val (.int (0 : Int32)), .unset] own_d11_5 rfl rfl ?_
  refine own_iloadN X 7 (0 : Int32) own_d11_6 rfl rfl ?_
  refine own_ifN X 10 own_d11_7 rfl (XT.i0_gt_f (by decide)) ?_
  refine own_aloadN X 11 (.ref a) own_d11_10 rfl rfl rfl ?_
  refine own_getF X 14 own_d11_11 rfl (hw _ (List.mem_of_getElem? (i := 44) rfl)) Via.refl Fe ?_
  intro T X
  refine own_getS X 17 own_d11_14 rfl (hw _ (List.mem_of_getElem? (i := 43) rfl)) Via.refl (Sta.ext OL.2 z_de) ?_
  intro T X
  refine own_acY X 45 own_d11_17 (by decide) (by decide) rfl rfl (XT.aa_eq_t rfl) ?_
  refine own_aloadN X 46 (.ref a) own_d11_45 rfl rfl rfl ?_
  refine own_bipush X 48 (10 : Int32) own_d11_46 rfl (by decide) ?_
  refine own_iloadN X 49 (1 : Int32) own_d11_48 rfl rfl ?_
  refine own_callS X 52 [(.int (10 : Int32)), (.int (1 : Int32))] [(.ref a)] own_d11_49 rfl (hw _ (List.mem_of_getElem? (i := 74) rfl)) (hw _ (List.mem_of_getElem? (i := 75) rfl)) (hw _ (List.mem_of_getElem? (i := 76) rfl)) (hw _ (List.mem_of_getElem? (i := 77) rfl)) (by decide) (own_mmax l Z a0 hw (10 : Int32) (1 : Int32) h0 n0 X.sz) (fun _ _ q => Nat.le_of_eq (congrArg Array.size q.1.symm)) rfl own_pd1 rfl rfl rfl (by decide) (Nat.le_of_ble_eq_true rfl) (by decide) (by decide) ?_
  rintro v49 T h_ X ⟨eh_, rfl⟩
  rw [eh_] at X
  show own_Ends p e below _ (T.setTop (mkF m 52 #[.val (.ref a), .val (.int (1 : Int32)), .val (.int (0 : Int32)), .unset] [(.int (own_max (10 : Int32) (1 : Int32))), (.ref a)]))
  rw [show own_max (10 : Int32) (1 : Int32) = (10 : Int32) from by decide]
  refine own_newR X 55 10 10 (ad := "[Ljava/lang/Object;") own_d11_52 rfl (hw _ (List.mem_of_getElem? (i := 78) rfl)) (hw _ (List.mem_of_getElem? (i := 79) rfl)) (by decide) (by decide) (by decide) (by decide) (by decide) (by decide) (by decide) ?_
  intro T h1 b2 kc_b2 g_b2 X E_h1 A_b2 O_b2 C_b2
  have zs_h1 : h0.size ≤ h1.size := E_h1.1
  have OL := OL.ext E_h1
  have Fm := Fld.ext E_h1 Fm
  have Fs := Fld.ext E_h1 Fs
  have Fe := Fld.ext E_h1 Fe
  have Ea := Exa.ext E_h1 Ea
  have K0 := K0.ext E_h1
  have lo_b2 : h0.size ≤ b2 := Nat.le_of_eq g_b2.symm
  have hi_b2 : h1.size > b2 := A_b2.lt
  have A_b2 : own_A Z h1 b2 kc_b2 (.object "java/lang/Object") [.null, .null, .null, .null, .null, .null, .null, .null, .null, .null] := A_b2
  refine own_dupX1 X 56 own_d11_55 rfl rfl rfl ?_
  refine own_putF X 59 (.array (.object "java/lang/Object")) own_d11_56 rfl (hw _ (List.mem_of_getElem? (i := 44) rfl)) Via.refl Fe Ea (Or.inl (hw _ (List.mem_of_getElem? (i := 45) rfl))) (hw _ (List.mem_of_getElem? (i := 23) rfl)) (by decide) rfl rfl (by omega) ?_
  intro T h3 X W_h3
  have nw_h3 := Fld.same W_h3 Fe
  have zs_h3 : h1.size ≤ h3.size := (Nat.le_of_eq W_h3.size.symm)
  have OL := OL.wr W_h3 (by omega)
  have Fm := Fld.other W_h3 Fm (Or.inr (slot_ne (Or.inl (hw _ (List.mem_of_getElem? (i := 42) rfl))) (Or.inl (hw _ (List.mem_of_getElem? (i := 45) rfl))) (by decide) (t := .int) (t' := (.array (.object "java/lang/Object"))) (by decide) (by decide)))
  have Fs := Fld.other W_h3 Fs (Or.inr (slot_ne (Or.inl (hw _ (List.mem_of_getElem? (i := 58) rfl))) (Or.inl (hw _ (List.mem_of_getElem? (i := 45) rfl))) (by decide) (t := .int) (t' := (.array (.object "java/lang/Object"))) (by decide) (by decide)))
  have Ea := Exa.wr W_h3 Ea
  have K0 := K0.wr W_h3 (Or.inl (by simp))
  have A_b2 := A_b2.other W_h3 (by show @Ne Nat _ _; omega)
  have C_b2 := Exa.wr W_h3 C_b2
  have Fe := nw_h3
  exact own_retA X (.array (.object "java/lang/Object")) own_d11_59 rfl rfl rfl rfl (by decide) (by decide) (⟨K0, b2, kc_b2, rfl, by omega, A_b2.lt, A_b2, O_b2, C_b2, Fm, Fs, Fe⟩)
theorem own_d10_0 : decode jdk_38_method_7_code 0 = .ok (.aload_n 0, 1) := by decide +kernel
theorem own_d10_1 : decode jdk_38_method_7_code 1 = .ok (.aload_n 0, 1) := by decide +kernel
theorem own_d10_2 : decode jdk_38_method_7_code 2 = .ok (.getfield 48, 3) := by decide +kernel
theorem own_d10_5 : decode jdk_38_method_7_code 5 = .ok (.iconst 1, 1) := by decide +kernel
theorem own_d10_6 : decode jdk_38_method_7_code 6 = .ok (.iadd, 1) := by decide +kernel
theorem own_d10_7 : decode jdk_38_method_7_code 7 = .ok (.invokevirtual 69, 3) := by decide +kernel
theorem own_pd2 : parseMethodDescriptor "(I)[Ljava/lang/Object;" = some ⟨[.int], some (.array (.object "java/lang/Object"))⟩ := by decide +kernel
theorem own_d10_10 : decode jdk_38_method_7_code 10 = .ok (.areturn, 1) := by decide +kernel
theorem own_pn10 : plainFor (⟨"java/util/ArrayList", "grow", "()[Ljava/lang/Object;"⟩ : MethodName) = true := plainFor_of_name (by first | (simp [plainName, overriddenIn]; done) | decide +kernel)
set_option maxRecDepth 65536 in
set_option maxHeartbeats 40000000 in
theorem own_grow0 (l : Launch) (Z : State) (a0 : Array Value) (hw : ∀ d ∈ tables_1, d.before a0 Z = true) (a : Addr) (de : Addr) (kd : ClassId) (mc : Int32) (h0 : Heap) (n0 : Nat) (hs0 : n0 ≤ h0.size) (OL : Old Z n0 h0) (z_de : Sta Z Z.heap "java/util/ArrayList" "DEFAULTCAPACITY_EMPTY_ELEMENTDATA" "[Ljava/lang/Object;" (.ref de)) (z_dA : own_A Z Z.heap de kd (.object "java/lang/Object") []) (Fm : Fld Z h0 a "java/util/AbstractList" "modCount" "I" (.int mc)) (Fs : Fld Z h0 a "java/util/ArrayList" "size" "I" (.int 0)) (Fe : Fld Z h0 a "java/util/ArrayList" "elementData" "[Ljava/lang/Object;" (.ref de)) (Ea : Exa Z h0 a "java/util/ArrayList") (ga : n0 ≤ a) :
    own_Met l (⟨"java/util/ArrayList", "grow", "()[Ljava/lang/Object;"⟩ : MethodName) jdk_38_method_7_code 1 (some (.array (.object "java/lang/Object"))) ({ frames := 2, cells := 1, slots := 10, locals := 29 } : Room) Z #[(.ref a)] h0 n0 (fun v h' => Keep h0 h' [a] ∧ ∃ b kc, v = some (.ref b) ∧ h0.size ≤ b ∧ h'.size > b ∧ own_A Z h' b kc (.object "java/lang/Object") (List.replicate 10 .null) ∧ Ovr Z kc "java/lang/Object" ∧ Exa Z h' b "[Ljava/lang/Object;" ∧ Fld Z h' a "java/util/AbstractList" "modCount" "I" (.int mc) ∧ Fld Z h' a "java/util/ArrayList" "size" "I" (.int 0) ∧ Fld Z h' a "java/util/ArrayList" "elementData" "[Ljava/lang/Object;" (.ref b)) := by
  refine own_met (Ls := #[.val (.ref a)]) own_pn10 hs0 (fun m => by first | (simp [entryFrame, mkF, argsToLocals, Value.category]; done) | rfl) ?_
  intro p e s m below meth c T X
  have K0 := Keep.refl h0 [a]
  have hi_de : n0 > de := (OL.1 ▸ z_dA.lt)
  have hi_a : h0.size > a := Fm.lt
  refine own_aloadN X 1 (.ref a) own_d10_0 rfl rfl rfl ?_
  refine own_aloadN X 2 (.ref a) own_d10_1 rfl rfl rfl ?_
  refine own_getF X 5 own_d10_2 rfl (hw _ (List.mem_of_getElem? (i := 57) rfl)) Via.refl Fs ?_
  intro T X
  refine own_iconst X 6 (1 : Int32) own_d10_5 rfl rfl ?_
  refine own_iadd X 7 own_d10_6 rfl ?_
  refine own_callP X 10 [(.int (0 + (1 : Int32)))] [] own_d10_7 rfl (hw _ (List.mem_of_getElem? (i := 69) rfl)) (hw _ (List.mem_of_getElem? (i := 70) rfl)) (own_ni_inst (hw _ (List.mem_of_getElem? (i := 23) rfl))) (hw _ (List.mem_of_getElem? (i := 71) rfl)) (hw _ (List.mem_of_getElem? (i := 24) rfl)) (hw _ (List.mem_of_getElem? (i := 73) rfl)) (by decide) Ea (own_grow1 l Z a0 hw a (0 + (1 : Int32)) de kd mc h0 n0 X.sz OL z_de z_dA Fm Fs Fe Ea (by omega) (by decide)) (fun _ _ q => q.1.1) rfl own_pd2 rfl rfl rfl (by decide) (Nat.le_of_ble_eq_true rfl) (by decide) (by decide) ?_
  rintro v7 T h2 X ⟨K_, b1, kc_b1, rfl, lo_b1, hi_b1, A_b1, O_b1, C_b1, Fm_, Fs_, Fe_⟩
  have zs_h2 : h0.size ≤ h2.size := K_.1
  have OL := OL.keep K_ (allS (by omega) all0)
  have Ea := Ea.keep K_
  have K0 := K0.trans K_ (allS (Or.inl (by simp)) all0)
  have F_modCount_a := Fm_
  have F_size_a := Fs_
  have F_elementData_a := Fe_
  show own_Ends p e below _ (T.setTop (mkF m 10 #[.val (.ref a)] [(.ref b1)]))
  exact own_retA X (.array (.object "java/lang/Object")) own_d10_10 rfl rfl rfl rfl (by decide) (by decide) (⟨K0, b1, kc_b1, rfl, by omega, A_b1.lt, A_b1, O_b1, C_b1, F_modCount_a, F_size_a, F_elementData_a⟩)
theorem own_d9_0 : decode jdk_38_method_24_code 0 = .ok (.iload_n 3, 1) := by decide +kernel
theorem own_d9_1 : decode jdk_38_method_24_code 1 = .ok (.aload_n 2, 1) := by decide +kernel
theorem own_d9_2 : decode jdk_38_method_24_code 2 = .ok (.arraylength, 1) := by decide +kernel
theorem own_d9_3 : decode jdk_38_method_24_code 3 = .ok (.if_icmp .ne 8, 3) := by decide +kernel
theorem own_d9_6 : decode jdk_38_method_24_code 6 = .ok (.aload_n 0, 1) := by decide +kernel
theorem own_d9_7 : decode jdk_38_method_24_code 7 = .ok (.invokevirtual 129, 3) := by decide +kernel
theorem own_pd3 : parseMethodDescriptor "()[Ljava/lang/Object;" = some ⟨[], some (.array (.object "java/lang/Object"))⟩ := by decide +kernel
theorem own_d9_10 : decode jdk_38_method_24_code 10 = .ok (.astore_n 2, 1) := by decide +kernel
theorem own_d9_11 : decode jdk_38_method_24_code 11 = .ok (.aload_n 2, 1) := by decide +kernel
theorem own_d9_12 : decode jdk_38_method_24_code 12 = .ok (.iload_n 3, 1) := by decide +kernel
theorem own_d9_13 : decode jdk_38_method_24_code 13 = .ok (.aload_n 1, 1) := by decide +kernel
theorem own_d9_14 : decode jdk_38_method_24_code 14 = .ok (.aastore, 1) := by decide +kernel
theorem own_d9_15 : decode jdk_38_method_24_code 15 = .ok (.aload_n 0, 1) := by decide +kernel
theorem own_d9_16 : decode jdk_38_method_24_code 16 = .ok (.iload_n 3, 1) := by decide +kernel
theorem own_d9_17 : decode jdk_38_method_24_code 17 = .ok (.iconst 1, 1) := by decide +kernel
theorem own_d9_18 : decode jdk_38_method_24_code 18 = .ok (.iadd, 1) := by decide +kernel
theorem own_d9_19 : decode jdk_38_method_24_code 19 = .ok (.putfield 48, 3) := by decide +kernel
theorem own_d9_22 : decode jdk_38_method_24_code 22 = .ok (.return_, 1) := by decide +kernel
theorem own_pn9 : plainFor (⟨"java/util/ArrayList", "add", "(Ljava/lang/Object;[Ljava/lang/Object;I)V"⟩ : MethodName) = true := plainFor_of_name (by first | (simp [plainName, overriddenIn]; done) | decide +kernel)
set_option maxRecDepth 65536 in
set_option maxHeartbeats 40000000 in
theorem own_add3f (l : Launch) (Z : State) (a0 : Array Value) (hw : ∀ d ∈ tables_1, d.before a0 Z = true) (a : Addr) (x : Addr) (ar : Addr) (sz : Int32) (de : Addr) (kd : ClassId) (mc : Int32) (h0 : Heap) (n0 : Nat) (hs0 : n0 ≤ h0.size) (OL : Old Z n0 h0) (z_de : Sta Z Z.heap "java/util/ArrayList" "DEFAULTCAPACITY_EMPTY_ELEMENTDATA" "[Ljava/lang/Object;" (.ref de)) (z_dA : own_A Z Z.heap de kd (.object "java/lang/Object") []) (Fm : Fld Z h0 a "java/util/AbstractList" "modCount" "I" (.int mc)) (Fs : Fld Z h0 a "java/util/ArrayList" "size" "I" (.int 0)) (Fe : Fld Z h0 a "java/util/ArrayList" "elementData" "[Ljava/lang/Object;" (.ref de)) (Ea : Exa Z h0 a "java/util/ArrayList") (ga : n0 ≤ a) (Ix : Ins Z h0 x "java/lang/Object" true) (har : ar = de) (hsz : sz = 0) :
    own_Met l (⟨"java/util/ArrayList", "add", "(Ljava/lang/Object;[Ljava/lang/Object;I)V"⟩ : MethodName) jdk_38_method_24_code 4 none ({ frames := 3, cells := 1, slots := 10, locals := 41 } : Room) Z #[(.ref a), (.ref x), (.ref ar), (.int sz)] h0 n0 (fun v h' => Keep h0 h' [a] ∧ v = none ∧ ∃ b kc, h0.size ≤ b ∧ h'.size > b ∧ own_A Z h' b kc (.object "java/lang/Object") ((List.replicate 10 .null).set 0 (.ref x)) ∧ Ovr Z kc "java/lang/Object" ∧ Exa Z h' b "[Ljava/lang/Object;" ∧ Fld Z h' a "java/util/AbstractList" "modCount" "I" (.int mc) ∧ Fld Z h' a "java/util/ArrayList" "size" "I" (.int (0 + 1)) ∧ Fld Z h' a "java/util/ArrayList" "elementData" "[Ljava/lang/Object;" (.ref b)) := by
  refine own_met (Ls := #[.val (.ref a), .val (.ref x), .val (.ref ar), .val (.int sz)]) own_pn9 hs0 (fun m => by first | (simp [entryFrame, mkF, argsToLocals, Value.category]; done) | rfl) ?_
  intro p e s m below meth c T X
  have K0 := Keep.refl h0 [a]
  have hi_de : n0 > de := (OL.1 ▸ z_dA.lt)
  have hi_a : h0.size > a := Fm.lt
  subst har hsz
  refine own_iloadN X 1 (0 : Int32) own_d9_0 rfl rfl ?_
  refine own_aloadN X 2 (.ref ar) own_d9_1 rfl rfl rfl ?_
  refine own_len X 3 (0 : Int32) own_d9_2 rfl (own_A.ext z_dA OL.2) (by decide) ?_
  refine own_icN X 6 own_d9_3 rfl (XT.ii_ne_f rfl) ?_
  refine own_aloadN X 7 (.ref a) own_d9_6 rfl rfl rfl ?_
  refine own_callP X 10 [] [] own_d9_7 rfl (hw _ (List.mem_of_getElem? (i := 64) rfl)) (hw _ (List.mem_of_getElem? (i := 65) rfl)) (own_ni_inst (hw _ (List.mem_of_getElem? (i := 23) rfl))) (hw _ (List.mem_of_getElem? (i := 66) rfl)) (hw _ (List.mem_of_getElem? (i := 24) rfl)) (hw _ (List.mem_of_getElem? (i := 68) rfl)) (by decide) Ea (own_grow0 l Z a0 hw a ar kd mc h0 n0 X.sz OL z_de z_dA Fm Fs Fe Ea (by omega)) (fun _ _ q => q.1.1) rfl own_pd3 rfl rfl rfl (by decide) (Nat.le_of_ble_eq_true rfl) (by decide) (by decide) ?_
  rintro v7 T h2 X ⟨K_, b1, kc_b1, rfl, lo_b1, hi_b1, A_b1, O_b1, C_b1, Fm_, Fs_, Fe_⟩
  have zs_h2 : h0.size ≤ h2.size := K_.1
  have OL := OL.keep K_ (allS (by omega) all0)
  have Ea := Ea.keep K_
  have K0 := K0.trans K_ (allS (Or.inl (by simp)) all0)
  have Ix := own_Ins_keep Ix K_
  have F_modCount_a := Fm_
  have F_size_a := Fs_
  have F_elementData_a := Fe_
  show own_Ends p e below _ (T.setTop (mkF m 10 #[.val (.ref a), .val (.ref x), .val (.ref ar), .val (.int (0 : Int32))] [(.ref b1)]))
  refine own_astoreN X 11 #[.val (.ref a), .val (.ref x), .val (.ref b1), .val (.int (0 : Int32))] own_d9_10 rfl rfl rfl ?_
  refine own_aloadN X 12 (.ref b1) own_d9_11 rfl rfl rfl ?_
  refine own_iloadN X 13 (0 : Int32) own_d9_12 rfl rfl ?_
  refine own_aloadN X 14 (.ref x) own_d9_13 rfl rfl rfl ?_
  refine own_aastore X 15 0 own_d9_14 rfl A_b1 (by decide) (by decide) (by decide) rfl (own_Sto A_b1 O_b1 Ix) (by omega) ?_
  intro T h3 X W_h3
  have nw_h3 : own_A Z h3 b1 kc_b1 (.object "java/lang/Object") ((List.replicate 10 .null).set 0 (.ref x)) := A_b1.same W_h3 rfl
  have zs_h3 : h2.size ≤ h3.size := (Nat.le_of_eq W_h3.size.symm)
  have OL := OL.wr W_h3 (by omega)
  have Ea := Exa.wr W_h3 Ea
  have K0 := K0.wr W_h3 (Or.inr (by omega))
  have Ix := Ins.wr W_h3 Ix
  have F_modCount_a := Fld.other W_h3 F_modCount_a (Or.inl (by show @Ne Nat _ _; omega))
  have F_size_a := Fld.other W_h3 F_size_a (Or.inl (by show @Ne Nat _ _; omega))
  have F_elementData_a := Fld.other W_h3 F_elementData_a (Or.inl (by show @Ne Nat _ _; omega))
  have C_b1 := Exa.wr W_h3 C_b1
  have A_b1 := nw_h3
  refine own_aloadN X 16 (.ref a) own_d9_15 rfl rfl rfl ?_
  refine own_iloadN X 17 (0 : Int32) own_d9_16 rfl rfl ?_
  refine own_iconst X 18 (1 : Int32) own_d9_17 rfl rfl ?_
  refine own_iadd X 19 own_d9_18 rfl ?_
  refine own_putF X 22 .int own_d9_19 rfl (hw _ (List.mem_of_getElem? (i := 57) rfl)) Via.refl F_size_a Ea (Or.inl (hw _ (List.mem_of_getElem? (i := 58) rfl))) (hw _ (List.mem_of_getElem? (i := 23) rfl)) (by decide) rfl rfl (by omega) ?_
  intro T h4 X W_h4
  have nw_h4 := Fld.same W_h4 F_size_a
  have zs_h4 : h3.size ≤ h4.size := (Nat.le_of_eq W_h4.size.symm)
  have OL := OL.wr W_h4 (by omega)
  have Ea := Exa.wr W_h4 Ea
  have K0 := K0.wr W_h4 (Or.inl (by simp))
  have Ix := Ins.wr W_h4 Ix
  have F_modCount_a := Fld.other W_h4 F_modCount_a (Or.inr (slot_ne (Or.inl (hw _ (List.mem_of_getElem? (i := 42) rfl))) (Or.inl (hw _ (List.mem_of_getElem? (i := 58) rfl))) (by decide) (t := .int) (t' := .int) (by decide) (by decide)))
  have F_elementData_a := Fld.other W_h4 F_elementData_a (Or.inr (slot_ne (Or.inl (hw _ (List.mem_of_getElem? (i := 45) rfl))) (Or.inl (hw _ (List.mem_of_getElem? (i := 58) rfl))) (by decide) (t := (.array (.object "java/lang/Object"))) (t' := .int) (by decide) (by decide)))
  have C_b1 := Exa.wr W_h4 C_b1
  have A_b1 := A_b1.other W_h4 (by show @Ne Nat _ _; omega)
  have F_size_a := nw_h4
  exact own_retV X own_d9_22 rfl (by decide) (by decide) (⟨K0, rfl, b1, kc_b1, by omega, A_b1.lt, A_b1, O_b1, C_b1, F_modCount_a, F_size_a, F_elementData_a⟩)
theorem own_d8_0 : decode jdk_38_method_25_code 0 = .ok (.aload_n 0, 1) := by decide +kernel
theorem own_d8_1 : decode jdk_38_method_25_code 1 = .ok (.dup, 1) := by decide +kernel
theorem own_d8_2 : decode jdk_38_method_25_code 2 = .ok (.getfield 63, 3) := by decide +kernel
theorem own_d8_5 : decode jdk_38_method_25_code 5 = .ok (.iconst 1, 1) := by decide +kernel
theorem own_d8_6 : decode jdk_38_method_25_code 6 = .ok (.iadd, 1) := by decide +kernel
theorem own_d8_7 : decode jdk_38_method_25_code 7 = .ok (.putfield 63, 3) := by decide +kernel
theorem own_d8_10 : decode jdk_38_method_25_code 10 = .ok (.aload_n 0, 1) := by decide +kernel
theorem own_d8_11 : decode jdk_38_method_25_code 11 = .ok (.aload_n 1, 1) := by decide +kernel
theorem own_d8_12 : decode jdk_38_method_25_code 12 = .ok (.aload_n 0, 1) := by decide +kernel
theorem own_d8_13 : decode jdk_38_method_25_code 13 = .ok (.getfield 9, 3) := by decide +kernel
theorem own_d8_16 : decode jdk_38_method_25_code 16 = .ok (.aload_n 0, 1) := by decide +kernel
theorem own_d8_17 : decode jdk_38_method_25_code 17 = .ok (.getfield 48, 3) := by decide +kernel
theorem own_d8_20 : decode jdk_38_method_25_code 20 = .ok (.invokevirtual 131, 3) := by decide +kernel
theorem own_pd4 : parseMethodDescriptor "(Ljava/lang/Object;[Ljava/lang/Object;I)V" = some ⟨[(.object "java/lang/Object"), (.array (.object "java/lang/Object")), .int], none⟩ := by decide +kernel
theorem own_d8_23 : decode jdk_38_method_25_code 23 = .ok (.iconst 1, 1) := by decide +kernel
theorem own_d8_24 : decode jdk_38_method_25_code 24 = .ok (.ireturn, 1) := by decide +kernel
theorem own_pn8 : plainFor (⟨"java/util/ArrayList", "add", "(Ljava/lang/Object;)Z"⟩ : MethodName) = true := plainFor_of_name (by first | (simp [plainName, overriddenIn]; done) | decide +kernel)
set_option maxRecDepth 65536 in
set_option maxHeartbeats 40000000 in
theorem own_add1f (l : Launch) (Z : State) (a0 : Array Value) (hw : ∀ d ∈ tables_1, d.before a0 Z = true) (a : Addr) (x : Addr) (de : Addr) (kd : ClassId) (mc : Int32) (h0 : Heap) (n0 : Nat) (hs0 : n0 ≤ h0.size) (OL : Old Z n0 h0) (z_de : Sta Z Z.heap "java/util/ArrayList" "DEFAULTCAPACITY_EMPTY_ELEMENTDATA" "[Ljava/lang/Object;" (.ref de)) (z_dA : own_A Z Z.heap de kd (.object "java/lang/Object") []) (Fm : Fld Z h0 a "java/util/AbstractList" "modCount" "I" (.int mc)) (Fs : Fld Z h0 a "java/util/ArrayList" "size" "I" (.int 0)) (Fe : Fld Z h0 a "java/util/ArrayList" "elementData" "[Ljava/lang/Object;" (.ref de)) (Ea : Exa Z h0 a "java/util/ArrayList") (ga : n0 ≤ a) (Ix : Ins Z h0 x "java/lang/Object" true) :
    own_Met l (⟨"java/util/ArrayList", "add", "(Ljava/lang/Object;)Z"⟩ : MethodName) jdk_38_method_25_code 2 (some .boolean) ({ frames := 4, cells := 1, slots := 10, locals := 56 } : Room) Z #[(.ref a), (.ref x)] h0 n0 (fun v h' => Keep h0 h' [a] ∧ v = some (.int 1) ∧ ∃ b kc, h0.size ≤ b ∧ h'.size > b ∧ own_A Z h' b kc (.object "java/lang/Object") ((List.replicate 10 .null).set 0 (.ref x)) ∧ Ovr Z kc "java/lang/Object" ∧ Exa Z h' b "[Ljava/lang/Object;" ∧ Fld Z h' a "java/util/AbstractList" "modCount" "I" (.int (mc + 1)) ∧ Fld Z h' a "java/util/ArrayList" "size" "I" (.int (0 + 1)) ∧ Fld Z h' a "java/util/ArrayList" "elementData" "[Ljava/lang/Object;" (.ref b)) := by
  refine own_met (Ls := #[.val (.ref a), .val (.ref x)]) own_pn8 hs0 (fun m => by first | (simp [entryFrame, mkF, argsToLocals, Value.category]; done) | rfl) ?_
  intro p e s m below meth c T X
  have K0 := Keep.refl h0 [a]
  have hi_de : n0 > de := (OL.1 ▸ z_dA.lt)
  have hi_a : h0.size > a := Fm.lt
  refine own_aloadN X 1 (.ref a) own_d8_0 rfl rfl rfl ?_
  refine own_dup X 2 own_d8_1 rfl rfl ?_
  refine own_getF X 5 own_d8_2 rfl (hw _ (List.mem_of_getElem? (i := 55) rfl)) (Via.of (hw _ (List.mem_of_getElem? (i := 56) rfl))) Fm ?_
  intro T X
  refine own_iconst X 6 (1 : Int32) own_d8_5 rfl rfl ?_
  refine own_iadd X 7 own_d8_6 rfl ?_
  refine own_putF X 10 .int own_d8_7 rfl (hw _ (List.mem_of_getElem? (i := 55) rfl)) (Via.of (hw _ (List.mem_of_getElem? (i := 56) rfl))) Fm Ea (Or.inl (hw _ (List.mem_of_getElem? (i := 42) rfl))) (hw _ (List.mem_of_getElem? (i := 23) rfl)) (by decide) rfl rfl (by omega) ?_
  intro T h1 X W_h1
  have nw_h1 := Fld.same W_h1 Fm
  have zs_h1 : h0.size ≤ h1.size := (Nat.le_of_eq W_h1.size.symm)
  have OL := OL.wr W_h1 (by omega)
  have Fs := Fld.other W_h1 Fs (Or.inr (slot_ne (Or.inl (hw _ (List.mem_of_getElem? (i := 58) rfl))) (Or.inl (hw _ (List.mem_of_getElem? (i := 42) rfl))) (by decide) (t := .int) (t' := .int) (by decide) (by decide)))
  have Fe := Fld.other W_h1 Fe (Or.inr (slot_ne (Or.inl (hw _ (List.mem_of_getElem? (i := 45) rfl))) (Or.inl (hw _ (List.mem_of_getElem? (i := 42) rfl))) (by decide) (t := (.array (.object "java/lang/Object"))) (t' := .int) (by decide) (by decide)))
  have Ea := Exa.wr W_h1 Ea
  have K0 := K0.wr W_h1 (Or.inl (by simp))
  have Ix := Ins.wr W_h1 Ix
  have Fm := nw_h1
  refine own_aloadN X 11 (.ref a) own_d8_10 rfl rfl rfl ?_
  refine own_aloadN X 12 (.ref x) own_d8_11 rfl rfl rfl ?_
  refine own_aloadN X 13 (.ref a) own_d8_12 rfl rfl rfl ?_
  refine own_getF X 16 own_d8_13 rfl (hw _ (List.mem_of_getElem? (i := 44) rfl)) Via.refl Fe ?_
  intro T X
  refine own_aloadN X 17 (.ref a) own_d8_16 rfl rfl rfl ?_
  refine own_getF X 20 own_d8_17 rfl (hw _ (List.mem_of_getElem? (i := 57) rfl)) Via.refl Fs ?_
  intro T X
  refine own_callP X 23 [(.ref x), (.ref de), (.int 0)] [] own_d8_20 rfl (hw _ (List.mem_of_getElem? (i := 59) rfl)) (hw _ (List.mem_of_getElem? (i := 60) rfl)) (own_ni_inst (hw _ (List.mem_of_getElem? (i := 23) rfl))) (hw _ (List.mem_of_getElem? (i := 61) rfl)) (hw _ (List.mem_of_getElem? (i := 24) rfl)) (hw _ (List.mem_of_getElem? (i := 63) rfl)) (by decide) Ea (own_add3f l Z a0 hw a x de 0 de kd (mc + (1 : Int32)) h1 n0 X.sz OL z_de z_dA Fm Fs Fe Ea (by omega) Ix rfl rfl) (fun _ _ q => q.1.1) rfl own_pd4 rfl rfl rfl (by decide) (Nat.le_of_ble_eq_true rfl) (by decide) (by decide) ?_
  rintro v20 T h3 X ⟨K_, rfl, b2, kc_b2, lo_b2, hi_b2, A_b2, O_b2, C_b2, Fm_, Fs_, Fe_⟩
  have zs_h3 : h1.size ≤ h3.size := K_.1
  have OL := OL.keep K_ (allS (by omega) all0)
  have Ea := Ea.keep K_
  have K0 := K0.trans K_ (allS (Or.inl (by simp)) all0)
  have Ix := own_Ins_keep Ix K_
  have F_modCount_a := Fm_
  have F_size_a := Fs_
  have F_elementData_a := Fe_
  show own_Ends p e below _ (T.setTop (mkF m 23 #[.val (.ref a), .val (.ref x)] []))
  refine own_iconst X 24 (1 : Int32) own_d8_23 rfl rfl ?_
  exact own_retN X .boolean own_d8_24 rfl (by simp) (by decide) (by decide) (⟨K0, rfl, b2, kc_b2, by omega, A_b2.lt, A_b2, O_b2, C_b2, F_modCount_a, F_size_a, F_elementData_a⟩)
set_option maxRecDepth 65536 in
set_option maxHeartbeats 40000000 in
theorem own_add3m (l : Launch) (Z : State) (a0 : Array Value) (hw : ∀ d ∈ tables_1, d.before a0 Z = true) (a : Addr) (x : Addr) (ar : Addr) (sv : Int32) (b : Addr) (kc : ClassId) (mc : Int32) (sz : Int32) (vs : List Value) (i : Nat) (h0 : Heap) (n0 : Nat) (hs0 : n0 ≤ h0.size) (Fm : Fld Z h0 a "java/util/AbstractList" "modCount" "I" (.int mc)) (Fs : Fld Z h0 a "java/util/ArrayList" "size" "I" (.int sz)) (Fe : Fld Z h0 a "java/util/ArrayList" "elementData" "[Ljava/lang/Object;" (.ref b)) (Ea : Exa Z h0 a "java/util/ArrayList") (ga : n0 ≤ a) (Ab : own_A Z h0 b kc (.object "java/lang/Object") vs) (Ob : Ovr Z kc "java/lang/Object") (gb : n0 ≤ b) (Ix : Ins Z h0 x "java/lang/Object" true) (hi : sz.toNatClampNeg = i) (hi0 : ¬ sz < 0) (hiv : i < vs.length) (hne : ¬ sz = vs.length.toInt32) (nab : @Ne Nat a b) (har : ar = b) (hsz : sv = sz) :
    own_Met l (⟨"java/util/ArrayList", "add", "(Ljava/lang/Object;[Ljava/lang/Object;I)V"⟩ : MethodName) jdk_38_method_24_code 4 none ({ frames := 0, cells := 0, slots := 0, locals := 0 } : Room) Z #[(.ref a), (.ref x), (.ref ar), (.int sv)] h0 n0 (fun v h' => Keep h0 h' [a, b] ∧ v = none ∧ own_A Z h' b kc (.object "java/lang/Object") (vs.set i (.ref x)) ∧ Fld Z h' a "java/util/AbstractList" "modCount" "I" (.int mc) ∧ Fld Z h' a "java/util/ArrayList" "size" "I" (.int (sz + 1)) ∧ Fld Z h' a "java/util/ArrayList" "elementData" "[Ljava/lang/Object;" (.ref b)) := by
  refine own_met (Ls := #[.val (.ref a), .val (.ref x), .val (.ref ar), .val (.int sv)]) own_pn9 hs0 (fun m => by first | (simp [entryFrame, mkF, argsToLocals, Value.category]; done) | rfl) ?_
  intro p e s m below meth c T X
  have K0 := Keep.refl h0 [a, b]
  have hi_a : h0.size > a := Fm.lt
  have hi_b : h0.size > b := Ab.lt
  subst har hsz
  refine own_iloadN X 1 sv own_d9_0 rfl rfl ?_
  refine own_aloadN X 2 (.ref ar) own_d9_1 rfl rfl rfl ?_
  refine own_len X 3 vs.length.toInt32 own_d9_2 rfl Ab rfl ?_
  refine own_icY X 11 own_d9_3 (by decide) (by decide) (XT.ii_ne_t hne) ?_
  refine own_aloadN X 12 (.ref ar) own_d9_11 rfl rfl rfl ?_
  refine own_iloadN X 13 sv own_d9_12 rfl rfl ?_
  refine own_aloadN X 14 (.ref x) own_d9_13 rfl rfl rfl ?_
  refine own_aastore X 15 i own_d9_14 rfl Ab hi hi0 hiv rfl (own_Sto Ab Ob Ix) (by omega) ?_
  intro T h1 X W_h1
  have nw_h1 : own_A Z h1 ar kc (.object "java/lang/Object") (vs.set i (.ref x)) := Ab.same W_h1 rfl
  have zs_h1 : h0.size ≤ h1.size := (Nat.le_of_eq W_h1.size.symm)
  have Fm := Fld.other W_h1 Fm (Or.inl (by show @Ne Nat _ _; omega))
  have Fs := Fld.other W_h1 Fs (Or.inl (by show @Ne Nat _ _; omega))
  have Fe := Fld.other W_h1 Fe (Or.inl (by show @Ne Nat _ _; omega))
  have Ea := Exa.wr W_h1 Ea
  have K0 := K0.wr W_h1 (Or.inl (by simp))
  have Ix := Ins.wr W_h1 Ix
  have Ab := nw_h1
  refine own_aloadN X 16 (.ref a) own_d9_15 rfl rfl rfl ?_
  refine own_iloadN X 17 sv own_d9_16 rfl rfl ?_
  refine own_iconst X 18 (1 : Int32) own_d9_17 rfl rfl ?_
  refine own_iadd X 19 own_d9_18 rfl ?_
  refine own_putF X 22 .int own_d9_19 rfl (hw _ (List.mem_of_getElem? (i := 57) rfl)) Via.refl Fs Ea (Or.inl (hw _ (List.mem_of_getElem? (i := 58) rfl))) (hw _ (List.mem_of_getElem? (i := 23) rfl)) (by decide) rfl rfl (by omega) ?_
  intro T h2 X W_h2
  have nw_h2 := Fld.same W_h2 Fs
  have zs_h2 : h1.size ≤ h2.size := (Nat.le_of_eq W_h2.size.symm)
  have Fm := Fld.other W_h2 Fm (Or.inr (slot_ne (Or.inl (hw _ (List.mem_of_getElem? (i := 42) rfl))) (Or.inl (hw _ (List.mem_of_getElem? (i := 58) rfl))) (by decide) (t := .int) (t' := .int) (by decide) (by decide)))
  have Fe := Fld.other W_h2 Fe (Or.inr (slot_ne (Or.inl (hw _ (List.mem_of_getElem? (i := 45) rfl))) (Or.inl (hw _ (List.mem_of_getElem? (i := 58) rfl))) (by decide) (t := (.array (.object "java/lang/Object"))) (t' := .int) (by decide) (by decide)))
  have Ea := Exa.wr W_h2 Ea
  have K0 := K0.wr W_h2 (Or.inl (by simp))
  have Ix := Ins.wr W_h2 Ix
  have Ab := Ab.other W_h2 (by show @Ne Nat _ _; omega)
  have Fs := nw_h2
  exact own_retV X own_d9_22 rfl (by decide) (by decide) (⟨K0, rfl, Ab, Fm, Fs, Fe⟩)
set_option maxRecDepth 65536 in
set_option maxHeartbeats 40000000 in
theorem own_add1m (l : Launch) (Z : State) (a0 : Array Value) (hw : ∀ d ∈ tables_1, d.before a0 Z = true) (a : Addr) (x : Addr) (b : Addr) (kc : ClassId) (mc : Int32) (sz : Int32) (vs : List Value) (i : Nat) (h0 : Heap) (n0 : Nat) (hs0 : n0 ≤ h0.size) (Fm : Fld Z h0 a "java/util/AbstractList" "modCount" "I" (.int mc)) (Fs : Fld Z h0 a "java/util/ArrayList" "size" "I" (.int sz)) (Fe : Fld Z h0 a "java/util/ArrayList" "elementData" "[Ljava/lang/Object;" (.ref b)) (Ea : Exa Z h0 a "java/util/ArrayList") (ga : n0 ≤ a) (Ab : own_A Z h0 b kc (.object "java/lang/Object") vs) (Ob : Ovr Z kc "java/lang/Object") (gb : n0 ≤ b) (Ix : Ins Z h0 x "java/lang/Object" true) (hi : sz.toNatClampNeg = i) (hi0 : ¬ sz < 0) (hiv : i < vs.length) (hne : ¬ sz = vs.length.toInt32) (nab : @Ne Nat a b) :
    own_Met l (⟨"java/util/ArrayList", "add", "(Ljava/lang/Object;)Z"⟩ : MethodName) jdk_38_method_25_code 2 (some .boolean) ({ frames := 1, cells := 0, slots := 0, locals := 15 } : Room) Z #[(.ref a), (.ref x)] h0 n0 (fun v h' => Keep h0 h' [a, b] ∧ v = some (.int 1) ∧ own_A Z h' b kc (.object "java/lang/Object") (vs.set i (.ref x)) ∧ Fld Z h' a "java/util/AbstractList" "modCount" "I" (.int (mc + 1)) ∧ Fld Z h' a "java/util/ArrayList" "size" "I" (.int (sz + 1)) ∧ Fld Z h' a "java/util/ArrayList" "elementData" "[Ljava/lang/Object;" (.ref b)) := by
  refine own_met (Ls := #[.val (.ref a), .val (.ref x)]) own_pn8 hs0 (fun m => by first | (simp [entryFrame, mkF, argsToLocals, Value.category]; done) | rfl) ?_
  intro p e s m below meth c T X
  have K0 := Keep.refl h0 [a, b]
  have hi_a : h0.size > a := Fm.lt
  have hi_b : h0.size > b := Ab.lt
  refine own_aloadN X 1 (.ref a) own_d8_0 rfl rfl rfl ?_
  refine own_dup X 2 own_d8_1 rfl rfl ?_
  refine own_getF X 5 own_d8_2 rfl (hw _ (List.mem_of_getElem? (i := 55) rfl)) (Via.of (hw _ (List.mem_of_getElem? (i := 56) rfl))) Fm ?_
  intro T X
  refine own_iconst X 6 (1 : Int32) own_d8_5 rfl rfl ?_
  refine own_iadd X 7 own_d8_6 rfl ?_
  refine own_putF X 10 .int own_d8_7 rfl (hw _ (List.mem_of_getElem? (i := 55) rfl)) (Via.of (hw _ (List.mem_of_getElem? (i := 56) rfl))) Fm Ea (Or.inl (hw _ (List.mem_of_getElem? (i := 42) rfl))) (hw _ (List.mem_of_getElem? (i := 23) rfl)) (by decide) rfl rfl (by omega) ?_
  intro T h1 X W_h1
  have nw_h1 := Fld.same W_h1 Fm
  have zs_h1 : h0.size ≤ h1.size := (Nat.le_of_eq W_h1.size.symm)
  have Fs := Fld.other W_h1 Fs (Or.inr (slot_ne (Or.inl (hw _ (List.mem_of_getElem? (i := 58) rfl))) (Or.inl (hw _ (List.mem_of_getElem? (i := 42) rfl))) (by decide) (t := .int) (t' := .int) (by decide) (by decide)))
  have Fe := Fld.other W_h1 Fe (Or.inr (slot_ne (Or.inl (hw _ (List.mem_of_getElem? (i := 45) rfl))) (Or.inl (hw _ (List.mem_of_getElem? (i := 42) rfl))) (by decide) (t := (.array (.object "java/lang/Object"))) (t' := .int) (by decide) (by decide)))
  have Ea := Exa.wr W_h1 Ea
  have K0 := K0.wr W_h1 (Or.inl (by simp))
  have Ab := Ab.other W_h1 (by show @Ne Nat _ _; omega)
  have Ix := Ins.wr W_h1 Ix
  have Fm := nw_h1
  refine own_aloadN X 11 (.ref a) own_d8_10 rfl rfl rfl ?_
  refine own_aloadN X 12 (.ref x) own_d8_11 rfl rfl rfl ?_
  refine own_aloadN X 13 (.ref a) own_d8_12 rfl rfl rfl ?_
  refine own_getF X 16 own_d8_13 rfl (hw _ (List.mem_of_getElem? (i := 44) rfl)) Via.refl Fe ?_
  intro T X
  refine own_aloadN X 17 (.ref a) own_d8_16 rfl rfl rfl ?_
  refine own_getF X 20 own_d8_17 rfl (hw _ (List.mem_of_getElem? (i := 57) rfl)) Via.refl Fs ?_
  intro T X
  refine own_callP X 23 [(.ref x), (.ref b), (.int sz)] [] own_d8_20 rfl (hw _ (List.mem_of_getElem? (i := 59) rfl)) (hw _ (List.mem_of_getElem? (i := 60) rfl)) (own_ni_inst (hw _ (List.mem_of_getElem? (i := 23) rfl))) (hw _ (List.mem_of_getElem? (i := 61) rfl)) (hw _ (List.mem_of_getElem? (i := 24) rfl)) (hw _ (List.mem_of_getElem? (i := 63) rfl)) (by decide) Ea (own_add3m l Z a0 hw a x b sz b kc (mc + (1 : Int32)) sz vs i h1 n0 X.sz Fm Fs Fe Ea (by omega) Ab Ob (by omega) Ix hi hi0 hiv hne (by omega) rfl rfl) (fun _ _ q => q.1.1) rfl own_pd4 rfl rfl rfl (by decide) (Nat.le_of_ble_eq_true rfl) (by decide) (by decide) ?_
  rintro v20 T h2 X ⟨K_, rfl, A2_, Fm_, Fs_, Fe_⟩
  have zs_h2 : h1.size ≤ h2.size := K_.1
  have Ea := Ea.keep K_
  have K0 := K0.trans K_ (allS (Or.inl (by simp)) (allS (Or.inl (by simp)) all0))
  have Ix := own_Ins_keep Ix K_
  have Ab := A2_
  have F_modCount_a := Fm_
  have F_size_a := Fs_
  have F_elementData_a := Fe_
  show own_Ends p e below _ (T.setTop (mkF m 23 #[.val (.ref a), .val (.ref x)] []))
  refine own_iconst X 24 (1 : Int32) own_d8_23 rfl rfl ?_
  exact own_retN X .boolean own_d8_24 rfl (by simp) (by decide) (by decide) (⟨K0, rfl, Ab, F_modCount_a, F_size_a, F_elementData_a⟩)
def own_emp (sz : Int32) : Int32 := if sz = 0 then 1 else 0
theorem own_d16_0 : decode jdk_38_method_9_code 0 = .ok (.aload_n 0, 1) := by decide +kernel
theorem own_d16_1 : decode jdk_38_method_9_code 1 = .ok (.getfield 48, 3) := by decide +kernel
theorem own_d16_4 : decode jdk_38_method_9_code 4 = .ok (.ifCond .ne 7, 3) := by decide +kernel
theorem own_d16_7 : decode jdk_38_method_9_code 7 = .ok (.iconst 1, 1) := by decide +kernel
theorem own_d16_8 : decode jdk_38_method_9_code 8 = .ok (.goto 4, 3) := by decide +kernel
theorem own_d16_12 : decode jdk_38_method_9_code 12 = .ok (.ireturn, 1) := by decide +kernel
theorem own_d16_11 : decode jdk_38_method_9_code 11 = .ok (.iconst 0, 1) := by decide +kernel
theorem own_pn16 : plainFor (⟨"java/util/ArrayList", "isEmpty", "()Z"⟩ : MethodName) = true := plainFor_of_name (by first | (simp [plainName, overriddenIn]; done) | decide +kernel)
set_option maxRecDepth 65536 in
set_option maxHeartbeats 40000000 in
theorem own_isEmpty (l : Launch) (Z : State) (a0 : Array Value) (hw : ∀ d ∈ tables_1, d.before a0 Z = true) (a : Addr) (sz : Int32) (h0 : Heap) (n0 : Nat) (hs0 : n0 ≤ h0.size) (Fs : Fld Z h0 a "java/util/ArrayList" "size" "I" (.int sz)) :
    own_Met l (⟨"java/util/ArrayList", "isEmpty", "()Z"⟩ : MethodName) jdk_38_method_9_code 1 (some .boolean) ({ frames := 0, cells := 0, slots := 0, locals := 0 } : Room) Z #[(.ref a)] h0 n0 (fun v h' => h' = h0 ∧ v = some (.int (own_emp sz))) := by
  refine own_met (Ls := #[.val (.ref a)]) own_pn16 hs0 (fun m => by first | (simp [entryFrame, mkF, argsToLocals, Value.category]; done) | rfl) ?_
  intro p e s m below meth c T X
  have hi_a : h0.size > a := Fs.lt
  refine own_aloadN X 1 (.ref a) own_d16_0 rfl rfl rfl ?_
  refine own_getF X 4 own_d16_1 rfl (hw _ (List.mem_of_getElem? (i := 57) rfl)) Via.refl Fs ?_
  intro T X
  by_cases hc4 : sz = (0 : Int32)
  · refine own_ifN X 7 own_d16_4 rfl (XT.i0_ne_f hc4) ?_
    refine own_iconst X 8 (1 : Int32) own_d16_7 rfl rfl ?_
    refine own_goto X 12 own_d16_8 (by decide) (by decide) ?_
    exact own_retN X .boolean own_d16_12 rfl (by simp) (by decide) (by decide) (⟨rfl, by simp [own_emp, nar, *]⟩)
  · refine own_ifY X 11 own_d16_4 (by decide) (by decide) (XT.i0_ne_t hc4) ?_
    refine own_iconst X 12 (0 : Int32) own_d16_11 rfl rfl ?_
    exact own_retN X .boolean own_d16_12 rfl (by simp) (by decide) (by decide) (⟨rfl, by simp [own_emp, nar, *]⟩)
theorem own_d2_0 : decode jdk_30_method_1_code 0 = .ok (.aload_n 0, 1) := by decide +kernel
theorem own_d2_1 : decode jdk_30_method_1_code 1 = .ok (.invokespecial 1, 3) := by decide +kernel
theorem own_d2_4 : decode jdk_30_method_1_code 4 = .ok (.return_, 1) := by decide +kernel
theorem own_pn2 : plainFor (⟨"java/lang/Record", "<init>", "()V"⟩ : MethodName) = true := plainFor_of_name (by first | (simp [plainName, overriddenIn]; done) | decide +kernel)
set_option maxRecDepth 65536 in
set_option maxHeartbeats 40000000 in
theorem own_rec (l : Launch) (Z : State) (a0 : Array Value) (hw : ∀ d ∈ tables_1, d.before a0 Z = true) (a : Addr) (h0 : Heap) (n0 : Nat) (hs0 : n0 ≤ h0.size) :
    own_Met l (⟨"java/lang/Record", "<init>", "()V"⟩ : MethodName) jdk_30_method_1_code 1 none ({ frames := 1, cells := 0, slots := 0, locals := 12 } : Room) Z #[(.ref a)] h0 n0 (fun v h' => h' = h0 ∧ v = none) := by
  refine own_met (Ls := #[.val (.ref a)]) own_pn2 hs0 (fun m => by first | (simp [entryFrame, mkF, argsToLocals, Value.category]; done) | rfl) ?_
  intro p e s m below meth c T X
  refine own_aloadN X 1 (.ref a) own_d2_0 rfl rfl rfl ?_
  refine own_initO X 4 own_d2_1 rfl (hw _ (List.mem_of_getElem? (i := 11) rfl)) (hw _ (List.mem_of_getElem? (i := 12) rfl)) (hw _ (List.mem_of_getElem? (i := 13) rfl)) rfl (by decide) (Nat.le_of_ble_eq_true rfl) ?_
  intro T X
  exact own_retV X own_d2_4 rfl (by decide) (by decide) (⟨rfl, rfl⟩)
theorem own_d26_0 : decode jdk_47_method_1_code 0 = .ok (.aload_n 0, 1) := by decide +kernel
theorem own_d26_1 : decode jdk_47_method_1_code 1 = .ok (.invokespecial 1, 3) := by decide +kernel
theorem own_d26_4 : decode jdk_47_method_1_code 4 = .ok (.return_, 1) := by decide +kernel
theorem own_pn26 : plainFor (⟨"java/util/ImmutableCollections$AbstractImmutableCollection", "<init>", "()V"⟩ : MethodName) = true := plainFor_of_name (by first | (simp [plainName, overriddenIn]; done) | decide +kernel)
set_option maxRecDepth 65536 in
set_option maxHeartbeats 40000000 in
theorem own_aic (l : Launch) (Z : State) (a0 : Array Value) (hw : ∀ d ∈ tables_1, d.before a0 Z = true) (a : Addr) (h0 : Heap) (n0 : Nat) (hs0 : n0 ≤ h0.size) :
    own_Met l (⟨"java/util/ImmutableCollections$AbstractImmutableCollection", "<init>", "()V"⟩ : MethodName) jdk_47_method_1_code 1 none ({ frames := 2, cells := 0, slots := 0, locals := 24 } : Room) Z #[(.ref a)] h0 n0 (fun v h' => h' = h0 ∧ v = none) := by
  refine own_met (Ls := #[.val (.ref a)]) own_pn26 hs0 (fun m => by first | (simp [entryFrame, mkF, argsToLocals, Value.category]; done) | rfl) ?_
  intro p e s m below meth c T X
  refine own_aloadN X 1 (.ref a) own_d26_0 rfl rfl rfl ?_
  refine own_init X 4 [] [] own_d26_1 rfl (hw _ (List.mem_of_getElem? (i := 170) rfl)) (hw _ (List.mem_of_getElem? (i := 35) rfl)) (hw _ (List.mem_of_getElem? (i := 38) rfl)) (hw _ (List.mem_of_getElem? (i := 39) rfl)) (by decide) rfl (own_abc l Z a0 hw a h0 n0 X.sz) (fun _ _ q => Nat.le_of_eq (congrArg Array.size q.1.symm)) rfl own_pd0 rfl rfl rfl (by decide) (Nat.le_of_ble_eq_true rfl) (by decide) (by decide) ?_
  rintro v1 T h_ X ⟨eh_, rfl⟩
  rw [eh_] at X
  show own_Ends p e below _ (T.setTop (mkF m 4 #[.val (.ref a)] []))
  exact own_retV X own_d26_4 rfl (by decide) (by decide) (⟨rfl, rfl⟩)
theorem own_d25_0 : decode jdk_46_method_1_code 0 = .ok (.aload_n 0, 1) := by decide +kernel
theorem own_d25_1 : decode jdk_46_method_1_code 1 = .ok (.invokespecial 1, 3) := by decide +kernel
theorem own_d25_4 : decode jdk_46_method_1_code 4 = .ok (.return_, 1) := by decide +kernel
theorem own_pn25 : plainFor (⟨"java/util/ImmutableCollections$AbstractImmutableList", "<init>", "()V"⟩ : MethodName) = true := plainFor_of_name (by first | (simp [plainName, overriddenIn]; done) | decide +kernel)
set_option maxRecDepth 65536 in
set_option maxHeartbeats 40000000 in
theorem own_ail (l : Launch) (Z : State) (a0 : Array Value) (hw : ∀ d ∈ tables_1, d.before a0 Z = true) (a : Addr) (h0 : Heap) (n0 : Nat) (hs0 : n0 ≤ h0.size) :
    own_Met l (⟨"java/util/ImmutableCollections$AbstractImmutableList", "<init>", "()V"⟩ : MethodName) jdk_46_method_1_code 1 none ({ frames := 3, cells := 0, slots := 0, locals := 36 } : Room) Z #[(.ref a)] h0 n0 (fun v h' => h' = h0 ∧ v = none) := by
  refine own_met (Ls := #[.val (.ref a)]) own_pn25 hs0 (fun m => by first | (simp [entryFrame, mkF, argsToLocals, Value.category]; done) | rfl) ?_
  intro p e s m below meth c T X
  refine own_aloadN X 1 (.ref a) own_d25_0 rfl rfl rfl ?_
  refine own_init X 4 [] [] own_d25_1 rfl (hw _ (List.mem_of_getElem? (i := 164) rfl)) (hw _ (List.mem_of_getElem? (i := 165) rfl)) (hw _ (List.mem_of_getElem? (i := 168) rfl)) (hw _ (List.mem_of_getElem? (i := 169) rfl)) (by decide) rfl (own_aic l Z a0 hw a h0 n0 X.sz) (fun _ _ q => Nat.le_of_eq (congrArg Array.size q.1.symm)) rfl own_pd0 rfl rfl rfl (by decide) (Nat.le_of_ble_eq_true rfl) (by decide) (by decide) ?_
  rintro v1 T h_ X ⟨eh_, rfl⟩
  rw [eh_] at X
  show own_Ends p e below _ (T.setTop (mkF m 4 #[.val (.ref a)] []))
  exact own_retV X own_d25_4 rfl (by decide) (by decide) (⟨rfl, rfl⟩)
theorem own_d23_0 : decode jdk_31_method_10_code 0 = .ok (.aload_n 0, 1) := by decide +kernel
theorem own_d23_1 : decode jdk_31_method_10_code 1 = .ok (.ifnonnull 11, 3) := by decide +kernel
theorem own_d23_12 : decode jdk_31_method_10_code 12 = .ok (.aload_n 0, 1) := by decide +kernel
theorem own_d23_13 : decode jdk_31_method_10_code 13 = .ok (.areturn, 1) := by decide +kernel
theorem own_pn23 : plainFor (⟨"java/util/Objects", "requireNonNull", "(Ljava/lang/Object;)Ljava/lang/Object;"⟩ : MethodName) = true := plainFor_of_name (by first | (simp [plainName, overriddenIn]; done) | decide +kernel)
set_option maxRecDepth 65536 in
set_option maxHeartbeats 40000000 in
theorem own_rnn (l : Launch) (Z : State) (a0 : Array Value) (hw : ∀ d ∈ tables_1, d.before a0 Z = true) (a : Addr) (h0 : Heap) (n0 : Nat) (hs0 : n0 ≤ h0.size) :
    own_Met l (⟨"java/util/Objects", "requireNonNull", "(Ljava/lang/Object;)Ljava/lang/Object;"⟩ : MethodName) jdk_31_method_10_code 1 (some (.object "java/lang/Object")) ({ frames := 0, cells := 0, slots := 0, locals := 0 } : Room) Z #[(.ref a)] h0 n0 (fun v h' => h' = h0 ∧ v = some (.ref a)) := by
  refine own_met (Ls := #[.val (.ref a)]) own_pn23 hs0 (fun m => by first | (simp [entryFrame, mkF, argsToLocals, Value.category]; done) | rfl) ?_
  intro p e s m below meth c T X
  refine own_aloadN X 1 (.ref a) own_d23_0 rfl rfl rfl ?_
  refine own_nonnullY X 12 own_d23_1 (by decide) (by decide) ?_
  refine own_aloadN X 13 (.ref a) own_d23_12 rfl rfl rfl ?_
  exact own_retA X (.object "java/lang/Object") own_d23_13 rfl rfl rfl rfl (by decide) (by decide) (⟨rfl, rfl⟩)
theorem own_d20_0 : decode jdk_29_method_69_code 0 = .ok (.iload_n 0, 1) := by decide +kernel
theorem own_d20_1 : decode jdk_29_method_69_code 1 = .ok (.iload_n 1, 1) := by decide +kernel
theorem own_d20_2 : decode jdk_29_method_69_code 2 = .ok (.if_icmp .gt 7, 3) := by decide +kernel
theorem own_d20_9 : decode jdk_29_method_69_code 9 = .ok (.iload_n 1, 1) := by decide +kernel
theorem own_d20_10 : decode jdk_29_method_69_code 10 = .ok (.ireturn, 1) := by decide +kernel
theorem own_d20_5 : decode jdk_29_method_69_code 5 = .ok (.iload_n 0, 1) := by decide +kernel
theorem own_d20_6 : decode jdk_29_method_69_code 6 = .ok (.goto 4, 3) := by decide +kernel
theorem own_pn20 : plainFor (⟨"java/lang/Math", "min", "(II)I"⟩ : MethodName) = true := Jvm.Free.JP.mathPlain rfl (by decide +kernel)
set_option maxRecDepth 65536 in
set_option maxHeartbeats 40000000 in
theorem own_mmin (l : Launch) (Z : State) (a0 : Array Value) (hw : ∀ d ∈ tables_1, d.before a0 Z = true) (x : Int32) (y : Int32) (h0 : Heap) (n0 : Nat) (hs0 : n0 ≤ h0.size) :
    own_Met l (⟨"java/lang/Math", "min", "(II)I"⟩ : MethodName) jdk_29_method_69_code 2 (some .int) ({ frames := 0, cells := 0, slots := 0, locals := 0 } : Room) Z #[(.int x), (.int y)] h0 n0 (fun v h' => h' = h0 ∧ v = some (.int (own_min x y))) := by
  refine own_met (Ls := #[.val (.int x), .val (.int y)]) own_pn20 hs0 (fun m => by first | (simp [entryFrame, mkF, argsToLocals, Value.category]; done) | rfl) ?_
  intro p e s m below meth c T X
  refine own_iloadN X 1 x own_d20_0 rfl rfl ?_
  refine own_iloadN X 2 y own_d20_1 rfl rfl ?_
  by_cases hc2 : y < x
  · refine own_icY X 9 own_d20_2 (by decide) (by decide) (XT.ii_gt_t hc2) ?_
    refine own_iloadN X 10 y own_d20_9 rfl rfl ?_
    exact own_retI X own_d20_10 rfl (by decide) (by decide) (⟨rfl, by simp [own_min, *]⟩)
  · refine own_icN X 5 own_d20_2 rfl (XT.ii_gt_f hc2) ?_
    refine own_iloadN X 6 x own_d20_5 rfl rfl ?_
    refine own_goto X 10 own_d20_6 (by decide) (by decide) ?_
    exact own_retI X own_d20_10 rfl (by decide) (by decide) (⟨rfl, by simp [own_min, *]⟩)
theorem own_d1_0 : decode prog_12_method_1_code 0 = .ok (.aload_n 0, 1) := by decide +kernel
theorem own_d1_1 : decode prog_12_method_1_code 1 = .ok (.invokespecial 1, 3) := by decide +kernel
theorem own_d1_4 : decode prog_12_method_1_code 4 = .ok (.aload_n 0, 1) := by decide +kernel
theorem own_d1_5 : decode prog_12_method_1_code 5 = .ok (.aload_n 1, 1) := by decide +kernel
theorem own_d1_6 : decode prog_12_method_1_code 6 = .ok (.putfield 7, 3) := by decide +kernel
theorem own_d1_9 : decode prog_12_method_1_code 9 = .ok (.aload_n 0, 1) := by decide +kernel
theorem own_d1_10 : decode prog_12_method_1_code 10 = .ok (.aload_n 2, 1) := by decide +kernel
theorem own_d1_11 : decode prog_12_method_1_code 11 = .ok (.putfield 13, 3) := by decide +kernel
theorem own_d1_14 : decode prog_12_method_1_code 14 = .ok (.aload_n 0, 1) := by decide +kernel
theorem own_d1_15 : decode prog_12_method_1_code 15 = .ok (.aload_n 3, 1) := by decide +kernel
theorem own_d1_16 : decode prog_12_method_1_code 16 = .ok (.putfield 16, 3) := by decide +kernel
theorem own_d1_19 : decode prog_12_method_1_code 19 = .ok (.aload_n 0, 1) := by decide +kernel
theorem own_d1_20 : decode prog_12_method_1_code 20 = .ok (.aload 4, 2) := by decide +kernel
theorem own_d1_22 : decode prog_12_method_1_code 22 = .ok (.putfield 19, 3) := by decide +kernel
theorem own_d1_25 : decode prog_12_method_1_code 25 = .ok (.return_, 1) := by decide +kernel
theorem own_pn1 : plainFor (⟨"com/example/rosettine/rosettine/model/ConversionReport$NotConverted", "<init>", "(Ljava/util/Optional;Ljava/util/Optional;Ljava/util/Optional;Ljava/lang/String;)V"⟩ : MethodName) = true := plainFor_of_name (by first | (simp [plainName, overriddenIn]; done) | decide +kernel)
set_option maxRecDepth 65536 in
set_option maxHeartbeats 40000000 in
theorem own_nc (l : Launch) (Z : State) (a0 : Array Value) (hw : ∀ d ∈ tables_1, d.before a0 Z = true) (a : Addr) (h0 : Heap) (n0 : Nat) (hs0 : n0 ≤ h0.size) (F0 : Fld Z h0 a "com/example/rosettine/rosettine/model/ConversionReport$NotConverted" "section" "Ljava/util/Optional;" .null) (F1 : Fld Z h0 a "com/example/rosettine/rosettine/model/ConversionReport$NotConverted" "template" "Ljava/util/Optional;" .null) (F2 : Fld Z h0 a "com/example/rosettine/rosettine/model/ConversionReport$NotConverted" "id" "Ljava/util/Optional;" .null) (F3 : Fld Z h0 a "com/example/rosettine/rosettine/model/ConversionReport$NotConverted" "reason" "Ljava/lang/String;" .null) (Ea : Exa Z h0 a "com/example/rosettine/rosettine/model/ConversionReport$NotConverted") (ga : n0 ≤ a) :
    own_Met l (⟨"com/example/rosettine/rosettine/model/ConversionReport$NotConverted", "<init>", "(Ljava/util/Optional;Ljava/util/Optional;Ljava/util/Optional;Ljava/lang/String;)V"⟩ : MethodName) prog_12_method_1_code 5 none ({ frames := 2, cells := 0, slots := 0, locals := 24 } : Room) Z #[(.ref a), .null, .null, .null, .null] h0 n0 (fun v h' => Keep h0 h' [a] ∧ v = none) := by
  refine own_met (Ls := #[.val (.ref a), .val .null, .val .null, .val .null, .val .null]) own_pn1 hs0 (fun m => by first | (simp [entryFrame, mkF, argsToLocals, Value.category]; done) | rfl) ?_
  intro p e s m below meth c T X
  have K0 := Keep.refl h0 [a]
  have hi_a : h0.size > a := F0.lt
  refine own_aloadN X 1 (.ref a) own_d1_0 rfl rfl rfl ?_
  refine own_init X 4 [] [] own_d1_1 rfl (hw _ (List.mem_of_getElem? (i := 6) rfl)) (hw _ (List.mem_of_getElem? (i := 7) rfl)) (hw _ (List.mem_of_getElem? (i := 9) rfl)) (hw _ (List.mem_of_getElem? (i := 10) rfl)) (by decide) rfl (own_rec l Z a0 hw a h0 n0 X.sz) (fun _ _ q => Nat.le_of_eq (congrArg Array.size q.1.symm)) rfl own_pd0 rfl rfl rfl (by decide) (Nat.le_of_ble_eq_true rfl) (by decide) (by decide) ?_
  rintro v1 T h_ X ⟨eh_, rfl⟩
  rw [eh_] at X
  show own_Ends p e below _ (T.setTop (mkF m 4 #[.val (.ref a), .val .null, .val .null, .val .null, .val .null] []))
  refine own_aloadN X 5 (.ref a) own_d1_4 rfl rfl rfl ?_
  refine own_aloadN X 6 .null own_d1_5 rfl rfl rfl ?_
  refine own_putF X 9 (.object "java/util/Optional") own_d1_6 rfl (hw _ (List.mem_of_getElem? (i := 14) rfl)) Via.refl F0 Ea (Or.inr ⟨(hw _ (List.mem_of_getElem? (i := 15) rfl)), rfl, rfl⟩) (hw _ (List.mem_of_getElem? (i := 1) rfl)) (by decide) rfl rfl (by omega) ?_
  intro T h1 X W_h1
  have nw_h1 := Fld.same W_h1 F0
  have zs_h1 : h0.size ≤ h1.size := (Nat.le_of_eq W_h1.size.symm)
  have F1 := Fld.other W_h1 F1 (Or.inr (slot_ne (Or.inr (hw _ (List.mem_of_getElem? (i := 17) rfl))) (Or.inr (hw _ (List.mem_of_getElem? (i := 15) rfl))) (by decide) (t := (.object "java/util/Optional")) (t' := (.object "java/util/Optional")) (by decide) (by decide)))
  have F2 := Fld.other W_h1 F2 (Or.inr (slot_ne (Or.inr (hw _ (List.mem_of_getElem? (i := 19) rfl))) (Or.inr (hw _ (List.mem_of_getElem? (i := 15) rfl))) (by decide) (t := (.object "java/util/Optional")) (t' := (.object "java/util/Optional")) (by decide) (by decide)))
  have F3 := Fld.other W_h1 F3 (Or.inr (slot_ne (Or.inr (hw _ (List.mem_of_getElem? (i := 21) rfl))) (Or.inr (hw _ (List.mem_of_getElem? (i := 15) rfl))) (by decide) (t := (.object "java/lang/String")) (t' := (.object "java/util/Optional")) (by decide) (by decide)))
  have Ea := Exa.wr W_h1 Ea
  have K0 := K0.wr W_h1 (Or.inl (by simp))
  have F0 := nw_h1
  refine own_aloadN X 10 (.ref a) own_d1_9 rfl rfl rfl ?_
  refine own_aloadN X 11 .null own_d1_10 rfl rfl rfl ?_
  refine own_putF X 14 (.object "java/util/Optional") own_d1_11 rfl (hw _ (List.mem_of_getElem? (i := 16) rfl)) Via.refl F1 Ea (Or.inr ⟨(hw _ (List.mem_of_getElem? (i := 17) rfl)), rfl, rfl⟩) (hw _ (List.mem_of_getElem? (i := 1) rfl)) (by decide) rfl rfl (by omega) ?_
  intro T h2 X W_h2
  have nw_h2 := Fld.same W_h2 F1
  have zs_h2 : h1.size ≤ h2.size := (Nat.le_of_eq W_h2.size.symm)
  have F2 := Fld.other W_h2 F2 (Or.inr (slot_ne (Or.inr (hw _ (List.mem_of_getElem? (i := 19) rfl))) (Or.inr (hw _ (List.mem_of_getElem? (i := 17) rfl))) (by decide) (t := (.object "java/util/Optional")) (t' := (.object "java/util/Optional")) (by decide) (by decide)))
  have F3 := Fld.other W_h2 F3 (Or.inr (slot_ne (Or.inr (hw _ (List.mem_of_getElem? (i := 21) rfl))) (Or.inr (hw _ (List.mem_of_getElem? (i := 17) rfl))) (by decide) (t := (.object "java/lang/String")) (t' := (.object "java/util/Optional")) (by decide) (by decide)))
  have Ea := Exa.wr W_h2 Ea
  have K0 := K0.wr W_h2 (Or.inl (by simp))
  have F0 := Fld.other W_h2 F0 (Or.inr (slot_ne (Or.inr (hw _ (List.mem_of_getElem? (i := 15) rfl))) (Or.inr (hw _ (List.mem_of_getElem? (i := 17) rfl))) (by decide) (t := (.object "java/util/Optional")) (t' := (.object "java/util/Optional")) (by decide) (by decide)))
  have F1 := nw_h2
  refine own_aloadN X 15 (.ref a) own_d1_14 rfl rfl rfl ?_
  refine own_aloadN X 16 .null own_d1_15 rfl rfl rfl ?_
  refine own_putF X 19 (.object "java/util/Optional") own_d1_16 rfl (hw _ (List.mem_of_getElem? (i := 18) rfl)) Via.refl F2 Ea (Or.inr ⟨(hw _ (List.mem_of_getElem? (i := 19) rfl)), rfl, rfl⟩) (hw _ (List.mem_of_getElem? (i := 1) rfl)) (by decide) rfl rfl (by omega) ?_
  intro T h3 X W_h3
  have nw_h3 := Fld.same W_h3 F2
  have zs_h3 : h2.size ≤ h3.size := (Nat.le_of_eq W_h3.size.symm)
  have F3 := Fld.other W_h3 F3 (Or.inr (slot_ne (Or.inr (hw _ (List.mem_of_getElem? (i := 21) rfl))) (Or.inr (hw _ (List.mem_of_getElem? (i := 19) rfl))) (by decide) (t := (.object "java/lang/String")) (t' := (.object "java/util/Optional")) (by decide) (by decide)))
  have Ea := Exa.wr W_h3 Ea
  have K0 := K0.wr W_h3 (Or.inl (by simp))
  have F0 := Fld.other W_h3 F0 (Or.inr (slot_ne (Or.inr (hw _ (List.mem_of_getElem? (i := 15) rfl))) (Or.inr (hw _ (List.mem_of_getElem? (i := 19) rfl))) (by decide) (t := (.object "java/util/Optional")) (t' := (.object "java/util/Optional")) (by decide) (by decide)))
  have F1 := Fld.other W_h3 F1 (Or.inr (slot_ne (Or.inr (hw _ (List.mem_of_getElem? (i := 17) rfl))) (Or.inr (hw _ (List.mem_of_getElem? (i := 19) rfl))) (by decide) (t := (.object "java/util/Optional")) (t' := (.object "java/util/Optional")) (by decide) (by decide)))
  have F2 := nw_h3
  refine own_aloadN X 20 (.ref a) own_d1_19 rfl rfl rfl ?_
  refine own_aload X 22 .null own_d1_20 rfl rfl rfl ?_
  refine own_putF X 25 (.object "java/lang/String") own_d1_22 rfl (hw _ (List.mem_of_getElem? (i := 20) rfl)) Via.refl F3 Ea (Or.inr ⟨(hw _ (List.mem_of_getElem? (i := 21) rfl)), rfl, rfl⟩) (hw _ (List.mem_of_getElem? (i := 1) rfl)) (by decide) rfl rfl (by omega) ?_
  intro T h4 X W_h4
  have nw_h4 := Fld.same W_h4 F3
  have zs_h4 : h3.size ≤ h4.size := (Nat.le_of_eq W_h4.size.symm)
  have Ea := Exa.wr W_h4 Ea
  have K0 := K0.wr W_h4 (Or.inl (by simp))
  have F0 := Fld.other W_h4 F0 (Or.inr (slot_ne (Or.inr (hw _ (List.mem_of_getElem? (i := 15) rfl))) (Or.inr (hw _ (List.mem_of_getElem? (i := 21) rfl))) (by decide) (t := (.object "java/util/Optional")) (t' := (.object "java/lang/String")) (by decide) (by decide)))
  have F1 := Fld.other W_h4 F1 (Or.inr (slot_ne (Or.inr (hw _ (List.mem_of_getElem? (i := 17) rfl))) (Or.inr (hw _ (List.mem_of_getElem? (i := 21) rfl))) (by decide) (t := (.object "java/util/Optional")) (t' := (.object "java/lang/String")) (by decide) (by decide)))
  have F2 := Fld.other W_h4 F2 (Or.inr (slot_ne (Or.inr (hw _ (List.mem_of_getElem? (i := 19) rfl))) (Or.inr (hw _ (List.mem_of_getElem? (i := 21) rfl))) (by decide) (t := (.object "java/util/Optional")) (t' := (.object "java/lang/String")) (by decide) (by decide)))
  have F3 := nw_h4
  exact own_retV X own_d1_25 rfl (by decide) (by decide) (⟨K0, rfl⟩)
theorem own_d19_0 : decode jdk_65_method_120_code 0 = .ok (.aload_n 2, 1) := by decide +kernel
theorem own_d19_1 : decode jdk_65_method_120_code 1 = .ok (.ldc 110, 2) := by decide +kernel
theorem own_d19_3 : decode jdk_65_method_120_code 3 = .ok (.if_acmp .ne 10, 3) := by decide +kernel
theorem own_d19_6 : decode jdk_65_method_120_code 6 = .ok (.iload_n 1, 1) := by decide +kernel
theorem own_d19_7 : decode jdk_65_method_120_code 7 = .ok (.anewarray 2, 3) := by decide +kernel
theorem own_d19_10 : decode jdk_65_method_120_code 10 = .ok (.goto 14, 3) := by decide +kernel
theorem own_d19_24 : decode jdk_65_method_120_code 24 = .ok (.astore_n 3, 1) := by decide +kernel
theorem own_d19_25 : decode jdk_65_method_120_code 25 = .ok (.aload_n 0, 1) := by decide +kernel
theorem own_d19_26 : decode jdk_65_method_120_code 26 = .ok (.iconst 0, 1) := by decide +kernel
theorem own_d19_27 : decode jdk_65_method_120_code 27 = .ok (.aload_n 3, 1) := by decide +kernel
theorem own_d19_28 : decode jdk_65_method_120_code 28 = .ok (.iconst 0, 1) := by decide +kernel
theorem own_d19_29 : decode jdk_65_method_120_code 29 = .ok (.aload_n 0, 1) := by decide +kernel
theorem own_d19_30 : decode jdk_65_method_120_code 30 = .ok (.arraylength, 1) := by decide +kernel
theorem own_d19_31 : decode jdk_65_method_120_code 31 = .ok (.iload_n 1, 1) := by decide +kernel
theorem own_d19_32 : decode jdk_65_method_120_code 32 = .ok (.invokestatic 304, 3) := by decide +kernel
theorem own_d19_35 : decode jdk_65_method_120_code 35 = .ok (.invokestatic 150, 3) := by decide +kernel
theorem own_d19_38 : decode jdk_65_method_120_code 38 = .ok (.aload_n 3, 1) := by decide +kernel
theorem own_d19_39 : decode jdk_65_method_120_code 39 = .ok (.areturn, 1) := by decide +kernel
theorem own_pn19 : plainFor (⟨"java/util/Arrays", "copyOf", "([Ljava/lang/Object;ILjava/lang/Class;)[Ljava/lang/Object;"⟩ : MethodName) = true := plainFor_of_name (by first | (simp [plainName, overriddenIn]; done) | decide +kernel)
set_option maxRecDepth 65536 in
set_option maxHeartbeats 40000000 in
theorem own_copy3_1 (l : Launch) (Z : State) (a0 : Array Value) (hw : ∀ d ∈ tables_1, d.before a0 Z = true) (a : Addr) (nl : Int32) (cl : Addr) (ei : Addr) (ka : ClassId) (mr : Addr) (h0 : Heap) (n0 : Nat) (hs0 : n0 ≤ h0.size) (Aa : own_A Z h0 a ka (.object "java/lang/Object") [(.ref ei), .null, .null, .null, .null, .null, .null, .null, .null, .null]) (Ie : Ins Z h0 ei "java/lang/Object" true) (he : h0.size > ei) (he0 : n0 ≤ ei) (hmr : own_Mir Z "[Ljava/lang/Object;" mr) (hnl : nl = 1) (hcl : cl = mr) :
    own_Met l (⟨"java/util/Arrays", "copyOf", "([Ljava/lang/Object;ILjava/lang/Class;)[Ljava/lang/Object;"⟩ : MethodName) jdk_65_method_120_code 4 (some (.array (.object "java/lang/Object"))) ({ frames := 1, cells := 1, slots := 1, locals := 18 } : Room) Z #[(.ref a), (.int nl), (.ref cl)] h0 n0 (fun v h' => Keep h0 h' [] ∧ ∃ b kb, v = some (.ref b) ∧ h0.size ≤ b ∧ h'.size > b ∧ own_A Z h' b kb (.object "java/lang/Object") [(.ref ei)]) := by
  refine own_met (Ls := #[.val (.ref a), .val (.int nl), .val (.ref cl), .unset]) own_pn19 hs0 (fun m => by first | (simp [entryFrame, mkF, argsToLocals, Value.category]; done) | rfl) ?_
  intro p e s m below meth c T X
  have K0 := Keep.refl h0 []
  have hi_a : h0.size > a := Aa.lt
  subst hnl hcl
  refine own_aloadN X 1 (.ref cl) own_d19_0 rfl rfl rfl ?_
  refine own_ldcM X 3 own_d19_1 rfl (hw _ (List.mem_of_getElem? (i := 132) rfl)) hmr ?_
  intro T X
  refine own_acN X 6 own_d19_3 rfl rfl rfl (XT.aa_ne_f rfl) ?_
  refine own_iloadN X 7 (1 : Int32) own_d19_6 rfl rfl ?_
  refine own_newR X 10 1 1 (ad := "[Ljava/lang/Object;") own_d19_7 rfl (hw _ (List.mem_of_getElem? (i := 133) rfl)) (hw _ (List.mem_of_getElem? (i := 79) rfl)) (by decide) (by decide) (by decide) (by decide) (by decide) (by decide) (by decide) ?_
  intro T h1 b2 kc_b2 g_b2 X E_h1 A_b2 O_b2 C_b2
  have zs_h1 : h0.size ≤ h1.size := E_h1.1
  have Aa := Aa.ext E_h1
  have Ie := Ins.ext E_h1 Ie
  have K0 := K0.ext E_h1
  have lo_b2 : h0.size ≤ b2 := Nat.le_of_eq g_b2.symm
  have hi_b2 : h1.size > b2 := A_b2.lt
  have A_b2 : own_A Z h1 b2 kc_b2 (.object "java/lang/Object") [.null] := A_b2
  refine own_goto X 24 own_d19_10 (by decide) (by decide) ?_
  refine own_astoreN X 25 #[.val (.ref a), .val (.int (1 : Int32)), .val (.ref cl), .val (.ref b2)] own_d19_24 rfl rfl rfl ?_
  refine own_aloadN X 26 (.ref a) own_d19_25 rfl rfl rfl ?_
  refine own_iconst X 27 (0 : Int32) own_d19_26 rfl rfl ?_
  refine own_aloadN X 28 (.ref b2) own_d19_27 rfl rfl rfl ?_
  refine own_iconst X 29 (0 : Int32) own_d19_28 rfl rfl ?_
  refine own_aloadN X 30 (.ref a) own_d19_29 rfl rfl rfl ?_
  refine own_len X 31 (10 : Int32) own_d19_30 rfl Aa rfl ?_
  refine own_iloadN X 32 (1 : Int32) own_d19_31 rfl rfl ?_
  refine own_callS X 35 [(.int (10 : Int32)), (.int (1 : Int32))] [(.int (0 : Int32)), (.ref b2), (.int (0 : Int32)), (.ref a)] own_d19_32 rfl (hw _ (List.mem_of_getElem? (i := 134) rfl)) (hw _ (List.mem_of_getElem? (i := 135) rfl)) (hw _ (List.mem_of_getElem? (i := 76) rfl)) (hw _ (List.mem_of_getElem? (i := 136) rfl)) (by decide) (own_mmin l Z a0 hw (10 : Int32) (1 : Int32) h1 n0 X.sz) (fun _ _ q => Nat.le_of_eq (congrArg Array.size q.1.symm)) rfl own_pd1 rfl rfl rfl (by decide) (Nat.le_of_ble_eq_true rfl) (by decide) (by decide) ?_
  rintro v32 T h_ X ⟨eh_, rfl⟩
  rw [eh_] at X
  show own_Ends p e below _ (T.setTop (mkF m 35 #[.val (.ref a), .val (.int (1 : Int32)), .val (.ref cl), .val (.ref b2)] [(.int (own_min (10 : Int32) (1 : Int32))), (.int (0 : Int32)), (.ref b2), (.int (0 : Int32)), (.ref a)]))
  rw [show own_min (10 : Int32) (1 : Int32) = (1 : Int32) from by decide]
  refine own_cpy X 38 0 0 1 [(.ref ei)] [(.ref ei)] own_d19_35 rfl (hw _ (List.mem_of_getElem? (i := 137) rfl)) (hw _ (List.mem_of_getElem? (i := 140) rfl)) (hw _ (List.mem_of_getElem? (i := 138) rfl)) (hw _ (List.mem_of_getElem? (i := 139) rfl)) Aa A_b2 (Or.inr ⟨rfl, rfl, ⟨(own_Sto A_b2 O_b2 Ie), trivial⟩⟩) (by decide) (by decide) (by decide) (by decide) (by decide) (by decide) (Nat.le_of_ble_eq_true rfl) (Nat.le_of_ble_eq_true rfl) rfl rfl (by omega) rfl (by decide) (Nat.le_of_ble_eq_true rfl) ?_
  intro T h3 X K_ nA_
  have zs_h3 : h1.size ≤ h3.size := K_.1
  have Aa := Aa.keep K_ (ninS (by show @Ne Nat _ _; omega) nin0)
  have Ie := own_Ins_keep Ie K_
  have K0 := K0.trans K_ (allS (Or.inr (by omega)) all0)
  have C_b2 := C_b2.keep K_
  have A_b2 := nA_
  refine own_aloadN X 39 (.ref b2) own_d19_38 rfl rfl rfl ?_
  exact own_retA X (.array (.object "java/lang/Object")) own_d19_39 rfl rfl rfl rfl (by decide) (by decide) (⟨K0, b2, kc_b2, rfl, by omega, A_b2.lt, A_b2⟩)
theorem own_d18_0 : decode jdk_65_method_119_code 0 = .ok (.aload_n 0, 1) := by decide +kernel
theorem own_d18_1 : decode jdk_65_method_119_code 1 = .ok (.iload_n 1, 1) := by decide +kernel
theorem own_d18_2 : decode jdk_65_method_119_code 2 = .ok (.aload_n 0, 1) := by decide +kernel
theorem own_d18_3 : decode jdk_65_method_119_code 3 = .ok (.invokevirtual 86, 3) := by decide +kernel
theorem own_d18_6 : decode jdk_65_method_119_code 6 = .ok (.invokestatic 300, 3) := by decide +kernel
theorem own_pd5 : parseMethodDescriptor "([Ljava/lang/Object;ILjava/lang/Class;)[Ljava/lang/Object;" = some ⟨[(.array (.object "java/lang/Object")), .int, (.object "java/lang/Class")], some (.array (.object "java/lang/Object"))⟩ := by decide +kernel
theorem own_d18_9 : decode jdk_65_method_119_code 9 = .ok (.areturn, 1) := by decide +kernel
theorem own_pn18 : plainFor (⟨"java/util/Arrays", "copyOf", "([Ljava/lang/Object;I)[Ljava/lang/Object;"⟩ : MethodName) = true := plainFor_of_name (by first | (simp [plainName, overriddenIn]; done) | decide +kernel)
set_option maxRecDepth 65536 in
set_option maxHeartbeats 40000000 in
theorem own_copy2_1 (l : Launch) (Z : State) (a0 : Array Value) (hw : ∀ d ∈ tables_1, d.before a0 Z = true) (a : Addr) (nl : Int32) (ei : Addr) (ka : ClassId) (mr : Addr) (h0 : Heap) (n0 : Nat) (hs0 : n0 ≤ h0.size) (Aa : own_A Z h0 a ka (.object "java/lang/Object") [(.ref ei), .null, .null, .null, .null, .null, .null, .null, .null, .null]) (Ie : Ins Z h0 ei "java/lang/Object" true) (he : h0.size > ei) (he0 : n0 ≤ ei) (hmr : own_Mir Z "[Ljava/lang/Object;" mr) (Ea : Exa Z h0 a "[Ljava/lang/Object;") (hnl : nl = 1) :
    own_Met l (⟨"java/util/Arrays", "copyOf", "([Ljava/lang/Object;I)[Ljava/lang/Object;"⟩ : MethodName) jdk_65_method_119_code 2 (some (.array (.object "java/lang/Object"))) ({ frames := 2, cells := 1, slots := 1, locals := 33 } : Room) Z #[(.ref a), (.int nl)] h0 n0 (fun v h' => Keep h0 h' [] ∧ ∃ b kb, v = some (.ref b) ∧ h0.size ≤ b ∧ h'.size > b ∧ own_A Z h' b kb (.object "java/lang/Object") [(.ref ei)]) := by
  refine own_met (Ls := #[.val (.ref a), .val (.int nl)]) own_pn18 hs0 (fun m => by first | (simp [entryFrame, mkF, argsToLocals, Value.category]; done) | rfl) ?_
  intro p e s m below meth c T X
  have K0 := Keep.refl h0 []
  have hi_a : h0.size > a := Aa.lt
  subst hnl
  refine own_aloadN X 1 (.ref a) own_d18_0 rfl rfl rfl ?_
  refine own_iloadN X 2 (1 : Int32) own_d18_1 rfl rfl ?_
  refine own_aloadN X 3 (.ref a) own_d18_2 rfl rfl rfl ?_
  refine own_gcls X 6 own_d18_3 rfl (hw _ (List.mem_of_getElem? (i := 123) rfl)) (hw _ (List.mem_of_getElem? (i := 124) rfl)) (hw _ (List.mem_of_getElem? (i := 100) rfl)) (hw _ (List.mem_of_getElem? (i := 126) rfl)) (hw _ (List.mem_of_getElem? (i := 125) rfl)) (hw _ (List.mem_of_getElem? (i := 127) rfl)) Ea hmr rfl (by decide) (Nat.le_of_ble_eq_true rfl) ?_
  intro T X
  refine own_callS X 9 [(.ref a), (.int (1 : Int32)), (.ref mr)] [] own_d18_6 rfl (hw _ (List.mem_of_getElem? (i := 129) rfl)) (hw _ (List.mem_of_getElem? (i := 130) rfl)) (hw _ (List.mem_of_getElem? (i := 121) rfl)) (hw _ (List.mem_of_getElem? (i := 131) rfl)) (by decide) (own_copy3_1 l Z a0 hw a (1 : Int32) mr ei ka mr h0 n0 X.sz Aa Ie (by omega) (by omega) hmr rfl rfl) (fun _ _ q => q.1.1) rfl own_pd5 rfl rfl rfl (by decide) (Nat.le_of_ble_eq_true rfl) (by decide) (by decide) ?_
  rintro v6 T h2 X ⟨K_, b1, kb_b1, rfl, lo_b1, hi_b1, A_b1⟩
  have zs_h2 : h0.size ≤ h2.size := K_.1
  have Aa := Aa.keep K_ nin0
  have Ie := own_Ins_keep Ie K_
  have K0 := K0.trans K_ all0
  have Ea := Ea.keep K_
  show own_Ends p e below _ (T.setTop (mkF m 9 #[.val (.ref a), .val (.int (1 : Int32))] [(.ref b1)]))
  exact own_retA X (.array (.object "java/lang/Object")) own_d18_9 rfl rfl rfl rfl (by decide) (by decide) (⟨K0, b1, kb_b1, rfl, by omega, A_b1.lt, A_b1⟩)
theorem own_d17_0 : decode jdk_38_method_16_code 0 = .ok (.aload_n 0, 1) := by decide +kernel
theorem own_d17_1 : decode jdk_38_method_16_code 1 = .ok (.getfield 9, 3) := by decide +kernel
theorem own_d17_4 : decode jdk_38_method_16_code 4 = .ok (.aload_n 0, 1) := by decide +kernel
theorem own_d17_5 : decode jdk_38_method_16_code 5 = .ok (.getfield 48, 3) := by decide +kernel
theorem own_d17_8 : decode jdk_38_method_16_code 8 = .ok (.invokestatic 66, 3) := by decide +kernel
theorem own_pd6 : parseMethodDescriptor "([Ljava/lang/Object;I)[Ljava/lang/Object;" = some ⟨[(.array (.object "java/lang/Object")), .int], some (.array (.object "java/lang/Object"))⟩ := by decide +kernel
theorem own_d17_11 : decode jdk_38_method_16_code 11 = .ok (.areturn, 1) := by decide +kernel
theorem own_pn17 : plainFor (⟨"java/util/ArrayList", "toArray", "()[Ljava/lang/Object;"⟩ : MethodName) = true := plainFor_of_name (by first | (simp [plainName, overriddenIn]; done) | decide +kernel)
set_option maxRecDepth 65536 in
set_option maxHeartbeats 40000000 in
theorem own_toArr_1 (l : Launch) (Z : State) (a0 : Array Value) (hw : ∀ d ∈ tables_1, d.before a0 Z = true) (a : Addr) (ei : Addr) (ka : ClassId) (mr : Addr) (b : Addr) (h0 : Heap) (n0 : Nat) (hs0 : n0 ≤ h0.size) (Fs : Fld Z h0 a "java/util/ArrayList" "size" "I" (.int (0 + 1))) (Fe : Fld Z h0 a "java/util/ArrayList" "elementData" "[Ljava/lang/Object;" (.ref b)) (Ab : own_A Z h0 b ka (.object "java/lang/Object") [(.ref ei), .null, .null, .null, .null, .null, .null, .null, .null, .null]) (Eb : Exa Z h0 b "[Ljava/lang/Object;") (Ie : Ins Z h0 ei "java/lang/Object" true) (he : h0.size > ei) (he0 : n0 ≤ ei) (hmr : own_Mir Z "[Ljava/lang/Object;" mr) :
    own_Met l (⟨"java/util/ArrayList", "toArray", "()[Ljava/lang/Object;"⟩ : MethodName) jdk_38_method_16_code 1 (some (.array (.object "java/lang/Object"))) ({ frames := 3, cells := 1, slots := 1, locals := 46 } : Room) Z #[(.ref a)] h0 n0 (fun v h' => Keep h0 h' [] ∧ ∃ b kb, v = some (.ref b) ∧ h0.size ≤ b ∧ h'.size > b ∧ own_A Z h' b kb (.object "java/lang/Object") [(.ref ei)]) := by
  refine own_met (Ls := #[.val (.ref a)]) own_pn17 hs0 (fun m => by first | (simp [entryFrame, mkF, argsToLocals, Value.category]; done) | rfl) ?_
  intro p e s m below meth c T X
  have K0 := Keep.refl h0 []
  have hi_a : h0.size > a := Fs.lt
  have hi_b : h0.size > b := Ab.lt
  refine own_aloadN X 1 (.ref a) own_d17_0 rfl rfl rfl ?_
  refine own_getF X 4 own_d17_1 rfl (hw _ (List.mem_of_getElem? (i := 44) rfl)) Via.refl Fe ?_
  intro T X
  refine own_aloadN X 5 (.ref a) own_d17_4 rfl rfl rfl ?_
  refine own_getF X 8 own_d17_5 rfl (hw _ (List.mem_of_getElem? (i := 57) rfl)) Via.refl Fs ?_
  intro T X
  refine own_callS X 11 [(.ref b), (.int (0 + 1))] [] own_d17_8 rfl (hw _ (List.mem_of_getElem? (i := 119) rfl)) (hw _ (List.mem_of_getElem? (i := 120) rfl)) (hw _ (List.mem_of_getElem? (i := 121) rfl)) (hw _ (List.mem_of_getElem? (i := 122) rfl)) (by decide) (own_copy2_1 l Z a0 hw b (0 + 1) ei ka mr h0 n0 X.sz Ab Ie (by omega) (by omega) hmr Eb (by decide)) (fun _ _ q => q.1.1) rfl own_pd6 rfl rfl rfl (by decide) (Nat.le_of_ble_eq_true rfl) (by decide) (by decide) ?_
  rintro v8 T h2 X ⟨K_, b1, kb_b1, rfl, lo_b1, hi_b1, A_b1⟩
  have zs_h2 : h0.size ≤ h2.size := K_.1
  have Fs := Fs.keep K_ nin0
  have Fe := Fe.keep K_ nin0
  have Ab := Ab.keep K_ nin0
  have Eb := Eb.keep K_
  have Ie := own_Ins_keep Ie K_
  have K0 := K0.trans K_ all0
  show own_Ends p e below _ (T.setTop (mkF m 11 #[.val (.ref a)] [(.ref b1)]))
  exact own_retA X (.array (.object "java/lang/Object")) own_d17_11 rfl rfl rfl rfl (by decide) (by decide) (⟨K0, b1, kb_b1, rfl, by omega, A_b1.lt, A_b1⟩)
set_option maxRecDepth 65536 in
set_option maxHeartbeats 40000000 in
theorem own_copy3_2 (l : Launch) (Z : State) (a0 : Array Value) (hw : ∀ d ∈ tables_1, d.before a0 Z = true) (a : Addr) (nl : Int32) (cl : Addr) (ei : Addr) (ka : ClassId) (mr : Addr) (h0 : Heap) (n0 : Nat) (hs0 : n0 ≤ h0.size) (Aa : own_A Z h0 a ka (.object "java/lang/Object") [(.ref ei), (.ref ei), .null, .null, .null, .null, .null, .null, .null, .null]) (Ie : Ins Z h0 ei "java/lang/Object" true) (he : h0.size > ei) (he0 : n0 ≤ ei) (hmr : own_Mir Z "[Ljava/lang/Object;" mr) (hnl : nl = 2) (hcl : cl = mr) :
    own_Met l (⟨"java/util/Arrays", "copyOf", "([Ljava/lang/Object;ILjava/lang/Class;)[Ljava/lang/Object;"⟩ : MethodName) jdk_65_method_120_code 4 (some (.array (.object "java/lang/Object"))) ({ frames := 1, cells := 1, slots := 2, locals := 18 } : Room) Z #[(.ref a), (.int nl), (.ref cl)] h0 n0 (fun v h' => Keep h0 h' [] ∧ ∃ b kb, v = some (.ref b) ∧ h0.size ≤ b ∧ h'.size > b ∧ own_A Z h' b kb (.object "java/lang/Object") [(.ref ei), (.ref ei)]) := by
  refine own_met (Ls := #[.val (.ref a), .val (.int nl), .val (.ref cl), .unset]) own_pn19 hs0 (fun m => by first | (simp [entryFrame, mkF, argsToLocals, Value.category]; done) | rfl) ?_
  intro p e s m below meth c T X
  have K0 := Keep.refl h0 []
  have hi_a : h0.size > a := Aa.lt
  subst hnl hcl
  refine own_aloadN X 1 (.ref cl) own_d19_0 rfl rfl rfl ?_
  refine own_ldcM X 3 own_d19_1 rfl (hw _ (List.mem_of_getElem? (i := 132) rfl)) hmr ?_
  intro T X
  refine own_acN X 6 own_d19_3 rfl rfl rfl (XT.aa_ne_f rfl) ?_
  refine own_iloadN X 7 (2 : Int32) own_d19_6 rfl rfl ?_
  refine own_newR X 10 2 2 (ad := "[Ljava/lang/Object;") own_d19_7 rfl (hw _ (List.mem_of_getElem? (i := 133) rfl)) (hw _ (List.mem_of_getElem? (i := 79) rfl)) (by decide) (by decide) (by decide) (by decide) (by decide) (by decide) (by decide) ?_
  intro T h1 b2 kc_b2 g_b2 X E_h1 A_b2 O_b2 C_b2
  have zs_h1 : h0.size ≤ h1.size := E_h1.1
  have Aa := Aa.ext E_h1
  have Ie := Ins.ext E_h1 Ie
  have K0 := K0.ext E_h1
  have lo_b2 : h0.size ≤ b2 := Nat.le_of_eq g_b2.symm
  have hi_b2 : h1.size > b2 := A_b2.lt
  have A_b2 : own_A Z h1 b2 kc_b2 (.object "java/lang/Object") [.null, .null] := A_b2
  refine own_goto X 24 own_d19_10 (by decide) (by decide) ?_
  refine own_astoreN X 25 #[.val (.ref a), .val (.int (2 : Int32)), .val (.ref cl), .val (.ref b2)] own_d19_24 rfl rfl rfl ?_
  refine own_aloadN X 26 (.ref a) own_d19_25 rfl rfl rfl ?_
  refine own_iconst X 27 (0 : Int32) own_d19_26 rfl rfl ?_
  refine own_aloadN X 28 (.ref b2) own_d19_27 rfl rfl rfl ?_
  refine own_iconst X 29 (0 : Int32) own_d19_28 rfl rfl ?_
  refine own_aloadN X 30 (.ref a) own_d19_29 rfl rfl rfl ?_
  refine own_len X 31 (10 : Int32) own_d19_30 rfl Aa rfl ?_
  refine own_iloadN X 32 (2 : Int32) own_d19_31 rfl rfl ?_
  refine own_callS X 35 [(.int (10 : Int32)), (.int (2 : Int32))] [(.int (0 : Int32)), (.ref b2), (.int (0 : Int32)), (.ref a)] own_d19_32 rfl (hw _ (List.mem_of_getElem? (i := 134) rfl)) (hw _ (List.mem_of_getElem? (i := 135) rfl)) (hw _ (List.mem_of_getElem? (i := 76) rfl)) (hw _ (List.mem_of_getElem? (i := 136) rfl)) (by decide) (own_mmin l Z a0 hw (10 : Int32) (2 : Int32) h1 n0 X.sz) (fun _ _ q => Nat.le_of_eq (congrArg Array.size q.1.symm)) rfl own_pd1 rfl rfl rfl (by decide) (Nat.le_of_ble_eq_true rfl) (by decide) (by decide) ?_
  rintro v32 T h_ X ⟨eh_, rfl⟩
  rw [eh_] at X
  show own_Ends p e below _ (T.setTop (mkF m 35 #[.val (.ref a), .val (.int (2 : Int32)), .val (.ref cl), .val (.ref b2)] [(.int (own_min (10 : Int32) (2 : Int32))), (.int (0 : Int32)), (.ref b2), (.int (0 : Int32)), (.ref a)]))
  rw [show own_min (10 : Int32) (2 : Int32) = (2 : Int32) from by decide]
  refine own_cpy X 38 0 0 2 [(.ref ei), (.ref ei)] [(.ref ei), (.ref ei)] own_d19_35 rfl (hw _ (List.mem_of_getElem? (i := 137) rfl)) (hw _ (List.mem_of_getElem? (i := 140) rfl)) (hw _ (List.mem_of_getElem? (i := 138) rfl)) (hw _ (List.mem_of_getElem? (i := 139) rfl)) Aa A_b2 (Or.inr ⟨rfl, rfl, ⟨(own_Sto A_b2 O_b2 Ie), ⟨(own_Sto A_b2 O_b2 Ie), trivial⟩⟩⟩) (by decide) (by decide) (by decide) (by decide) (by decide) (by decide) (Nat.le_of_ble_eq_true rfl) (Nat.le_of_ble_eq_true rfl) rfl rfl (by omega) rfl (by decide) (Nat.le_of_ble_eq_true rfl) ?_
  intro T h3 X K_ nA_
  have zs_h3 : h1.size ≤ h3.size := K_.1
  have Aa := Aa.keep K_ (ninS (by show @Ne Nat _ _; omega) nin0)
  have Ie := own_Ins_keep Ie K_
  have K0 := K0.trans K_ (allS (Or.inr (by omega)) all0)
  have C_b2 := C_b2.keep K_
  have A_b2 := nA_
  refine own_aloadN X 39 (.ref b2) own_d19_38 rfl rfl rfl ?_
  exact own_retA X (.array (.object "java/lang/Object")) own_d19_39 rfl rfl rfl rfl (by decide) (by decide) (⟨K0, b2, kc_b2, rfl, by omega, A_b2.lt, A_b2⟩)
set_option maxRecDepth 65536 in
set_option maxHeartbeats 40000000 in
theorem own_copy2_2 (l : Launch) (Z : State) (a0 : Array Value) (hw : ∀ d ∈ tables_1, d.before a0 Z = true) (a : Addr) (nl : Int32) (ei : Addr) (ka : ClassId) (mr : Addr) (h0 : Heap) (n0 : Nat) (hs0 : n0 ≤ h0.size) (Aa : own_A Z h0 a ka (.object "java/lang/Object") [(.ref ei), (.ref ei), .null, .null, .null, .null, .null, .null, .null, .null]) (Ie : Ins Z h0 ei "java/lang/Object" true) (he : h0.size > ei) (he0 : n0 ≤ ei) (hmr : own_Mir Z "[Ljava/lang/Object;" mr) (Ea : Exa Z h0 a "[Ljava/lang/Object;") (hnl : nl = 2) :
    own_Met l (⟨"java/util/Arrays", "copyOf", "([Ljava/lang/Object;I)[Ljava/lang/Object;"⟩ : MethodName) jdk_65_method_119_code 2 (some (.array (.object "java/lang/Object"))) ({ frames := 2, cells := 1, slots := 2, locals := 33 } : Room) Z #[(.ref a), (.int nl)] h0 n0 (fun v h' => Keep h0 h' [] ∧ ∃ b kb, v = some (.ref b) ∧ h0.size ≤ b ∧ h'.size > b ∧ own_A Z h' b kb (.object "java/lang/Object") [(.ref ei), (.ref ei)]) := by
  refine own_met (Ls := #[.val (.ref a), .val (.int nl)]) own_pn18 hs0 (fun m => by first | (simp [entryFrame, mkF, argsToLocals, Value.category]; done) | rfl) ?_
  intro p e s m below meth c T X
  have K0 := Keep.refl h0 []
  have hi_a : h0.size > a := Aa.lt
  subst hnl
  refine own_aloadN X 1 (.ref a) own_d18_0 rfl rfl rfl ?_
  refine own_iloadN X 2 (2 : Int32) own_d18_1 rfl rfl ?_
  refine own_aloadN X 3 (.ref a) own_d18_2 rfl rfl rfl ?_
  refine own_gcls X 6 own_d18_3 rfl (hw _ (List.mem_of_getElem? (i := 123) rfl)) (hw _ (List.mem_of_getElem? (i := 124) rfl)) (hw _ (List.mem_of_getElem? (i := 100) rfl)) (hw _ (List.mem_of_getElem? (i := 126) rfl)) (hw _ (List.mem_of_getElem? (i := 125) rfl)) (hw _ (List.mem_of_getElem? (i := 127) rfl)) Ea hmr rfl (by decide) (Nat.le_of_ble_eq_true rfl) ?_
  intro T X
  refine own_callS X 9 [(.ref a), (.int (2 : Int32)), (.ref mr)] [] own_d18_6 rfl (hw _ (List.mem_of_getElem? (i := 129) rfl)) (hw _ (List.mem_of_getElem? (i := 130) rfl)) (hw _ (List.mem_of_getElem? (i := 121) rfl)) (hw _ (List.mem_of_getElem? (i := 131) rfl)) (by decide) (own_copy3_2 l Z a0 hw a (2 : Int32) mr ei ka mr h0 n0 X.sz Aa Ie (by omega) (by omega) hmr rfl rfl) (fun _ _ q => q.1.1) rfl own_pd5 rfl rfl rfl (by decide) (Nat.le_of_ble_eq_true rfl) (by decide) (by decide) ?_
  rintro v6 T h2 X ⟨K_, b1, kb_b1, rfl, lo_b1, hi_b1, A_b1⟩
  have zs_h2 : h0.size ≤ h2.size := K_.1
  have Aa := Aa.keep K_ nin0
  have Ie := own_Ins_keep Ie K_
  have K0 := K0.trans K_ all0
  have Ea := Ea.keep K_
  show own_Ends p e below _ (T.setTop (mkF m 9 #[.val (.ref a), .val (.int (2 : Int32))] [(.ref b1)]))
  exact own_retA X (.array (.object "java/lang/Object")) own_d18_9 rfl rfl rfl rfl (by decide) (by decide) (⟨K0, b1, kb_b1, rfl, by omega, A_b1.lt, A_b1⟩)
set_option maxRecDepth 65536 in
set_option maxHeartbeats 40000000 in
theorem own_toArr_2 (l : Launch) (Z : State) (a0 : Array Value) (hw : ∀ d ∈ tables_1, d.before a0 Z = true) (a : Addr) (ei : Addr) (ka : ClassId) (mr : Addr) (b : Addr) (h0 : Heap) (n0 : Nat) (hs0 : n0 ≤ h0.size) (Fs : Fld Z h0 a "java/util/ArrayList" "size" "I" (.int ((0 + 1) + 1))) (Fe : Fld Z h0 a "java/util/ArrayList" "elementData" "[Ljava/lang/Object;" (.ref b)) (Ab : own_A Z h0 b ka (.object "java/lang/Object") [(.ref ei), (.ref ei), .null, .null, .null, .null, .null, .null, .null, .null]) (Eb : Exa Z h0 b "[Ljava/lang/Object;") (Ie : Ins Z h0 ei "java/lang/Object" true) (he : h0.size > ei) (he0 : n0 ≤ ei) (hmr : own_Mir Z "[Ljava/lang/Object;" mr) :
    own_Met l (⟨"java/util/ArrayList", "toArray", "()[Ljava/lang/Object;"⟩ : MethodName) jdk_38_method_16_code 1 (some (.array (.object "java/lang/Object"))) ({ frames := 3, cells := 1, slots := 2, locals := 46 } : Room) Z #[(.ref a)] h0 n0 (fun v h' => Keep h0 h' [] ∧ ∃ b kb, v = some (.ref b) ∧ h0.size ≤ b ∧ h'.size > b ∧ own_A Z h' b kb (.object "java/lang/Object") [(.ref ei), (.ref ei)]) := by
  refine own_met (Ls := #[.val (.ref a)]) own_pn17 hs0 (fun m => by first | (simp [entryFrame, mkF, argsToLocals, Value.category]; done) | rfl) ?_
  intro p e s m below meth c T X
  have K0 := Keep.refl h0 []
  have hi_a : h0.size > a := Fs.lt
  have hi_b : h0.size > b := Ab.lt
  refine own_aloadN X 1 (.ref a) own_d17_0 rfl rfl rfl ?_
  refine own_getF X 4 own_d17_1 rfl (hw _ (List.mem_of_getElem? (i := 44) rfl)) Via.refl Fe ?_
  intro T X
  refine own_aloadN X 5 (.ref a) own_d17_4 rfl rfl rfl ?_
  refine own_getF X 8 own_d17_5 rfl (hw _ (List.mem_of_getElem? (i := 57) rfl)) Via.refl Fs ?_
  intro T X
  refine own_callS X 11 [(.ref b), (.int ((0 + 1) + 1))] [] own_d17_8 rfl (hw _ (List.mem_of_getElem? (i := 119) rfl)) (hw _ (List.mem_of_getElem? (i := 120) rfl)) (hw _ (List.mem_of_getElem? (i := 121) rfl)) (hw _ (List.mem_of_getElem? (i := 122) rfl)) (by decide) (own_copy2_2 l Z a0 hw b ((0 + 1) + 1) ei ka mr h0 n0 X.sz Ab Ie (by omega) (by omega) hmr Eb (by decide)) (fun _ _ q => q.1.1) rfl own_pd6 rfl rfl rfl (by decide) (Nat.le_of_ble_eq_true rfl) (by decide) (by decide) ?_
  rintro v8 T h2 X ⟨K_, b1, kb_b1, rfl, lo_b1, hi_b1, A_b1⟩
  have zs_h2 : h0.size ≤ h2.size := K_.1
  have Fs := Fs.keep K_ nin0
  have Fe := Fe.keep K_ nin0
  have Ab := Ab.keep K_ nin0
  have Eb := Eb.keep K_
  have Ie := own_Ins_keep Ie K_
  have K0 := K0.trans K_ all0
  show own_Ends p e below _ (T.setTop (mkF m 11 #[.val (.ref a)] [(.ref b1)]))
  exact own_retA X (.array (.object "java/lang/Object")) own_d17_11 rfl rfl rfl rfl (by decide) (by decide) (⟨K0, b1, kb_b1, rfl, by omega, A_b1.lt, A_b1⟩)
set_option maxRecDepth 65536 in
set_option maxHeartbeats 40000000 in
theorem own_copy3_3 (l : Launch) (Z : State) (a0 : Array Value) (hw : ∀ d ∈ tables_1, d.before a0 Z = true) (a : Addr) (nl : Int32) (cl : Addr) (ei : Addr) (ka : ClassId) (mr : Addr) (h0 : Heap) (n0 : Nat) (hs0 : n0 ≤ h0.size) (Aa : own_A Z h0 a ka (.object "java/lang/Object") [(.ref ei), (.ref ei), (.ref ei), .null, .null, .null, .null, .null, .null, .null]) (Ie : Ins Z h0 ei "java/lang/Object" true) (he : h0.size > ei) (he0 : n0 ≤ ei) (hmr : own_Mir Z "[Ljava/lang/Object;" mr) (hnl : nl = 3) (hcl : cl = mr) :
    own_Met l (⟨"java/util/Arrays", "copyOf", "([Ljava/lang/Object;ILjava/lang/Class;)[Ljava/lang/Object;"⟩ : MethodName) jdk_65_method_120_code 4 (some (.array (.object "java/lang/Object"))) ({ frames := 1, cells := 1, slots := 3, locals := 18 } : Room) Z #[(.ref a), (.int nl), (.ref cl)] h0 n0 (fun v h' => Keep h0 h' [] ∧ ∃ b kb, v = some (.ref b) ∧ h0.size ≤ b ∧ h'.size > b ∧ own_A Z h' b kb (.object "java/lang/Object") [(.ref ei), (.ref ei), (.ref ei)]) := by
  refine own_met (Ls := #[.val (.ref a), .val (.int nl), .val (.ref cl), .unset]) own_pn19 hs0 (fun m => by first | (simp [entryFrame, mkF, argsToLocals, Value.category]; done) | rfl) ?_
  intro p e s m below meth c T X
  have K0 := Keep.refl h0 []
  have hi_a : h0.size > a := Aa.lt
  subst hnl hcl
  refine own_aloadN X 1 (.ref cl) own_d19_0 rfl rfl rfl ?_
  refine own_ldcM X 3 own_d19_1 rfl (hw _ (List.mem_of_getElem? (i := 132) rfl)) hmr ?_
  intro T X
  refine own_acN X 6 own_d19_3 rfl rfl rfl (XT.aa_ne_f rfl) ?_
  refine own_iloadN X 7 (3 : Int32) own_d19_6 rfl rfl ?_
  refine own_newR X 10 3 3 (ad := "[Ljava/lang/Object;") own_d19_7 rfl (hw _ (List.mem_of_getElem? (i := 133) rfl)) (hw _ (List.mem_of_getElem? (i := 79) rfl)) (by decide) (by decide) (by decide) (by decide) (by decide) (by decide) (by decide) ?_
  intro T h1 b2 kc_b2 g_b2 X E_h1 A_b2 O_b2 C_b2
  have zs_h1 : h0.size ≤ h1.size := E_h1.1
  have Aa := Aa.ext E_h1
  have Ie := Ins.ext E_h1 Ie
  have K0 := K0.ext E_h1
  have lo_b2 : h0.size ≤ b2 := Nat.le_of_eq g_b2.symm
  have hi_b2 : h1.size > b2 := A_b2.lt
  have A_b2 : own_A Z h1 b2 kc_b2 (.object "java/lang/Object") [.null, .null, .null] := A_b2
  refine own_goto X 24 own_d19_10 (by decide) (by decide) ?_
  refine own_astoreN X 25 #[.val (.ref a), .val (.int (3 : Int32)), .val (.ref cl), .val (.ref b2)] own_d19_24 rfl rfl rfl ?_
  refine own_aloadN X 26 (.ref a) own_d19_25 rfl rfl rfl ?_
  refine own_iconst X 27 (0 : Int32) own_d19_26 rfl rfl ?_
  refine own_aloadN X 28 (.ref b2) own_d19_27 rfl rfl rfl ?_
  refine own_iconst X 29 (0 : Int32) own_d19_28 rfl rfl ?_
  refine own_aloadN X 30 (.ref a) own_d19_29 rfl rfl rfl ?_
  refine own_len X 31 (10 : Int32) own_d19_30 rfl Aa rfl ?_
  refine own_iloadN X 32 (3 : Int32) own_d19_31 rfl rfl ?_
  refine own_callS X 35 [(.int (10 : Int32)), (.int (3 : Int32))] [(.int (0 : Int32)), (.ref b2), (.int (0 : Int32)), (.ref a)] own_d19_32 rfl (hw _ (List.mem_of_getElem? (i := 134) rfl)) (hw _ (List.mem_of_getElem? (i := 135) rfl)) (hw _ (List.mem_of_getElem? (i := 76) rfl)) (hw _ (List.mem_of_getElem? (i := 136) rfl)) (by decide) (own_mmin l Z a0 hw (10 : Int32) (3 : Int32) h1 n0 X.sz) (fun _ _ q => Nat.le_of_eq (congrArg Array.size q.1.symm)) rfl own_pd1 rfl rfl rfl (by decide) (Nat.le_of_ble_eq_true rfl) (by decide) (by decide) ?_
  rintro v32 T h_ X ⟨eh_, rfl⟩
  rw [eh_] at X
  show own_Ends p e below _ (T.setTop (mkF m 35 #[.val (.ref a), .val (.int (3 : Int32)), .val (.ref cl), .val (.ref b2)] [(.int (own_min (10 : Int32) (3 : Int32))), (.int (0 : Int32)), (.ref b2), (.int (0 : Int32)), (.ref a)]))
  rw [show own_min (10 : Int32) (3 : Int32) = (3 : Int32) from by decide]
  refine own_cpy X 38 0 0 3 [(.ref ei), (.ref ei), (.ref ei)] [(.ref ei), (.ref ei), (.ref ei)] own_d19_35 rfl (hw _ (List.mem_of_getElem? (i := 137) rfl)) (hw _ (List.mem_of_getElem? (i := 140) rfl)) (hw _ (List.mem_of_getElem? (i := 138) rfl)) (hw _ (List.mem_of_getElem? (i := 139) rfl)) Aa A_b2 (Or.inr ⟨rfl, rfl, ⟨(own_Sto A_b2 O_b2 Ie), ⟨(own_Sto A_b2 O_b2 Ie), ⟨(own_Sto A_b2 O_b2 Ie), trivial⟩⟩⟩⟩) (by decide) (by decide) (by decide) (by decide) (by decide) (by decide) (Nat.le_of_ble_eq_true rfl) (Nat.le_of_ble_eq_true rfl) rfl rfl (by omega) rfl (by decide) (Nat.le_of_ble_eq_true rfl) ?_
  intro T h3 X K_ nA_
  have zs_h3 : h1.size ≤ h3.size := K_.1
  have Aa := Aa.keep K_ (ninS (by show @Ne Nat _ _; omega) nin0)
  have Ie := own_Ins_keep Ie K_
  have K0 := K0.trans K_ (allS (Or.inr (by omega)) all0)
  have C_b2 := C_b2.keep K_
  have A_b2 := nA_
  refine own_aloadN X 39 (.ref b2) own_d19_38 rfl rfl rfl ?_
  exact own_retA X (.array (.object "java/lang/Object")) own_d19_39 rfl rfl rfl rfl (by decide) (by decide) (⟨K0, b2, kc_b2, rfl, by omega, A_b2.lt, A_b2⟩)
set_option maxRecDepth 65536 in
set_option maxHeartbeats 40000000 in
theorem own_copy2_3 (l : Launch) (Z : State) (a0 : Array Value) (hw : ∀ d ∈ tables_1, d.before a0 Z = true) (a : Addr) (nl : Int32) (ei : Addr) (ka : ClassId) (mr : Addr) (h0 : Heap) (n0 : Nat) (hs0 : n0 ≤ h0.size) (Aa : own_A Z h0 a ka (.object "java/lang/Object") [(.ref ei), (.ref ei), (.ref ei), .null, .null, .null, .null, .null, .null, .null]) (Ie : Ins Z h0 ei "java/lang/Object" true) (he : h0.size > ei) (he0 : n0 ≤ ei) (hmr : own_Mir Z "[Ljava/lang/Object;" mr) (Ea : Exa Z h0 a "[Ljava/lang/Object;") (hnl : nl = 3) :
    own_Met l (⟨"java/util/Arrays", "copyOf", "([Ljava/lang/Object;I)[Ljava/lang/Object;"⟩ : MethodName) jdk_65_method_119_code 2 (some (.array (.object "java/lang/Object"))) ({ frames := 2, cells := 1, slots := 3, locals := 33 } : Room) Z #[(.ref a), (.int nl)] h0 n0 (fun v h' => Keep h0 h' [] ∧ ∃ b kb, v = some (.ref b) ∧ h0.size ≤ b ∧ h'.size > b ∧ own_A Z h' b kb (.object "java/lang/Object") [(.ref ei), (.ref ei), (.ref ei)]) := by
  refine own_met (Ls := #[.val (.ref a), .val (.int nl)]) own_pn18 hs0 (fun m => by first | (simp [entryFrame, mkF, argsToLocals, Value.category]; done) | rfl) ?_
  intro p e s m below meth c T X
  have K0 := Keep.refl h0 []
  have hi_a : h0.size > a := Aa.lt
  subst hnl
  refine own_aloadN X 1 (.ref a) own_d18_0 rfl rfl rfl ?_
  refine own_iloadN X 2 (3 : Int32) own_d18_1 rfl rfl ?_
  refine own_aloadN X 3 (.ref a) own_d18_2 rfl rfl rfl ?_
  refine own_gcls X 6 own_d18_3 rfl (hw _ (List.mem_of_getElem? (i := 123) rfl)) (hw _ (List.mem_of_getElem? (i := 124) rfl)) (hw _ (List.mem_of_getElem? (i := 100) rfl)) (hw _ (List.mem_of_getElem? (i := 126) rfl)) (hw _ (List.mem_of_getElem? (i := 125) rfl)) (hw _ (List.mem_of_getElem? (i := 127) rfl)) Ea hmr rfl (by decide) (Nat.le_of_ble_eq_true rfl) ?_
  intro T X
  refine own_callS X 9 [(.ref a), (.int (3 : Int32)), (.ref mr)] [] own_d18_6 rfl (hw _ (List.mem_of_getElem? (i := 129) rfl)) (hw _ (List.mem_of_getElem? (i := 130) rfl)) (hw _ (List.mem_of_getElem? (i := 121) rfl)) (hw _ (List.mem_of_getElem? (i := 131) rfl)) (by decide) (own_copy3_3 l Z a0 hw a (3 : Int32) mr ei ka mr h0 n0 X.sz Aa Ie (by omega) (by omega) hmr rfl rfl) (fun _ _ q => q.1.1) rfl own_pd5 rfl rfl rfl (by decide) (Nat.le_of_ble_eq_true rfl) (by decide) (by decide) ?_
  rintro v6 T h2 X ⟨K_, b1, kb_b1, rfl, lo_b1, hi_b1, A_b1⟩
  have zs_h2 : h0.size ≤ h2.size := K_.1
  have Aa := Aa.keep K_ nin0
  have Ie := own_Ins_keep Ie K_
  have K0 := K0.trans K_ all0
  have Ea := Ea.keep K_
  show own_Ends p e below _ (T.setTop (mkF m 9 #[.val (.ref a), .val (.int (3 : Int32))] [(.ref b1)]))
  exact own_retA X (.array (.object "java/lang/Object")) own_d18_9 rfl rfl rfl rfl (by decide) (by decide) (⟨K0, b1, kb_b1, rfl, by omega, A_b1.lt, A_b1⟩)
set_option maxRecDepth 65536 in
set_option maxHeartbeats 40000000 in
theorem own_toArr_3 (l : Launch) (Z : State) (a0 : Array Value) (hw : ∀ d ∈ tables_1, d.before a0 Z = true) (a : Addr) (ei : Addr) (ka : ClassId) (mr : Addr) (b : Addr) (h0 : Heap) (n0 : Nat) (hs0 : n0 ≤ h0.size) (Fs : Fld Z h0 a "java/util/ArrayList" "size" "I" (.int (((0 + 1) + 1) + 1))) (Fe : Fld Z h0 a "java/util/ArrayList" "elementData" "[Ljava/lang/Object;" (.ref b)) (Ab : own_A Z h0 b ka (.object "java/lang/Object") [(.ref ei), (.ref ei), (.ref ei), .null, .null, .null, .null, .null, .null, .null]) (Eb : Exa Z h0 b "[Ljava/lang/Object;") (Ie : Ins Z h0 ei "java/lang/Object" true) (he : h0.size > ei) (he0 : n0 ≤ ei) (hmr : own_Mir Z "[Ljava/lang/Object;" mr) :
    own_Met l (⟨"java/util/ArrayList", "toArray", "()[Ljava/lang/Object;"⟩ : MethodName) jdk_38_method_16_code 1 (some (.array (.object "java/lang/Object"))) ({ frames := 3, cells := 1, slots := 3, locals := 46 } : Room) Z #[(.ref a)] h0 n0 (fun v h' => Keep h0 h' [] ∧ ∃ b kb, v = some (.ref b) ∧ h0.size ≤ b ∧ h'.size > b ∧ own_A Z h' b kb (.object "java/lang/Object") [(.ref ei), (.ref ei), (.ref ei)]) := by
  refine own_met (Ls := #[.val (.ref a)]) own_pn17 hs0 (fun m => by first | (simp [entryFrame, mkF, argsToLocals, Value.category]; done) | rfl) ?_
  intro p e s m below meth c T X
  have K0 := Keep.refl h0 []
  have hi_a : h0.size > a := Fs.lt
  have hi_b : h0.size > b := Ab.lt
  refine own_aloadN X 1 (.ref a) own_d17_0 rfl rfl rfl ?_
  refine own_getF X 4 own_d17_1 rfl (hw _ (List.mem_of_getElem? (i := 44) rfl)) Via.refl Fe ?_
  intro T X
  refine own_aloadN X 5 (.ref a) own_d17_4 rfl rfl rfl ?_
  refine own_getF X 8 own_d17_5 rfl (hw _ (List.mem_of_getElem? (i := 57) rfl)) Via.refl Fs ?_
  intro T X
  refine own_callS X 11 [(.ref b), (.int (((0 + 1) + 1) + 1))] [] own_d17_8 rfl (hw _ (List.mem_of_getElem? (i := 119) rfl)) (hw _ (List.mem_of_getElem? (i := 120) rfl)) (hw _ (List.mem_of_getElem? (i := 121) rfl)) (hw _ (List.mem_of_getElem? (i := 122) rfl)) (by decide) (own_copy2_3 l Z a0 hw b (((0 + 1) + 1) + 1) ei ka mr h0 n0 X.sz Ab Ie (by omega) (by omega) hmr Eb (by decide)) (fun _ _ q => q.1.1) rfl own_pd6 rfl rfl rfl (by decide) (Nat.le_of_ble_eq_true rfl) (by decide) (by decide) ?_
  rintro v8 T h2 X ⟨K_, b1, kb_b1, rfl, lo_b1, hi_b1, A_b1⟩
  have zs_h2 : h0.size ≤ h2.size := K_.1
  have Fs := Fs.keep K_ nin0
  have Fe := Fe.keep K_ nin0
  have Ab := Ab.keep K_ nin0
  have Eb := Eb.keep K_
  have Ie := own_Ins_keep Ie K_
  have K0 := K0.trans K_ all0
  show own_Ends p e below _ (T.setTop (mkF m 11 #[.val (.ref a)] [(.ref b1)]))
  exact own_retA X (.array (.object "java/lang/Object")) own_d17_11 rfl rfl rfl rfl (by decide) (by decide) (⟨K0, b1, kb_b1, rfl, by omega, A_b1.lt, A_b1⟩)
theorem own_d32_0 : decode jdk_44_method_1_code 0 = .ok (.aload_n 0, 1) := by decide +kernel
theorem own_d32_1 : decode jdk_44_method_1_code 1 = .ok (.invokespecial 1, 3) := by decide +kernel
theorem own_d32_4 : decode jdk_44_method_1_code 4 = .ok (.aload_n 0, 1) := by decide +kernel
theorem own_d32_5 : decode jdk_44_method_1_code 5 = .ok (.aload_n 1, 1) := by decide +kernel
theorem own_d32_6 : decode jdk_44_method_1_code 6 = .ok (.invokestatic 7, 3) := by decide +kernel
theorem own_pd7 : parseMethodDescriptor "(Ljava/lang/Object;)Ljava/lang/Object;" = some ⟨[(.object "java/lang/Object")], some (.object "java/lang/Object")⟩ := by decide +kernel
theorem own_d32_9 : decode jdk_44_method_1_code 9 = .ok (.putfield 13, 3) := by decide +kernel
theorem own_d32_12 : decode jdk_44_method_1_code 12 = .ok (.aload_n 0, 1) := by decide +kernel
theorem own_d32_13 : decode jdk_44_method_1_code 13 = .ok (.getstatic 19, 3) := by decide +kernel
theorem own_d32_16 : decode jdk_44_method_1_code 16 = .ok (.putfield 24, 3) := by decide +kernel
theorem own_d32_19 : decode jdk_44_method_1_code 19 = .ok (.return_, 1) := by decide +kernel
theorem own_pn32 : plainFor (⟨"java/util/ImmutableCollections$List12", "<init>", "(Ljava/lang/Object;)V"⟩ : MethodName) = true := plainFor_of_name (by first | (simp [plainName, overriddenIn]; done) | decide +kernel)
set_option maxRecDepth 65536 in
set_option maxHeartbeats 40000000 in
theorem own_l121 (l : Launch) (Z : State) (a0 : Array Value) (hw : ∀ d ∈ tables_1, d.before a0 Z = true) (a : Addr) (x : Addr) (em : Addr) (h0 : Heap) (n0 : Nat) (hs0 : n0 ≤ h0.size) (OL : Old Z n0 h0) (z_em : Sta Z Z.heap "java/util/ImmutableCollections" "EMPTY" "Ljava/lang/Object;" (.ref em)) (F0 : Fld Z h0 a "java/util/ImmutableCollections$List12" "e0" "Ljava/lang/Object;" .null) (F1 : Fld Z h0 a "java/util/ImmutableCollections$List12" "e1" "Ljava/lang/Object;" .null) (Ea : Exa Z h0 a "java/util/ImmutableCollections$List12") (ga : n0 ≤ a) :
    own_Met l (⟨"java/util/ImmutableCollections$List12", "<init>", "(Ljava/lang/Object;)V"⟩ : MethodName) jdk_44_method_1_code 2 none ({ frames := 4, cells := 0, slots := 0, locals := 48 } : Room) Z #[(.ref a), (.ref x)] h0 n0 (fun v h' => Keep h0 h' [a] ∧ v = none ∧ Fld Z h' a "java/util/ImmutableCollections$List12" "e1" "Ljava/lang/Object;" (.ref em)) := by
  refine own_met (Ls := #[.val (.ref a), .val (.ref x)]) own_pn32 hs0 (fun m => by first | (simp [entryFrame, mkF, argsToLocals, Value.category]; done) | rfl) ?_
  intro p e s m below meth c T X
  have K0 := Keep.refl h0 [a]
  have hi_a : h0.size > a := F0.lt
  refine own_aloadN X 1 (.ref a) own_d32_0 rfl rfl rfl ?_
  refine own_init X 4 [] [] own_d32_1 rfl (hw _ (List.mem_of_getElem? (i := 205) rfl)) (hw _ (List.mem_of_getElem? (i := 159) rfl)) (hw _ (List.mem_of_getElem? (i := 162) rfl)) (hw _ (List.mem_of_getElem? (i := 163) rfl)) (by decide) rfl (own_ail l Z a0 hw a h0 n0 X.sz) (fun _ _ q => Nat.le_of_eq (congrArg Array.size q.1.symm)) rfl own_pd0 rfl rfl rfl (by decide) (Nat.le_of_ble_eq_true rfl) (by decide) (by decide) ?_
  rintro v1 T h_ X ⟨eh_, rfl⟩
  rw [eh_] at X
  show own_Ends p e below _ (T.setTop (mkF m 4 #[.val (.ref a), .val (.ref x)] []))
  refine own_aloadN X 5 (.ref a) own_d32_4 rfl rfl rfl ?_
  refine own_aloadN X 6 (.ref x) own_d32_5 rfl rfl rfl ?_
  refine own_callS X 9 [(.ref x)] [(.ref a)] own_d32_6 rfl (hw _ (List.mem_of_getElem? (i := 209) rfl)) (hw _ (List.mem_of_getElem? (i := 149) rfl)) (hw _ (List.mem_of_getElem? (i := 150) rfl)) (hw _ (List.mem_of_getElem? (i := 151) rfl)) (by decide) (own_rnn l Z a0 hw x h0 n0 X.sz) (fun _ _ q => Nat.le_of_eq (congrArg Array.size q.1.symm)) rfl own_pd7 rfl rfl rfl (by decide) (Nat.le_of_ble_eq_true rfl) (by decide) (by decide) ?_
  rintro v6 T h_ X ⟨eh_, rfl⟩
  rw [eh_] at X
  show own_Ends p e below _ (T.setTop (mkF m 9 #[.val (.ref a), .val (.ref x)] [(.ref x), (.ref a)]))
  refine own_putF X 12 (.object "java/lang/Object") own_d32_9 rfl (hw _ (List.mem_of_getElem? (i := 210) rfl)) Via.refl F0 Ea (Or.inr ⟨(hw _ (List.mem_of_getElem? (i := 211) rfl)), rfl, rfl⟩) (hw _ (List.mem_of_getElem? (i := 199) rfl)) (by decide) rfl rfl (by omega) ?_
  intro T h1 X W_h1
  have nw_h1 := Fld.same W_h1 F0
  have zs_h1 : h0.size ≤ h1.size := (Nat.le_of_eq W_h1.size.symm)
  have F1 := Fld.other W_h1 F1 (Or.inr (slot_ne (Or.inr (hw _ (List.mem_of_getElem? (i := 213) rfl))) (Or.inr (hw _ (List.mem_of_getElem? (i := 211) rfl))) (by decide) (t := (.object "java/lang/Object")) (t' := (.object "java/lang/Object")) (by decide) (by decide)))
  have OL := OL.wr W_h1 (by omega)
  have Ea := Exa.wr W_h1 Ea
  have K0 := K0.wr W_h1 (Or.inl (by simp))
  have F0 := nw_h1
  refine own_aloadN X 13 (.ref a) own_d32_12 rfl rfl rfl ?_
  refine own_getSN X 16 own_d32_13 rfl (hw _ (List.mem_of_getElem? (i := 220) rfl)) Via.refl (Sta.ext OL.2 z_em) ?_
  intro T X
  refine own_putF X 19 (.object "java/lang/Object") own_d32_16 rfl (hw _ (List.mem_of_getElem? (i := 212) rfl)) Via.refl F1 Ea (Or.inr ⟨(hw _ (List.mem_of_getElem? (i := 213) rfl)), rfl, rfl⟩) (hw _ (List.mem_of_getElem? (i := 199) rfl)) (by decide) rfl rfl (by omega) ?_
  intro T h2 X W_h2
  have nw_h2 := Fld.same W_h2 F1
  have zs_h2 : h1.size ≤ h2.size := (Nat.le_of_eq W_h2.size.symm)
  have OL := OL.wr W_h2 (by omega)
  have Ea := Exa.wr W_h2 Ea
  have K0 := K0.wr W_h2 (Or.inl (by simp))
  have F0 := Fld.other W_h2 F0 (Or.inr (slot_ne (Or.inr (hw _ (List.mem_of_getElem? (i := 211) rfl))) (Or.inr (hw _ (List.mem_of_getElem? (i := 213) rfl))) (by decide) (t := (.object "java/lang/Object")) (t' := (.object "java/lang/Object")) (by decide) (by decide)))
  have F1 := nw_h2
  exact own_retV X own_d32_19 rfl (by decide) (by decide) (⟨K0, rfl, F1⟩)
theorem own_d30_0 : decode jdk_44_method_2_code 0 = .ok (.aload_n 0, 1) := by decide +kernel
theorem own_d30_1 : decode jdk_44_method_2_code 1 = .ok (.invokespecial 1, 3) := by decide +kernel
theorem own_d30_4 : decode jdk_44_method_2_code 4 = .ok (.aload_n 0, 1) := by decide +kernel
theorem own_d30_5 : decode jdk_44_method_2_code 5 = .ok (.aload_n 1, 1) := by decide +kernel
theorem own_d30_6 : decode jdk_44_method_2_code 6 = .ok (.invokestatic 7, 3) := by decide +kernel
theorem own_d30_9 : decode jdk_44_method_2_code 9 = .ok (.putfield 13, 3) := by decide +kernel
theorem own_d30_12 : decode jdk_44_method_2_code 12 = .ok (.aload_n 0, 1) := by decide +kernel
theorem own_d30_13 : decode jdk_44_method_2_code 13 = .ok (.aload_n 2, 1) := by decide +kernel
theorem own_d30_14 : decode jdk_44_method_2_code 14 = .ok (.invokestatic 7, 3) := by decide +kernel
theorem own_d30_17 : decode jdk_44_method_2_code 17 = .ok (.putfield 24, 3) := by decide +kernel
theorem own_d30_20 : decode jdk_44_method_2_code 20 = .ok (.return_, 1) := by decide +kernel
theorem own_pn30 : plainFor (⟨"java/util/ImmutableCollections$List12", "<init>", "(Ljava/lang/Object;Ljava/lang/Object;)V"⟩ : MethodName) = true := plainFor_of_name (by first | (simp [plainName, overriddenIn]; done) | decide +kernel)
set_option maxRecDepth 65536 in
set_option maxHeartbeats 40000000 in
theorem own_l122 (l : Launch) (Z : State) (a0 : Array Value) (hw : ∀ d ∈ tables_1, d.before a0 Z = true) (a : Addr) (x : Addr) (x2 : Addr) (h0 : Heap) (n0 : Nat) (hs0 : n0 ≤ h0.size) (F0 : Fld Z h0 a "java/util/ImmutableCollections$List12" "e0" "Ljava/lang/Object;" .null) (F1 : Fld Z h0 a "java/util/ImmutableCollections$List12" "e1" "Ljava/lang/Object;" .null) (Ea : Exa Z h0 a "java/util/ImmutableCollections$List12") (ga : n0 ≤ a) :
    own_Met l (⟨"java/util/ImmutableCollections$List12", "<init>", "(Ljava/lang/Object;Ljava/lang/Object;)V"⟩ : MethodName) jdk_44_method_2_code 3 none ({ frames := 4, cells := 0, slots := 0, locals := 48 } : Room) Z #[(.ref a), (.ref x), (.ref x2)] h0 n0 (fun v h' => Keep h0 h' [a] ∧ v = none ∧ Fld Z h' a "java/util/ImmutableCollections$List12" "e1" "Ljava/lang/Object;" (.ref x2)) := by
  refine own_met (Ls := #[.val (.ref a), .val (.ref x), .val (.ref x2)]) own_pn30 hs0 (fun m => by first | (simp [entryFrame, mkF, argsToLocals, Value.category]; done) | rfl) ?_
  intro p e s m below meth c T X
  have K0 := Keep.refl h0 [a]
  have hi_a : h0.size > a := F0.lt
  refine own_aloadN X 1 (.ref a) own_d30_0 rfl rfl rfl ?_
  refine own_init X 4 [] [] own_d30_1 rfl (hw _ (List.mem_of_getElem? (i := 205) rfl)) (hw _ (List.mem_of_getElem? (i := 159) rfl)) (hw _ (List.mem_of_getElem? (i := 162) rfl)) (hw _ (List.mem_of_getElem? (i := 163) rfl)) (by decide) rfl (own_ail l Z a0 hw a h0 n0 X.sz) (fun _ _ q => Nat.le_of_eq (congrArg Array.size q.1.symm)) rfl own_pd0 rfl rfl rfl (by decide) (Nat.le_of_ble_eq_true rfl) (by decide) (by decide) ?_
  rintro v1 T h_ X ⟨eh_, rfl⟩
  rw [eh_] at X
  show own_Ends p e below _ (T.setTop (mkF m 4 #[.val (.ref a), .val (.ref x), .val (.ref x2)] []))
  refine own_aloadN X 5 (.ref a) own_d30_4 rfl rfl rfl ?_
  refine own_aloadN X 6 (.ref x) own_d30_5 rfl rfl rfl ?_
  refine own_callS X 9 [(.ref x)] [(.ref a)] own_d30_6 rfl (hw _ (List.mem_of_getElem? (i := 209) rfl)) (hw _ (List.mem_of_getElem? (i := 149) rfl)) (hw _ (List.mem_of_getElem? (i := 150) rfl)) (hw _ (List.mem_of_getElem? (i := 151) rfl)) (by decide) (own_rnn l Z a0 hw x h0 n0 X.sz) (fun _ _ q => Nat.le_of_eq (congrArg Array.size q.1.symm)) rfl own_pd7 rfl rfl rfl (by decide) (Nat.le_of_ble_eq_true rfl) (by decide) (by decide) ?_
  rintro v6 T h_ X ⟨eh_, rfl⟩
  rw [eh_] at X
  show own_Ends p e below _ (T.setTop (mkF m 9 #[.val (.ref a), .val (.ref x), .val (.ref x2)] [(.ref x), (.ref a)]))
  refine own_putF X 12 (.object "java/lang/Object") own_d30_9 rfl (hw _ (List.mem_of_getElem? (i := 210) rfl)) Via.refl F0 Ea (Or.inr ⟨(hw _ (List.mem_of_getElem? (i := 211) rfl)), rfl, rfl⟩) (hw _ (List.mem_of_getElem? (i := 199) rfl)) (by decide) rfl rfl (by omega) ?_
  intro T h1 X W_h1
  have nw_h1 := Fld.same W_h1 F0
  have zs_h1 : h0.size ≤ h1.size := (Nat.le_of_eq W_h1.size.symm)
  have F1 := Fld.other W_h1 F1 (Or.inr (slot_ne (Or.inr (hw _ (List.mem_of_getElem? (i := 213) rfl))) (Or.inr (hw _ (List.mem_of_getElem? (i := 211) rfl))) (by decide) (t := (.object "java/lang/Object")) (t' := (.object "java/lang/Object")) (by decide) (by decide)))
  have Ea := Exa.wr W_h1 Ea
  have K0 := K0.wr W_h1 (Or.inl (by simp))
  have F0 := nw_h1
  refine own_aloadN X 13 (.ref a) own_d30_12 rfl rfl rfl ?_
  refine own_aloadN X 14 (.ref x2) own_d30_13 rfl rfl rfl ?_
  refine own_callS X 17 [(.ref x2)] [(.ref a)] own_d30_14 rfl (hw _ (List.mem_of_getElem? (i := 209) rfl)) (hw _ (List.mem_of_getElem? (i := 149) rfl)) (hw _ (List.mem_of_getElem? (i := 150) rfl)) (hw _ (List.mem_of_getElem? (i := 151) rfl)) (by decide) (own_rnn l Z a0 hw x2 h1 n0 X.sz) (fun _ _ q => Nat.le_of_eq (congrArg Array.size q.1.symm)) rfl own_pd7 rfl rfl rfl (by decide) (Nat.le_of_ble_eq_true rfl) (by decide) (by decide) ?_
  rintro v14 T h_ X ⟨eh_, rfl⟩
  rw [eh_] at X
  show own_Ends p e below _ (T.setTop (mkF m 17 #[.val (.ref a), .val (.ref x), .val (.ref x2)] [(.ref x2), (.ref a)]))
  refine own_putF X 20 (.object "java/lang/Object") own_d30_17 rfl (hw _ (List.mem_of_getElem? (i := 212) rfl)) Via.refl F1 Ea (Or.inr ⟨(hw _ (List.mem_of_getElem? (i := 213) rfl)), rfl, rfl⟩) (hw _ (List.mem_of_getElem? (i := 199) rfl)) (by decide) rfl rfl (by omega) ?_
  intro T h2 X W_h2
  have nw_h2 := Fld.same W_h2 F1
  have zs_h2 : h1.size ≤ h2.size := (Nat.le_of_eq W_h2.size.symm)
  have Ea := Exa.wr W_h2 Ea
  have K0 := K0.wr W_h2 (Or.inl (by simp))
  have F0 := Fld.other W_h2 F0 (Or.inr (slot_ne (Or.inr (hw _ (List.mem_of_getElem? (i := 211) rfl))) (Or.inr (hw _ (List.mem_of_getElem? (i := 213) rfl))) (by decide) (t := (.object "java/lang/Object")) (t' := (.object "java/lang/Object")) (by decide) (by decide)))
  have F1 := nw_h2
  exact own_retV X own_d30_20 rfl (by decide) (by decide) (⟨K0, rfl, F1⟩)
theorem own_d24_0 : decode jdk_45_method_1_code 0 = .ok (.aload_n 0, 1) := by decide +kernel
theorem own_d24_1 : decode jdk_45_method_1_code 1 = .ok (.invokespecial 1, 3) := by decide +kernel
theorem own_d24_4 : decode jdk_45_method_1_code 4 = .ok (.aload_n 0, 1) := by decide +kernel
theorem own_d24_5 : decode jdk_45_method_1_code 5 = .ok (.aload_n 1, 1) := by decide +kernel
theorem own_d24_6 : decode jdk_45_method_1_code 6 = .ok (.putfield 7, 3) := by decide +kernel
theorem own_d24_9 : decode jdk_45_method_1_code 9 = .ok (.aload_n 0, 1) := by decide +kernel
theorem own_d24_10 : decode jdk_45_method_1_code 10 = .ok (.iload_n 2, 1) := by decide +kernel
theorem own_d24_11 : decode jdk_45_method_1_code 11 = .ok (.putfield 13, 3) := by decide +kernel
theorem own_d24_14 : decode jdk_45_method_1_code 14 = .ok (.return_, 1) := by decide +kernel
theorem own_pn24 : plainFor (⟨"java/util/ImmutableCollections$ListN", "<init>", "([Ljava/lang/Object;Z)V"⟩ : MethodName) = true := plainFor_of_name (by first | (simp [plainName, overriddenIn]; done) | decide +kernel)
set_option maxRecDepth 65536 in
set_option maxHeartbeats 40000000 in
theorem own_lN (l : Launch) (Z : State) (a0 : Array Value) (hw : ∀ d ∈ tables_1, d.before a0 Z = true) (a : Addr) (x : Addr) (fl : Int32) (h0 : Heap) (n0 : Nat) (hs0 : n0 ≤ h0.size) (F0 : Fld Z h0 a "java/util/ImmutableCollections$ListN" "elements" "[Ljava/lang/Object;" .null) (F1 : Fld Z h0 a "java/util/ImmutableCollections$ListN" "allowNulls" "Z" (.int 0)) (Ea : Exa Z h0 a "java/util/ImmutableCollections$ListN") (ga : n0 ≤ a) :
    own_Met l (⟨"java/util/ImmutableCollections$ListN", "<init>", "([Ljava/lang/Object;Z)V"⟩ : MethodName) jdk_45_method_1_code 3 none ({ frames := 4, cells := 0, slots := 0, locals := 48 } : Room) Z #[(.ref a), (.ref x), (.int fl)] h0 n0 (fun v h' => Keep h0 h' [a] ∧ v = none ∧ Fld Z h' a "java/util/ImmutableCollections$ListN" "elements" "[Ljava/lang/Object;" (.ref x)) := by
  refine own_met (Ls := #[.val (.ref a), .val (.ref x), .val (.int fl)]) own_pn24 hs0 (fun m => by first | (simp [entryFrame, mkF, argsToLocals, Value.category]; done) | rfl) ?_
  intro p e s m below meth c T X
  have K0 := Keep.refl h0 [a]
  have hi_a : h0.size > a := F0.lt
  refine own_aloadN X 1 (.ref a) own_d24_0 rfl rfl rfl ?_
  refine own_init X 4 [] [] own_d24_1 rfl (hw _ (List.mem_of_getElem? (i := 158) rfl)) (hw _ (List.mem_of_getElem? (i := 159) rfl)) (hw _ (List.mem_of_getElem? (i := 162) rfl)) (hw _ (List.mem_of_getElem? (i := 163) rfl)) (by decide) rfl (own_ail l Z a0 hw a h0 n0 X.sz) (fun _ _ q => Nat.le_of_eq (congrArg Array.size q.1.symm)) rfl own_pd0 rfl rfl rfl (by decide) (Nat.le_of_ble_eq_true rfl) (by decide) (by decide) ?_
  rintro v1 T h_ X ⟨eh_, rfl⟩
  rw [eh_] at X
  show own_Ends p e below _ (T.setTop (mkF m 4 #[.val (.ref a), .val (.ref x), .val (.int fl)] []))
  refine own_aloadN X 5 (.ref a) own_d24_4 rfl rfl rfl ?_
  refine own_aloadN X 6 (.ref x) own_d24_5 rfl rfl rfl ?_
  refine own_putF X 9 (.array (.object "java/lang/Object")) own_d24_6 rfl (hw _ (List.mem_of_getElem? (i := 172) rfl)) Via.refl F0 Ea (Or.inr ⟨(hw _ (List.mem_of_getElem? (i := 173) rfl)), rfl, rfl⟩) (hw _ (List.mem_of_getElem? (i := 152) rfl)) (by decide) rfl rfl (by omega) ?_
  intro T h1 X W_h1
  have nw_h1 := Fld.same W_h1 F0
  have zs_h1 : h0.size ≤ h1.size := (Nat.le_of_eq W_h1.size.symm)
  have F1 := Fld.other W_h1 F1 (Or.inr (slot_ne (Or.inr (hw _ (List.mem_of_getElem? (i := 175) rfl))) (Or.inr (hw _ (List.mem_of_getElem? (i := 173) rfl))) (by decide) (t := .boolean) (t' := (.array (.object "java/lang/Object"))) (by decide) (by decide)))
  have Ea := Exa.wr W_h1 Ea
  have K0 := K0.wr W_h1 (Or.inl (by simp))
  have F0 := nw_h1
  refine own_aloadN X 10 (.ref a) own_d24_9 rfl rfl rfl ?_
  refine own_iloadN X 11 fl own_d24_10 rfl rfl ?_
  refine own_putFN X 14 .boolean (v' := .int (nar .boolean fl)) own_d24_11 rfl (hw _ (List.mem_of_getElem? (i := 174) rfl)) Via.refl F1 Ea (Or.inr ⟨(hw _ (List.mem_of_getElem? (i := 175) rfl)), rfl, rfl⟩) (hw _ (List.mem_of_getElem? (i := 152) rfl)) (by decide) rfl (fits_nar_bool _) (by omega) ?_
  intro T h2 X W_h2
  have nw_h2 := Fld.same W_h2 F1
  have zs_h2 : h1.size ≤ h2.size := (Nat.le_of_eq W_h2.size.symm)
  have Ea := Exa.wr W_h2 Ea
  have K0 := K0.wr W_h2 (Or.inl (by simp))
  have F0 := Fld.other W_h2 F0 (Or.inr (slot_ne (Or.inr (hw _ (List.mem_of_getElem? (i := 173) rfl))) (Or.inr (hw _ (List.mem_of_getElem? (i := 175) rfl))) (by decide) (t := (.array (.object "java/lang/Object"))) (t' := .boolean) (by decide) (by decide)))
  have F1 := nw_h2
  exact own_retV X own_d24_14 rfl (by decide) (by decide) (⟨K0, rfl, F0⟩)
theorem own_d22_0 : decode jdk_56_method_4_code 0 = .ok (.aload_n 0, 1) := by decide +kernel
theorem own_d22_1 : decode jdk_56_method_4_code 1 = .ok (.arraylength, 1) := by decide +kernel
theorem own_d22_2 : decode jdk_56_method_4_code 2 = .ok (.anewarray 2, 3) := by decide +kernel
theorem own_d22_5 : decode jdk_56_method_4_code 5 = .ok (.astore_n 1, 1) := by decide +kernel
theorem own_d22_6 : decode jdk_56_method_4_code 6 = .ok (.iconst 0, 1) := by decide +kernel
theorem own_d22_7 : decode jdk_56_method_4_code 7 = .ok (.istore_n 2, 1) := by decide +kernel
theorem own_d22_8 : decode jdk_56_method_4_code 8 = .ok (.iload_n 2, 1) := by decide +kernel
theorem own_d22_9 : decode jdk_56_method_4_code 9 = .ok (.aload_n 0, 1) := by decide +kernel
theorem own_d22_10 : decode jdk_56_method_4_code 10 = .ok (.arraylength, 1) := by decide +kernel
theorem own_d22_11 : decode jdk_56_method_4_code 11 = .ok (.if_icmp .ge 18, 3) := by decide +kernel
theorem own_d22_14 : decode jdk_56_method_4_code 14 = .ok (.aload_n 1, 1) := by decide +kernel
theorem own_d22_15 : decode jdk_56_method_4_code 15 = .ok (.iload_n 2, 1) := by decide +kernel
theorem own_d22_16 : decode jdk_56_method_4_code 16 = .ok (.aload_n 0, 1) := by decide +kernel
theorem own_d22_17 : decode jdk_56_method_4_code 17 = .ok (.iload_n 2, 1) := by decide +kernel
theorem own_d22_18 : decode jdk_56_method_4_code 18 = .ok (.aaload, 1) := by decide +kernel
theorem own_d22_19 : decode jdk_56_method_4_code 19 = .ok (.invokestatic 37, 3) := by decide +kernel
theorem own_d22_22 : decode jdk_56_method_4_code 22 = .ok (.aastore, 1) := by decide +kernel
theorem own_d22_23 : decode jdk_56_method_4_code 23 = .ok (.iinc 2 1, 3) := by decide +kernel
theorem own_d22_26 : decode jdk_56_method_4_code 26 = .ok (.goto (-18), 3) := by decide +kernel
theorem own_d22_29 : decode jdk_56_method_4_code 29 = .ok (.new 12, 3) := by decide +kernel
theorem own_d22_32 : decode jdk_56_method_4_code 32 = .ok (.dup, 1) := by decide +kernel
theorem own_d22_33 : decode jdk_56_method_4_code 33 = .ok (.aload_n 1, 1) := by decide +kernel
theorem own_d22_34 : decode jdk_56_method_4_code 34 = .ok (.iconst 0, 1) := by decide +kernel
theorem own_d22_35 : decode jdk_56_method_4_code 35 = .ok (.invokespecial 43, 3) := by decide +kernel
theorem own_pd8 : parseMethodDescriptor "([Ljava/lang/Object;Z)V" = some ⟨[(.array (.object "java/lang/Object")), .boolean], none⟩ := by decide +kernel
theorem own_d22_38 : decode jdk_56_method_4_code 38 = .ok (.areturn, 1) := by decide +kernel
theorem own_pn22 : plainFor (⟨"java/util/ImmutableCollections", "listFromArray", "([Ljava/lang/Object;)Ljava/util/List;"⟩ : MethodName) = true := plainFor_of_name (by first | (simp [plainName, overriddenIn]; done) | decide +kernel)
set_option maxRecDepth 65536 in
set_option maxHeartbeats 40000000 in
theorem own_lfa (l : Launch) (Z : State) (a0 : Array Value) (hw : ∀ d ∈ tables_1, d.before a0 Z = true) (a : Addr) (ei : Addr) (ka : ClassId) (h0 : Heap) (n0 : Nat) (hs0 : n0 ≤ h0.size) (Aa : own_A Z h0 a ka (.object "java/lang/Object") [(.ref ei), (.ref ei), (.ref ei)]) (Ie : Ins Z h0 ei "java/lang/Object" true) (he : h0.size > ei) (he0 : n0 ≤ ei) :
    own_Met l (⟨"java/util/ImmutableCollections", "listFromArray", "([Ljava/lang/Object;)Ljava/util/List;"⟩ : MethodName) jdk_56_method_4_code 3 (some (.object "java/util/List")) ({ frames := 5, cells := 2, slots := 5, locals := 63 } : Room) Z #[(.ref a)] h0 n0 (fun v h' => Keep h0 h' [] ∧ ∃ b, v = some (.ref b) ∧ h0.size ≤ b ∧ h'.size > b ∧ Exa Z h' b "java/util/ImmutableCollections$ListN" ∧ ∃ c kc, Fld Z h' b "java/util/ImmutableCollections$ListN" "elements" "[Ljava/lang/Object;" (.ref c) ∧ h0.size ≤ c ∧ h'.size > c ∧ own_A Z h' c kc (.object "java/lang/Object") [(.ref ei), (.ref ei), (.ref ei)]) := by
  refine own_met (Ls := #[.val (.ref a), .unset, .unset]) own_pn22 hs0 (fun m => by first | (simp [entryFrame, mkF, argsToLocals, Value.category]; done) | rfl) ?_
  intro p e s m below meth c T X
  have K0 := Keep.refl h0 []
  have hi_a : h0.size > a := Aa.lt
  refine own_aloadN X 1 (.ref a) own_d22_0 rfl rfl rfl ?_
  refine own_len X 2 (3 : Int32) own_d22_1 rfl Aa rfl ?_
  refine own_newR X 5 3 3 (ad := "[Ljava/lang/Object;") own_d22_2 rfl (hw _ (List.mem_of_getElem? (i := 147) rfl)) (hw _ (List.mem_of_getElem? (i := 79) rfl)) (by decide) (by decide) (by decide) (by decide) (by decide) (by decide) (by decide) ?_
  intro T h1 b2 kc_b2 g_b2 X E_h1 A_b2 O_b2 C_b2
  have zs_h1 : h0.size ≤ h1.size := E_h1.1
  have Aa := Aa.ext E_h1
  have Ie := Ins.ext E_h1 Ie
  have K0 := K0.ext E_h1
  have lo_b2 : h0.size ≤ b2 := Nat.le_of_eq g_b2.symm
  have hi_b2 : h1.size > b2 := A_b2.lt
  have A_b2 : own_A Z h1 b2 kc_b2 (.object "java/lang/Object") [.null, .null, .null] := A_b2
  refine own_astoreN X 6 #[.val (.ref a), .val (.ref b2), .unset] own_d22_5 rfl rfl rfl ?_
  refine own_iconst X 7 (0 : Int32) own_d22_6 rfl rfl ?_
  refine own_istoreN X 8 #[.val (.ref a), .val (.ref b2), .val (.int (0 : Int32))] own_d22_7 rfl rfl ?_
  refine own_iloadN X 9 (0 : Int32) own_d22_8 rfl rfl ?_
  refine own_aloadN X 10 (.ref a) own_d22_9 rfl rfl rfl ?_
  refine own_len X 11 (3 : Int32) own_d22_10 rfl Aa rfl ?_
  refine own_icN X 14 own_d22_11 rfl (XT.ii_ge_f (by decide)) ?_
  refine own_aloadN X 15 (.ref b2) own_d22_14 rfl rfl rfl ?_
  refine own_iloadN X 16 (0 : Int32) own_d22_15 rfl rfl ?_
  refine own_aloadN X 17 (.ref a) own_d22_16 rfl rfl rfl ?_
  refine own_iloadN X 18 (0 : Int32) own_d22_17 rfl rfl ?_
  refine own_aaload X 19 0 (.ref ei) own_d22_18 rfl Aa (by decide) (by decide) rfl rfl ?_
  refine own_callS X 22 [(.ref ei)] [(.int (0 : Int32)), (.ref b2)] own_d22_19 rfl (hw _ (List.mem_of_getElem? (i := 148) rfl)) (hw _ (List.mem_of_getElem? (i := 149) rfl)) (hw _ (List.mem_of_getElem? (i := 150) rfl)) (hw _ (List.mem_of_getElem? (i := 151) rfl)) (by decide) (own_rnn l Z a0 hw ei h1 n0 X.sz) (fun _ _ q => Nat.le_of_eq (congrArg Array.size q.1.symm)) rfl own_pd7 rfl rfl rfl (by decide) (Nat.le_of_ble_eq_true rfl) (by decide) (by decide) ?_
  rintro v19 T h_ X ⟨eh_, rfl⟩
  rw [eh_] at X
  show own_Ends p e below _ (T.setTop (mkF m 22 #[.val (.ref a), .val (.ref b2), .val (.int (0 : Int32))] [(.ref ei), (.int (0 : Int32)), (.ref b2)]))
  refine own_aastore X 23 0 own_d22_22 rfl A_b2 (by decide) (by decide) (Nat.le_of_ble_eq_true rfl) rfl (own_Sto A_b2 O_b2 Ie) (by omega) ?_
  intro T h3 X W_h3
  have nw_h3 : own_A Z h3 b2 kc_b2 (.object "java/lang/Object") [(.ref ei), .null, .null] := A_b2.same W_h3 rfl
  have zs_h3 : h1.size ≤ h3.size := (Nat.le_of_eq W_h3.size.symm)
  have Aa := Aa.other W_h3 (by show @Ne Nat _ _; omega)
  have Ie := Ins.wr W_h3 Ie
  have K0 := K0.wr W_h3 (Or.inr (by omega))
  have C_b2 := Exa.wr W_h3 C_b2
  have A_b2 := nw_h3
  refine own_iinc X 26 (1 : Int32) #[.val (.ref a), .val (.ref b2), .val (.int ((0 : Int32) + (1 : Int32)))] own_d22_23 rfl rfl rfl rfl ?_
  refine own_goto X 8 own_d22_26 (by decide) (by decide) ?_
  refine own_iloadN X 9 ((0 : Int32) + (1 : Int32)) own_d22_8 rfl rfl ?_
  refine own_aloadN X 10 (.ref a) own_d22_9 rfl rfl rfl ?_
  refine own_len X 11 (3 : Int32) own_d22_10 rfl Aa rfl ?_
  refine own_icN X 14 own_d22_11 rfl (XT.ii_ge_f (by decide)) ?_
  refine own_aloadN X 15 (.ref b2) own_d22_14 rfl rfl rfl ?_
  refine own_iloadN X 16 ((0 : Int32) + (1 : Int32)) own_d22_15 rfl rfl ?_
  refine own_aloadN X 17 (.ref a) own_d22_16 rfl rfl rfl ?_
  refine own_iloadN X 18 ((0 : Int32) + (1 : Int32)) own_d22_17 rfl rfl ?_
  refine own_aaload X 19 1 (.ref ei) own_d22_18 rfl Aa (by decide) (by decide) rfl rfl ?_
  refine own_callS X 22 [(.ref ei)] [(.int ((0 : Int32) + (1 : Int32))), (.ref b2)] own_d22_19 rfl (hw _ (List.mem_of_getElem? (i := 148) rfl)) (hw _ (List.mem_of_getElem? (i := 149) rfl)) (hw _ (List.mem_of_getElem? (i := 150) rfl)) (hw _ (List.mem_of_getElem? (i := 151) rfl)) (by decide) (own_rnn l Z a0 hw ei h3 n0 X.sz) (fun _ _ q => Nat.le_of_eq (congrArg Array.size q.1.symm)) rfl own_pd7 rfl rfl rfl (by decide) (Nat.le_of_ble_eq_true rfl) (by decide) (by decide) ?_
  rintro v19 T h_ X ⟨eh_, rfl⟩
  rw [eh_] at X
  show own_Ends p e below _ (T.setTop (mkF m 22 #[.val (.ref a), .val (.ref b2), .val (.int ((0 : Int32) + (1 : Int32)))] [(.ref ei), (.int ((0 : Int32) + (1 : Int32))), (.ref b2)]))
  refine own_aastore X 23 1 own_d22_22 rfl A_b2 (by decide) (by decide) (Nat.le_of_ble_eq_true rfl) rfl (own_Sto A_b2 O_b2 Ie) (by omega) ?_
  intro T h4 X W_h4
  have nw_h4 : own_A Z h4 b2 kc_b2 (.object "java/lang/Object") [(.ref ei), (.ref ei), .null] := A_b2.same W_h4 rfl
  have zs_h4 : h3.size ≤ h4.size := (Nat.le_of_eq W_h4.size.symm)
  have Aa := Aa.other W_h4 (by show @Ne Nat _ _; omega)
  have Ie := Ins.wr W_h4 Ie
  have K0 := K0.wr W_h4 (Or.inr (by omega))
  have C_b2 := Exa.wr W_h4 C_b2
  have A_b2 := nw_h4
  refine own_iinc X 26 (1 : Int32) #[.val (.ref a), .val (.ref b2), .val (.int (((0 : Int32) + (1 : Int32)) + (1 : Int32)))] own_d22_23 rfl rfl rfl rfl ?_
  refine own_goto X 8 own_d22_26 (by decide) (by decide) ?_
  refine own_iloadN X 9 (((0 : Int32) + (1 : Int32)) + (1 : Int32)) own_d22_8 rfl rfl ?_
  refine own_aloadN X 10 (.ref a) own_d22_9 rfl rfl rfl ?_
  refine own_len X 11 (3 : Int32) own_d22_10 rfl Aa rfl ?_
  refine own_icN X 14 own_d22_11 rfl (XT.ii_ge_f (by decide)) ?_
  refine own_aloadN X 15 (.ref b2) own_d22_14 rfl rfl rfl ?_
  refine own_iloadN X 16 (((0 : Int32) + (1 : Int32)) + (1 : Int32)) own_d22_15 rfl rfl ?_
  refine own_aloadN X 17 (.ref a) own_d22_16 rfl rfl rfl ?_
  refine own_iloadN X 18 (((0 : Int32) + (1 : Int32)) + (1 : Int32)) own_d22_17 rfl rfl ?_
  refine own_aaload X 19 2 (.ref ei) own_d22_18 rfl Aa (by decide) (by decide) rfl rfl ?_
  refine own_callS X 22 [(.ref ei)] [(.int (((0 : Int32) + (1 : Int32)) + (1 : Int32))), (.ref b2)] own_d22_19 rfl (hw _ (List.mem_of_getElem? (i := 148) rfl)) (hw _ (List.mem_of_getElem? (i := 149) rfl)) (hw _ (List.mem_of_getElem? (i := 150) rfl)) (hw _ (List.mem_of_getElem? (i := 151) rfl)) (by decide) (own_rnn l Z a0 hw ei h4 n0 X.sz) (fun _ _ q => Nat.le_of_eq (congrArg Array.size q.1.symm)) rfl own_pd7 rfl rfl rfl (by decide) (Nat.le_of_ble_eq_true rfl) (by decide) (by decide) ?_
  rintro v19 T h_ X ⟨eh_, rfl⟩
  rw [eh_] at X
  show own_Ends p e below _ (T.setTop (mkF m 22 #[.val (.ref a), .val (.ref b2), .val (.int (((0 : Int32) + (1 : Int32)) + (1 : Int32)))] [(.ref ei), (.int (((0 : Int32) + (1 : Int32)) + (1 : Int32))), (.ref b2)]))
  refine own_aastore X 23 2 own_d22_22 rfl A_b2 (by decide) (by decide) (Nat.le_of_ble_eq_true rfl) rfl (own_Sto A_b2 O_b2 Ie) (by omega) ?_
  intro T h5 X W_h5
  have nw_h5 : own_A Z h5 b2 kc_b2 (.object "java/lang/Object") [(.ref ei), (.ref ei), (.ref ei)] := A_b2.same W_h5 rfl
  have zs_h5 : h4.size ≤ h5.size := (Nat.le_of_eq W_h5.size.symm)
  have Aa := Aa.other W_h5 (by show @Ne Nat _ _; omega)
  have Ie := Ins.wr W_h5 Ie
  have K0 := K0.wr W_h5 (Or.inr (by omega))
  have C_b2 := Exa.wr W_h5 C_b2
  have A_b2 := nw_h5
  refine own_iinc X 26 (1 : Int32) #[.val (.ref a), .val (.ref b2), .val (.int ((((0 : Int32) + (1 : Int32)) + (1 : Int32)) + (1 : Int32)))] own_d22_23 rfl rfl rfl rfl ?_
  refine own_goto X 8 own_d22_26 (by decide) (by decide) ?_
  refine own_iloadN X 9 ((((0 : Int32) + (1 : Int32)) + (1 : Int32)) + (1 : Int32)) own_d22_8 rfl rfl ?_
  refine own_aloadN X 10 (.ref a) own_d22_9 rfl rfl rfl ?_
  refine own_len X 11 (3 : Int32) own_d22_10 rfl Aa rfl ?_
  refine own_icY X 29 own_d22_11 (by decide) (by decide) (XT.ii_ge_t (by decide)) ?_
  refine own_new X 32 own_d22_29 rfl (hw _ (List.mem_of_getElem? (i := 101) rfl)) (hw _ (List.mem_of_getElem? (i := 152) rfl)) (hw _ (List.mem_of_getElem? (i := 153) rfl)) (by decide) (by decide) ?_
  intro T h6 b7 g_b7 X E_h6 A_b7 D_b7
  have zs_h6 : h5.size ≤ h6.size := E_h6.1
  have Aa := Aa.ext E_h6
  have Ie := Ins.ext E_h6 Ie
  have K0 := K0.ext E_h6
  have C_b2 := Exa.ext E_h6 C_b2
  have A_b2 := A_b2.ext E_h6
  have lo_b7 : h5.size ≤ b7 := Nat.le_of_eq g_b7.symm
  have hi_b7 : h6.size > b7 := A_b7.lt
  have F_elements_b7 : Fld Z h6 b7 "java/util/ImmutableCollections$ListN" "elements" "[Ljava/lang/Object;" .null := D_b7 (Or.inr (hw _ (List.mem_of_getElem? (i := 173) rfl))) (ty := (.array (.object "java/lang/Object"))) (by decide)
  have F_allowNulls_b7 : Fld Z h6 b7 "java/util/ImmutableCollections$ListN" "allowNulls" "Z" (.int (0 : Int32)) := D_b7 (Or.inr (hw _ (List.mem_of_getElem? (i := 175) rfl))) (ty := .boolean) (by decide)
  refine own_dup X 33 own_d22_32 rfl rfl ?_
  refine own_aloadN X 34 (.ref b2) own_d22_33 rfl rfl rfl ?_
  refine own_iconst X 35 (0 : Int32) own_d22_34 rfl rfl ?_
  refine own_initN X 38 [(.ref b2), (.int (0 : Int32))] [(.ref b7)] own_d22_35 rfl (hw _ (List.mem_of_getElem? (i := 154) rfl)) (hw _ (List.mem_of_getElem? (i := 155) rfl)) (hw _ (List.mem_of_getElem? (i := 153) rfl)) (hw _ (List.mem_of_getElem? (i := 157) rfl)) (by decide) rfl (own_lN l Z a0 hw b7 b2 (0 : Int32) h6 n0 X.sz F_elements_b7 F_allowNulls_b7 A_b7 (by omega)) (fun _ _ q => q.1.1) rfl own_pd8 rfl rfl rfl (by decide) (Nat.le_of_ble_eq_true rfl) (by decide) (by decide) ?_
  rintro v35 T h8 X ⟨K_, rfl, Fel_⟩
  have zs_h8 : h6.size ≤ h8.size := K_.1
  have Aa := Aa.keep K_ (ninS (by show @Ne Nat _ _; omega) nin0)
  have Ie := own_Ins_keep Ie K_
  have K0 := K0.trans K_ (allS (Or.inr (by omega)) all0)
  have C_b2 := C_b2.keep K_
  have A_b2 := A_b2.keep K_ (ninS (by show @Ne Nat _ _; omega) nin0)
  have A_b7 := A_b7.keep K_
  have F_elements_b7 := Fel_
  show own_Ends p e below _ (T.setTop (mkF m 38 #[.val (.ref a), .val (.ref b2), .val (.int ((((0 : Int32) + (1 : Int32)) + (1 : Int32)) + (1 : Int32)))] [(.ref b7)]))
  exact own_retA X (.object "java/util/List") own_d22_38 rfl rfl rfl rfl (by decide) (by decide) (⟨K0, b7, rfl, by omega, A_b7.lt, A_b7, b2, kc_b2, F_elements_b7, by omega, A_b2.lt, A_b2⟩)
theorem own_d21_0 : decode jdk_40_method_47_code 0 = .ok (.aload_n 0, 1) := by decide +kernel
theorem own_d21_1 : decode jdk_40_method_47_code 1 = .ok (.arraylength, 1) := by decide +kernel
theorem own_d21_2 : decode jdk_40_method_47_code 2 = .ok (.tableswitch 57 0 2 #[26, 32, 43], 26) := by decide +kernel
theorem own_d21_34 : decode jdk_40_method_47_code 34 = .ok (.new 96, 3) := by decide +kernel
theorem own_d21_37 : decode jdk_40_method_47_code 37 = .ok (.dup, 1) := by decide +kernel
theorem own_d21_38 : decode jdk_40_method_47_code 38 = .ok (.aload_n 0, 1) := by decide +kernel
theorem own_d21_39 : decode jdk_40_method_47_code 39 = .ok (.iconst 0, 1) := by decide +kernel
theorem own_d21_40 : decode jdk_40_method_47_code 40 = .ok (.aaload, 1) := by decide +kernel
theorem own_d21_41 : decode jdk_40_method_47_code 41 = .ok (.invokespecial 98, 3) := by decide +kernel
theorem own_pd9 : parseMethodDescriptor "(Ljava/lang/Object;)V" = some ⟨[(.object "java/lang/Object")], none⟩ := by decide +kernel
theorem own_d21_44 : decode jdk_40_method_47_code 44 = .ok (.areturn, 1) := by decide +kernel
theorem own_pn21 : plainFor (⟨"java/util/List", "of", "([Ljava/lang/Object;)Ljava/util/List;"⟩ : MethodName) = true := plainFor_of_name (by first | (simp [plainName, overriddenIn]; done) | decide +kernel)
set_option maxRecDepth 65536 in
set_option maxHeartbeats 40000000 in
theorem own_listof_1 (l : Launch) (Z : State) (a0 : Array Value) (hw : ∀ d ∈ tables_1, d.before a0 Z = true) (a : Addr) (ei : Addr) (ka : ClassId) (em : Addr) (h0 : Heap) (n0 : Nat) (hs0 : n0 ≤ h0.size) (Aa : own_A Z h0 a ka (.object "java/lang/Object") [(.ref ei)]) (Ie : Ins Z h0 ei "java/lang/Object" true) (he : h0.size > ei) (he0 : n0 ≤ ei) (OL : Old Z n0 h0) (z_em : Sta Z Z.heap "java/util/ImmutableCollections" "EMPTY" "Ljava/lang/Object;" (.ref em)) :
    own_Met l (⟨"java/util/List", "of", "([Ljava/lang/Object;)Ljava/util/List;"⟩ : MethodName) jdk_40_method_47_code 2 (some (.object "java/util/List")) ({ frames := 5, cells := 1, slots := 2, locals := 62 } : Room) Z #[(.ref a)] h0 n0 (fun v h' => Keep h0 h' [] ∧ ∃ b, v = some (.ref b) ∧ h0.size ≤ b ∧ h'.size > b ∧ Exa Z h' b "java/util/ImmutableCollections$List12" ∧ Fld Z h' b "java/util/ImmutableCollections$List12" "e1" "Ljava/lang/Object;" (.ref em)) := by
  refine own_met (Ls := #[.val (.ref a), .unset]) own_pn21 hs0 (fun m => by first | (simp [entryFrame, mkF, argsToLocals, Value.category]; done) | rfl) ?_
  intro p e s m below meth c T X
  have K0 := Keep.refl h0 []
  have hi_a : h0.size > a := Aa.lt
  refine own_aloadN X 1 (.ref a) own_d21_0 rfl rfl rfl ?_
  refine own_len X 2 (1 : Int32) own_d21_1 rfl Aa rfl ?_
  refine own_tswIn X 34 (o := 32) own_d21_2 (by decide) (by decide) (by decide) (by decide) ?_
  refine own_new X 37 own_d21_34 rfl (hw _ (List.mem_of_getElem? (i := 198) rfl)) (hw _ (List.mem_of_getElem? (i := 199) rfl)) (hw _ (List.mem_of_getElem? (i := 200) rfl)) (by decide) (by decide) ?_
  intro T h1 b2 g_b2 X E_h1 A_b2 D_b2
  have zs_h1 : h0.size ≤ h1.size := E_h1.1
  have Aa := Aa.ext E_h1
  have Ie := Ins.ext E_h1 Ie
  have K0 := K0.ext E_h1
  have OL := OL.ext E_h1
  have lo_b2 : h0.size ≤ b2 := Nat.le_of_eq g_b2.symm
  have hi_b2 : h1.size > b2 := A_b2.lt
  have F_e0_b2 : Fld Z h1 b2 "java/util/ImmutableCollections$List12" "e0" "Ljava/lang/Object;" .null := D_b2 (Or.inr (hw _ (List.mem_of_getElem? (i := 211) rfl))) (ty := (.object "java/lang/Object")) (by decide)
  have F_e1_b2 : Fld Z h1 b2 "java/util/ImmutableCollections$List12" "e1" "Ljava/lang/Object;" .null := D_b2 (Or.inr (hw _ (List.mem_of_getElem? (i := 213) rfl))) (ty := (.object "java/lang/Object")) (by decide)
  refine own_dup X 38 own_d21_37 rfl rfl ?_
  refine own_aloadN X 39 (.ref a) own_d21_38 rfl rfl rfl ?_
  refine own_iconst X 40 (0 : Int32) own_d21_39 rfl rfl ?_
  refine own_aaload X 41 0 (.ref ei) own_d21_40 rfl Aa (by decide) (by decide) rfl rfl ?_
  refine own_init X 44 [(.ref ei)] [(.ref b2)] own_d21_41 rfl (hw _ (List.mem_of_getElem? (i := 221) rfl)) (hw _ (List.mem_of_getElem? (i := 222) rfl)) (hw _ (List.mem_of_getElem? (i := 200) rfl)) (hw _ (List.mem_of_getElem? (i := 223) rfl)) (by decide) rfl (own_l121 l Z a0 hw b2 ei em h1 n0 X.sz OL z_em F_e0_b2 F_e1_b2 A_b2 (by omega)) (fun _ _ q => q.1.1) rfl own_pd9 rfl rfl rfl (by decide) (Nat.le_of_ble_eq_true rfl) (by decide) (by decide) ?_
  rintro v41 T h3 X ⟨K_, rfl, Fe1_⟩
  have zs_h3 : h1.size ≤ h3.size := K_.1
  have Aa := Aa.keep K_ (ninS (by show @Ne Nat _ _; omega) nin0)
  have Ie := own_Ins_keep Ie K_
  have K0 := K0.trans K_ (allS (Or.inr (by omega)) all0)
  have OL := OL.keep K_ (allS (by omega) all0)
  have A_b2 := A_b2.keep K_
  have F_e1_b2 := Fe1_
  show own_Ends p e below _ (T.setTop (mkF m 44 #[.val (.ref a), .unset] [(.ref b2)]))
  exact own_retA X (.object "java/util/List") own_d21_44 rfl rfl rfl rfl (by decide) (by decide) (⟨K0, b2, rfl, by omega, A_b2.lt, A_b2, F_e1_b2⟩)
theorem own_d21_45 : decode jdk_40_method_47_code 45 = .ok (.new 96, 3) := by decide +kernel
theorem own_d21_48 : decode jdk_40_method_47_code 48 = .ok (.dup, 1) := by decide +kernel
theorem own_d21_49 : decode jdk_40_method_47_code 49 = .ok (.aload_n 0, 1) := by decide +kernel
theorem own_d21_50 : decode jdk_40_method_47_code 50 = .ok (.iconst 0, 1) := by decide +kernel
theorem own_d21_51 : decode jdk_40_method_47_code 51 = .ok (.aaload, 1) := by decide +kernel
theorem own_d21_52 : decode jdk_40_method_47_code 52 = .ok (.aload_n 0, 1) := by decide +kernel
theorem own_d21_53 : decode jdk_40_method_47_code 53 = .ok (.iconst 1, 1) := by decide +kernel
theorem own_d21_54 : decode jdk_40_method_47_code 54 = .ok (.aaload, 1) := by decide +kernel
theorem own_d21_55 : decode jdk_40_method_47_code 55 = .ok (.invokespecial 100, 3) := by decide +kernel
theorem own_pd10 : parseMethodDescriptor "(Ljava/lang/Object;Ljava/lang/Object;)V" = some ⟨[(.object "java/lang/Object"), (.object "java/lang/Object")], none⟩ := by decide +kernel
theorem own_d21_58 : decode jdk_40_method_47_code 58 = .ok (.areturn, 1) := by decide +kernel
set_option maxRecDepth 65536 in
set_option maxHeartbeats 40000000 in
theorem own_listof_2 (l : Launch) (Z : State) (a0 : Array Value) (hw : ∀ d ∈ tables_1, d.before a0 Z = true) (a : Addr) (ei : Addr) (ka : ClassId) (em : Addr) (h0 : Heap) (n0 : Nat) (hs0 : n0 ≤ h0.size) (Aa : own_A Z h0 a ka (.object "java/lang/Object") [(.ref ei), (.ref ei)]) (Ie : Ins Z h0 ei "java/lang/Object" true) (he : h0.size > ei) (he0 : n0 ≤ ei) (OL : Old Z n0 h0) (z_em : Sta Z Z.heap "java/util/ImmutableCollections" "EMPTY" "Ljava/lang/Object;" (.ref em)) :
    own_Met l (⟨"java/util/List", "of", "([Ljava/lang/Object;)Ljava/util/List;"⟩ : MethodName) jdk_40_method_47_code 2 (some (.object "java/util/List")) ({ frames := 5, cells := 1, slots := 2, locals := 63 } : Room) Z #[(.ref a)] h0 n0 (fun v h' => Keep h0 h' [] ∧ ∃ b, v = some (.ref b) ∧ h0.size ≤ b ∧ h'.size > b ∧ Exa Z h' b "java/util/ImmutableCollections$List12" ∧ Fld Z h' b "java/util/ImmutableCollections$List12" "e1" "Ljava/lang/Object;" (.ref ei)) := by
  refine own_met (Ls := #[.val (.ref a), .unset]) own_pn21 hs0 (fun m => by first | (simp [entryFrame, mkF, argsToLocals, Value.category]; done) | rfl) ?_
  intro p e s m below meth c T X
  have K0 := Keep.refl h0 []
  have hi_a : h0.size > a := Aa.lt
  refine own_aloadN X 1 (.ref a) own_d21_0 rfl rfl rfl ?_
  refine own_len X 2 (2 : Int32) own_d21_1 rfl Aa rfl ?_
  refine own_tswIn X 45 (o := 43) own_d21_2 (by decide) (by decide) (by decide) (by decide) ?_
  refine own_new X 48 own_d21_45 rfl (hw _ (List.mem_of_getElem? (i := 198) rfl)) (hw _ (List.mem_of_getElem? (i := 199) rfl)) (hw _ (List.mem_of_getElem? (i := 200) rfl)) (by decide) (by decide) ?_
  intro T h1 b2 g_b2 X E_h1 A_b2 D_b2
  have zs_h1 : h0.size ≤ h1.size := E_h1.1
  have Aa := Aa.ext E_h1
  have Ie := Ins.ext E_h1 Ie
  have K0 := K0.ext E_h1
  have OL := OL.ext E_h1
  have lo_b2 : h0.size ≤ b2 := Nat.le_of_eq g_b2.symm
  have hi_b2 : h1.size > b2 := A_b2.lt
  have F_e0_b2 : Fld Z h1 b2 "java/util/ImmutableCollections$List12" "e0" "Ljava/lang/Object;" .null := D_b2 (Or.inr (hw _ (List.mem_of_getElem? (i := 211) rfl))) (ty := (.object "java/lang/Object")) (by decide)
  have F_e1_b2 : Fld Z h1 b2 "java/util/ImmutableCollections$List12" "e1" "Ljava/lang/Object;" .null := D_b2 (Or.inr (hw _ (List.mem_of_getElem? (i := 213) rfl))) (ty := (.object "java/lang/Object")) (by decide)
  refine own_dup X 49 own_d21_48 rfl rfl ?_
  refine own_aloadN X 50 (.ref a) own_d21_49 rfl rfl rfl ?_
  refine own_iconst X 51 (0 : Int32) own_d21_50 rfl rfl ?_
  refine own_aaload X 52 0 (.ref ei) own_d21_51 rfl Aa (by decide) (by decide) rfl rfl ?_
  refine own_aloadN X 53 (.ref a) own_d21_52 rfl rfl rfl ?_
  refine own_iconst X 54 (1 : Int32) own_d21_53 rfl rfl ?_
  refine own_aaload X 55 1 (.ref ei) own_d21_54 rfl Aa (by decide) (by decide) rfl rfl ?_
  refine own_init X 58 [(.ref ei), (.ref ei)] [(.ref b2)] own_d21_55 rfl (hw _ (List.mem_of_getElem? (i := 201) rfl)) (hw _ (List.mem_of_getElem? (i := 202) rfl)) (hw _ (List.mem_of_getElem? (i := 200) rfl)) (hw _ (List.mem_of_getElem? (i := 204) rfl)) (by decide) rfl (own_l122 l Z a0 hw b2 ei ei h1 n0 X.sz F_e0_b2 F_e1_b2 A_b2 (by omega)) (fun _ _ q => q.1.1) rfl own_pd10 rfl rfl rfl (by decide) (Nat.le_of_ble_eq_true rfl) (by decide) (by decide) ?_
  rintro v55 T h3 X ⟨K_, rfl, Fe1_⟩
  have zs_h3 : h1.size ≤ h3.size := K_.1
  have Aa := Aa.keep K_ (ninS (by show @Ne Nat _ _; omega) nin0)
  have Ie := own_Ins_keep Ie K_
  have K0 := K0.trans K_ (allS (Or.inr (by omega)) all0)
  have OL := OL.keep K_ (allS (by omega) all0)
  have A_b2 := A_b2.keep K_
  have F_e1_b2 := Fe1_
  show own_Ends p e below _ (T.setTop (mkF m 58 #[.val (.ref a), .unset] [(.ref b2)]))
  exact own_retA X (.object "java/util/List") own_d21_58 rfl rfl rfl rfl (by decide) (by decide) (⟨K0, b2, rfl, by omega, A_b2.lt, A_b2, F_e1_b2⟩)
theorem own_d21_59 : decode jdk_40_method_47_code 59 = .ok (.aload_n 0, 1) := by decide +kernel
theorem own_d21_60 : decode jdk_40_method_47_code 60 = .ok (.invokestatic 109, 3) := by decide +kernel
theorem own_pd11 : parseMethodDescriptor "([Ljava/lang/Object;)Ljava/util/List;" = some ⟨[(.array (.object "java/lang/Object"))], some (.object "java/util/List")⟩ := by decide +kernel
theorem own_d21_63 : decode jdk_40_method_47_code 63 = .ok (.areturn, 1) := by decide +kernel
set_option maxRecDepth 65536 in
set_option maxHeartbeats 40000000 in
theorem own_listof_3 (l : Launch) (Z : State) (a0 : Array Value) (hw : ∀ d ∈ tables_1, d.before a0 Z = true) (a : Addr) (ei : Addr) (ka : ClassId) (em : Addr) (h0 : Heap) (n0 : Nat) (hs0 : n0 ≤ h0.size) (Aa : own_A Z h0 a ka (.object "java/lang/Object") [(.ref ei), (.ref ei), (.ref ei)]) (Ie : Ins Z h0 ei "java/lang/Object" true) (he : h0.size > ei) (he0 : n0 ≤ ei) (OL : Old Z n0 h0) (z_em : Sta Z Z.heap "java/util/ImmutableCollections" "EMPTY" "Ljava/lang/Object;" (.ref em)) :
    own_Met l (⟨"java/util/List", "of", "([Ljava/lang/Object;)Ljava/util/List;"⟩ : MethodName) jdk_40_method_47_code 2 (some (.object "java/util/List")) ({ frames := 6, cells := 2, slots := 5, locals := 77 } : Room) Z #[(.ref a)] h0 n0 (fun v h' => Keep h0 h' [] ∧ ∃ b, v = some (.ref b) ∧ h0.size ≤ b ∧ h'.size > b ∧ Exa Z h' b "java/util/ImmutableCollections$ListN" ∧ ∃ c kc, Fld Z h' b "java/util/ImmutableCollections$ListN" "elements" "[Ljava/lang/Object;" (.ref c) ∧ h0.size ≤ c ∧ h'.size > c ∧ own_A Z h' c kc (.object "java/lang/Object") [(.ref ei), (.ref ei), (.ref ei)]) := by
  refine own_met (Ls := #[.val (.ref a), .unset]) own_pn21 hs0 (fun m => by first | (simp [entryFrame, mkF, argsToLocals, Value.category]; done) | rfl) ?_
  intro p e s m below meth c T X
  have K0 := Keep.refl h0 []
  have hi_a : h0.size > a := Aa.lt
  refine own_aloadN X 1 (.ref a) own_d21_0 rfl rfl rfl ?_
  refine own_len X 2 (3 : Int32) own_d21_1 rfl Aa rfl ?_
  refine own_tswOut X 59 own_d21_2 (by decide) (by decide) (by decide) ?_
  refine own_aloadN X 60 (.ref a) own_d21_59 rfl rfl rfl ?_
  refine own_callS X 63 [(.ref a)] [] own_d21_60 rfl (hw _ (List.mem_of_getElem? (i := 144) rfl)) (hw _ (List.mem_of_getElem? (i := 145) rfl)) (hw _ (List.mem_of_getElem? (i := 94) rfl)) (hw _ (List.mem_of_getElem? (i := 146) rfl)) (by decide) (own_lfa l Z a0 hw a ei ka h0 n0 X.sz Aa Ie (by omega) (by omega)) (fun _ _ q => q.1.1) rfl own_pd11 rfl rfl rfl (by decide) (Nat.le_of_ble_eq_true rfl) (by decide) (by decide) ?_
  rintro v60 T h2 X ⟨K_, L1, rfl, lo_L1, hi_L1, E_L1, c_L1, kc_L1, F_el_L1, loc_L1, hic_L1, A_L1⟩
  have zs_h2 : h0.size ≤ h2.size := K_.1
  have Aa := Aa.keep K_ nin0
  have Ie := own_Ins_keep Ie K_
  have K0 := K0.trans K_ all0
  have OL := OL.keep K_ all0
  show own_Ends p e below _ (T.setTop (mkF m 63 #[.val (.ref a), .unset] [(.ref L1)]))
  exact own_retA X (.object "java/util/List") own_d21_63 rfl rfl rfl rfl (by decide) (by decide) (⟨K0, L1, rfl, by omega, E_L1.lt, E_L1, c_L1, kc_L1, F_el_L1, by omega, A_L1.lt, A_L1⟩)
theorem own_d29_0 : decode jdk_40_method_36_code 0 = .ok (.getstatic 90, 3) := by decide +kernel
theorem own_d29_3 : decode jdk_40_method_36_code 3 = .ok (.areturn, 1) := by decide +kernel
theorem own_pn29 : plainFor (⟨"java/util/List", "of", "()Ljava/util/List;"⟩ : MethodName) = true := plainFor_of_name (by first | (simp [plainName, overriddenIn]; done) | decide +kernel)
set_option maxRecDepth 65536 in
set_option maxHeartbeats 40000000 in
theorem own_listof0 (l : Launch) (Z : State) (a0 : Array Value) (hw : ∀ d ∈ tables_1, d.before a0 Z = true)  (de : Addr) (kd : ClassId) (el : Addr) (ea : Addr) (ke : ClassId) (em : Addr) (mr : Addr) (h0 : Heap) (n0 : Nat) (hs0 : n0 ≤ h0.size) (OL : Old Z n0 h0) (z_de : Sta Z Z.heap "java/util/ArrayList" "DEFAULTCAPACITY_EMPTY_ELEMENTDATA" "[Ljava/lang/Object;" (.ref de)) (z_dA : own_A Z Z.heap de kd (.object "java/lang/Object") []) (z_el : Sta Z Z.heap "java/util/ImmutableCollections" "EMPTY_LIST" "Ljava/util/ImmutableCollections$ListN;" (.ref el)) (z_eE : Exa Z Z.heap el "java/util/ImmutableCollections$ListN") (z_eF : Fld Z Z.heap el "java/util/ImmutableCollections$ListN" "elements" "[Ljava/lang/Object;" (.ref ea)) (z_eA : own_A Z Z.heap ea ke (.object "java/lang/Object") []) (z_em : Sta Z Z.heap "java/util/ImmutableCollections" "EMPTY" "Ljava/lang/Object;" (.ref em)) (z_mE : Exa Z Z.heap em "java/lang/Object") (hmr : own_Mir Z "[Ljava/lang/Object;" mr) :
    own_Met l (⟨"java/util/List", "of", "()Ljava/util/List;"⟩ : MethodName) jdk_40_method_36_code 0 (some (.object "java/util/List")) ({ frames := 0, cells := 0, slots := 0, locals := 0 } : Room) Z #[] h0 n0 (fun v h' => Keep h0 h' [] ∧ ∃ b, v = some (.ref b) ∧ Exa Z h' b "java/util/ImmutableCollections$ListN" ∧ b = el) := by
  refine own_met (Ls := #[]) own_pn29 hs0 (fun m => by first | (simp [entryFrame, mkF, argsToLocals, Value.category]; done) | rfl) ?_
  intro p e s m below meth c T X
  have K0 := Keep.refl h0 []
  have hi_de : n0 > de := (OL.1 ▸ z_dA.lt)
  have hi_el : n0 > el := (OL.1 ▸ z_eE.lt)
  have hi_ea : n0 > ea := (OL.1 ▸ z_eA.lt)
  have hi_em : n0 > em := (OL.1 ▸ z_mE.lt)
  refine own_getS X 3 own_d29_0 rfl (hw _ (List.mem_of_getElem? (i := 197) rfl)) Via.refl (Sta.ext OL.2 z_el) ?_
  intro T X
  exact own_retA X (.object "java/util/List") own_d29_3 rfl rfl rfl rfl (by decide) (by decide) (⟨K0, el, rfl, (Exa.ext OL.2 z_eE), rfl⟩)
theorem own_d15_0 : decode jdk_56_method_3_code 0 = .ok (.aload_n 0, 1) := by decide +kernel
theorem own_d15_1 : decode jdk_56_method_3_code 1 = .ok (.instanceof 10, 3) := by decide +kernel
theorem own_d15_4 : decode jdk_56_method_3_code 4 = .ok (.ifCond .ne 22, 3) := by decide +kernel
theorem own_d15_7 : decode jdk_56_method_3_code 7 = .ok (.aload_n 0, 1) := by decide +kernel
theorem own_d15_8 : decode jdk_56_method_3_code 8 = .ok (.instanceof 12, 3) := by decide +kernel
theorem own_d15_11 : decode jdk_56_method_3_code 11 = .ok (.ifCond .eq 20, 3) := by decide +kernel
theorem own_d15_31 : decode jdk_56_method_3_code 31 = .ok (.aload_n 0, 1) := by decide +kernel
theorem own_d15_32 : decode jdk_56_method_3_code 32 = .ok (.invokeinterface 20 1, 5) := by decide +kernel
theorem own_pd12 : parseMethodDescriptor "()Z" = some ⟨[], some .boolean⟩ := by decide +kernel
theorem own_d15_37 : decode jdk_56_method_3_code 37 = .ok (.ifCond .eq 7, 3) := by decide +kernel
theorem own_d15_40 : decode jdk_56_method_3_code 40 = .ok (.invokestatic 26, 3) := by decide +kernel
theorem own_pd13 : parseMethodDescriptor "()Ljava/util/List;" = some ⟨[], some (.object "java/util/List")⟩ := by decide +kernel
theorem own_d15_43 : decode jdk_56_method_3_code 43 = .ok (.areturn, 1) := by decide +kernel
theorem own_pn15 : plainFor (⟨"java/util/ImmutableCollections", "listCopy", "(Ljava/util/Collection;)Ljava/util/List;"⟩ : MethodName) = true := plainFor_of_name (by first | (simp [plainName, overriddenIn]; done) | decide +kernel)
set_option maxRecDepth 65536 in
set_option maxHeartbeats 40000000 in
theorem own_lcopy_0 (l : Launch) (Z : State) (a0 : Array Value) (hw : ∀ d ∈ tables_1, d.before a0 Z = true) (a : Addr) (de : Addr) (kd : ClassId) (el : Addr) (ea : Addr) (ke : ClassId) (em : Addr) (mr : Addr) (h0 : Heap) (n0 : Nat) (hs0 : n0 ≤ h0.size) (OL : Old Z n0 h0) (z_de : Sta Z Z.heap "java/util/ArrayList" "DEFAULTCAPACITY_EMPTY_ELEMENTDATA" "[Ljava/lang/Object;" (.ref de)) (z_dA : own_A Z Z.heap de kd (.object "java/lang/Object") []) (z_el : Sta Z Z.heap "java/util/ImmutableCollections" "EMPTY_LIST" "Ljava/util/ImmutableCollections$ListN;" (.ref el)) (z_eE : Exa Z Z.heap el "java/util/ImmutableCollections$ListN") (z_eF : Fld Z Z.heap el "java/util/ImmutableCollections$ListN" "elements" "[Ljava/lang/Object;" (.ref ea)) (z_eA : own_A Z Z.heap ea ke (.object "java/lang/Object") []) (z_em : Sta Z Z.heap "java/util/ImmutableCollections" "EMPTY" "Ljava/lang/Object;" (.ref em)) (z_mE : Exa Z Z.heap em "java/lang/Object") (hmr : own_Mir Z "[Ljava/lang/Object;" mr) (Fs : Fld Z h0 a "java/util/ArrayList" "size" "I" (.int 0)) (Ea : Exa Z h0 a "java/util/ArrayList") :
    own_Met l (⟨"java/util/ImmutableCollections", "listCopy", "(Ljava/util/Collection;)Ljava/util/List;"⟩ : MethodName) jdk_56_method_3_code 2 (some (.object "java/util/List")) ({ frames := 1, cells := 0, slots := 0, locals := 12 } : Room) Z #[(.ref a)] h0 n0 (fun v h' => Keep h0 h' [] ∧ ∃ b, v = some (.ref b) ∧ Exa Z h' b "java/util/ImmutableCollections$ListN" ∧ b = el) := by
  refine own_met (Ls := #[.val (.ref a), .unset]) own_pn15 hs0 (fun m => by first | (simp [entryFrame, mkF, argsToLocals, Value.category]; done) | rfl) ?_
  intro p e s m below meth c T X
  have K0 := Keep.refl h0 []
  have hi_de : n0 > de := (OL.1 ▸ z_dA.lt)
  have hi_el : n0 > el := (OL.1 ▸ z_eE.lt)
  have hi_ea : n0 > ea := (OL.1 ▸ z_eA.lt)
  have hi_em : n0 > em := (OL.1 ▸ z_mE.lt)
  have hi_a : h0.size > a := Fs.lt
  refine own_aloadN X 1 (.ref a) own_d15_0 rfl rfl rfl ?_
  refine own_instNo X 4 own_d15_1 rfl (hw _ (List.mem_of_getElem? (i := 96) rfl)) Ea (own_NS_no (hw _ (List.mem_of_getElem? (i := 97) rfl)) (hw _ (List.mem_of_getElem? (i := 199) rfl)) (NS.step (hw _ (List.mem_of_getElem? (i := 97) rfl)) (NS.step (hw _ (List.mem_of_getElem? (i := 98) rfl)) (NS.step (hw _ (List.mem_of_getElem? (i := 99) rfl)) (own_NS_root (hw _ (List.mem_of_getElem? (i := 100) rfl)) (hw _ (List.mem_of_getElem? (i := 199) rfl)) (by decide)) (by decide)) (by decide)) (by decide)) (by decide)) ?_
  intro T X
  refine own_ifN X 7 own_d15_4 rfl (XT.i0_ne_f (by decide)) ?_
  refine own_aloadN X 8 (.ref a) own_d15_7 rfl rfl rfl ?_
  refine own_instNo X 11 own_d15_8 rfl (hw _ (List.mem_of_getElem? (i := 101) rfl)) Ea (own_NS_no (hw _ (List.mem_of_getElem? (i := 97) rfl)) (hw _ (List.mem_of_getElem? (i := 152) rfl)) (NS.step (hw _ (List.mem_of_getElem? (i := 97) rfl)) (NS.step (hw _ (List.mem_of_getElem? (i := 98) rfl)) (NS.step (hw _ (List.mem_of_getElem? (i := 99) rfl)) (own_NS_root (hw _ (List.mem_of_getElem? (i := 100) rfl)) (hw _ (List.mem_of_getElem? (i := 152) rfl)) (by decide)) (by decide)) (by decide)) (by decide)) (by decide)) ?_
  intro T X
  refine own_ifY X 31 own_d15_11 (by decide) (by decide) (XT.i0_eq_t rfl) ?_
  refine own_aloadN X 32 (.ref a) own_d15_31 rfl rfl rfl ?_
  refine own_callI X 37 [] [] own_d15_32 rfl (hw _ (List.mem_of_getElem? (i := 102) rfl)) (hw _ (List.mem_of_getElem? (i := 103) rfl)) (hw _ (List.mem_of_getElem? (i := 104) rfl)) (by first | rfl | decide) (hw _ (List.mem_of_getElem? (i := 105) rfl)) (hw _ (List.mem_of_getElem? (i := 106) rfl)) (hw _ (List.mem_of_getElem? (i := 107) rfl)) (hw _ (List.mem_of_getElem? (i := 108) rfl)) (hw _ (List.mem_of_getElem? (i := 109) rfl)) (hw _ (List.mem_of_getElem? (i := 24) rfl)) (hw _ (List.mem_of_getElem? (i := 110) rfl)) (by decide) Ea (own_isEmpty l Z a0 hw a 0 h0 n0 X.sz Fs) (fun _ _ q => Nat.le_of_eq (congrArg Array.size q.1.symm)) rfl own_pd12 rfl rfl rfl (by decide) (Nat.le_of_ble_eq_true rfl) (by decide) (by decide) ?_
  rintro v32 T h_ X ⟨eh_, rfl⟩
  rw [eh_] at X
  show own_Ends p e below _ (T.setTop (mkF m 37 #[.val (.ref a), .unset] [(.int (own_emp 0))]))
  rw [show own_emp 0 = (1 : Int32) from by decide]
  refine own_ifN X 40 own_d15_37 rfl (XT.i0_eq_f (by decide)) ?_
  refine own_callS X 43 [] [] own_d15_40 rfl (hw _ (List.mem_of_getElem? (i := 194) rfl)) (hw _ (List.mem_of_getElem? (i := 195) rfl)) (hw _ (List.mem_of_getElem? (i := 90) rfl)) (hw _ (List.mem_of_getElem? (i := 196) rfl)) (by decide) (own_listof0 l Z a0 hw de kd el ea ke em mr h0 n0 X.sz OL z_de z_dA z_el z_eE z_eF z_eA z_em z_mE hmr) (fun _ _ q => q.1.1) rfl own_pd13 rfl rfl rfl (by decide) (Nat.le_of_ble_eq_true rfl) (by decide) (by decide) ?_
  rintro v40 T h2 X ⟨K_, L1, rfl, -, hel_L1⟩
  have zs_h2 : h0.size ≤ h2.size := K_.1
  have OL := OL.keep K_ all0
  have K0 := K0.trans K_ all0
  have Fs := Fs.keep K_ nin0
  have Ea := Ea.keep K_
  rw [hel_L1]
  show own_Ends p e below _ (T.setTop (mkF m 43 #[.val (.ref a), .unset] [(.ref el)]))
  exact own_retA X (.object "java/util/List") own_d15_43 rfl rfl rfl rfl (by decide) (by decide) (⟨K0, el, rfl, (Exa.ext OL.2 z_eE), rfl⟩)
theorem own_d14_0 : decode jdk_40_method_48_code 0 = .ok (.aload_n 0, 1) := by decide +kernel
theorem own_d14_1 : decode jdk_40_method_48_code 1 = .ok (.invokestatic 112, 3) := by decide +kernel
theorem own_pd14 : parseMethodDescriptor "(Ljava/util/Collection;)Ljava/util/List;" = some ⟨[(.object "java/util/Collection")], some (.object "java/util/List")⟩ := by decide +kernel
theorem own_d14_4 : decode jdk_40_method_48_code 4 = .ok (.areturn, 1) := by decide +kernel
theorem own_pn14 : plainFor (⟨"java/util/List", "copyOf", "(Ljava/util/Collection;)Ljava/util/List;"⟩ : MethodName) = true := plainFor_of_name (by first | (simp [plainName, overriddenIn]; done) | decide +kernel)
set_option maxRecDepth 65536 in
set_option maxHeartbeats 40000000 in
theorem own_copyOf_0 (l : Launch) (Z : State) (a0 : Array Value) (hw : ∀ d ∈ tables_1, d.before a0 Z = true) (a : Addr) (de : Addr) (kd : ClassId) (el : Addr) (ea : Addr) (ke : ClassId) (em : Addr) (mr : Addr) (h0 : Heap) (n0 : Nat) (hs0 : n0 ≤ h0.size) (OL : Old Z n0 h0) (z_de : Sta Z Z.heap "java/util/ArrayList" "DEFAULTCAPACITY_EMPTY_ELEMENTDATA" "[Ljava/lang/Object;" (.ref de)) (z_dA : own_A Z Z.heap de kd (.object "java/lang/Object") []) (z_el : Sta Z Z.heap "java/util/ImmutableCollections" "EMPTY_LIST" "Ljava/util/ImmutableCollections$ListN;" (.ref el)) (z_eE : Exa Z Z.heap el "java/util/ImmutableCollections$ListN") (z_eF : Fld Z Z.heap el "java/util/ImmutableCollections$ListN" "elements" "[Ljava/lang/Object;" (.ref ea)) (z_eA : own_A Z Z.heap ea ke (.object "java/lang/Object") []) (z_em : Sta Z Z.heap "java/util/ImmutableCollections" "EMPTY" "Ljava/lang/Object;" (.ref em)) (z_mE : Exa Z Z.heap em "java/lang/Object") (hmr : own_Mir Z "[Ljava/lang/Object;" mr) (Fs : Fld Z h0 a "java/util/ArrayList" "size" "I" (.int 0)) (Ea : Exa Z h0 a "java/util/ArrayList") :
    own_Met l (⟨"java/util/List", "copyOf", "(Ljava/util/Collection;)Ljava/util/List;"⟩ : MethodName) jdk_40_method_48_code 1 (some (.object "java/util/List")) ({ frames := 2, cells := 0, slots := 0, locals := 25 } : Room) Z #[(.ref a)] h0 n0 (fun v h' => Keep h0 h' [] ∧ ∃ b, v = some (.ref b) ∧ Exa Z h' b "java/util/ImmutableCollections$ListN" ∧ b = el) := by
  refine own_met (Ls := #[.val (.ref a)]) own_pn14 hs0 (fun m => by first | (simp [entryFrame, mkF, argsToLocals, Value.category]; done) | rfl) ?_
  intro p e s m below meth c T X
  have K0 := Keep.refl h0 []
  have hi_de : n0 > de := (OL.1 ▸ z_dA.lt)
  have hi_el : n0 > el := (OL.1 ▸ z_eE.lt)
  have hi_ea : n0 > ea := (OL.1 ▸ z_eA.lt)
  have hi_em : n0 > em := (OL.1 ▸ z_mE.lt)
  have hi_a : h0.size > a := Fs.lt
  refine own_aloadN X 1 (.ref a) own_d14_0 rfl rfl rfl ?_
  refine own_callS X 4 [(.ref a)] [] own_d14_1 rfl (hw _ (List.mem_of_getElem? (i := 92) rfl)) (hw _ (List.mem_of_getElem? (i := 93) rfl)) (hw _ (List.mem_of_getElem? (i := 94) rfl)) (hw _ (List.mem_of_getElem? (i := 95) rfl)) (by decide) (own_lcopy_0 l Z a0 hw a de kd el ea ke em mr h0 n0 X.sz OL z_de z_dA z_el z_eE z_eF z_eA z_em z_mE hmr Fs Ea) (fun _ _ q => q.1.1) rfl own_pd14 rfl rfl rfl (by decide) (Nat.le_of_ble_eq_true rfl) (by decide) (by decide) ?_
  rintro v1 T h2 X ⟨K_, L1, rfl, -, hel_L1⟩
  have zs_h2 : h0.size ≤ h2.size := K_.1
  have OL := OL.keep K_ all0
  have K0 := K0.trans K_ all0
  have Fs := Fs.keep K_ nin0
  have Ea := Ea.keep K_
  rw [hel_L1]
  show own_Ends p e below _ (T.setTop (mkF m 4 #[.val (.ref a)] [(.ref el)]))
  exact own_retA X (.object "java/util/List") own_d14_4 rfl rfl rfl rfl (by decide) (by decide) (⟨K0, el, rfl, (Exa.ext OL.2 z_eE), rfl⟩)
theorem own_d13_0 : decode prog_10_method_1_code 0 = .ok (.aload_n 0, 1) := by decide +kernel
theorem own_d13_1 : decode prog_10_method_1_code 1 = .ok (.invokespecial 1, 3) := by decide +kernel
theorem own_d13_4 : decode prog_10_method_1_code 4 = .ok (.aload_n 2, 1) := by decide +kernel
theorem own_d13_5 : decode prog_10_method_1_code 5 = .ok (.invokestatic 7, 3) := by decide +kernel
theorem own_d13_8 : decode prog_10_method_1_code 8 = .ok (.astore_n 2, 1) := by decide +kernel
theorem own_d13_9 : decode prog_10_method_1_code 9 = .ok (.aload_n 0, 1) := by decide +kernel
theorem own_d13_10 : decode prog_10_method_1_code 10 = .ok (.iload_n 1, 1) := by decide +kernel
theorem own_d13_11 : decode prog_10_method_1_code 11 = .ok (.putfield 13, 3) := by decide +kernel
theorem own_d13_14 : decode prog_10_method_1_code 14 = .ok (.aload_n 0, 1) := by decide +kernel
theorem own_d13_15 : decode prog_10_method_1_code 15 = .ok (.aload_n 2, 1) := by decide +kernel
theorem own_d13_16 : decode prog_10_method_1_code 16 = .ok (.putfield 19, 3) := by decide +kernel
theorem own_d13_19 : decode prog_10_method_1_code 19 = .ok (.return_, 1) := by decide +kernel
theorem own_pn13 : plainFor (⟨"com/example/rosettine/rosettine/model/ConversionReport", "<init>", "(ILjava/util/List;)V"⟩ : MethodName) = true := plainFor_of_name (by first | (simp [plainName, overriddenIn]; done) | decide +kernel)
set_option maxRecDepth 65536 in
set_option maxHeartbeats 40000000 in
theorem own_crini_0 (l : Launch) (Z : State) (a0 : Array Value) (hw : ∀ d ∈ tables_1, d.before a0 Z = true) (r : Addr) (cv : Int32) (a : Addr) (de : Addr) (kd : ClassId) (el : Addr) (ea : Addr) (ke : ClassId) (em : Addr) (mr : Addr) (h0 : Heap) (n0 : Nat) (hs0 : n0 ≤ h0.size) (OL : Old Z n0 h0) (z_de : Sta Z Z.heap "java/util/ArrayList" "DEFAULTCAPACITY_EMPTY_ELEMENTDATA" "[Ljava/lang/Object;" (.ref de)) (z_dA : own_A Z Z.heap de kd (.object "java/lang/Object") []) (z_el : Sta Z Z.heap "java/util/ImmutableCollections" "EMPTY_LIST" "Ljava/util/ImmutableCollections$ListN;" (.ref el)) (z_eE : Exa Z Z.heap el "java/util/ImmutableCollections$ListN") (z_eF : Fld Z Z.heap el "java/util/ImmutableCollections$ListN" "elements" "[Ljava/lang/Object;" (.ref ea)) (z_eA : own_A Z Z.heap ea ke (.object "java/lang/Object") []) (z_em : Sta Z Z.heap "java/util/ImmutableCollections" "EMPTY" "Ljava/lang/Object;" (.ref em)) (z_mE : Exa Z Z.heap em "java/lang/Object") (hmr : own_Mir Z "[Ljava/lang/Object;" mr) (Fs : Fld Z h0 a "java/util/ArrayList" "size" "I" (.int 0)) (Ea : Exa Z h0 a "java/util/ArrayList") (F0 : Fld Z h0 r "com/example/rosettine/rosettine/model/ConversionReport" "converted" "I" (.int 0)) (F1 : Fld Z h0 r "com/example/rosettine/rosettine/model/ConversionReport" "notConverted" "Ljava/util/List;" .null) (Er : Exa Z h0 r "com/example/rosettine/rosettine/model/ConversionReport") (gr : n0 ≤ r) (nra : @Ne Nat r a) :
    own_Met l (⟨"com/example/rosettine/rosettine/model/ConversionReport", "<init>", "(ILjava/util/List;)V"⟩ : MethodName) prog_10_method_1_code 3 none ({ frames := 3, cells := 0, slots := 0, locals := 37 } : Room) Z #[(.ref r), (.int cv), (.ref a)] h0 n0 (fun v h' => Keep h0 h' [r] ∧ v = none ∧ Fld Z h' r "com/example/rosettine/rosettine/model/ConversionReport" "converted" "I" (.int cv) ∧ ∃ b, Fld Z h' r "com/example/rosettine/rosettine/model/ConversionReport" "notConverted" "Ljava/util/List;" (.ref b) ∧ Exa Z h' b "java/util/ImmutableCollections$ListN" ∧ b = el) := by
  refine own_met (Ls := #[.val (.ref r), .val (.int cv), .val (.ref a)]) own_pn13 hs0 (fun m => by first | (simp [entryFrame, mkF, argsToLocals, Value.category]; done) | rfl) ?_
  intro p e s m below meth c T X
  have K0 := Keep.refl h0 [r]
  have hi_de : n0 > de := (OL.1 ▸ z_dA.lt)
  have hi_el : n0 > el := (OL.1 ▸ z_eE.lt)
  have hi_ea : n0 > ea := (OL.1 ▸ z_eA.lt)
  have hi_em : n0 > em := (OL.1 ▸ z_mE.lt)
  have hi_a : h0.size > a := Fs.lt
  have hi_r : h0.size > r := F0.lt
  refine own_aloadN X 1 (.ref r) own_d13_0 rfl rfl rfl ?_
  refine own_init X 4 [] [] own_d13_1 rfl (hw _ (List.mem_of_getElem? (i := 87) rfl)) (hw _ (List.mem_of_getElem? (i := 7) rfl)) (hw _ (List.mem_of_getElem? (i := 9) rfl)) (hw _ (List.mem_of_getElem? (i := 10) rfl)) (by decide) rfl (own_rec l Z a0 hw r h0 n0 X.sz) (fun _ _ q => Nat.le_of_eq (congrArg Array.size q.1.symm)) rfl own_pd0 rfl rfl rfl (by decide) (Nat.le_of_ble_eq_true rfl) (by decide) (by decide) ?_
  rintro v1 T h_ X ⟨eh_, rfl⟩
  rw [eh_] at X
  show own_Ends p e below _ (T.setTop (mkF m 4 #[.val (.ref r), .val (.int cv), .val (.ref a)] []))
  refine own_aloadN X 5 (.ref a) own_d13_4 rfl rfl rfl ?_
  refine own_callS X 8 [(.ref a)] [] own_d13_5 rfl (hw _ (List.mem_of_getElem? (i := 88) rfl)) (hw _ (List.mem_of_getElem? (i := 89) rfl)) (hw _ (List.mem_of_getElem? (i := 90) rfl)) (hw _ (List.mem_of_getElem? (i := 91) rfl)) (by decide) (own_copyOf_0 l Z a0 hw a de kd el ea ke em mr h0 n0 X.sz OL z_de z_dA z_el z_eE z_eF z_eA z_em z_mE hmr Fs Ea) (fun _ _ q => q.1.1) rfl own_pd14 rfl rfl rfl (by decide) (Nat.le_of_ble_eq_true rfl) (by decide) (by decide) ?_
  rintro v5 T h2 X ⟨K_, L1, rfl, -, hel_L1⟩
  have zs_h2 : h0.size ≤ h2.size := K_.1
  have OL := OL.keep K_ all0
  have K0 := K0.trans K_ all0
  have Fs := Fs.keep K_ nin0
  have Ea := Ea.keep K_
  have F0 := F0.keep K_ nin0
  have F1 := F1.keep K_ nin0
  have Er := Er.keep K_
  rw [hel_L1]
  show own_Ends p e below _ (T.setTop (mkF m 8 #[.val (.ref r), .val (.int cv), .val (.ref a)] [(.ref el)]))
  refine own_astoreN X 9 #[.val (.ref r), .val (.int cv), .val (.ref el)] own_d13_8 rfl rfl rfl ?_
  refine own_aloadN X 10 (.ref r) own_d13_9 rfl rfl rfl ?_
  refine own_iloadN X 11 cv own_d13_10 rfl rfl ?_
  refine own_putF X 14 .int own_d13_11 rfl (hw _ (List.mem_of_getElem? (i := 176) rfl)) Via.refl F0 Er (Or.inr ⟨(hw _ (List.mem_of_getElem? (i := 177) rfl)), rfl, rfl⟩) (hw _ (List.mem_of_getElem? (i := 82) rfl)) (by decide) rfl rfl (by omega) ?_
  intro T h3 X W_h3
  have nw_h3 := Fld.same W_h3 F0
  have zs_h3 : h2.size ≤ h3.size := (Nat.le_of_eq W_h3.size.symm)
  have OL := OL.wr W_h3 (by omega)
  have K0 := K0.wr W_h3 (Or.inl (by simp))
  have Fs := Fld.other W_h3 Fs (Or.inl (by show @Ne Nat _ _; omega))
  have Ea := Exa.wr W_h3 Ea
  have F1 := Fld.other W_h3 F1 (Or.inr (slot_ne (Or.inr (hw _ (List.mem_of_getElem? (i := 179) rfl))) (Or.inr (hw _ (List.mem_of_getElem? (i := 177) rfl))) (by decide) (t := (.object "java/util/List")) (t' := .int) (by decide) (by decide)))
  have Er := Exa.wr W_h3 Er
  have F0 := nw_h3
  refine own_aloadN X 15 (.ref r) own_d13_14 rfl rfl rfl ?_
  refine own_aloadN X 16 (.ref el) own_d13_15 rfl rfl rfl ?_
  refine own_putF X 19 (.object "java/util/List") own_d13_16 rfl (hw _ (List.mem_of_getElem? (i := 178) rfl)) Via.refl F1 Er (Or.inr ⟨(hw _ (List.mem_of_getElem? (i := 179) rfl)), rfl, rfl⟩) (hw _ (List.mem_of_getElem? (i := 82) rfl)) (by decide) rfl rfl (by omega) ?_
  intro T h4 X W_h4
  have nw_h4 := Fld.same W_h4 F1
  have zs_h4 : h3.size ≤ h4.size := (Nat.le_of_eq W_h4.size.symm)
  have OL := OL.wr W_h4 (by omega)
  have K0 := K0.wr W_h4 (Or.inl (by simp))
  have Fs := Fld.other W_h4 Fs (Or.inl (by show @Ne Nat _ _; omega))
  have Ea := Exa.wr W_h4 Ea
  have Er := Exa.wr W_h4 Er
  have F0 := Fld.other W_h4 F0 (Or.inr (slot_ne (Or.inr (hw _ (List.mem_of_getElem? (i := 177) rfl))) (Or.inr (hw _ (List.mem_of_getElem? (i := 179) rfl))) (by decide) (t := .int) (t' := (.object "java/util/List")) (by decide) (by decide)))
  have F1 := nw_h4
  exact own_retV X own_d13_19 rfl (by decide) (by decide) (⟨K0, rfl, F0, el, F1, (Exa.ext OL.2 z_eE), rfl⟩)
theorem own_d28_0 : decode jdk_45_method_3_code 0 = .ok (.aload_n 0, 1) := by decide +kernel
theorem own_d28_1 : decode jdk_45_method_3_code 1 = .ok (.getfield 7, 3) := by decide +kernel
theorem own_d28_4 : decode jdk_45_method_3_code 4 = .ok (.arraylength, 1) := by decide +kernel
theorem own_d28_5 : decode jdk_45_method_3_code 5 = .ok (.ireturn, 1) := by decide +kernel
theorem own_pn28 : plainFor (⟨"java/util/ImmutableCollections$ListN", "size", "()I"⟩ : MethodName) = true := plainFor_of_name (by first | (simp [plainName, overriddenIn]; done) | decide +kernel)
set_option maxRecDepth 65536 in
set_option maxHeartbeats 40000000 in
theorem own_lsize_0 (l : Launch) (Z : State) (a0 : Array Value) (hw : ∀ d ∈ tables_1, d.before a0 Z = true) (b : Addr) (em : Addr) (ei : Addr) (cc : Addr) (kc : ClassId) (el : Addr) (ea : Addr) (ke : ClassId) (h0 : Heap) (n0 : Nat) (hs0 : n0 ≤ h0.size) (OL : Old Z n0 h0) (z_el : Sta Z Z.heap "java/util/ImmutableCollections" "EMPTY_LIST" "Ljava/util/ImmutableCollections$ListN;" (.ref el)) (z_eE : Exa Z Z.heap el "java/util/ImmutableCollections$ListN") (z_eF : Fld Z Z.heap el "java/util/ImmutableCollections$ListN" "elements" "[Ljava/lang/Object;" (.ref ea)) (z_eA : own_A Z Z.heap ea ke (.object "java/lang/Object") []) (hb : b = el) :
    own_Met l (⟨"java/util/ImmutableCollections$ListN", "size", "()I"⟩ : MethodName) jdk_45_method_3_code 1 (some .int) ({ frames := 0, cells := 0, slots := 0, locals := 0 } : Room) Z #[(.ref b)] h0 n0 (fun v h' => h' = h0 ∧ v = some (.int 0)) := by
  refine own_met (Ls := #[.val (.ref b)]) own_pn28 hs0 (fun m => by first | (simp [entryFrame, mkF, argsToLocals, Value.category]; done) | rfl) ?_
  intro p e s m below meth c T X
  have hi_el : n0 > el := (OL.1 ▸ z_eE.lt)
  have hi_ea : n0 > ea := (OL.1 ▸ z_eA.lt)
  subst hb
  refine own_aloadN X 1 (.ref b) own_d28_0 rfl rfl rfl ?_
  refine own_getF X 4 own_d28_1 rfl (hw _ (List.mem_of_getElem? (i := 172) rfl)) Via.refl (Fld.ext OL.2 z_eF) ?_
  intro T X
  refine own_len X 5 (0 : Int32) own_d28_4 rfl (own_A.ext z_eA OL.2) rfl ?_
  exact own_retI X own_d28_5 rfl (by decide) (by decide) (⟨rfl, rfl⟩)
theorem own_d27_0 : decode prog_10_method_2_code 0 = .ok (.aload_n 0, 1) := by decide +kernel
theorem own_d27_1 : decode prog_10_method_2_code 1 = .ok (.getfield 13, 3) := by decide +kernel
theorem own_d27_4 : decode prog_10_method_2_code 4 = .ok (.aload_n 0, 1) := by decide +kernel
theorem own_d27_5 : decode prog_10_method_2_code 5 = .ok (.getfield 19, 3) := by decide +kernel
theorem own_d27_8 : decode prog_10_method_2_code 8 = .ok (.invokeinterface 23 1, 5) := by decide +kernel
theorem own_pd15 : parseMethodDescriptor "()I" = some ⟨[], some .int⟩ := by decide +kernel
theorem own_d27_13 : decode prog_10_method_2_code 13 = .ok (.iadd, 1) := by decide +kernel
theorem own_d27_14 : decode prog_10_method_2_code 14 = .ok (.ireturn, 1) := by decide +kernel
theorem own_pn27 : plainFor (⟨"com/example/rosettine/rosettine/model/ConversionReport", "entries", "()I"⟩ : MethodName) = true := plainFor_of_name (by first | (simp [plainName, overriddenIn]; done) | decide +kernel)
set_option maxRecDepth 65536 in
set_option maxHeartbeats 40000000 in
theorem own_entries_0 (l : Launch) (Z : State) (a0 : Array Value) (hw : ∀ d ∈ tables_1, d.before a0 Z = true) (r : Addr) (cv : Int32) (b : Addr) (em : Addr) (ei : Addr) (cc : Addr) (kc : ClassId) (el : Addr) (ea : Addr) (ke : ClassId) (h0 : Heap) (n0 : Nat) (hs0 : n0 ≤ h0.size) (Fc : Fld Z h0 r "com/example/rosettine/rosettine/model/ConversionReport" "converted" "I" (.int cv)) (Fn : Fld Z h0 r "com/example/rosettine/rosettine/model/ConversionReport" "notConverted" "Ljava/util/List;" (.ref b)) (OL : Old Z n0 h0) (z_el : Sta Z Z.heap "java/util/ImmutableCollections" "EMPTY_LIST" "Ljava/util/ImmutableCollections$ListN;" (.ref el)) (z_eE : Exa Z Z.heap el "java/util/ImmutableCollections$ListN") (z_eF : Fld Z Z.heap el "java/util/ImmutableCollections$ListN" "elements" "[Ljava/lang/Object;" (.ref ea)) (z_eA : own_A Z Z.heap ea ke (.object "java/lang/Object") []) (hb : b = el) :
    own_Met l (⟨"com/example/rosettine/rosettine/model/ConversionReport", "entries", "()I"⟩ : MethodName) prog_10_method_2_code 1 (some .int) ({ frames := 1, cells := 0, slots := 0, locals := 13 } : Room) Z #[(.ref r)] h0 n0 (fun v h' => h' = h0 ∧ v = some (.int (cv + 0))) := by
  refine own_met (Ls := #[.val (.ref r)]) own_pn27 hs0 (fun m => by first | (simp [entryFrame, mkF, argsToLocals, Value.category]; done) | rfl) ?_
  intro p e s m below meth c T X
  have hi_el : n0 > el := (OL.1 ▸ z_eE.lt)
  have hi_ea : n0 > ea := (OL.1 ▸ z_eA.lt)
  have hi_r : h0.size > r := Fc.lt
  subst hb
  refine own_aloadN X 1 (.ref r) own_d27_0 rfl rfl rfl ?_
  refine own_getF X 4 own_d27_1 rfl (hw _ (List.mem_of_getElem? (i := 176) rfl)) Via.refl Fc ?_
  intro T X
  refine own_aloadN X 5 (.ref r) own_d27_4 rfl rfl rfl ?_
  refine own_getF X 8 own_d27_5 rfl (hw _ (List.mem_of_getElem? (i := 178) rfl)) Via.refl Fn ?_
  intro T X
  refine own_callI X 13 [] [(.int cv)] own_d27_8 rfl (hw _ (List.mem_of_getElem? (i := 185) rfl)) (hw _ (List.mem_of_getElem? (i := 186) rfl)) (hw _ (List.mem_of_getElem? (i := 187) rfl)) (by first | rfl | decide) (hw _ (List.mem_of_getElem? (i := 188) rfl)) (hw _ (List.mem_of_getElem? (i := 189) rfl)) (hw _ (List.mem_of_getElem? (i := 190) rfl)) (hw _ (List.mem_of_getElem? (i := 191) rfl)) (hw _ (List.mem_of_getElem? (i := 192) rfl)) (hw _ (List.mem_of_getElem? (i := 153) rfl)) (hw _ (List.mem_of_getElem? (i := 193) rfl)) (by decide) (Exa.ext OL.2 z_eE) (own_lsize_0 l Z a0 hw b em ei cc kc b ea ke h0 n0 X.sz OL z_el z_eE z_eF z_eA rfl) (fun _ _ q => Nat.le_of_eq (congrArg Array.size q.1.symm)) rfl own_pd15 rfl rfl rfl (by decide) (Nat.le_of_ble_eq_true rfl) (by decide) (by decide) ?_
  rintro v8 T h_ X ⟨eh_, rfl⟩
  rw [eh_] at X
  show own_Ends p e below _ (T.setTop (mkF m 13 #[.val (.ref r)] [(.int 0), (.int cv)]))
  refine own_iadd X 14 own_d27_13 rfl ?_
  exact own_retI X own_d27_14 rfl (by decide) (by decide) (⟨rfl, rfl⟩)
theorem own_d15_44 : decode jdk_56_method_3_code 44 = .ok (.aload_n 0, 1) := by decide +kernel
theorem own_d15_45 : decode jdk_56_method_3_code 45 = .ok (.invokeinterface 30 1, 5) := by decide +kernel
theorem own_d15_50 : decode jdk_56_method_3_code 50 = .ok (.invokestatic 34, 3) := by decide +kernel
theorem own_d15_53 : decode jdk_56_method_3_code 53 = .ok (.areturn, 1) := by decide +kernel
set_option maxRecDepth 65536 in
set_option maxHeartbeats 40000000 in
theorem own_lcopy_1 (l : Launch) (Z : State) (a0 : Array Value) (hw : ∀ d ∈ tables_1, d.before a0 Z = true) (a : Addr) (de : Addr) (kd : ClassId) (el : Addr) (ea : Addr) (ke : ClassId) (em : Addr) (mr : Addr) (ei : Addr) (ka : ClassId) (b : Addr) (h0 : Heap) (n0 : Nat) (hs0 : n0 ≤ h0.size) (OL : Old Z n0 h0) (z_de : Sta Z Z.heap "java/util/ArrayList" "DEFAULTCAPACITY_EMPTY_ELEMENTDATA" "[Ljava/lang/Object;" (.ref de)) (z_dA : own_A Z Z.heap de kd (.object "java/lang/Object") []) (z_el : Sta Z Z.heap "java/util/ImmutableCollections" "EMPTY_LIST" "Ljava/util/ImmutableCollections$ListN;" (.ref el)) (z_eE : Exa Z Z.heap el "java/util/ImmutableCollections$ListN") (z_eF : Fld Z Z.heap el "java/util/ImmutableCollections$ListN" "elements" "[Ljava/lang/Object;" (.ref ea)) (z_eA : own_A Z Z.heap ea ke (.object "java/lang/Object") []) (z_em : Sta Z Z.heap "java/util/ImmutableCollections" "EMPTY" "Ljava/lang/Object;" (.ref em)) (z_mE : Exa Z Z.heap em "java/lang/Object") (hmr : own_Mir Z "[Ljava/lang/Object;" mr) (Fs : Fld Z h0 a "java/util/ArrayList" "size" "I" (.int (0 + 1))) (Ea : Exa Z h0 a "java/util/ArrayList") (Fe : Fld Z h0 a "java/util/ArrayList" "elementData" "[Ljava/lang/Object;" (.ref b)) (Ab : own_A Z h0 b ka (.object "java/lang/Object") [(.ref ei), .null, .null, .null, .null, .null, .null, .null, .null, .null]) (Eb : Exa Z h0 b "[Ljava/lang/Object;") (Ie : Ins Z h0 ei "java/lang/Object" true) (he : h0.size > ei) (he0 : n0 ≤ ei) :
    own_Met l (⟨"java/util/ImmutableCollections", "listCopy", "(Ljava/util/Collection;)Ljava/util/List;"⟩ : MethodName) jdk_56_method_3_code 2 (some (.object "java/util/List")) ({ frames := 6, cells := 2, slots := 3, locals := 75 } : Room) Z #[(.ref a)] h0 n0 (fun v h' => Keep h0 h' [] ∧ ∃ b, v = some (.ref b) ∧ h0.size ≤ b ∧ h'.size > b ∧ Exa Z h' b "java/util/ImmutableCollections$List12" ∧ Fld Z h' b "java/util/ImmutableCollections$List12" "e1" "Ljava/lang/Object;" (.ref em)) := by
  refine own_met (Ls := #[.val (.ref a), .unset]) own_pn15 hs0 (fun m => by first | (simp [entryFrame, mkF, argsToLocals, Value.category]; done) | rfl) ?_
  intro p e s m below meth c T X
  have K0 := Keep.refl h0 []
  have hi_de : n0 > de := (OL.1 ▸ z_dA.lt)
  have hi_el : n0 > el := (OL.1 ▸ z_eE.lt)
  have hi_ea : n0 > ea := (OL.1 ▸ z_eA.lt)
  have hi_em : n0 > em := (OL.1 ▸ z_mE.lt)
  have hi_a : h0.size > a := Fs.lt
  have hi_b : h0.size > b := Ab.lt
  refine own_aloadN X 1 (.ref a) own_d15_0 rfl rfl rfl ?_
  refine own_instNo X 4 own_d15_1 rfl (hw _ (List.mem_of_getElem? (i := 96) rfl)) Ea (own_NS_no (hw _ (List.mem_of_getElem? (i := 97) rfl)) (hw _ (List.mem_of_getElem? (i := 199) rfl)) (NS.step (hw _ (List.mem_of_getElem? (i := 97) rfl)) (NS.step (hw _ (List.mem_of_getElem? (i := 98) rfl)) (NS.step (hw _ (List.mem_of_getElem? (i := 99) rfl)) (own_NS_root (hw _ (List.mem_of_getElem? (i := 100) rfl)) (hw _ (List.mem_of_getElem? (i := 199) rfl)) (by decide)) (by decide)) (by decide)) (by decide)) (by decide)) ?_
  intro T X
  refine own_ifN X 7 own_d15_4 rfl (XT.i0_ne_f (by decide)) ?_
  refine own_aloadN X 8 (.ref a) own_d15_7 rfl rfl rfl ?_
  refine own_instNo X 11 own_d15_8 rfl (hw _ (List.mem_of_getElem? (i := 101) rfl)) Ea (own_NS_no (hw _ (List.mem_of_getElem? (i := 97) rfl)) (hw _ (List.mem_of_getElem? (i := 152) rfl)) (NS.step (hw _ (List.mem_of_getElem? (i := 97) rfl)) (NS.step (hw _ (List.mem_of_getElem? (i := 98) rfl)) (NS.step (hw _ (List.mem_of_getElem? (i := 99) rfl)) (own_NS_root (hw _ (List.mem_of_getElem? (i := 100) rfl)) (hw _ (List.mem_of_getElem? (i := 152) rfl)) (by decide)) (by decide)) (by decide)) (by decide)) (by decide)) ?_
  intro T X
  refine own_ifY X 31 own_d15_11 (by decide) (by decide) (XT.i0_eq_t rfl) ?_
  refine own_aloadN X 32 (.ref a) own_d15_31 rfl rfl rfl ?_
  refine own_callI X 37 [] [] own_d15_32 rfl (hw _ (List.mem_of_getElem? (i := 102) rfl)) (hw _ (List.mem_of_getElem? (i := 103) rfl)) (hw _ (List.mem_of_getElem? (i := 104) rfl)) (by first | rfl | decide) (hw _ (List.mem_of_getElem? (i := 105) rfl)) (hw _ (List.mem_of_getElem? (i := 106) rfl)) (hw _ (List.mem_of_getElem? (i := 107) rfl)) (hw _ (List.mem_of_getElem? (i := 108) rfl)) (hw _ (List.mem_of_getElem? (i := 109) rfl)) (hw _ (List.mem_of_getElem? (i := 24) rfl)) (hw _ (List.mem_of_getElem? (i := 110) rfl)) (by decide) Ea (own_isEmpty l Z a0 hw a (0 + 1) h0 n0 X.sz Fs) (fun _ _ q => Nat.le_of_eq (congrArg Array.size q.1.symm)) rfl own_pd12 rfl rfl rfl (by decide) (Nat.le_of_ble_eq_true rfl) (by decide) (by decide) ?_
  rintro v32 T h_ X ⟨eh_, rfl⟩
  rw [eh_] at X
  show own_Ends p e below _ (T.setTop (mkF m 37 #[.val (.ref a), .unset] [(.int (own_emp (0 + 1)))]))
  rw [show own_emp (0 + 1) = (0 : Int32) from by decide]
  refine own_ifY X 44 own_d15_37 (by decide) (by decide) (XT.i0_eq_t rfl) ?_
  refine own_aloadN X 45 (.ref a) own_d15_44 rfl rfl rfl ?_
  refine own_callI X 50 [] [] own_d15_45 rfl (hw _ (List.mem_of_getElem? (i := 111) rfl)) (hw _ (List.mem_of_getElem? (i := 112) rfl)) (hw _ (List.mem_of_getElem? (i := 113) rfl)) (by first | rfl | decide) (hw _ (List.mem_of_getElem? (i := 114) rfl)) (hw _ (List.mem_of_getElem? (i := 115) rfl)) (hw _ (List.mem_of_getElem? (i := 116) rfl)) (hw _ (List.mem_of_getElem? (i := 117) rfl)) (hw _ (List.mem_of_getElem? (i := 109) rfl)) (hw _ (List.mem_of_getElem? (i := 24) rfl)) (hw _ (List.mem_of_getElem? (i := 118) rfl)) (by decide) Ea (own_toArr_1 l Z a0 hw a ei ka mr b h0 n0 X.sz Fs Fe Ab Eb Ie (by omega) (by omega) hmr) (fun _ _ q => q.1.1) rfl own_pd3 rfl rfl rfl (by decide) (Nat.le_of_ble_eq_true rfl) (by decide) (by decide) ?_
  rintro v45 T h2 X ⟨K_, b1, kb_b1, rfl, lo_b1, hi_b1, A_b1⟩
  have zs_h2 : h0.size ≤ h2.size := K_.1
  have OL := OL.keep K_ all0
  have K0 := K0.trans K_ all0
  have Fs := Fs.keep K_ nin0
  have Ea := Ea.keep K_
  have Fe := Fe.keep K_ nin0
  have Ab := Ab.keep K_ nin0
  have Eb := Eb.keep K_
  have Ie := own_Ins_keep Ie K_
  show own_Ends p e below _ (T.setTop (mkF m 50 #[.val (.ref a), .unset] [(.ref b1)]))
  refine own_callS X 53 [(.ref b1)] [] own_d15_50 rfl (hw _ (List.mem_of_getElem? (i := 141) rfl)) (hw _ (List.mem_of_getElem? (i := 142) rfl)) (hw _ (List.mem_of_getElem? (i := 90) rfl)) (hw _ (List.mem_of_getElem? (i := 143) rfl)) (by decide) (own_listof_1 l Z a0 hw b1 ei kb_b1 em h2 n0 X.sz A_b1 Ie (by omega) (by omega) OL z_em) (fun _ _ q => q.1.1) rfl own_pd11 rfl rfl rfl (by decide) (Nat.le_of_ble_eq_true rfl) (by decide) (by decide) ?_
  rintro v50 T h4 X ⟨K_, L3, rfl, lo_L3, hi_L3, E_L3, F_e1_L3⟩
  have zs_h4 : h2.size ≤ h4.size := K_.1
  have OL := OL.keep K_ all0
  have K0 := K0.trans K_ all0
  have Fs := Fs.keep K_ nin0
  have Ea := Ea.keep K_
  have Fe := Fe.keep K_ nin0
  have Ab := Ab.keep K_ nin0
  have Eb := Eb.keep K_
  have Ie := own_Ins_keep Ie K_
  have A_b1 := A_b1.keep K_ nin0
  show own_Ends p e below _ (T.setTop (mkF m 53 #[.val (.ref a), .unset] [(.ref L3)]))
  exact own_retA X (.object "java/util/List") own_d15_53 rfl rfl rfl rfl (by decide) (by decide) (⟨K0, L3, rfl, by omega, E_L3.lt, E_L3, F_e1_L3⟩)
set_option maxRecDepth 65536 in
set_option maxHeartbeats 40000000 in
theorem own_copyOf_1 (l : Launch) (Z : State) (a0 : Array Value) (hw : ∀ d ∈ tables_1, d.before a0 Z = true) (a : Addr) (de : Addr) (kd : ClassId) (el : Addr) (ea : Addr) (ke : ClassId) (em : Addr) (mr : Addr) (ei : Addr) (ka : ClassId) (b : Addr) (h0 : Heap) (n0 : Nat) (hs0 : n0 ≤ h0.size) (OL : Old Z n0 h0) (z_de : Sta Z Z.heap "java/util/ArrayList" "DEFAULTCAPACITY_EMPTY_ELEMENTDATA" "[Ljava/lang/Object;" (.ref de)) (z_dA : own_A Z Z.heap de kd (.object "java/lang/Object") []) (z_el : Sta Z Z.heap "java/util/ImmutableCollections" "EMPTY_LIST" "Ljava/util/ImmutableCollections$ListN;" (.ref el)) (z_eE : Exa Z Z.heap el "java/util/ImmutableCollections$ListN") (z_eF : Fld Z Z.heap el "java/util/ImmutableCollections$ListN" "elements" "[Ljava/lang/Object;" (.ref ea)) (z_eA : own_A Z Z.heap ea ke (.object "java/lang/Object") []) (z_em : Sta Z Z.heap "java/util/ImmutableCollections" "EMPTY" "Ljava/lang/Object;" (.ref em)) (z_mE : Exa Z Z.heap em "java/lang/Object") (hmr : own_Mir Z "[Ljava/lang/Object;" mr) (Fs : Fld Z h0 a "java/util/ArrayList" "size" "I" (.int (0 + 1))) (Ea : Exa Z h0 a "java/util/ArrayList") (Fe : Fld Z h0 a "java/util/ArrayList" "elementData" "[Ljava/lang/Object;" (.ref b)) (Ab : own_A Z h0 b ka (.object "java/lang/Object") [(.ref ei), .null, .null, .null, .null, .null, .null, .null, .null, .null]) (Eb : Exa Z h0 b "[Ljava/lang/Object;") (Ie : Ins Z h0 ei "java/lang/Object" true) (he : h0.size > ei) (he0 : n0 ≤ ei) :
    own_Met l (⟨"java/util/List", "copyOf", "(Ljava/util/Collection;)Ljava/util/List;"⟩ : MethodName) jdk_40_method_48_code 1 (some (.object "java/util/List")) ({ frames := 7, cells := 2, slots := 3, locals := 88 } : Room) Z #[(.ref a)] h0 n0 (fun v h' => Keep h0 h' [] ∧ ∃ b, v = some (.ref b) ∧ h0.size ≤ b ∧ h'.size > b ∧ Exa Z h' b "java/util/ImmutableCollections$List12" ∧ Fld Z h' b "java/util/ImmutableCollections$List12" "e1" "Ljava/lang/Object;" (.ref em)) := by
  refine own_met (Ls := #[.val (.ref a)]) own_pn14 hs0 (fun m => by first | (simp [entryFrame, mkF, argsToLocals, Value.category]; done) | rfl) ?_
  intro p e s m below meth c T X
  have K0 := Keep.refl h0 []
  have hi_de : n0 > de := (OL.1 ▸ z_dA.lt)
  have hi_el : n0 > el := (OL.1 ▸ z_eE.lt)
  have hi_ea : n0 > ea := (OL.1 ▸ z_eA.lt)
  have hi_em : n0 > em := (OL.1 ▸ z_mE.lt)
  have hi_a : h0.size > a := Fs.lt
  have hi_b : h0.size > b := Ab.lt
  refine own_aloadN X 1 (.ref a) own_d14_0 rfl rfl rfl ?_
  refine own_callS X 4 [(.ref a)] [] own_d14_1 rfl (hw _ (List.mem_of_getElem? (i := 92) rfl)) (hw _ (List.mem_of_getElem? (i := 93) rfl)) (hw _ (List.mem_of_getElem? (i := 94) rfl)) (hw _ (List.mem_of_getElem? (i := 95) rfl)) (by decide) (own_lcopy_1 l Z a0 hw a de kd el ea ke em mr ei ka b h0 n0 X.sz OL z_de z_dA z_el z_eE z_eF z_eA z_em z_mE hmr Fs Ea Fe Ab Eb Ie (by omega) (by omega)) (fun _ _ q => q.1.1) rfl own_pd14 rfl rfl rfl (by decide) (Nat.le_of_ble_eq_true rfl) (by decide) (by decide) ?_
  rintro v1 T h2 X ⟨K_, L1, rfl, lo_L1, hi_L1, E_L1, F_e1_L1⟩
  have zs_h2 : h0.size ≤ h2.size := K_.1
  have OL := OL.keep K_ all0
  have K0 := K0.trans K_ all0
  have Fs := Fs.keep K_ nin0
  have Ea := Ea.keep K_
  have Fe := Fe.keep K_ nin0
  have Ab := Ab.keep K_ nin0
  have Eb := Eb.keep K_
  have Ie := own_Ins_keep Ie K_
  show own_Ends p e below _ (T.setTop (mkF m 4 #[.val (.ref a)] [(.ref L1)]))
  exact own_retA X (.object "java/util/List") own_d14_4 rfl rfl rfl rfl (by decide) (by decide) (⟨K0, L1, rfl, by omega, E_L1.lt, E_L1, F_e1_L1⟩)
set_option maxRecDepth 65536 in
set_option maxHeartbeats 40000000 in
theorem own_crini_1 (l : Launch) (Z : State) (a0 : Array Value) (hw : ∀ d ∈ tables_1, d.before a0 Z = true) (r : Addr) (cv : Int32) (a : Addr) (de : Addr) (kd : ClassId) (el : Addr) (ea : Addr) (ke : ClassId) (em : Addr) (mr : Addr) (ei : Addr) (ka : ClassId) (b : Addr) (h0 : Heap) (n0 : Nat) (hs0 : n0 ≤ h0.size) (OL : Old Z n0 h0) (z_de : Sta Z Z.heap "java/util/ArrayList" "DEFAULTCAPACITY_EMPTY_ELEMENTDATA" "[Ljava/lang/Object;" (.ref de)) (z_dA : own_A Z Z.heap de kd (.object "java/lang/Object") []) (z_el : Sta Z Z.heap "java/util/ImmutableCollections" "EMPTY_LIST" "Ljava/util/ImmutableCollections$ListN;" (.ref el)) (z_eE : Exa Z Z.heap el "java/util/ImmutableCollections$ListN") (z_eF : Fld Z Z.heap el "java/util/ImmutableCollections$ListN" "elements" "[Ljava/lang/Object;" (.ref ea)) (z_eA : own_A Z Z.heap ea ke (.object "java/lang/Object") []) (z_em : Sta Z Z.heap "java/util/ImmutableCollections" "EMPTY" "Ljava/lang/Object;" (.ref em)) (z_mE : Exa Z Z.heap em "java/lang/Object") (hmr : own_Mir Z "[Ljava/lang/Object;" mr) (Fs : Fld Z h0 a "java/util/ArrayList" "size" "I" (.int (0 + 1))) (Ea : Exa Z h0 a "java/util/ArrayList") (Fe : Fld Z h0 a "java/util/ArrayList" "elementData" "[Ljava/lang/Object;" (.ref b)) (Ab : own_A Z h0 b ka (.object "java/lang/Object") [(.ref ei), .null, .null, .null, .null, .null, .null, .null, .null, .null]) (Eb : Exa Z h0 b "[Ljava/lang/Object;") (Ie : Ins Z h0 ei "java/lang/Object" true) (he : h0.size > ei) (he0 : n0 ≤ ei) (F0 : Fld Z h0 r "com/example/rosettine/rosettine/model/ConversionReport" "converted" "I" (.int 0)) (F1 : Fld Z h0 r "com/example/rosettine/rosettine/model/ConversionReport" "notConverted" "Ljava/util/List;" .null) (Er : Exa Z h0 r "com/example/rosettine/rosettine/model/ConversionReport") (gr : n0 ≤ r) (nra : @Ne Nat r a) (nrb : @Ne Nat r b) :
    own_Met l (⟨"com/example/rosettine/rosettine/model/ConversionReport", "<init>", "(ILjava/util/List;)V"⟩ : MethodName) prog_10_method_1_code 3 none ({ frames := 8, cells := 2, slots := 3, locals := 100 } : Room) Z #[(.ref r), (.int cv), (.ref a)] h0 n0 (fun v h' => Keep h0 h' [r] ∧ v = none ∧ Fld Z h' r "com/example/rosettine/rosettine/model/ConversionReport" "converted" "I" (.int cv) ∧ ∃ b, Fld Z h' r "com/example/rosettine/rosettine/model/ConversionReport" "notConverted" "Ljava/util/List;" (.ref b) ∧ h0.size ≤ b ∧ h'.size > b ∧ Exa Z h' b "java/util/ImmutableCollections$List12" ∧ Fld Z h' b "java/util/ImmutableCollections$List12" "e1" "Ljava/lang/Object;" (.ref em)) := by
  refine own_met (Ls := #[.val (.ref r), .val (.int cv), .val (.ref a)]) own_pn13 hs0 (fun m => by first | (simp [entryFrame, mkF, argsToLocals, Value.category]; done) | rfl) ?_
  intro p e s m below meth c T X
  have K0 := Keep.refl h0 [r]
  have hi_de : n0 > de := (OL.1 ▸ z_dA.lt)
  have hi_el : n0 > el := (OL.1 ▸ z_eE.lt)
  have hi_ea : n0 > ea := (OL.1 ▸ z_eA.lt)
  have hi_em : n0 > em := (OL.1 ▸ z_mE.lt)
  have hi_a : h0.size > a := Fs.lt
  have hi_b : h0.size > b := Ab.lt
  have hi_r : h0.size > r := F0.lt
  refine own_aloadN X 1 (.ref r) own_d13_0 rfl rfl rfl ?_
  refine own_init X 4 [] [] own_d13_1 rfl (hw _ (List.mem_of_getElem? (i := 87) rfl)) (hw _ (List.mem_of_getElem? (i := 7) rfl)) (hw _ (List.mem_of_getElem? (i := 9) rfl)) (hw _ (List.mem_of_getElem? (i := 10) rfl)) (by decide) rfl (own_rec l Z a0 hw r h0 n0 X.sz) (fun _ _ q => Nat.le_of_eq (congrArg Array.size q.1.symm)) rfl own_pd0 rfl rfl rfl (by decide) (Nat.le_of_ble_eq_true rfl) (by decide) (by decide) ?_
  rintro v1 T h_ X ⟨eh_, rfl⟩
  rw [eh_] at X
  show own_Ends p e below _ (T.setTop (mkF m 4 #[.val (.ref r), .val (.int cv), .val (.ref a)] []))
  refine own_aloadN X 5 (.ref a) own_d13_4 rfl rfl rfl ?_
  refine own_callS X 8 [(.ref a)] [] own_d13_5 rfl (hw _ (List.mem_of_getElem? (i := 88) rfl)) (hw _ (List.mem_of_getElem? (i := 89) rfl)) (hw _ (List.mem_of_getElem? (i := 90) rfl)) (hw _ (List.mem_of_getElem? (i := 91) rfl)) (by decide) (own_copyOf_1 l Z a0 hw a de kd el ea ke em mr ei ka b h0 n0 X.sz OL z_de z_dA z_el z_eE z_eF z_eA z_em z_mE hmr Fs Ea Fe Ab Eb Ie (by omega) (by omega)) (fun _ _ q => q.1.1) rfl own_pd14 rfl rfl rfl (by decide) (Nat.le_of_ble_eq_true rfl) (by decide) (by decide) ?_
  rintro v5 T h2 X ⟨K_, L1, rfl, lo_L1, hi_L1, E_L1, F_e1_L1⟩
  have zs_h2 : h0.size ≤ h2.size := K_.1
  have OL := OL.keep K_ all0
  have K0 := K0.trans K_ all0
  have Fs := Fs.keep K_ nin0
  have Ea := Ea.keep K_
  have Fe := Fe.keep K_ nin0
  have Ab := Ab.keep K_ nin0
  have Eb := Eb.keep K_
  have Ie := own_Ins_keep Ie K_
  have F0 := F0.keep K_ nin0
  have F1 := F1.keep K_ nin0
  have Er := Er.keep K_
  show own_Ends p e below _ (T.setTop (mkF m 8 #[.val (.ref r), .val (.int cv), .val (.ref a)] [(.ref L1)]))
  refine own_astoreN X 9 #[.val (.ref r), .val (.int cv), .val (.ref L1)] own_d13_8 rfl rfl rfl ?_
  refine own_aloadN X 10 (.ref r) own_d13_9 rfl rfl rfl ?_
  refine own_iloadN X 11 cv own_d13_10 rfl rfl ?_
  refine own_putF X 14 .int own_d13_11 rfl (hw _ (List.mem_of_getElem? (i := 176) rfl)) Via.refl F0 Er (Or.inr ⟨(hw _ (List.mem_of_getElem? (i := 177) rfl)), rfl, rfl⟩) (hw _ (List.mem_of_getElem? (i := 82) rfl)) (by decide) rfl rfl (by omega) ?_
  intro T h3 X W_h3
  have nw_h3 := Fld.same W_h3 F0
  have zs_h3 : h2.size ≤ h3.size := (Nat.le_of_eq W_h3.size.symm)
  have OL := OL.wr W_h3 (by omega)
  have K0 := K0.wr W_h3 (Or.inl (by simp))
  have Fs := Fld.other W_h3 Fs (Or.inl (by show @Ne Nat _ _; omega))
  have Ea := Exa.wr W_h3 Ea
  have Fe := Fld.other W_h3 Fe (Or.inl (by show @Ne Nat _ _; omega))
  have Ab := Ab.other W_h3 (by show @Ne Nat _ _; omega)
  have Eb := Exa.wr W_h3 Eb
  have Ie := Ins.wr W_h3 Ie
  have F1 := Fld.other W_h3 F1 (Or.inr (slot_ne (Or.inr (hw _ (List.mem_of_getElem? (i := 179) rfl))) (Or.inr (hw _ (List.mem_of_getElem? (i := 177) rfl))) (by decide) (t := (.object "java/util/List")) (t' := .int) (by decide) (by decide)))
  have Er := Exa.wr W_h3 Er
  have E_L1 := Exa.wr W_h3 E_L1
  have F_e1_L1 := Fld.other W_h3 F_e1_L1 (Or.inl (by show @Ne Nat _ _; omega))
  have F0 := nw_h3
  refine own_aloadN X 15 (.ref r) own_d13_14 rfl rfl rfl ?_
  refine own_aloadN X 16 (.ref L1) own_d13_15 rfl rfl rfl ?_
  refine own_putF X 19 (.object "java/util/List") own_d13_16 rfl (hw _ (List.mem_of_getElem? (i := 178) rfl)) Via.refl F1 Er (Or.inr ⟨(hw _ (List.mem_of_getElem? (i := 179) rfl)), rfl, rfl⟩) (hw _ (List.mem_of_getElem? (i := 82) rfl)) (by decide) rfl rfl (by omega) ?_
  intro T h4 X W_h4
  have nw_h4 := Fld.same W_h4 F1
  have zs_h4 : h3.size ≤ h4.size := (Nat.le_of_eq W_h4.size.symm)
  have OL := OL.wr W_h4 (by omega)
  have K0 := K0.wr W_h4 (Or.inl (by simp))
  have Fs := Fld.other W_h4 Fs (Or.inl (by show @Ne Nat _ _; omega))
  have Ea := Exa.wr W_h4 Ea
  have Fe := Fld.other W_h4 Fe (Or.inl (by show @Ne Nat _ _; omega))
  have Ab := Ab.other W_h4 (by show @Ne Nat _ _; omega)
  have Eb := Exa.wr W_h4 Eb
  have Ie := Ins.wr W_h4 Ie
  have Er := Exa.wr W_h4 Er
  have E_L1 := Exa.wr W_h4 E_L1
  have F_e1_L1 := Fld.other W_h4 F_e1_L1 (Or.inl (by show @Ne Nat _ _; omega))
  have F0 := Fld.other W_h4 F0 (Or.inr (slot_ne (Or.inr (hw _ (List.mem_of_getElem? (i := 177) rfl))) (Or.inr (hw _ (List.mem_of_getElem? (i := 179) rfl))) (by decide) (t := .int) (t' := (.object "java/util/List")) (by decide) (by decide)))
  have F1 := nw_h4
  exact own_retV X own_d13_19 rfl (by decide) (by decide) (⟨K0, rfl, F0, L1, F1, by omega, E_L1.lt, E_L1, F_e1_L1⟩)
theorem own_d31_0 : decode jdk_44_method_3_code 0 = .ok (.aload_n 0, 1) := by decide +kernel
theorem own_d31_1 : decode jdk_44_method_3_code 1 = .ok (.getfield 24, 3) := by decide +kernel
theorem own_d31_4 : decode jdk_44_method_3_code 4 = .ok (.getstatic 19, 3) := by decide +kernel
theorem own_d31_7 : decode jdk_44_method_3_code 7 = .ok (.if_acmp .eq 7, 3) := by decide +kernel
theorem own_d31_14 : decode jdk_44_method_3_code 14 = .ok (.iconst 1, 1) := by decide +kernel
theorem own_d31_15 : decode jdk_44_method_3_code 15 = .ok (.ireturn, 1) := by decide +kernel
theorem own_pn31 : plainFor (⟨"java/util/ImmutableCollections$List12", "size", "()I"⟩ : MethodName) = true := plainFor_of_name (by first | (simp [plainName, overriddenIn]; done) | decide +kernel)
set_option maxRecDepth 65536 in
set_option maxHeartbeats 40000000 in
theorem own_lsize_1 (l : Launch) (Z : State) (a0 : Array Value) (hw : ∀ d ∈ tables_1, d.before a0 Z = true) (b : Addr) (em : Addr) (ei : Addr) (cc : Addr) (kc : ClassId) (el : Addr) (ea : Addr) (ke : ClassId) (h0 : Heap) (n0 : Nat) (hs0 : n0 ≤ h0.size) (OL : Old Z n0 h0) (Eb : Exa Z h0 b "java/util/ImmutableCollections$List12") (Fb : Fld Z h0 b "java/util/ImmutableCollections$List12" "e1" "Ljava/lang/Object;" (.ref em)) (z_em : Sta Z Z.heap "java/util/ImmutableCollections" "EMPTY" "Ljava/lang/Object;" (.ref em)) (z_mE : Exa Z Z.heap em "java/lang/Object") :
    own_Met l (⟨"java/util/ImmutableCollections$List12", "size", "()I"⟩ : MethodName) jdk_44_method_3_code 1 (some .int) ({ frames := 0, cells := 0, slots := 0, locals := 0 } : Room) Z #[(.ref b)] h0 n0 (fun v h' => h' = h0 ∧ v = some (.int 1)) := by
  refine own_met (Ls := #[.val (.ref b)]) own_pn31 hs0 (fun m => by first | (simp [entryFrame, mkF, argsToLocals, Value.category]; done) | rfl) ?_
  intro p e s m below meth c T X
  have hi_b : h0.size > b := Eb.lt
  have hi_em : n0 > em := (OL.1 ▸ z_mE.lt)
  refine own_aloadN X 1 (.ref b) own_d31_0 rfl rfl rfl ?_
  refine own_getF X 4 own_d31_1 rfl (hw _ (List.mem_of_getElem? (i := 212) rfl)) Via.refl Fb ?_
  intro T X
  refine own_getSN X 7 own_d31_4 rfl (hw _ (List.mem_of_getElem? (i := 220) rfl)) Via.refl (Sta.ext OL.2 z_em) ?_
  intro T X
  refine own_acY X 14 own_d31_7 (by decide) (by decide) rfl rfl (XT.aa_eq_t rfl) ?_
  refine own_iconst X 15 (1 : Int32) own_d31_14 rfl rfl ?_
  exact own_retI X own_d31_15 rfl (by decide) (by decide) (⟨rfl, rfl⟩)
set_option maxRecDepth 65536 in
set_option maxHeartbeats 40000000 in
theorem own_entries_1 (l : Launch) (Z : State) (a0 : Array Value) (hw : ∀ d ∈ tables_1, d.before a0 Z = true) (r : Addr) (cv : Int32) (b : Addr) (em : Addr) (ei : Addr) (cc : Addr) (kc : ClassId) (el : Addr) (ea : Addr) (ke : ClassId) (h0 : Heap) (n0 : Nat) (hs0 : n0 ≤ h0.size) (Fc : Fld Z h0 r "com/example/rosettine/rosettine/model/ConversionReport" "converted" "I" (.int cv)) (Fn : Fld Z h0 r "com/example/rosettine/rosettine/model/ConversionReport" "notConverted" "Ljava/util/List;" (.ref b)) (OL : Old Z n0 h0) (Eb : Exa Z h0 b "java/util/ImmutableCollections$List12") (Fb : Fld Z h0 b "java/util/ImmutableCollections$List12" "e1" "Ljava/lang/Object;" (.ref em)) (z_em : Sta Z Z.heap "java/util/ImmutableCollections" "EMPTY" "Ljava/lang/Object;" (.ref em)) (z_mE : Exa Z Z.heap em "java/lang/Object") :
    own_Met l (⟨"com/example/rosettine/rosettine/model/ConversionReport", "entries", "()I"⟩ : MethodName) prog_10_method_2_code 1 (some .int) ({ frames := 1, cells := 0, slots := 0, locals := 13 } : Room) Z #[(.ref r)] h0 n0 (fun v h' => h' = h0 ∧ v = some (.int (cv + 1))) := by
  refine own_met (Ls := #[.val (.ref r)]) own_pn27 hs0 (fun m => by first | (simp [entryFrame, mkF, argsToLocals, Value.category]; done) | rfl) ?_
  intro p e s m below meth c T X
  have hi_b : h0.size > b := Eb.lt
  have hi_em : n0 > em := (OL.1 ▸ z_mE.lt)
  have hi_r : h0.size > r := Fc.lt
  refine own_aloadN X 1 (.ref r) own_d27_0 rfl rfl rfl ?_
  refine own_getF X 4 own_d27_1 rfl (hw _ (List.mem_of_getElem? (i := 176) rfl)) Via.refl Fc ?_
  intro T X
  refine own_aloadN X 5 (.ref r) own_d27_4 rfl rfl rfl ?_
  refine own_getF X 8 own_d27_5 rfl (hw _ (List.mem_of_getElem? (i := 178) rfl)) Via.refl Fn ?_
  intro T X
  refine own_callI X 13 [] [(.int cv)] own_d27_8 rfl (hw _ (List.mem_of_getElem? (i := 185) rfl)) (hw _ (List.mem_of_getElem? (i := 186) rfl)) (hw _ (List.mem_of_getElem? (i := 187) rfl)) (by first | rfl | decide) (hw _ (List.mem_of_getElem? (i := 214) rfl)) (hw _ (List.mem_of_getElem? (i := 215) rfl)) (hw _ (List.mem_of_getElem? (i := 216) rfl)) (hw _ (List.mem_of_getElem? (i := 217) rfl)) (hw _ (List.mem_of_getElem? (i := 218) rfl)) (hw _ (List.mem_of_getElem? (i := 200) rfl)) (hw _ (List.mem_of_getElem? (i := 219) rfl)) (by decide) Eb (own_lsize_1 l Z a0 hw b em ei cc kc el ea ke h0 n0 X.sz OL Eb Fb z_em z_mE) (fun _ _ q => Nat.le_of_eq (congrArg Array.size q.1.symm)) rfl own_pd15 rfl rfl rfl (by decide) (Nat.le_of_ble_eq_true rfl) (by decide) (by decide) ?_
  rintro v8 T h_ X ⟨eh_, rfl⟩
  rw [eh_] at X
  show own_Ends p e below _ (T.setTop (mkF m 13 #[.val (.ref r)] [(.int 1), (.int cv)]))
  refine own_iadd X 14 own_d27_13 rfl ?_
  exact own_retI X own_d27_14 rfl (by decide) (by decide) (⟨rfl, rfl⟩)
set_option maxRecDepth 65536 in
set_option maxHeartbeats 40000000 in
theorem own_lcopy_2 (l : Launch) (Z : State) (a0 : Array Value) (hw : ∀ d ∈ tables_1, d.before a0 Z = true) (a : Addr) (de : Addr) (kd : ClassId) (el : Addr) (ea : Addr) (ke : ClassId) (em : Addr) (mr : Addr) (ei : Addr) (ka : ClassId) (b : Addr) (h0 : Heap) (n0 : Nat) (hs0 : n0 ≤ h0.size) (OL : Old Z n0 h0) (z_de : Sta Z Z.heap "java/util/ArrayList" "DEFAULTCAPACITY_EMPTY_ELEMENTDATA" "[Ljava/lang/Object;" (.ref de)) (z_dA : own_A Z Z.heap de kd (.object "java/lang/Object") []) (z_el : Sta Z Z.heap "java/util/ImmutableCollections" "EMPTY_LIST" "Ljava/util/ImmutableCollections$ListN;" (.ref el)) (z_eE : Exa Z Z.heap el "java/util/ImmutableCollections$ListN") (z_eF : Fld Z Z.heap el "java/util/ImmutableCollections$ListN" "elements" "[Ljava/lang/Object;" (.ref ea)) (z_eA : own_A Z Z.heap ea ke (.object "java/lang/Object") []) (z_em : Sta Z Z.heap "java/util/ImmutableCollections" "EMPTY" "Ljava/lang/Object;" (.ref em)) (z_mE : Exa Z Z.heap em "java/lang/Object") (hmr : own_Mir Z "[Ljava/lang/Object;" mr) (Fs : Fld Z h0 a "java/util/ArrayList" "size" "I" (.int ((0 + 1) + 1))) (Ea : Exa Z h0 a "java/util/ArrayList") (Fe : Fld Z h0 a "java/util/ArrayList" "elementData" "[Ljava/lang/Object;" (.ref b)) (Ab : own_A Z h0 b ka (.object "java/lang/Object") [(.ref ei), (.ref ei), .null, .null, .null, .null, .null, .null, .null, .null]) (Eb : Exa Z h0 b "[Ljava/lang/Object;") (Ie : Ins Z h0 ei "java/lang/Object" true) (he : h0.size > ei) (he0 : n0 ≤ ei) :
    own_Met l (⟨"java/util/ImmutableCollections", "listCopy", "(Ljava/util/Collection;)Ljava/util/List;"⟩ : MethodName) jdk_56_method_3_code 2 (some (.object "java/util/List")) ({ frames := 6, cells := 2, slots := 4, locals := 76 } : Room) Z #[(.ref a)] h0 n0 (fun v h' => Keep h0 h' [] ∧ ∃ b, v = some (.ref b) ∧ h0.size ≤ b ∧ h'.size > b ∧ Exa Z h' b "java/util/ImmutableCollections$List12" ∧ Fld Z h' b "java/util/ImmutableCollections$List12" "e1" "Ljava/lang/Object;" (.ref ei)) := by
  refine own_met (Ls := #[.val (.ref a), .unset]) own_pn15 hs0 (fun m => by first | (simp [entryFrame, mkF, argsToLocals, Value.category]; done) | rfl) ?_
  intro p e s m below meth c T X
  have K0 := Keep.refl h0 []
  have hi_de : n0 > de := (OL.1 ▸ z_dA.lt)
  have hi_el : n0 > el := (OL.1 ▸ z_eE.lt)
  have hi_ea : n0 > ea := (OL.1 ▸ z_eA.lt)
  have hi_em : n0 > em := (OL.1 ▸ z_mE.lt)
  have hi_a : h0.size > a := Fs.lt
  have hi_b : h0.size > b := Ab.lt
  refine own_aloadN X 1 (.ref a) own_d15_0 rfl rfl rfl ?_
  refine own_instNo X 4 own_d15_1 rfl (hw _ (List.mem_of_getElem? (i := 96) rfl)) Ea (own_NS_no (hw _ (List.mem_of_getElem? (i := 97) rfl)) (hw _ (List.mem_of_getElem? (i := 199) rfl)) (NS.step (hw _ (List.mem_of_getElem? (i := 97) rfl)) (NS.step (hw _ (List.mem_of_getElem? (i := 98) rfl)) (NS.step (hw _ (List.mem_of_getElem? (i := 99) rfl)) (own_NS_root (hw _ (List.mem_of_getElem? (i := 100) rfl)) (hw _ (List.mem_of_getElem? (i := 199) rfl)) (by decide)) (by decide)) (by decide)) (by decide)) (by decide)) ?_
  intro T X
  refine own_ifN X 7 own_d15_4 rfl (XT.i0_ne_f (by decide)) ?_
  refine own_aloadN X 8 (.ref a) own_d15_7 rfl rfl rfl ?_
  refine own_instNo X 11 own_d15_8 rfl (hw _ (List.mem_of_getElem? (i := 101) rfl)) Ea (own_NS_no (hw _ (List.mem_of_getElem? (i := 97) rfl)) (hw _ (List.mem_of_getElem? (i := 152) rfl)) (NS.step (hw _ (List.mem_of_getElem? (i := 97) rfl)) (NS.step (hw _ (List.mem_of_getElem? (i := 98) rfl)) (NS.step (hw _ (List.mem_of_getElem? (i := 99) rfl)) (own_NS_root (hw _ (List.mem_of_getElem? (i := 100) rfl)) (hw _ (List.mem_of_getElem? (i := 152) rfl)) (by decide)) (by decide)) (by decide)) (by decide)) (by decide)) ?_
  intro T X
  refine own_ifY X 31 own_d15_11 (by decide) (by decide) (XT.i0_eq_t rfl) ?_
  refine own_aloadN X 32 (.ref a) own_d15_31 rfl rfl rfl ?_
  refine own_callI X 37 [] [] own_d15_32 rfl (hw _ (List.mem_of_getElem? (i := 102) rfl)) (hw _ (List.mem_of_getElem? (i := 103) rfl)) (hw _ (List.mem_of_getElem? (i := 104) rfl)) (by first | rfl | decide) (hw _ (List.mem_of_getElem? (i := 105) rfl)) (hw _ (List.mem_of_getElem? (i := 106) rfl)) (hw _ (List.mem_of_getElem? (i := 107) rfl)) (hw _ (List.mem_of_getElem? (i := 108) rfl)) (hw _ (List.mem_of_getElem? (i := 109) rfl)) (hw _ (List.mem_of_getElem? (i := 24) rfl)) (hw _ (List.mem_of_getElem? (i := 110) rfl)) (by decide) Ea (own_isEmpty l Z a0 hw a ((0 + 1) + 1) h0 n0 X.sz Fs) (fun _ _ q => Nat.le_of_eq (congrArg Array.size q.1.symm)) rfl own_pd12 rfl rfl rfl (by decide) (Nat.le_of_ble_eq_true rfl) (by decide) (by decide) ?_
  rintro v32 T h_ X ⟨eh_, rfl⟩
  rw [eh_] at X
  show own_Ends p e below _ (T.setTop (mkF m 37 #[.val (.ref a), .unset] [(.int (own_emp ((0 + 1) + 1)))]))
  rw [show own_emp ((0 + 1) + 1) = (0 : Int32) from by decide]
  refine own_ifY X 44 own_d15_37 (by decide) (by decide) (XT.i0_eq_t rfl) ?_
  refine own_aloadN X 45 (.ref a) own_d15_44 rfl rfl rfl ?_
  refine own_callI X 50 [] [] own_d15_45 rfl (hw _ (List.mem_of_getElem? (i := 111) rfl)) (hw _ (List.mem_of_getElem? (i := 112) rfl)) (hw _ (List.mem_of_getElem? (i := 113) rfl)) (by first | rfl | decide) (hw _ (List.mem_of_getElem? (i := 114) rfl)) (hw _ (List.mem_of_getElem? (i := 115) rfl)) (hw _ (List.mem_of_getElem? (i := 116) rfl)) (hw _ (List.mem_of_getElem? (i := 117) rfl)) (hw _ (List.mem_of_getElem? (i := 109) rfl)) (hw _ (List.mem_of_getElem? (i := 24) rfl)) (hw _ (List.mem_of_getElem? (i := 118) rfl)) (by decide) Ea (own_toArr_2 l Z a0 hw a ei ka mr b h0 n0 X.sz Fs Fe Ab Eb Ie (by omega) (by omega) hmr) (fun _ _ q => q.1.1) rfl own_pd3 rfl rfl rfl (by decide) (Nat.le_of_ble_eq_true rfl) (by decide) (by decide) ?_
  rintro v45 T h2 X ⟨K_, b1, kb_b1, rfl, lo_b1, hi_b1, A_b1⟩
  have zs_h2 : h0.size ≤ h2.size := K_.1
  have OL := OL.keep K_ all0
  have K0 := K0.trans K_ all0
  have Fs := Fs.keep K_ nin0
  have Ea := Ea.keep K_
  have Fe := Fe.keep K_ nin0
  have Ab := Ab.keep K_ nin0
  have Eb := Eb.keep K_
  have Ie := own_Ins_keep Ie K_
  show own_Ends p e below _ (T.setTop (mkF m 50 #[.val (.ref a), .unset] [(.ref b1)]))
  refine own_callS X 53 [(.ref b1)] [] own_d15_50 rfl (hw _ (List.mem_of_getElem? (i := 141) rfl)) (hw _ (List.mem_of_getElem? (i := 142) rfl)) (hw _ (List.mem_of_getElem? (i := 90) rfl)) (hw _ (List.mem_of_getElem? (i := 143) rfl)) (by decide) (own_listof_2 l Z a0 hw b1 ei kb_b1 em h2 n0 X.sz A_b1 Ie (by omega) (by omega) OL z_em) (fun _ _ q => q.1.1) rfl own_pd11 rfl rfl rfl (by decide) (Nat.le_of_ble_eq_true rfl) (by decide) (by decide) ?_
  rintro v50 T h4 X ⟨K_, L3, rfl, lo_L3, hi_L3, E_L3, F_e1_L3⟩
  have zs_h4 : h2.size ≤ h4.size := K_.1
  have OL := OL.keep K_ all0
  have K0 := K0.trans K_ all0
  have Fs := Fs.keep K_ nin0
  have Ea := Ea.keep K_
  have Fe := Fe.keep K_ nin0
  have Ab := Ab.keep K_ nin0
  have Eb := Eb.keep K_
  have Ie := own_Ins_keep Ie K_
  have A_b1 := A_b1.keep K_ nin0
  show own_Ends p e below _ (T.setTop (mkF m 53 #[.val (.ref a), .unset] [(.ref L3)]))
  exact own_retA X (.object "java/util/List") own_d15_53 rfl rfl rfl rfl (by decide) (by decide) (⟨K0, L3, rfl, by omega, E_L3.lt, E_L3, F_e1_L3⟩)
set_option maxRecDepth 65536 in
set_option maxHeartbeats 40000000 in
theorem own_copyOf_2 (l : Launch) (Z : State) (a0 : Array Value) (hw : ∀ d ∈ tables_1, d.before a0 Z = true) (a : Addr) (de : Addr) (kd : ClassId) (el : Addr) (ea : Addr) (ke : ClassId) (em : Addr) (mr : Addr) (ei : Addr) (ka : ClassId) (b : Addr) (h0 : Heap) (n0 : Nat) (hs0 : n0 ≤ h0.size) (OL : Old Z n0 h0) (z_de : Sta Z Z.heap "java/util/ArrayList" "DEFAULTCAPACITY_EMPTY_ELEMENTDATA" "[Ljava/lang/Object;" (.ref de)) (z_dA : own_A Z Z.heap de kd (.object "java/lang/Object") []) (z_el : Sta Z Z.heap "java/util/ImmutableCollections" "EMPTY_LIST" "Ljava/util/ImmutableCollections$ListN;" (.ref el)) (z_eE : Exa Z Z.heap el "java/util/ImmutableCollections$ListN") (z_eF : Fld Z Z.heap el "java/util/ImmutableCollections$ListN" "elements" "[Ljava/lang/Object;" (.ref ea)) (z_eA : own_A Z Z.heap ea ke (.object "java/lang/Object") []) (z_em : Sta Z Z.heap "java/util/ImmutableCollections" "EMPTY" "Ljava/lang/Object;" (.ref em)) (z_mE : Exa Z Z.heap em "java/lang/Object") (hmr : own_Mir Z "[Ljava/lang/Object;" mr) (Fs : Fld Z h0 a "java/util/ArrayList" "size" "I" (.int ((0 + 1) + 1))) (Ea : Exa Z h0 a "java/util/ArrayList") (Fe : Fld Z h0 a "java/util/ArrayList" "elementData" "[Ljava/lang/Object;" (.ref b)) (Ab : own_A Z h0 b ka (.object "java/lang/Object") [(.ref ei), (.ref ei), .null, .null, .null, .null, .null, .null, .null, .null]) (Eb : Exa Z h0 b "[Ljava/lang/Object;") (Ie : Ins Z h0 ei "java/lang/Object" true) (he : h0.size > ei) (he0 : n0 ≤ ei) :
    own_Met l (⟨"java/util/List", "copyOf", "(Ljava/util/Collection;)Ljava/util/List;"⟩ : MethodName) jdk_40_method_48_code 1 (some (.object "java/util/List")) ({ frames := 7, cells := 2, slots := 4, locals := 89 } : Room) Z #[(.ref a)] h0 n0 (fun v h' => Keep h0 h' [] ∧ ∃ b, v = some (.ref b) ∧ h0.size ≤ b ∧ h'.size > b ∧ Exa Z h' b "java/util/ImmutableCollections$List12" ∧ Fld Z h' b "java/util/ImmutableCollections$List12" "e1" "Ljava/lang/Object;" (.ref ei)) := by
  refine own_met (Ls := #[.val (.ref a)]) own_pn14 hs0 (fun m => by first | (simp [entryFrame, mkF, argsToLocals, Value.category]; done) | rfl) ?_
  intro p e s m below meth c T X
  have K0 := Keep.refl h0 []
  have hi_de : n0 > de := (OL.1 ▸ z_dA.lt)
  have hi_el : n0 > el := (OL.1 ▸ z_eE.lt)
  have hi_ea : n0 > ea := (OL.1 ▸ z_eA.lt)
  have hi_em : n0 > em := (OL.1 ▸ z_mE.lt)
  have hi_a : h0.size > a := Fs.lt
  have hi_b : h0.size > b := Ab.lt
  refine own_aloadN X 1 (.ref a) own_d14_0 rfl rfl rfl ?_
  refine own_callS X 4 [(.ref a)] [] own_d14_1 rfl (hw _ (List.mem_of_getElem? (i := 92) rfl)) (hw _ (List.mem_of_getElem? (i := 93) rfl)) (hw _ (List.mem_of_getElem? (i := 94) rfl)) (hw _ (List.mem_of_getElem? (i := 95) rfl)) (by decide) (own_lcopy_2 l Z a0 hw a de kd el ea ke em mr ei ka b h0 n0 X.sz OL z_de z_dA z_el z_eE z_eF z_eA z_em z_mE hmr Fs Ea Fe Ab Eb Ie (by omega) (by omega)) (fun _ _ q => q.1.1) rfl own_pd14 rfl rfl rfl (by decide) (Nat.le_of_ble_eq_true rfl) (by decide) (by decide) ?_
  rintro v1 T h2 X ⟨K_, L1, rfl, lo_L1, hi_L1, E_L1, F_e1_L1⟩
  have zs_h2 : h0.size ≤ h2.size := K_.1
  have OL := OL.keep K_ all0
  have K0 := K0.trans K_ all0
  have Fs := Fs.keep K_ nin0
  have Ea := Ea.keep K_
  have Fe := Fe.keep K_ nin0
  have Ab := Ab.keep K_ nin0
  have Eb := Eb.keep K_
  have Ie := own_Ins_keep Ie K_
  show own_Ends p e below _ (T.setTop (mkF m 4 #[.val (.ref a)] [(.ref L1)]))
  exact own_retA X (.object "java/util/List") own_d14_4 rfl rfl rfl rfl (by decide) (by decide) (⟨K0, L1, rfl, by omega, E_L1.lt, E_L1, F_e1_L1⟩)
set_option maxRecDepth 65536 in
set_option maxHeartbeats 40000000 in
theorem own_crini_2 (l : Launch) (Z : State) (a0 : Array Value) (hw : ∀ d ∈ tables_1, d.before a0 Z = true) (r : Addr) (cv : Int32) (a : Addr) (de : Addr) (kd : ClassId) (el : Addr) (ea : Addr) (ke : ClassId) (em : Addr) (mr : Addr) (ei : Addr) (ka : ClassId) (b : Addr) (h0 : Heap) (n0 : Nat) (hs0 : n0 ≤ h0.size) (OL : Old Z n0 h0) (z_de : Sta Z Z.heap "java/util/ArrayList" "DEFAULTCAPACITY_EMPTY_ELEMENTDATA" "[Ljava/lang/Object;" (.ref de)) (z_dA : own_A Z Z.heap de kd (.object "java/lang/Object") []) (z_el : Sta Z Z.heap "java/util/ImmutableCollections" "EMPTY_LIST" "Ljava/util/ImmutableCollections$ListN;" (.ref el)) (z_eE : Exa Z Z.heap el "java/util/ImmutableCollections$ListN") (z_eF : Fld Z Z.heap el "java/util/ImmutableCollections$ListN" "elements" "[Ljava/lang/Object;" (.ref ea)) (z_eA : own_A Z Z.heap ea ke (.object "java/lang/Object") []) (z_em : Sta Z Z.heap "java/util/ImmutableCollections" "EMPTY" "Ljava/lang/Object;" (.ref em)) (z_mE : Exa Z Z.heap em "java/lang/Object") (hmr : own_Mir Z "[Ljava/lang/Object;" mr) (Fs : Fld Z h0 a "java/util/ArrayList" "size" "I" (.int ((0 + 1) + 1))) (Ea : Exa Z h0 a "java/util/ArrayList") (Fe : Fld Z h0 a "java/util/ArrayList" "elementData" "[Ljava/lang/Object;" (.ref b)) (Ab : own_A Z h0 b ka (.object "java/lang/Object") [(.ref ei), (.ref ei), .null, .null, .null, .null, .null, .null, .null, .null]) (Eb : Exa Z h0 b "[Ljava/lang/Object;") (Ie : Ins Z h0 ei "java/lang/Object" true) (he : h0.size > ei) (he0 : n0 ≤ ei) (F0 : Fld Z h0 r "com/example/rosettine/rosettine/model/ConversionReport" "converted" "I" (.int 0)) (F1 : Fld Z h0 r "com/example/rosettine/rosettine/model/ConversionReport" "notConverted" "Ljava/util/List;" .null) (Er : Exa Z h0 r "com/example/rosettine/rosettine/model/ConversionReport") (gr : n0 ≤ r) (nra : @Ne Nat r a) (nrb : @Ne Nat r b) :
    own_Met l (⟨"com/example/rosettine/rosettine/model/ConversionReport", "<init>", "(ILjava/util/List;)V"⟩ : MethodName) prog_10_method_1_code 3 none ({ frames := 8, cells := 2, slots := 4, locals := 101 } : Room) Z #[(.ref r), (.int cv), (.ref a)] h0 n0 (fun v h' => Keep h0 h' [r] ∧ v = none ∧ Fld Z h' r "com/example/rosettine/rosettine/model/ConversionReport" "converted" "I" (.int cv) ∧ ∃ b, Fld Z h' r "com/example/rosettine/rosettine/model/ConversionReport" "notConverted" "Ljava/util/List;" (.ref b) ∧ h0.size ≤ b ∧ h'.size > b ∧ Exa Z h' b "java/util/ImmutableCollections$List12" ∧ Fld Z h' b "java/util/ImmutableCollections$List12" "e1" "Ljava/lang/Object;" (.ref ei)) := by
  refine own_met (Ls := #[.val (.ref r), .val (.int cv), .val (.ref a)]) own_pn13 hs0 (fun m => by first | (simp [entryFrame, mkF, argsToLocals, Value.category]; done) | rfl) ?_
  intro p e s m below meth c T X
  have K0 := Keep.refl h0 [r]
  have hi_de : n0 > de := (OL.1 ▸ z_dA.lt)
  have hi_el : n0 > el := (OL.1 ▸ z_eE.lt)
  have hi_ea : n0 > ea := (OL.1 ▸ z_eA.lt)
  have hi_em : n0 > em := (OL.1 ▸ z_mE.lt)
  have hi_a : h0.size > a := Fs.lt
  have hi_b : h0.size > b := Ab.lt
  have hi_r : h0.size > r := F0.lt
  refine own_aloadN X 1 (.ref r) own_d13_0 rfl rfl rfl ?_
  refine own_init X 4 [] [] own_d13_1 rfl (hw _ (List.mem_of_getElem? (i := 87) rfl)) (hw _ (List.mem_of_getElem? (i := 7) rfl)) (hw _ (List.mem_of_getElem? (i := 9) rfl)) (hw _ (List.mem_of_getElem? (i := 10) rfl)) (by decide) rfl (own_rec l Z a0 hw r h0 n0 X.sz) (fun _ _ q => Nat.le_of_eq (congrArg Array.size q.1.symm)) rfl own_pd0 rfl rfl rfl (by decide) (Nat.le_of_ble_eq_true rfl) (by decide) (by decide) ?_
  rintro v1 T h_ X ⟨eh_, rfl⟩
  rw [eh_] at X
  show own_Ends p e below _ (T.setTop (mkF m 4 #[.val (.ref r), .val (.int cv), .val (.ref a)] []))
  refine own_aloadN X 5 (.ref a) own_d13_4 rfl rfl rfl ?_
  refine own_callS X 8 [(.ref a)] [] own_d13_5 rfl (hw _ (List.mem_of_getElem? (i := 88) rfl)) (hw _ (List.mem_of_getElem? (i := 89) rfl)) (hw _ (List.mem_of_getElem? (i := 90) rfl)) (hw _ (List.mem_of_getElem? (i := 91) rfl)) (by decide) (own_copyOf_2 l Z a0 hw a de kd el ea ke em mr ei ka b h0 n0 X.sz OL z_de z_dA z_el z_eE z_eF z_eA z_em z_mE hmr Fs Ea Fe Ab Eb Ie (by omega) (by omega)) (fun _ _ q => q.1.1) rfl own_pd14 rfl rfl rfl (by decide) (Nat.le_of_ble_eq_true rfl) (by decide) (by decide) ?_
  rintro v5 T h2 X ⟨K_, L1, rfl, lo_L1, hi_L1, E_L1, F_e1_L1⟩
  have zs_h2 : h0.size ≤ h2.size := K_.1
  have OL := OL.keep K_ all0
  have K0 := K0.trans K_ all0
  have Fs := Fs.keep K_ nin0
  have Ea := Ea.keep K_
  have Fe := Fe.keep K_ nin0
  have Ab := Ab.keep K_ nin0
  have Eb := Eb.keep K_
  have Ie := own_Ins_keep Ie K_
  have F0 := F0.keep K_ nin0
  have F1 := F1.keep K_ nin0
  have Er := Er.keep K_
  show own_Ends p e below _ (T.setTop (mkF m 8 #[.val (.ref r), .val (.int cv), .val (.ref a)] [(.ref L1)]))
  refine own_astoreN X 9 #[.val (.ref r), .val (.int cv), .val (.ref L1)] own_d13_8 rfl rfl rfl ?_
  refine own_aloadN X 10 (.ref r) own_d13_9 rfl rfl rfl ?_
  refine own_iloadN X 11 cv own_d13_10 rfl rfl ?_
  refine own_putF X 14 .int own_d13_11 rfl (hw _ (List.mem_of_getElem? (i := 176) rfl)) Via.refl F0 Er (Or.inr ⟨(hw _ (List.mem_of_getElem? (i := 177) rfl)), rfl, rfl⟩) (hw _ (List.mem_of_getElem? (i := 82) rfl)) (by decide) rfl rfl (by omega) ?_
  intro T h3 X W_h3
  have nw_h3 := Fld.same W_h3 F0
  have zs_h3 : h2.size ≤ h3.size := (Nat.le_of_eq W_h3.size.symm)
  have OL := OL.wr W_h3 (by omega)
  have K0 := K0.wr W_h3 (Or.inl (by simp))
  have Fs := Fld.other W_h3 Fs (Or.inl (by show @Ne Nat _ _; omega))
  have Ea := Exa.wr W_h3 Ea
  have Fe := Fld.other W_h3 Fe (Or.inl (by show @Ne Nat _ _; omega))
  have Ab := Ab.other W_h3 (by show @Ne Nat _ _; omega)
  have Eb := Exa.wr W_h3 Eb
  have Ie := Ins.wr W_h3 Ie
  have F1 := Fld.other W_h3 F1 (Or.inr (slot_ne (Or.inr (hw _ (List.mem_of_getElem? (i := 179) rfl))) (Or.inr (hw _ (List.mem_of_getElem? (i := 177) rfl))) (by decide) (t := (.object "java/util/List")) (t' := .int) (by decide) (by decide)))
  have Er := Exa.wr W_h3 Er
  have E_L1 := Exa.wr W_h3 E_L1
  have F_e1_L1 := Fld.other W_h3 F_e1_L1 (Or.inl (by show @Ne Nat _ _; omega))
  have F0 := nw_h3
  refine own_aloadN X 15 (.ref r) own_d13_14 rfl rfl rfl ?_
  refine own_aloadN X 16 (.ref L1) own_d13_15 rfl rfl rfl ?_
  refine own_putF X 19 (.object "java/util/List") own_d13_16 rfl (hw _ (List.mem_of_getElem? (i := 178) rfl)) Via.refl F1 Er (Or.inr ⟨(hw _ (List.mem_of_getElem? (i := 179) rfl)), rfl, rfl⟩) (hw _ (List.mem_of_getElem? (i := 82) rfl)) (by decide) rfl rfl (by omega) ?_
  intro T h4 X W_h4
  have nw_h4 := Fld.same W_h4 F1
  have zs_h4 : h3.size ≤ h4.size := (Nat.le_of_eq W_h4.size.symm)
  have OL := OL.wr W_h4 (by omega)
  have K0 := K0.wr W_h4 (Or.inl (by simp))
  have Fs := Fld.other W_h4 Fs (Or.inl (by show @Ne Nat _ _; omega))
  have Ea := Exa.wr W_h4 Ea
  have Fe := Fld.other W_h4 Fe (Or.inl (by show @Ne Nat _ _; omega))
  have Ab := Ab.other W_h4 (by show @Ne Nat _ _; omega)
  have Eb := Exa.wr W_h4 Eb
  have Ie := Ins.wr W_h4 Ie
  have Er := Exa.wr W_h4 Er
  have E_L1 := Exa.wr W_h4 E_L1
  have F_e1_L1 := Fld.other W_h4 F_e1_L1 (Or.inl (by show @Ne Nat _ _; omega))
  have F0 := Fld.other W_h4 F0 (Or.inr (slot_ne (Or.inr (hw _ (List.mem_of_getElem? (i := 177) rfl))) (Or.inr (hw _ (List.mem_of_getElem? (i := 179) rfl))) (by decide) (t := .int) (t' := (.object "java/util/List")) (by decide) (by decide)))
  have F1 := nw_h4
  exact own_retV X own_d13_19 rfl (by decide) (by decide) (⟨K0, rfl, F0, L1, F1, by omega, E_L1.lt, E_L1, F_e1_L1⟩)
theorem own_d31_10 : decode jdk_44_method_3_code 10 = .ok (.iconst 2, 1) := by decide +kernel
theorem own_d31_11 : decode jdk_44_method_3_code 11 = .ok (.goto 4, 3) := by decide +kernel
set_option maxRecDepth 65536 in
set_option maxHeartbeats 40000000 in
theorem own_lsize_2 (l : Launch) (Z : State) (a0 : Array Value) (hw : ∀ d ∈ tables_1, d.before a0 Z = true) (b : Addr) (em : Addr) (ei : Addr) (cc : Addr) (kc : ClassId) (el : Addr) (ea : Addr) (ke : ClassId) (h0 : Heap) (n0 : Nat) (hs0 : n0 ≤ h0.size) (OL : Old Z n0 h0) (Eb : Exa Z h0 b "java/util/ImmutableCollections$List12") (Fb : Fld Z h0 b "java/util/ImmutableCollections$List12" "e1" "Ljava/lang/Object;" (.ref ei)) (z_em : Sta Z Z.heap "java/util/ImmutableCollections" "EMPTY" "Ljava/lang/Object;" (.ref em)) (z_mE : Exa Z Z.heap em "java/lang/Object") (he0 : n0 ≤ ei) :
    own_Met l (⟨"java/util/ImmutableCollections$List12", "size", "()I"⟩ : MethodName) jdk_44_method_3_code 1 (some .int) ({ frames := 0, cells := 0, slots := 0, locals := 0 } : Room) Z #[(.ref b)] h0 n0 (fun v h' => h' = h0 ∧ v = some (.int 2)) := by
  refine own_met (Ls := #[.val (.ref b)]) own_pn31 hs0 (fun m => by first | (simp [entryFrame, mkF, argsToLocals, Value.category]; done) | rfl) ?_
  intro p e s m below meth c T X
  have hi_b : h0.size > b := Eb.lt
  have hi_em : n0 > em := (OL.1 ▸ z_mE.lt)
  refine own_aloadN X 1 (.ref b) own_d31_0 rfl rfl rfl ?_
  refine own_getF X 4 own_d31_1 rfl (hw _ (List.mem_of_getElem? (i := 212) rfl)) Via.refl Fb ?_
  intro T X
  refine own_getSN X 7 own_d31_4 rfl (hw _ (List.mem_of_getElem? (i := 220) rfl)) Via.refl (Sta.ext OL.2 z_em) ?_
  intro T X
  refine own_acN X 10 own_d31_7 rfl rfl rfl (XT.aa_eq_f (fun q => by have q' : @Eq Nat ei em := Value.ref.inj q; omega)) ?_
  refine own_iconst X 11 (2 : Int32) own_d31_10 rfl rfl ?_
  refine own_goto X 15 own_d31_11 (by decide) (by decide) ?_
  exact own_retI X own_d31_15 rfl (by decide) (by decide) (⟨rfl, rfl⟩)
set_option maxRecDepth 65536 in
set_option maxHeartbeats 40000000 in
theorem own_entries_2 (l : Launch) (Z : State) (a0 : Array Value) (hw : ∀ d ∈ tables_1, d.before a0 Z = true) (r : Addr) (cv : Int32) (b : Addr) (em : Addr) (ei : Addr) (cc : Addr) (kc : ClassId) (el : Addr) (ea : Addr) (ke : ClassId) (h0 : Heap) (n0 : Nat) (hs0 : n0 ≤ h0.size) (Fc : Fld Z h0 r "com/example/rosettine/rosettine/model/ConversionReport" "converted" "I" (.int cv)) (Fn : Fld Z h0 r "com/example/rosettine/rosettine/model/ConversionReport" "notConverted" "Ljava/util/List;" (.ref b)) (OL : Old Z n0 h0) (Eb : Exa Z h0 b "java/util/ImmutableCollections$List12") (Fb : Fld Z h0 b "java/util/ImmutableCollections$List12" "e1" "Ljava/lang/Object;" (.ref ei)) (z_em : Sta Z Z.heap "java/util/ImmutableCollections" "EMPTY" "Ljava/lang/Object;" (.ref em)) (z_mE : Exa Z Z.heap em "java/lang/Object") (he0 : n0 ≤ ei) :
    own_Met l (⟨"com/example/rosettine/rosettine/model/ConversionReport", "entries", "()I"⟩ : MethodName) prog_10_method_2_code 1 (some .int) ({ frames := 1, cells := 0, slots := 0, locals := 13 } : Room) Z #[(.ref r)] h0 n0 (fun v h' => h' = h0 ∧ v = some (.int (cv + 2))) := by
  refine own_met (Ls := #[.val (.ref r)]) own_pn27 hs0 (fun m => by first | (simp [entryFrame, mkF, argsToLocals, Value.category]; done) | rfl) ?_
  intro p e s m below meth c T X
  have hi_b : h0.size > b := Eb.lt
  have hi_em : n0 > em := (OL.1 ▸ z_mE.lt)
  have hi_r : h0.size > r := Fc.lt
  refine own_aloadN X 1 (.ref r) own_d27_0 rfl rfl rfl ?_
  refine own_getF X 4 own_d27_1 rfl (hw _ (List.mem_of_getElem? (i := 176) rfl)) Via.refl Fc ?_
  intro T X
  refine own_aloadN X 5 (.ref r) own_d27_4 rfl rfl rfl ?_
  refine own_getF X 8 own_d27_5 rfl (hw _ (List.mem_of_getElem? (i := 178) rfl)) Via.refl Fn ?_
  intro T X
  refine own_callI X 13 [] [(.int cv)] own_d27_8 rfl (hw _ (List.mem_of_getElem? (i := 185) rfl)) (hw _ (List.mem_of_getElem? (i := 186) rfl)) (hw _ (List.mem_of_getElem? (i := 187) rfl)) (by first | rfl | decide) (hw _ (List.mem_of_getElem? (i := 214) rfl)) (hw _ (List.mem_of_getElem? (i := 215) rfl)) (hw _ (List.mem_of_getElem? (i := 216) rfl)) (hw _ (List.mem_of_getElem? (i := 217) rfl)) (hw _ (List.mem_of_getElem? (i := 218) rfl)) (hw _ (List.mem_of_getElem? (i := 200) rfl)) (hw _ (List.mem_of_getElem? (i := 219) rfl)) (by decide) Eb (own_lsize_2 l Z a0 hw b em ei cc kc el ea ke h0 n0 X.sz OL Eb Fb z_em z_mE (by omega)) (fun _ _ q => Nat.le_of_eq (congrArg Array.size q.1.symm)) rfl own_pd15 rfl rfl rfl (by decide) (Nat.le_of_ble_eq_true rfl) (by decide) (by decide) ?_
  rintro v8 T h_ X ⟨eh_, rfl⟩
  rw [eh_] at X
  show own_Ends p e below _ (T.setTop (mkF m 13 #[.val (.ref r)] [(.int 2), (.int cv)]))
  refine own_iadd X 14 own_d27_13 rfl ?_
  exact own_retI X own_d27_14 rfl (by decide) (by decide) (⟨rfl, rfl⟩)
set_option maxRecDepth 65536 in
set_option maxHeartbeats 40000000 in
theorem own_lcopy_3 (l : Launch) (Z : State) (a0 : Array Value) (hw : ∀ d ∈ tables_1, d.before a0 Z = true) (a : Addr) (de : Addr) (kd : ClassId) (el : Addr) (ea : Addr) (ke : ClassId) (em : Addr) (mr : Addr) (ei : Addr) (ka : ClassId) (b : Addr) (h0 : Heap) (n0 : Nat) (hs0 : n0 ≤ h0.size) (OL : Old Z n0 h0) (z_de : Sta Z Z.heap "java/util/ArrayList" "DEFAULTCAPACITY_EMPTY_ELEMENTDATA" "[Ljava/lang/Object;" (.ref de)) (z_dA : own_A Z Z.heap de kd (.object "java/lang/Object") []) (z_el : Sta Z Z.heap "java/util/ImmutableCollections" "EMPTY_LIST" "Ljava/util/ImmutableCollections$ListN;" (.ref el)) (z_eE : Exa Z Z.heap el "java/util/ImmutableCollections$ListN") (z_eF : Fld Z Z.heap el "java/util/ImmutableCollections$ListN" "elements" "[Ljava/lang/Object;" (.ref ea)) (z_eA : own_A Z Z.heap ea ke (.object "java/lang/Object") []) (z_em : Sta Z Z.heap "java/util/ImmutableCollections" "EMPTY" "Ljava/lang/Object;" (.ref em)) (z_mE : Exa Z Z.heap em "java/lang/Object") (hmr : own_Mir Z "[Ljava/lang/Object;" mr) (Fs : Fld Z h0 a "java/util/ArrayList" "size" "I" (.int (((0 + 1) + 1) + 1))) (Ea : Exa Z h0 a "java/util/ArrayList") (Fe : Fld Z h0 a "java/util/ArrayList" "elementData" "[Ljava/lang/Object;" (.ref b)) (Ab : own_A Z h0 b ka (.object "java/lang/Object") [(.ref ei), (.ref ei), (.ref ei), .null, .null, .null, .null, .null, .null, .null]) (Eb : Exa Z h0 b "[Ljava/lang/Object;") (Ie : Ins Z h0 ei "java/lang/Object" true) (he : h0.size > ei) (he0 : n0 ≤ ei) :
    own_Met l (⟨"java/util/ImmutableCollections", "listCopy", "(Ljava/util/Collection;)Ljava/util/List;"⟩ : MethodName) jdk_56_method_3_code 2 (some (.object "java/util/List")) ({ frames := 7, cells := 3, slots := 8, locals := 90 } : Room) Z #[(.ref a)] h0 n0 (fun v h' => Keep h0 h' [] ∧ ∃ b, v = some (.ref b) ∧ h0.size ≤ b ∧ h'.size > b ∧ Exa Z h' b "java/util/ImmutableCollections$ListN" ∧ ∃ c kc, Fld Z h' b "java/util/ImmutableCollections$ListN" "elements" "[Ljava/lang/Object;" (.ref c) ∧ h0.size ≤ c ∧ h'.size > c ∧ own_A Z h' c kc (.object "java/lang/Object") [(.ref ei), (.ref ei), (.ref ei)]) := by
  refine own_met (Ls := #[.val (.ref a), .unset]) own_pn15 hs0 (fun m => by first | (simp [entryFrame, mkF, argsToLocals, Value.category]; done) | rfl) ?_
  intro p e s m below meth c T X
  have K0 := Keep.refl h0 []
  have hi_de : n0 > de := (OL.1 ▸ z_dA.lt)
  have hi_el : n0 > el := (OL.1 ▸ z_eE.lt)
  have hi_ea : n0 > ea := (OL.1 ▸ z_eA.lt)
  have hi_em : n0 > em := (OL.1 ▸ z_mE.lt)
  have hi_a : h0.size > a := Fs.lt
  have hi_b : h0.size > b := Ab.lt
  refine own_aloadN X 1 (.ref a) own_d15_0 rfl rfl rfl ?_
  refine own_instNo X 4 own_d15_1 rfl (hw _ (List.mem_of_getElem? (i := 96) rfl)) Ea (own_NS_no (hw _ (List.mem_of_getElem? (i := 97) rfl)) (hw _ (List.mem_of_getElem? (i := 199) rfl)) (NS.step (hw _ (List.mem_of_getElem? (i := 97) rfl)) (NS.step (hw _ (List.mem_of_getElem? (i := 98) rfl)) (NS.step (hw _ (List.mem_of_getElem? (i := 99) rfl)) (own_NS_root (hw _ (List.mem_of_getElem? (i := 100) rfl)) (hw _ (List.mem_of_getElem? (i := 199) rfl)) (by decide)) (by decide)) (by decide)) (by decide)) (by decide)) ?_
  intro T X
  refine own_ifN X 7 own_d15_4 rfl (XT.i0_ne_f (by decide)) ?_
  refine own_aloadN X 8 (.ref a) own_d15_7 rfl rfl rfl ?_
  refine own_instNo X 11 own_d15_8 rfl (hw _ (List.mem_of_getElem? (i := 101) rfl)) Ea (own_NS_no (hw _ (List.mem_of_getElem? (i := 97) rfl)) (hw _ (List.mem_of_getElem? (i := 152) rfl)) (NS.step (hw _ (List.mem_of_getElem? (i := 97) rfl)) (NS.step (hw _ (List.mem_of_getElem? (i := 98) rfl)) (NS.step (hw _ (List.mem_of_getElem? (i := 99) rfl)) (own_NS_root (hw _ (List.mem_of_getElem? (i := 100) rfl)) (hw _ (List.mem_of_getElem? (i := 152) rfl)) (by decide)) (by decide)) (by decide)) (by decide)) (by decide)) ?_
  intro T X
  refine own_ifY X 31 own_d15_11 (by decide) (by decide) (XT.i0_eq_t rfl) ?_
  refine own_aloadN X 32 (.ref a) own_d15_31 rfl rfl rfl ?_
  refine own_callI X 37 [] [] own_d15_32 rfl (hw _ (List.mem_of_getElem? (i := 102) rfl)) (hw _ (List.mem_of_getElem? (i := 103) rfl)) (hw _ (List.mem_of_getElem? (i := 104) rfl)) (by first | rfl | decide) (hw _ (List.mem_of_getElem? (i := 105) rfl)) (hw _ (List.mem_of_getElem? (i := 106) rfl)) (hw _ (List.mem_of_getElem? (i := 107) rfl)) (hw _ (List.mem_of_getElem? (i := 108) rfl)) (hw _ (List.mem_of_getElem? (i := 109) rfl)) (hw _ (List.mem_of_getElem? (i := 24) rfl)) (hw _ (List.mem_of_getElem? (i := 110) rfl)) (by decide) Ea (own_isEmpty l Z a0 hw a (((0 + 1) + 1) + 1) h0 n0 X.sz Fs) (fun _ _ q => Nat.le_of_eq (congrArg Array.size q.1.symm)) rfl own_pd12 rfl rfl rfl (by decide) (Nat.le_of_ble_eq_true rfl) (by decide) (by decide) ?_
  rintro v32 T h_ X ⟨eh_, rfl⟩
  rw [eh_] at X
  show own_Ends p e below _ (T.setTop (mkF m 37 #[.val (.ref a), .unset] [(.int (own_emp (((0 + 1) + 1) + 1)))]))
  rw [show own_emp (((0 + 1) + 1) + 1) = (0 : Int32) from by decide]
  refine own_ifY X 44 own_d15_37 (by decide) (by decide) (XT.i0_eq_t rfl) ?_
  refine own_aloadN X 45 (.ref a) own_d15_44 rfl rfl rfl ?_
  refine own_callI X 50 [] [] own_d15_45 rfl (hw _ (List.mem_of_getElem? (i := 111) rfl)) (hw _ (List.mem_of_getElem? (i := 112) rfl)) (hw _ (List.mem_of_getElem? (i := 113) rfl)) (by first | rfl | decide) (hw _ (List.mem_of_getElem? (i := 114) rfl)) (hw _ (List.mem_of_getElem? (i := 115) rfl)) (hw _ (List.mem_of_getElem? (i := 116) rfl)) (hw _ (List.mem_of_getElem? (i := 117) rfl)) (hw _ (List.mem_of_getElem? (i := 109) rfl)) (hw _ (List.mem_of_getElem? (i := 24) rfl)) (hw _ (List.mem_of_getElem? (i := 118) rfl)) (by decide) Ea (own_toArr_3 l Z a0 hw a ei ka mr b h0 n0 X.sz Fs Fe Ab Eb Ie (by omega) (by omega) hmr) (fun _ _ q => q.1.1) rfl own_pd3 rfl rfl rfl (by decide) (Nat.le_of_ble_eq_true rfl) (by decide) (by decide) ?_
  rintro v45 T h2 X ⟨K_, b1, kb_b1, rfl, lo_b1, hi_b1, A_b1⟩
  have zs_h2 : h0.size ≤ h2.size := K_.1
  have OL := OL.keep K_ all0
  have K0 := K0.trans K_ all0
  have Fs := Fs.keep K_ nin0
  have Ea := Ea.keep K_
  have Fe := Fe.keep K_ nin0
  have Ab := Ab.keep K_ nin0
  have Eb := Eb.keep K_
  have Ie := own_Ins_keep Ie K_
  show own_Ends p e below _ (T.setTop (mkF m 50 #[.val (.ref a), .unset] [(.ref b1)]))
  refine own_callS X 53 [(.ref b1)] [] own_d15_50 rfl (hw _ (List.mem_of_getElem? (i := 141) rfl)) (hw _ (List.mem_of_getElem? (i := 142) rfl)) (hw _ (List.mem_of_getElem? (i := 90) rfl)) (hw _ (List.mem_of_getElem? (i := 143) rfl)) (by decide) (own_listof_3 l Z a0 hw b1 ei kb_b1 em h2 n0 X.sz A_b1 Ie (by omega) (by omega) OL z_em) (fun _ _ q => q.1.1) rfl own_pd11 rfl rfl rfl (by decide) (Nat.le_of_ble_eq_true rfl) (by decide) (by decide) ?_
  rintro v50 T h4 X ⟨K_, L3, rfl, lo_L3, hi_L3, E_L3, c_L3, kc_L3, F_el_L3, loc_L3, hic_L3, A_L3⟩
  have zs_h4 : h2.size ≤ h4.size := K_.1
  have OL := OL.keep K_ all0
  have K0 := K0.trans K_ all0
  have Fs := Fs.keep K_ nin0
  have Ea := Ea.keep K_
  have Fe := Fe.keep K_ nin0
  have Ab := Ab.keep K_ nin0
  have Eb := Eb.keep K_
  have Ie := own_Ins_keep Ie K_
  have A_b1 := A_b1.keep K_ nin0
  show own_Ends p e below _ (T.setTop (mkF m 53 #[.val (.ref a), .unset] [(.ref L3)]))
  exact own_retA X (.object "java/util/List") own_d15_53 rfl rfl rfl rfl (by decide) (by decide) (⟨K0, L3, rfl, by omega, E_L3.lt, E_L3, c_L3, kc_L3, F_el_L3, by omega, A_L3.lt, A_L3⟩)
set_option maxRecDepth 65536 in
set_option maxHeartbeats 40000000 in
theorem own_copyOf_3 (l : Launch) (Z : State) (a0 : Array Value) (hw : ∀ d ∈ tables_1, d.before a0 Z = true) (a : Addr) (de : Addr) (kd : ClassId) (el : Addr) (ea : Addr) (ke : ClassId) (em : Addr) (mr : Addr) (ei : Addr) (ka : ClassId) (b : Addr) (h0 : Heap) (n0 : Nat) (hs0 : n0 ≤ h0.size) (OL : Old Z n0 h0) (z_de : Sta Z Z.heap "java/util/ArrayList" "DEFAULTCAPACITY_EMPTY_ELEMENTDATA" "[Ljava/lang/Object;" (.ref de)) (z_dA : own_A Z Z.heap de kd (.object "java/lang/Object") []) (z_el : Sta Z Z.heap "java/util/ImmutableCollections" "EMPTY_LIST" "Ljava/util/ImmutableCollections$ListN;" (.ref el)) (z_eE : Exa Z Z.heap el "java/util/ImmutableCollections$ListN") (z_eF : Fld Z Z.heap el "java/util/ImmutableCollections$ListN" "elements" "[Ljava/lang/Object;" (.ref ea)) (z_eA : own_A Z Z.heap ea ke (.object "java/lang/Object") []) (z_em : Sta Z Z.heap "java/util/ImmutableCollections" "EMPTY" "Ljava/lang/Object;" (.ref em)) (z_mE : Exa Z Z.heap em "java/lang/Object") (hmr : own_Mir Z "[Ljava/lang/Object;" mr) (Fs : Fld Z h0 a "java/util/ArrayList" "size" "I" (.int (((0 + 1) + 1) + 1))) (Ea : Exa Z h0 a "java/util/ArrayList") (Fe : Fld Z h0 a "java/util/ArrayList" "elementData" "[Ljava/lang/Object;" (.ref b)) (Ab : own_A Z h0 b ka (.object "java/lang/Object") [(.ref ei), (.ref ei), (.ref ei), .null, .null, .null, .null, .null, .null, .null]) (Eb : Exa Z h0 b "[Ljava/lang/Object;") (Ie : Ins Z h0 ei "java/lang/Object" true) (he : h0.size > ei) (he0 : n0 ≤ ei) :
    own_Met l (⟨"java/util/List", "copyOf", "(Ljava/util/Collection;)Ljava/util/List;"⟩ : MethodName) jdk_40_method_48_code 1 (some (.object "java/util/List")) ({ frames := 8, cells := 3, slots := 8, locals := 103 } : Room) Z #[(.ref a)] h0 n0 (fun v h' => Keep h0 h' [] ∧ ∃ b, v = some (.ref b) ∧ h0.size ≤ b ∧ h'.size > b ∧ Exa Z h' b "java/util/ImmutableCollections$ListN" ∧ ∃ c kc, Fld Z h' b "java/util/ImmutableCollections$ListN" "elements" "[Ljava/lang/Object;" (.ref c) ∧ h0.size ≤ c ∧ h'.size > c ∧ own_A Z h' c kc (.object "java/lang/Object") [(.ref ei), (.ref ei), (.ref ei)]) := by
  refine own_met (Ls := #[.val (.ref a)]) own_pn14 hs0 (fun m => by first | (simp [entryFrame, mkF, argsToLocals, Value.category]; done) | rfl) ?_
  intro p e s m below meth c T X
  have K0 := Keep.refl h0 []
  have hi_de : n0 > de := (OL.1 ▸ z_dA.lt)
  have hi_el : n0 > el := (OL.1 ▸ z_eE.lt)
  have hi_ea : n0 > ea := (OL.1 ▸ z_eA.lt)
  have hi_em : n0 > em := (OL.1 ▸ z_mE.lt)
  have hi_a : h0.size > a := Fs.lt
  have hi_b : h0.size > b := Ab.lt
  refine own_aloadN X 1 (.ref a) own_d14_0 rfl rfl rfl ?_
  refine own_callS X 4 [(.ref a)] [] own_d14_1 rfl (hw _ (List.mem_of_getElem? (i := 92) rfl)) (hw _ (List.mem_of_getElem? (i := 93) rfl)) (hw _ (List.mem_of_getElem? (i := 94) rfl)) (hw _ (List.mem_of_getElem? (i := 95) rfl)) (by decide) (own_lcopy_3 l Z a0 hw a de kd el ea ke em mr ei ka b h0 n0 X.sz OL z_de z_dA z_el z_eE z_eF z_eA z_em z_mE hmr Fs Ea Fe Ab Eb Ie (by omega) (by omega)) (fun _ _ q => q.1.1) rfl own_pd14 rfl rfl rfl (by decide) (Nat.le_of_ble_eq_true rfl) (by decide) (by decide) ?_
  rintro v1 T h2 X ⟨K_, L1, rfl, lo_L1, hi_L1, E_L1, c_L1, kc_L1, F_el_L1, loc_L1, hic_L1, A_L1⟩
  have zs_h2 : h0.size ≤ h2.size := K_.1
  have OL := OL.keep K_ all0
  have K0 := K0.trans K_ all0
  have Fs := Fs.keep K_ nin0
  have Ea := Ea.keep K_
  have Fe := Fe.keep K_ nin0
  have Ab := Ab.keep K_ nin0
  have Eb := Eb.keep K_
  have Ie := own_Ins_keep Ie K_
  show own_Ends p e below _ (T.setTop (mkF m 4 #[.val (.ref a)] [(.ref L1)]))
  exact own_retA X (.object "java/util/List") own_d14_4 rfl rfl rfl rfl (by decide) (by decide) (⟨K0, L1, rfl, by omega, E_L1.lt, E_L1, c_L1, kc_L1, F_el_L1, by omega, A_L1.lt, A_L1⟩)
set_option maxRecDepth 65536 in
set_option maxHeartbeats 40000000 in
theorem own_crini_3 (l : Launch) (Z : State) (a0 : Array Value) (hw : ∀ d ∈ tables_1, d.before a0 Z = true) (r : Addr) (cv : Int32) (a : Addr) (de : Addr) (kd : ClassId) (el : Addr) (ea : Addr) (ke : ClassId) (em : Addr) (mr : Addr) (ei : Addr) (ka : ClassId) (b : Addr) (h0 : Heap) (n0 : Nat) (hs0 : n0 ≤ h0.size) (OL : Old Z n0 h0) (z_de : Sta Z Z.heap "java/util/ArrayList" "DEFAULTCAPACITY_EMPTY_ELEMENTDATA" "[Ljava/lang/Object;" (.ref de)) (z_dA : own_A Z Z.heap de kd (.object "java/lang/Object") []) (z_el : Sta Z Z.heap "java/util/ImmutableCollections" "EMPTY_LIST" "Ljava/util/ImmutableCollections$ListN;" (.ref el)) (z_eE : Exa Z Z.heap el "java/util/ImmutableCollections$ListN") (z_eF : Fld Z Z.heap el "java/util/ImmutableCollections$ListN" "elements" "[Ljava/lang/Object;" (.ref ea)) (z_eA : own_A Z Z.heap ea ke (.object "java/lang/Object") []) (z_em : Sta Z Z.heap "java/util/ImmutableCollections" "EMPTY" "Ljava/lang/Object;" (.ref em)) (z_mE : Exa Z Z.heap em "java/lang/Object") (hmr : own_Mir Z "[Ljava/lang/Object;" mr) (Fs : Fld Z h0 a "java/util/ArrayList" "size" "I" (.int (((0 + 1) + 1) + 1))) (Ea : Exa Z h0 a "java/util/ArrayList") (Fe : Fld Z h0 a "java/util/ArrayList" "elementData" "[Ljava/lang/Object;" (.ref b)) (Ab : own_A Z h0 b ka (.object "java/lang/Object") [(.ref ei), (.ref ei), (.ref ei), .null, .null, .null, .null, .null, .null, .null]) (Eb : Exa Z h0 b "[Ljava/lang/Object;") (Ie : Ins Z h0 ei "java/lang/Object" true) (he : h0.size > ei) (he0 : n0 ≤ ei) (F0 : Fld Z h0 r "com/example/rosettine/rosettine/model/ConversionReport" "converted" "I" (.int 0)) (F1 : Fld Z h0 r "com/example/rosettine/rosettine/model/ConversionReport" "notConverted" "Ljava/util/List;" .null) (Er : Exa Z h0 r "com/example/rosettine/rosettine/model/ConversionReport") (gr : n0 ≤ r) (nra : @Ne Nat r a) (nrb : @Ne Nat r b) :
    own_Met l (⟨"com/example/rosettine/rosettine/model/ConversionReport", "<init>", "(ILjava/util/List;)V"⟩ : MethodName) prog_10_method_1_code 3 none ({ frames := 9, cells := 3, slots := 8, locals := 115 } : Room) Z #[(.ref r), (.int cv), (.ref a)] h0 n0 (fun v h' => Keep h0 h' [r] ∧ v = none ∧ Fld Z h' r "com/example/rosettine/rosettine/model/ConversionReport" "converted" "I" (.int cv) ∧ ∃ b, Fld Z h' r "com/example/rosettine/rosettine/model/ConversionReport" "notConverted" "Ljava/util/List;" (.ref b) ∧ h0.size ≤ b ∧ h'.size > b ∧ Exa Z h' b "java/util/ImmutableCollections$ListN" ∧ ∃ c kc, Fld Z h' b "java/util/ImmutableCollections$ListN" "elements" "[Ljava/lang/Object;" (.ref c) ∧ h0.size ≤ c ∧ h'.size > c ∧ own_A Z h' c kc (.object "java/lang/Object") [(.ref ei), (.ref ei), (.ref ei)]) := by
  refine own_met (Ls := #[.val (.ref r), .val (.int cv), .val (.ref a)]) own_pn13 hs0 (fun m => by first | (simp [entryFrame, mkF, argsToLocals, Value.category]; done) | rfl) ?_
  intro p e s m below meth c T X
  have K0 := Keep.refl h0 [r]
  have hi_de : n0 > de := (OL.1 ▸ z_dA.lt)
  have hi_el : n0 > el := (OL.1 ▸ z_eE.lt)
  have hi_ea : n0 > ea := (OL.1 ▸ z_eA.lt)
  have hi_em : n0 > em := (OL.1 ▸ z_mE.lt)
  have hi_a : h0.size > a := Fs.lt
  have hi_b : h0.size > b := Ab.lt
  have hi_r : h0.size > r := F0.lt
  refine own_aloadN X 1 (.ref r) own_d13_0 rfl rfl rfl ?_
  refine own_init X 4 [] [] own_d13_1 rfl (hw _ (List.mem_of_getElem? (i := 87) rfl)) (hw _ (List.mem_of_getElem? (i := 7) rfl)) (hw _ (List.mem_of_getElem? (i := 9) rfl)) (hw _ (List.mem_of_getElem? (i := 10) rfl)) (by decide) rfl (own_rec l Z a0 hw r h0 n0 X.sz) (fun _ _ q => Nat.le_of_eq (congrArg Array.size q.1.symm)) rfl own_pd0 rfl rfl rfl (by decide) (Nat.le_of_ble_eq_true rfl) (by decide) (by decide) ?_
  rintro v1 T h_ X ⟨eh_, rfl⟩
  rw [eh_] at X
  show own_Ends p e below _ (T.setTop (mkF m 4 #[.val (.ref r), .val (.int cv), .val (.ref a)] []))
  refine own_aloadN X 5 (.ref a) own_d13_4 rfl rfl rfl ?_
  refine own_callS X 8 [(.ref a)] [] own_d13_5 rfl (hw _ (List.mem_of_getElem? (i := 88) rfl)) (hw _ (List.mem_of_getElem? (i := 89) rfl)) (hw _ (List.mem_of_getElem? (i := 90) rfl)) (hw _ (List.mem_of_getElem? (i := 91) rfl)) (by decide) (own_copyOf_3 l Z a0 hw a de kd el ea ke em mr ei ka b h0 n0 X.sz OL z_de z_dA z_el z_eE z_eF z_eA z_em z_mE hmr Fs Ea Fe Ab Eb Ie (by omega) (by omega)) (fun _ _ q => q.1.1) rfl own_pd14 rfl rfl rfl (by decide) (Nat.le_of_ble_eq_true rfl) (by decide) (by decide) ?_
  rintro v5 T h2 X ⟨K_, L1, rfl, lo_L1, hi_L1, E_L1, c_L1, kc_L1, F_el_L1, loc_L1, hic_L1, A_L1⟩
  have zs_h2 : h0.size ≤ h2.size := K_.1
  have OL := OL.keep K_ all0
  have K0 := K0.trans K_ all0
  have Fs := Fs.keep K_ nin0
  have Ea := Ea.keep K_
  have Fe := Fe.keep K_ nin0
  have Ab := Ab.keep K_ nin0
  have Eb := Eb.keep K_
  have Ie := own_Ins_keep Ie K_
  have F0 := F0.keep K_ nin0
  have F1 := F1.keep K_ nin0
  have Er := Er.keep K_
  show own_Ends p e below _ (T.setTop (mkF m 8 #[.val (.ref r), .val (.int cv), .val (.ref a)] [(.ref L1)]))
  refine own_astoreN X 9 #[.val (.ref r), .val (.int cv), .val (.ref L1)] own_d13_8 rfl rfl rfl ?_
  refine own_aloadN X 10 (.ref r) own_d13_9 rfl rfl rfl ?_
  refine own_iloadN X 11 cv own_d13_10 rfl rfl ?_
  refine own_putF X 14 .int own_d13_11 rfl (hw _ (List.mem_of_getElem? (i := 176) rfl)) Via.refl F0 Er (Or.inr ⟨(hw _ (List.mem_of_getElem? (i := 177) rfl)), rfl, rfl⟩) (hw _ (List.mem_of_getElem? (i := 82) rfl)) (by decide) rfl rfl (by omega) ?_
  intro T h3 X W_h3
  have nw_h3 := Fld.same W_h3 F0
  have zs_h3 : h2.size ≤ h3.size := (Nat.le_of_eq W_h3.size.symm)
  have OL := OL.wr W_h3 (by omega)
  have K0 := K0.wr W_h3 (Or.inl (by simp))
  have Fs := Fld.other W_h3 Fs (Or.inl (by show @Ne Nat _ _; omega))
  have Ea := Exa.wr W_h3 Ea
  have Fe := Fld.other W_h3 Fe (Or.inl (by show @Ne Nat _ _; omega))
  have Ab := Ab.other W_h3 (by show @Ne Nat _ _; omega)
  have Eb := Exa.wr W_h3 Eb
  have Ie := Ins.wr W_h3 Ie
  have F1 := Fld.other W_h3 F1 (Or.inr (slot_ne (Or.inr (hw _ (List.mem_of_getElem? (i := 179) rfl))) (Or.inr (hw _ (List.mem_of_getElem? (i := 177) rfl))) (by decide) (t := (.object "java/util/List")) (t' := .int) (by decide) (by decide)))
  have Er := Exa.wr W_h3 Er
  have E_L1 := Exa.wr W_h3 E_L1
  have F_el_L1 := Fld.other W_h3 F_el_L1 (Or.inl (by show @Ne Nat _ _; omega))
  have A_L1 := A_L1.other W_h3 (by show @Ne Nat _ _; omega)
  have F0 := nw_h3
  refine own_aloadN X 15 (.ref r) own_d13_14 rfl rfl rfl ?_
  refine own_aloadN X 16 (.ref L1) own_d13_15 rfl rfl rfl ?_
  refine own_putF X 19 (.object "java/util/List") own_d13_16 rfl (hw _ (List.mem_of_getElem? (i := 178) rfl)) Via.refl F1 Er (Or.inr ⟨(hw _ (List.mem_of_getElem? (i := 179) rfl)), rfl, rfl⟩) (hw _ (List.mem_of_getElem? (i := 82) rfl)) (by decide) rfl rfl (by omega) ?_
  intro T h4 X W_h4
  have nw_h4 := Fld.same W_h4 F1
  have zs_h4 : h3.size ≤ h4.size := (Nat.le_of_eq W_h4.size.symm)
  have OL := OL.wr W_h4 (by omega)
  have K0 := K0.wr W_h4 (Or.inl (by simp))
  have Fs := Fld.other W_h4 Fs (Or.inl (by show @Ne Nat _ _; omega))
  have Ea := Exa.wr W_h4 Ea
  have Fe := Fld.other W_h4 Fe (Or.inl (by show @Ne Nat _ _; omega))
  have Ab := Ab.other W_h4 (by show @Ne Nat _ _; omega)
  have Eb := Exa.wr W_h4 Eb
  have Ie := Ins.wr W_h4 Ie
  have Er := Exa.wr W_h4 Er
  have E_L1 := Exa.wr W_h4 E_L1
  have F_el_L1 := Fld.other W_h4 F_el_L1 (Or.inl (by show @Ne Nat _ _; omega))
  have A_L1 := A_L1.other W_h4 (by show @Ne Nat _ _; omega)
  have F0 := Fld.other W_h4 F0 (Or.inr (slot_ne (Or.inr (hw _ (List.mem_of_getElem? (i := 177) rfl))) (Or.inr (hw _ (List.mem_of_getElem? (i := 179) rfl))) (by decide) (t := .int) (t' := (.object "java/util/List")) (by decide) (by decide)))
  have F1 := nw_h4
  exact own_retV X own_d13_19 rfl (by decide) (by decide) (⟨K0, rfl, F0, L1, F1, by omega, E_L1.lt, E_L1, c_L1, kc_L1, F_el_L1, by omega, A_L1.lt, A_L1⟩)
set_option maxRecDepth 65536 in
set_option maxHeartbeats 40000000 in
theorem own_lsize_3 (l : Launch) (Z : State) (a0 : Array Value) (hw : ∀ d ∈ tables_1, d.before a0 Z = true) (b : Addr) (em : Addr) (ei : Addr) (cc : Addr) (kc : ClassId) (el : Addr) (ea : Addr) (ke : ClassId) (h0 : Heap) (n0 : Nat) (hs0 : n0 ≤ h0.size) (OL : Old Z n0 h0) (Eb : Exa Z h0 b "java/util/ImmutableCollections$ListN") (Fb : Fld Z h0 b "java/util/ImmutableCollections$ListN" "elements" "[Ljava/lang/Object;" (.ref cc)) (Ac : own_A Z h0 cc kc (.object "java/lang/Object") [(.ref ei), (.ref ei), (.ref ei)]) :
    own_Met l (⟨"java/util/ImmutableCollections$ListN", "size", "()I"⟩ : MethodName) jdk_45_method_3_code 1 (some .int) ({ frames := 0, cells := 0, slots := 0, locals := 0 } : Room) Z #[(.ref b)] h0 n0 (fun v h' => h' = h0 ∧ v = some (.int 3)) := by
  refine own_met (Ls := #[.val (.ref b)]) own_pn28 hs0 (fun m => by first | (simp [entryFrame, mkF, argsToLocals, Value.category]; done) | rfl) ?_
  intro p e s m below meth c T X
  have hi_b : h0.size > b := Eb.lt
  have hi_cc : h0.size > cc := Ac.lt
  refine own_aloadN X 1 (.ref b) own_d28_0 rfl rfl rfl ?_
  refine own_getF X 4 own_d28_1 rfl (hw _ (List.mem_of_getElem? (i := 172) rfl)) Via.refl Fb ?_
  intro T X
  refine own_len X 5 (3 : Int32) own_d28_4 rfl Ac rfl ?_
  exact own_retI X own_d28_5 rfl (by decide) (by decide) (⟨rfl, rfl⟩)
set_option maxRecDepth 65536 in
set_option maxHeartbeats 40000000 in
theorem own_entries_3 (l : Launch) (Z : State) (a0 : Array Value) (hw : ∀ d ∈ tables_1, d.before a0 Z = true) (r : Addr) (cv : Int32) (b : Addr) (em : Addr) (ei : Addr) (cc : Addr) (kc : ClassId) (el : Addr) (ea : Addr) (ke : ClassId) (h0 : Heap) (n0 : Nat) (hs0 : n0 ≤ h0.size) (Fc : Fld Z h0 r "com/example/rosettine/rosettine/model/ConversionReport" "converted" "I" (.int cv)) (Fn : Fld Z h0 r "com/example/rosettine/rosettine/model/ConversionReport" "notConverted" "Ljava/util/List;" (.ref b)) (OL : Old Z n0 h0) (Eb : Exa Z h0 b "java/util/ImmutableCollections$ListN") (Fb : Fld Z h0 b "java/util/ImmutableCollections$ListN" "elements" "[Ljava/lang/Object;" (.ref cc)) (Ac : own_A Z h0 cc kc (.object "java/lang/Object") [(.ref ei), (.ref ei), (.ref ei)]) :
    own_Met l (⟨"com/example/rosettine/rosettine/model/ConversionReport", "entries", "()I"⟩ : MethodName) prog_10_method_2_code 1 (some .int) ({ frames := 1, cells := 0, slots := 0, locals := 13 } : Room) Z #[(.ref r)] h0 n0 (fun v h' => h' = h0 ∧ v = some (.int (cv + 3))) := by
  refine own_met (Ls := #[.val (.ref r)]) own_pn27 hs0 (fun m => by first | (simp [entryFrame, mkF, argsToLocals, Value.category]; done) | rfl) ?_
  intro p e s m below meth c T X
  have hi_b : h0.size > b := Eb.lt
  have hi_cc : h0.size > cc := Ac.lt
  have hi_r : h0.size > r := Fc.lt
  refine own_aloadN X 1 (.ref r) own_d27_0 rfl rfl rfl ?_
  refine own_getF X 4 own_d27_1 rfl (hw _ (List.mem_of_getElem? (i := 176) rfl)) Via.refl Fc ?_
  intro T X
  refine own_aloadN X 5 (.ref r) own_d27_4 rfl rfl rfl ?_
  refine own_getF X 8 own_d27_5 rfl (hw _ (List.mem_of_getElem? (i := 178) rfl)) Via.refl Fn ?_
  intro T X
  refine own_callI X 13 [] [(.int cv)] own_d27_8 rfl (hw _ (List.mem_of_getElem? (i := 185) rfl)) (hw _ (List.mem_of_getElem? (i := 186) rfl)) (hw _ (List.mem_of_getElem? (i := 187) rfl)) (by first | rfl | decide) (hw _ (List.mem_of_getElem? (i := 188) rfl)) (hw _ (List.mem_of_getElem? (i := 189) rfl)) (hw _ (List.mem_of_getElem? (i := 190) rfl)) (hw _ (List.mem_of_getElem? (i := 191) rfl)) (hw _ (List.mem_of_getElem? (i := 192) rfl)) (hw _ (List.mem_of_getElem? (i := 153) rfl)) (hw _ (List.mem_of_getElem? (i := 193) rfl)) (by decide) Eb (own_lsize_3 l Z a0 hw b em ei cc kc el ea ke h0 n0 X.sz OL Eb Fb Ac) (fun _ _ q => Nat.le_of_eq (congrArg Array.size q.1.symm)) rfl own_pd15 rfl rfl rfl (by decide) (Nat.le_of_ble_eq_true rfl) (by decide) (by decide) ?_
  rintro v8 T h_ X ⟨eh_, rfl⟩
  rw [eh_] at X
  show own_Ends p e below _ (T.setTop (mkF m 13 #[.val (.ref r)] [(.int 3), (.int cv)]))
  refine own_iadd X 14 own_d27_13 rfl ?_
  exact own_retI X own_d27_14 rfl (by decide) (by decide) (⟨rfl, rfl⟩)
theorem own_d7_0 : decode method_2_code 0 = .ok (.iload_n 2, 1) := by decide +kernel
theorem own_d7_1 : decode method_2_code 1 = .ok (.iconst 1, 1) := by decide +kernel
theorem own_d7_2 : decode method_2_code 2 = .ok (.if_icmp .lt 9, 3) := by decide +kernel
theorem own_d7_11 : decode method_2_code 11 = .ok (.iload_n 2, 1) := by decide +kernel
theorem own_d7_12 : decode method_2_code 12 = .ok (.iconst 2, 1) := by decide +kernel
theorem own_d7_13 : decode method_2_code 13 = .ok (.if_icmp .lt 9, 3) := by decide +kernel
theorem own_d7_22 : decode method_2_code 22 = .ok (.iload_n 2, 1) := by decide +kernel
theorem own_d7_23 : decode method_2_code 23 = .ok (.iconst 3, 1) := by decide +kernel
theorem own_d7_24 : decode method_2_code 24 = .ok (.if_icmp .lt 9, 3) := by decide +kernel
theorem own_d7_33 : decode method_2_code 33 = .ok (.return_, 1) := by decide +kernel
theorem own_pn7 : plainFor (⟨"com/example/rosettine/rosettine/model/ConversionReportEntriesPinLaw", "addUpTo", "(Ljava/util/ArrayList;Lcom/example/rosettine/rosettine/model/ConversionReport$NotConverted;I)V"⟩ : MethodName) = true := plainFor_of_name (by first | (simp [plainName, overriddenIn]; done) | decide +kernel)
set_option maxRecDepth 65536 in
set_option maxHeartbeats 40000000 in
theorem own_upto_0_0 (l : Launch) (Z : State) (a0 : Array Value) (hw : ∀ d ∈ tables_1, d.before a0 Z = true) (a : Addr) (ei : Addr) (nn : Int32) (de : Addr) (kd : ClassId) (mc : Int32) (h0 : Heap) (n0 : Nat) (hs0 : n0 ≤ h0.size) (OL : Old Z n0 h0) (z_de : Sta Z Z.heap "java/util/ArrayList" "DEFAULTCAPACITY_EMPTY_ELEMENTDATA" "[Ljava/lang/Object;" (.ref de)) (z_dA : own_A Z Z.heap de kd (.object "java/lang/Object") []) (Fm : Fld Z h0 a "java/util/AbstractList" "modCount" "I" (.int mc)) (Fs : Fld Z h0 a "java/util/ArrayList" "size" "I" (.int 0)) (Fe : Fld Z h0 a "java/util/ArrayList" "elementData" "[Ljava/lang/Object;" (.ref de)) (Ea : Exa Z h0 a "java/util/ArrayList") (ga : n0 ≤ a) (Ie : Ins Z h0 ei "java/lang/Object" true) (he : h0.size > ei) (nea : @Ne Nat ei a) (hnn : nn = 0) :
    own_Met l (⟨"com/example/rosettine/rosettine/model/ConversionReportEntriesPinLaw", "addUpTo", "(Ljava/util/ArrayList;Lcom/example/rosettine/rosettine/model/ConversionReport$NotConverted;I)V"⟩ : MethodName) method_2_code 3 none ({ frames := 0, cells := 0, slots := 0, locals := 0 } : Room) Z #[(.ref a), (.ref ei), (.int nn)] h0 n0 (fun v h' => Keep h0 h' [a] ∧ v = none ∧ Fld Z h' a "java/util/AbstractList" "modCount" "I" (.int mc) ∧ Fld Z h' a "java/util/ArrayList" "size" "I" (.int 0) ∧ Fld Z h' a "java/util/ArrayList" "elementData" "[Ljava/lang/Object;" (.ref de)) := by
  refine own_met (Ls := #[.val (.ref a), .val (.ref ei), .val (.int nn)]) own_pn7 hs0 (fun m => by first | (simp [entryFrame, mkF, argsToLocals, Value.category]; done) | rfl) ?_
  intro p e s m below meth c T X
  have K0 := Keep.refl h0 [a]
  have hi_de : n0 > de := (OL.1 ▸ z_dA.lt)
  have hi_a : h0.size > a := Fm.lt
  subst hnn
  refine own_iloadN X 1 (0 : Int32) own_d7_0 rfl rfl ?_
  refine own_iconst X 2 (1 : Int32) own_d7_1 rfl rfl ?_
  refine own_icY X 11 own_d7_2 (by decide) (by decide) (XT.ii_lt_t (by decide)) ?_
  refine own_iloadN X 12 (0 : Int32) own_d7_11 rfl rfl ?_
  refine own_iconst X 13 (2 : Int32) own_d7_12 rfl rfl ?_
  refine own_icY X 22 own_d7_13 (by decide) (by decide) (XT.ii_lt_t (by decide)) ?_
  refine own_iloadN X 23 (0 : Int32) own_d7_22 rfl rfl ?_
  refine own_iconst X 24 (3 : Int32) own_d7_23 rfl rfl ?_
  refine own_icY X 33 own_d7_24 (by decide) (by decide) (XT.ii_lt_t (by decide)) ?_
  exact own_retV X own_d7_33 rfl (by decide) (by decide) (⟨K0, rfl, Fm, Fs, Fe⟩)
theorem own_d7_5 : decode method_2_code 5 = .ok (.aload_n 0, 1) := by decide +kernel
theorem own_d7_6 : decode method_2_code 6 = .ok (.aload_n 1, 1) := by decide +kernel
theorem own_d7_7 : decode method_2_code 7 = .ok (.invokevirtual 7, 3) := by decide +kernel
theorem own_pd16 : parseMethodDescriptor "(Ljava/lang/Object;)Z" = some ⟨[(.object "java/lang/Object")], some .boolean⟩ := by decide +kernel
theorem own_d7_10 : decode method_2_code 10 = .ok (.pop, 1) := by decide +kernel
set_option maxRecDepth 65536 in
set_option maxHeartbeats 40000000 in
theorem own_upto_0_1 (l : Launch) (Z : State) (a0 : Array Value) (hw : ∀ d ∈ tables_1, d.before a0 Z = true) (a : Addr) (ei : Addr) (nn : Int32) (de : Addr) (kd : ClassId) (mc : Int32) (h0 : Heap) (n0 : Nat) (hs0 : n0 ≤ h0.size) (OL : Old Z n0 h0) (z_de : Sta Z Z.heap "java/util/ArrayList" "DEFAULTCAPACITY_EMPTY_ELEMENTDATA" "[Ljava/lang/Object;" (.ref de)) (z_dA : own_A Z Z.heap de kd (.object "java/lang/Object") []) (Fm : Fld Z h0 a "java/util/AbstractList" "modCount" "I" (.int mc)) (Fs : Fld Z h0 a "java/util/ArrayList" "size" "I" (.int 0)) (Fe : Fld Z h0 a "java/util/ArrayList" "elementData" "[Ljava/lang/Object;" (.ref de)) (Ea : Exa Z h0 a "java/util/ArrayList") (ga : n0 ≤ a) (Ie : Ins Z h0 ei "java/lang/Object" true) (he : h0.size > ei) (nea : @Ne Nat ei a) (hnn : nn = 1) :
    own_Met l (⟨"com/example/rosettine/rosettine/model/ConversionReportEntriesPinLaw", "addUpTo", "(Ljava/util/ArrayList;Lcom/example/rosettine/rosettine/model/ConversionReport$NotConverted;I)V"⟩ : MethodName) method_2_code 3 none ({ frames := 5, cells := 1, slots := 10, locals := 69 } : Room) Z #[(.ref a), (.ref ei), (.int nn)] h0 n0 (fun v h' => Keep h0 h' [a] ∧ v = none ∧ Fld Z h' a "java/util/AbstractList" "modCount" "I" (.int (mc + 1)) ∧ Fld Z h' a "java/util/ArrayList" "size" "I" (.int (0 + 1)) ∧ ∃ b ka, Fld Z h' a "java/util/ArrayList" "elementData" "[Ljava/lang/Object;" (.ref b) ∧ h0.size ≤ b ∧ h'.size > b ∧ own_A Z h' b ka (.object "java/lang/Object") ((List.replicate 10 .null).set 0 (.ref ei)) ∧ Ovr Z ka "java/lang/Object" ∧ Exa Z h' b "[Ljava/lang/Object;") := by
  refine own_met (Ls := #[.val (.ref a), .val (.ref ei), .val (.int nn)]) own_pn7 hs0 (fun m => by first | (simp [entryFrame, mkF, argsToLocals, Value.category]; done) | rfl) ?_
  intro p e s m below meth c T X
  have K0 := Keep.refl h0 [a]
  have hi_de : n0 > de := (OL.1 ▸ z_dA.lt)
  have hi_a : h0.size > a := Fm.lt
  subst hnn
  refine own_iloadN X 1 (1 : Int32) own_d7_0 rfl rfl ?_
  refine own_iconst X 2 (1 : Int32) own_d7_1 rfl rfl ?_
  refine own_icN X 5 own_d7_2 rfl (XT.ii_lt_f (by decide)) ?_
  refine own_aloadN X 6 (.ref a) own_d7_5 rfl rfl rfl ?_
  refine own_aloadN X 7 (.ref ei) own_d7_6 rfl rfl rfl ?_
  refine own_callV X 10 [(.ref ei)] [] own_d7_7 rfl (hw _ (List.mem_of_getElem? (i := 50) rfl)) (hw _ (List.mem_of_getElem? (i := 51) rfl)) (own_nf X.2.2.2.2.1 (hw _ (List.mem_of_getElem? (i := 53) rfl))) (hw _ (List.mem_of_getElem? (i := 53) rfl)) (hw _ (List.mem_of_getElem? (i := 52) rfl)) (hw _ (List.mem_of_getElem? (i := 24) rfl)) (hw _ (List.mem_of_getElem? (i := 54) rfl)) (by decide) Ea (own_add1f l Z a0 hw a ei de kd mc h0 n0 X.sz OL z_de z_dA Fm Fs Fe Ea (by omega) Ie) (fun _ _ q => q.1.1) rfl own_pd16 rfl rfl rfl (by decide) (Nat.le_of_ble_eq_true rfl) (by decide) (by decide) ?_
  rintro v7 T h2 X ⟨K_, rfl, b1, kc_b1, lo_b1, hi_b1, A_b1, O_b1, C_b1, Fm_, Fs_, Fe_⟩
  have zs_h2 : h0.size ≤ h2.size := K_.1
  have OL := OL.keep K_ (allS (by omega) all0)
  have Ea := Ea.keep K_
  have Ie := own_Ins_keep Ie K_
  have K0 := K0.trans K_ (allS (Or.inl (by simp)) all0)
  have F_modCount_a := Fm_
  have F_size_a := Fs_
  have F_elementData_a := Fe_
  show own_Ends p e below _ (T.setTop (mkF m 10 #[.val (.ref a), .val (.ref ei), .val (.int (1 : Int32))] [(.int (1 : Int32))]))
  refine own_pop X 11 own_d7_10 rfl rfl ?_
  refine own_iloadN X 12 (1 : Int32) own_d7_11 rfl rfl ?_
  refine own_iconst X 13 (2 : Int32) own_d7_12 rfl rfl ?_
  refine own_icY X 22 own_d7_13 (by decide) (by decide) (XT.ii_lt_t (by decide)) ?_
  refine own_iloadN X 23 (1 : Int32) own_d7_22 rfl rfl ?_
  refine own_iconst X 24 (3 : Int32) own_d7_23 rfl rfl ?_
  refine own_icY X 33 own_d7_24 (by decide) (by decide) (XT.ii_lt_t (by decide)) ?_
  exact own_retV X own_d7_33 rfl (by decide) (by decide) (⟨K0, rfl, F_modCount_a, F_size_a, b1, kc_b1, F_elementData_a, by omega, A_b1.lt, A_b1, O_b1, C_b1⟩)
theorem own_d7_16 : decode method_2_code 16 = .ok (.aload_n 0, 1) := by decide +kernel
theorem own_d7_17 : decode method_2_code 17 = .ok (.aload_n 1, 1) := by decide +kernel
theorem own_d7_18 : decode method_2_code 18 = .ok (.invokevirtual 7, 3) := by decide +kernel
theorem own_d7_21 : decode method_2_code 21 = .ok (.pop, 1) := by decide +kernel
set_option maxRecDepth 65536 in
set_option maxHeartbeats 40000000 in
theorem own_upto_0_2 (l : Launch) (Z : State) (a0 : Array Value) (hw : ∀ d ∈ tables_1, d.before a0 Z = true) (a : Addr) (ei : Addr) (nn : Int32) (de : Addr) (kd : ClassId) (mc : Int32) (h0 : Heap) (n0 : Nat) (hs0 : n0 ≤ h0.size) (OL : Old Z n0 h0) (z_de : Sta Z Z.heap "java/util/ArrayList" "DEFAULTCAPACITY_EMPTY_ELEMENTDATA" "[Ljava/lang/Object;" (.ref de)) (z_dA : own_A Z Z.heap de kd (.object "java/lang/Object") []) (Fm : Fld Z h0 a "java/util/AbstractList" "modCount" "I" (.int mc)) (Fs : Fld Z h0 a "java/util/ArrayList" "size" "I" (.int 0)) (Fe : Fld Z h0 a "java/util/ArrayList" "elementData" "[Ljava/lang/Object;" (.ref de)) (Ea : Exa Z h0 a "java/util/ArrayList") (ga : n0 ≤ a) (Ie : Ins Z h0 ei "java/lang/Object" true) (he : h0.size > ei) (nea : @Ne Nat ei a) (hnn : nn = 2) :
    own_Met l (⟨"com/example/rosettine/rosettine/model/ConversionReportEntriesPinLaw", "addUpTo", "(Ljava/util/ArrayList;Lcom/example/rosettine/rosettine/model/ConversionReport$NotConverted;I)V"⟩ : MethodName) method_2_code 3 none ({ frames := 5, cells := 1, slots := 10, locals := 69 } : Room) Z #[(.ref a), (.ref ei), (.int nn)] h0 n0 (fun v h' => Keep h0 h' [a] ∧ v = none ∧ Fld Z h' a "java/util/AbstractList" "modCount" "I" (.int ((mc + 1) + 1)) ∧ Fld Z h' a "java/util/ArrayList" "size" "I" (.int ((0 + 1) + 1)) ∧ ∃ b ka, Fld Z h' a "java/util/ArrayList" "elementData" "[Ljava/lang/Object;" (.ref b) ∧ h0.size ≤ b ∧ h'.size > b ∧ own_A Z h' b ka (.object "java/lang/Object") (((List.replicate 10 .null).set 0 (.ref ei)).set 1 (.ref ei)) ∧ Ovr Z ka "java/lang/Object" ∧ Exa Z h' b "[Ljava/lang/Object;") := by
  refine own_met (Ls := #[.val (.ref a), .val (.ref ei), .val (.int nn)]) own_pn7 hs0 (fun m => by first | (simp [entryFrame, mkF, argsToLocals, Value.category]; done) | rfl) ?_
  intro p e s m below meth c T X
  have K0 := Keep.refl h0 [a]
  have hi_de : n0 > de := (OL.1 ▸ z_dA.lt)
  have hi_a : h0.size > a := Fm.lt
  subst hnn
  refine own_iloadN X 1 (2 : Int32) own_d7_0 rfl rfl ?_
  refine own_iconst X 2 (1 : Int32) own_d7_1 rfl rfl ?_
  refine own_icN X 5 own_d7_2 rfl (XT.ii_lt_f (by decide)) ?_
  refine own_aloadN X 6 (.ref a) own_d7_5 rfl rfl rfl ?_
  refine own_aloadN X 7 (.ref ei) own_d7_6 rfl rfl rfl ?_
  refine own_callV X 10 [(.ref ei)] [] own_d7_7 rfl (hw _ (List.mem_of_getElem? (i := 50) rfl)) (hw _ (List.mem_of_getElem? (i := 51) rfl)) (own_nf X.2.2.2.2.1 (hw _ (List.mem_of_getElem? (i := 53) rfl))) (hw _ (List.mem_of_getElem? (i := 53) rfl)) (hw _ (List.mem_of_getElem? (i := 52) rfl)) (hw _ (List.mem_of_getElem? (i := 24) rfl)) (hw _ (List.mem_of_getElem? (i := 54) rfl)) (by decide) Ea (own_add1f l Z a0 hw a ei de kd mc h0 n0 X.sz OL z_de z_dA Fm Fs Fe Ea (by omega) Ie) (fun _ _ q => q.1.1) rfl own_pd16 rfl rfl rfl (by decide) (Nat.le_of_ble_eq_true rfl) (by decide) (by decide) ?_
  rintro v7 T h2 X ⟨K_, rfl, b1, kc_b1, lo_b1, hi_b1, A_b1, O_b1, C_b1, Fm_, Fs_, Fe_⟩
  have zs_h2 : h0.size ≤ h2.size := K_.1
  have OL := OL.keep K_ (allS (by omega) all0)
  have Ea := Ea.keep K_
  have Ie := own_Ins_keep Ie K_
  have K0 := K0.trans K_ (allS (Or.inl (by simp)) all0)
  have F_modCount_a := Fm_
  have F_size_a := Fs_
  have F_elementData_a := Fe_
  show own_Ends p e below _ (T.setTop (mkF m 10 #[.val (.ref a), .val (.ref ei), .val (.int (2 : Int32))] [(.int (1 : Int32))]))
  refine own_pop X 11 own_d7_10 rfl rfl ?_
  refine own_iloadN X 12 (2 : Int32) own_d7_11 rfl rfl ?_
  refine own_iconst X 13 (2 : Int32) own_d7_12 rfl rfl ?_
  refine own_icN X 16 own_d7_13 rfl (XT.ii_lt_f (by decide)) ?_
  refine own_aloadN X 17 (.ref a) own_d7_16 rfl rfl rfl ?_
  refine own_aloadN X 18 (.ref ei) own_d7_17 rfl rfl rfl ?_
  refine own_callV X 21 [(.ref ei)] [] own_d7_18 rfl (hw _ (List.mem_of_getElem? (i := 50) rfl)) (hw _ (List.mem_of_getElem? (i := 51) rfl)) (own_nf X.2.2.2.2.1 (hw _ (List.mem_of_getElem? (i := 53) rfl))) (hw _ (List.mem_of_getElem? (i := 53) rfl)) (hw _ (List.mem_of_getElem? (i := 52) rfl)) (hw _ (List.mem_of_getElem? (i := 24) rfl)) (hw _ (List.mem_of_getElem? (i := 54) rfl)) (by decide) Ea (own_add1m l Z a0 hw a ei b1 kc_b1 (mc + 1) (0 + 1) ((List.replicate 10 .null).set 0 (.ref ei)) 1 h2 n0 X.sz F_modCount_a F_size_a F_elementData_a Ea (by omega) A_b1 O_b1 (by omega) Ie (by decide) (by decide) (by simp) (by simp only [List.length_set, List.length_replicate]; decide) (by omega)) (fun _ _ q => q.1.1) rfl own_pd16 rfl rfl rfl (by decide) (Nat.le_of_ble_eq_true rfl) (by decide) (by decide) ?_
  rintro v18 T h3 X ⟨K_, rfl, A2_, Fm_, Fs_, Fe_⟩
  have zs_h3 : h2.size ≤ h3.size := K_.1
  have OL := OL.keep K_ (allS (by omega) (allS (by omega) all0))
  have Ea := Ea.keep K_
  have Ie := own_Ins_keep Ie K_
  have K0 := K0.trans K_ (allS (Or.inl (by simp)) (allS (Or.inr (by omega)) all0))
  have C_b1 := C_b1.keep K_
  have A_b1 := A2_
  have F_modCount_a := Fm_
  have F_size_a := Fs_
  have F_elementData_a := Fe_
  show own_Ends p e below _ (T.setTop (mkF m 21 #[.val (.ref a), .val (.ref ei), .val (.int (2 : Int32))] [(.int (1 : Int32))]))
  refine own_pop X 22 own_d7_21 rfl rfl ?_
  refine own_iloadN X 23 (2 : Int32) own_d7_22 rfl rfl ?_
  refine own_iconst X 24 (3 : Int32) own_d7_23 rfl rfl ?_
  refine own_icY X 33 own_d7_24 (by decide) (by decide) (XT.ii_lt_t (by decide)) ?_
  exact own_retV X own_d7_33 rfl (by decide) (by decide) (⟨K0, rfl, F_modCount_a, F_size_a, b1, kc_b1, F_elementData_a, by omega, A_b1.lt, A_b1, O_b1, C_b1⟩)
theorem own_d7_27 : decode method_2_code 27 = .ok (.aload_n 0, 1) := by decide +kernel
theorem own_d7_28 : decode method_2_code 28 = .ok (.aload_n 1, 1) := by decide +kernel
theorem own_d7_29 : decode method_2_code 29 = .ok (.invokevirtual 7, 3) := by decide +kernel
theorem own_d7_32 : decode method_2_code 32 = .ok (.pop, 1) := by decide +kernel
set_option maxRecDepth 65536 in
set_option maxHeartbeats 40000000 in
theorem own_upto_0_3 (l : Launch) (Z : State) (a0 : Array Value) (hw : ∀ d ∈ tables_1, d.before a0 Z = true) (a : Addr) (ei : Addr) (nn : Int32) (de : Addr) (kd : ClassId) (mc : Int32) (h0 : Heap) (n0 : Nat) (hs0 : n0 ≤ h0.size) (OL : Old Z n0 h0) (z_de : Sta Z Z.heap "java/util/ArrayList" "DEFAULTCAPACITY_EMPTY_ELEMENTDATA" "[Ljava/lang/Object;" (.ref de)) (z_dA : own_A Z Z.heap de kd (.object "java/lang/Object") []) (Fm : Fld Z h0 a "java/util/AbstractList" "modCount" "I" (.int mc)) (Fs : Fld Z h0 a "java/util/ArrayList" "size" "I" (.int 0)) (Fe : Fld Z h0 a "java/util/ArrayList" "elementData" "[Ljava/lang/Object;" (.ref de)) (Ea : Exa Z h0 a "java/util/ArrayList") (ga : n0 ≤ a) (Ie : Ins Z h0 ei "java/lang/Object" true) (he : h0.size > ei) (nea : @Ne Nat ei a) (hnn : nn = 3) :
    own_Met l (⟨"com/example/rosettine/rosettine/model/ConversionReportEntriesPinLaw", "addUpTo", "(Ljava/util/ArrayList;Lcom/example/rosettine/rosettine/model/ConversionReport$NotConverted;I)V"⟩ : MethodName) method_2_code 3 none ({ frames := 5, cells := 1, slots := 10, locals := 69 } : Room) Z #[(.ref a), (.ref ei), (.int nn)] h0 n0 (fun v h' => Keep h0 h' [a] ∧ v = none ∧ Fld Z h' a "java/util/AbstractList" "modCount" "I" (.int (((mc + 1) + 1) + 1)) ∧ Fld Z h' a "java/util/ArrayList" "size" "I" (.int (((0 + 1) + 1) + 1)) ∧ ∃ b ka, Fld Z h' a "java/util/ArrayList" "elementData" "[Ljava/lang/Object;" (.ref b) ∧ h0.size ≤ b ∧ h'.size > b ∧ own_A Z h' b ka (.object "java/lang/Object") ((((List.replicate 10 .null).set 0 (.ref ei)).set 1 (.ref ei)).set 2 (.ref ei)) ∧ Ovr Z ka "java/lang/Object" ∧ Exa Z h' b "[Ljava/lang/Object;") := by
  refine own_met (Ls := #[.val (.ref a), .val (.ref ei), .val (.int nn)]) own_pn7 hs0 (fun m => by first | (simp [entryFrame, mkF, argsToLocals, Value.category]; done) | rfl) ?_
  intro p e s m below meth c T X
  have K0 := Keep.refl h0 [a]
  have hi_de : n0 > de := (OL.1 ▸ z_dA.lt)
  have hi_a : h0.size > a := Fm.lt
  subst hnn
  refine own_iloadN X 1 (3 : Int32) own_d7_0 rfl rfl ?_
  refine own_iconst X 2 (1 : Int32) own_d7_1 rfl rfl ?_
  refine own_icN X 5 own_d7_2 rfl (XT.ii_lt_f (by decide)) ?_
  refine own_aloadN X 6 (.ref a) own_d7_5 rfl rfl rfl ?_
  refine own_aloadN X 7 (.ref ei) own_d7_6 rfl rfl rfl ?_
  refine own_callV X 10 [(.ref ei)] [] own_d7_7 rfl (hw _ (List.mem_of_getElem? (i := 50) rfl)) (hw _ (List.mem_of_getElem? (i := 51) rfl)) (own_nf X.2.2.2.2.1 (hw _ (List.mem_of_getElem? (i := 53) rfl))) (hw _ (List.mem_of_getElem? (i := 53) rfl)) (hw _ (List.mem_of_getElem? (i := 52) rfl)) (hw _ (List.mem_of_getElem? (i := 24) rfl)) (hw _ (List.mem_of_getElem? (i := 54) rfl)) (by decide) Ea (own_add1f l Z a0 hw a ei de kd mc h0 n0 X.sz OL z_de z_dA Fm Fs Fe Ea (by omega) Ie) (fun _ _ q => q.1.1) rfl own_pd16 rfl rfl rfl (by decide) (Nat.le_of_ble_eq_true rfl) (by decide) (by decide) ?_
  rintro v7 T h2 X ⟨K_, rfl, b1, kc_b1, lo_b1, hi_b1, A_b1, O_b1, C_b1, Fm_, Fs_, Fe_⟩
  have zs_h2 : h0.size ≤ h2.size := K_.1
  have OL := OL.keep K_ (allS (by omega) all0)
  have Ea := Ea.keep K_
  have Ie := own_Ins_keep Ie K_
  have K0 := K0.trans K_ (allS (Or.inl (by simp)) all0)
  have F_modCount_a := Fm_
  have F_size_a := Fs_
  have F_elementData_a := Fe_
  show own_Ends p e below _ (T.setTop (mkF m 10 #[.val (.ref a), .val (.ref ei), .val (.int (3 : Int32))] [(.int (1 : Int32))]))
  refine own_pop X 11 own_d7_10 rfl rfl ?_
  refine own_iloadN X 12 (3 : Int32) own_d7_11 rfl rfl ?_
  refine own_iconst X 13 (2 : Int32) own_d7_12 rfl rfl ?_
  refine own_icN X 16 own_d7_13 rfl (XT.ii_lt_f (by decide)) ?_
  refine own_aloadN X 17 (.ref a) own_d7_16 rfl rfl rfl ?_
  refine own_aloadN X 18 (.ref ei) own_d7_17 rfl rfl rfl ?_
  refine own_callV X 21 [(.ref ei)] [] own_d7_18 rfl (hw _ (List.mem_of_getElem? (i := 50) rfl)) (hw _ (List.mem_of_getElem? (i := 51) rfl)) (own_nf X.2.2.2.2.1 (hw _ (List.mem_of_getElem? (i := 53) rfl))) (hw _ (List.mem_of_getElem? (i := 53) rfl)) (hw _ (List.mem_of_getElem? (i := 52) rfl)) (hw _ (List.mem_of_getElem? (i := 24) rfl)) (hw _ (List.mem_of_getElem? (i := 54) rfl)) (by decide) Ea (own_add1m l Z a0 hw a ei b1 kc_b1 (mc + 1) (0 + 1) ((List.replicate 10 .null).set 0 (.ref ei)) 1 h2 n0 X.sz F_modCount_a F_size_a F_elementData_a Ea (by omega) A_b1 O_b1 (by omega) Ie (by decide) (by decide) (by simp) (by simp only [List.length_set, List.length_replicate]; decide) (by omega)) (fun _ _ q => q.1.1) rfl own_pd16 rfl rfl rfl (by decide) (Nat.le_of_ble_eq_true rfl) (by decide) (by decide) ?_
  rintro v18 T h3 X ⟨K_, rfl, A2_, Fm_, Fs_, Fe_⟩
  have zs_h3 : h2.size ≤ h3.size := K_.1
  have OL := OL.keep K_ (allS (by omega) (allS (by omega) all0))
  have Ea := Ea.keep K_
  have Ie := own_Ins_keep Ie K_
  have K0 := K0.trans K_ (allS (Or.inl (by simp)) (allS (Or.inr (by omega)) all0))
  have C_b1 := C_b1.keep K_
  have A_b1 := A2_
  have F_modCount_a := Fm_
  have F_size_a := Fs_
  have F_elementData_a := Fe_
  show own_Ends p e below _ (T.setTop (mkF m 21 #[.val (.ref a), .val (.ref ei), .val (.int (3 : Int32))] [(.int (1 : Int32))]))
  refine own_pop X 22 own_d7_21 rfl rfl ?_
  refine own_iloadN X 23 (3 : Int32) own_d7_22 rfl rfl ?_
  refine own_iconst X 24 (3 : Int32) own_d7_23 rfl rfl ?_
  refine own_icN X 27 own_d7_24 rfl (XT.ii_lt_f (by decide)) ?_
  refine own_aloadN X 28 (.ref a) own_d7_27 rfl rfl rfl ?_
  refine own_aloadN X 29 (.ref ei) own_d7_28 rfl rfl rfl ?_
  refine own_callV X 32 [(.ref ei)] [] own_d7_29 rfl (hw _ (List.mem_of_getElem? (i := 50) rfl)) (hw _ (List.mem_of_getElem? (i := 51) rfl)) (own_nf X.2.2.2.2.1 (hw _ (List.mem_of_getElem? (i := 53) rfl))) (hw _ (List.mem_of_getElem? (i := 53) rfl)) (hw _ (List.mem_of_getElem? (i := 52) rfl)) (hw _ (List.mem_of_getElem? (i := 24) rfl)) (hw _ (List.mem_of_getElem? (i := 54) rfl)) (by decide) Ea (own_add1m l Z a0 hw a ei b1 kc_b1 ((mc + 1) + 1) ((0 + 1) + 1) (((List.replicate 10 .null).set 0 (.ref ei)).set 1 (.ref ei)) 2 h3 n0 X.sz F_modCount_a F_size_a F_elementData_a Ea (by omega) A_b1 O_b1 (by omega) Ie (by decide) (by decide) (by simp) (by simp only [List.length_set, List.length_replicate]; decide) (by omega)) (fun _ _ q => q.1.1) rfl own_pd16 rfl rfl rfl (by decide) (Nat.le_of_ble_eq_true rfl) (by decide) (by decide) ?_
  rintro v29 T h4 X ⟨K_, rfl, A2_, Fm_, Fs_, Fe_⟩
  have zs_h4 : h3.size ≤ h4.size := K_.1
  have OL := OL.keep K_ (allS (by omega) (allS (by omega) all0))
  have Ea := Ea.keep K_
  have Ie := own_Ins_keep Ie K_
  have K0 := K0.trans K_ (allS (Or.inl (by simp)) (allS (Or.inr (by omega)) all0))
  have C_b1 := C_b1.keep K_
  have A_b1 := A2_
  have F_modCount_a := Fm_
  have F_size_a := Fs_
  have F_elementData_a := Fe_
  show own_Ends p e below _ (T.setTop (mkF m 32 #[.val (.ref a), .val (.ref ei), .val (.int (3 : Int32))] [(.int (1 : Int32))]))
  refine own_pop X 33 own_d7_32 rfl rfl ?_
  exact own_retV X own_d7_33 rfl (by decide) (by decide) (⟨K0, rfl, F_modCount_a, F_size_a, b1, kc_b1, F_elementData_a, by omega, A_b1.lt, A_b1, O_b1, C_b1⟩)
set_option maxRecDepth 65536 in
set_option maxHeartbeats 40000000 in
theorem own_upto_1_0 (l : Launch) (Z : State) (a0 : Array Value) (hw : ∀ d ∈ tables_1, d.before a0 Z = true) (a : Addr) (ei : Addr) (nn : Int32) (de : Addr) (kd : ClassId) (mc : Int32) (b : Addr) (ka : ClassId) (h0 : Heap) (n0 : Nat) (hs0 : n0 ≤ h0.size) (OL : Old Z n0 h0) (z_de : Sta Z Z.heap "java/util/ArrayList" "DEFAULTCAPACITY_EMPTY_ELEMENTDATA" "[Ljava/lang/Object;" (.ref de)) (z_dA : own_A Z Z.heap de kd (.object "java/lang/Object") []) (Fm : Fld Z h0 a "java/util/AbstractList" "modCount" "I" (.int mc)) (Fs : Fld Z h0 a "java/util/ArrayList" "size" "I" (.int (0 + 1))) (Fe : Fld Z h0 a "java/util/ArrayList" "elementData" "[Ljava/lang/Object;" (.ref b)) (Ea : Exa Z h0 a "java/util/ArrayList") (ga : n0 ≤ a) (Ab : own_A Z h0 b ka (.object "java/lang/Object") ((List.replicate 10 .null).set 0 (.ref ei))) (Ob : Ovr Z ka "java/lang/Object") (Eb : Exa Z h0 b "[Ljava/lang/Object;") (gb : n0 ≤ b) (nab : @Ne Nat a b) (Ie : Ins Z h0 ei "java/lang/Object" true) (he : h0.size > ei) (nea : @Ne Nat ei a) (neb : @Ne Nat ei b) (hnn : nn = 0) :
    own_Met l (⟨"com/example/rosettine/rosettine/model/ConversionReportEntriesPinLaw", "addUpTo", "(Ljava/util/ArrayList;Lcom/example/rosettine/rosettine/model/ConversionReport$NotConverted;I)V"⟩ : MethodName) method_2_code 3 none ({ frames := 0, cells := 0, slots := 0, locals := 0 } : Room) Z #[(.ref a), (.ref ei), (.int nn)] h0 n0 (fun v h' => Keep h0 h' [a, b] ∧ v = none ∧ Fld Z h' a "java/util/AbstractList" "modCount" "I" (.int mc) ∧ Fld Z h' a "java/util/ArrayList" "size" "I" (.int (0 + 1)) ∧ Fld Z h' a "java/util/ArrayList" "elementData" "[Ljava/lang/Object;" (.ref b) ∧ own_A Z h' b ka (.object "java/lang/Object") ((List.replicate 10 .null).set 0 (.ref ei))) := by
  refine own_met (Ls := #[.val (.ref a), .val (.ref ei), .val (.int nn)]) own_pn7 hs0 (fun m => by first | (simp [entryFrame, mkF, argsToLocals, Value.category]; done) | rfl) ?_
  intro p e s m below meth c T X
  have K0 := Keep.refl h0 [a, b]
  have hi_de : n0 > de := (OL.1 ▸ z_dA.lt)
  have hi_a : h0.size > a := Fm.lt
  have hi_b : h0.size > b := Ab.lt
  subst hnn
  refine own_iloadN X 1 (0 : Int32) own_d7_0 rfl rfl ?_
  refine own_iconst X 2 (1 : Int32) own_d7_1 rfl rfl ?_
  refine own_icY X 11 own_d7_2 (by decide) (by decide) (XT.ii_lt_t (by decide)) ?_
  refine own_iloadN X 12 (0 : Int32) own_d7_11 rfl rfl ?_
  refine own_iconst X 13 (2 : Int32) own_d7_12 rfl rfl ?_
  refine own_icY X 22 own_d7_13 (by decide) (by decide) (XT.ii_lt_t (by decide)) ?_
  refine own_iloadN X 23 (0 : Int32) own_d7_22 rfl rfl ?_
  refine own_iconst X 24 (3 : Int32) own_d7_23 rfl rfl ?_
  refine own_icY X 33 own_d7_24 (by decide) (by decide) (XT.ii_lt_t (by decide)) ?_
  exact own_retV X own_d7_33 rfl (by decide) (by decide) (⟨K0, rfl, Fm, Fs, Fe, Ab⟩)
set_option maxRecDepth 65536 in
set_option maxHeartbeats 40000000 in
theorem own_upto_1_1 (l : Launch) (Z : State) (a0 : Array Value) (hw : ∀ d ∈ tables_1, d.before a0 Z = true) (a : Addr) (ei : Addr) (nn : Int32) (de : Addr) (kd : ClassId) (mc : Int32) (b : Addr) (ka : ClassId) (h0 : Heap) (n0 : Nat) (hs0 : n0 ≤ h0.size) (OL : Old Z n0 h0) (z_de : Sta Z Z.heap "java/util/ArrayList" "DEFAULTCAPACITY_EMPTY_ELEMENTDATA" "[Ljava/lang/Object;" (.ref de)) (z_dA : own_A Z Z.heap de kd (.object "java/lang/Object") []) (Fm : Fld Z h0 a "java/util/AbstractList" "modCount" "I" (.int mc)) (Fs : Fld Z h0 a "java/util/ArrayList" "size" "I" (.int (0 + 1))) (Fe : Fld Z h0 a "java/util/ArrayList" "elementData" "[Ljava/lang/Object;" (.ref b)) (Ea : Exa Z h0 a "java/util/ArrayList") (ga : n0 ≤ a) (Ab : own_A Z h0 b ka (.object "java/lang/Object") ((List.replicate 10 .null).set 0 (.ref ei))) (Ob : Ovr Z ka "java/lang/Object") (Eb : Exa Z h0 b "[Ljava/lang/Object;") (gb : n0 ≤ b) (nab : @Ne Nat a b) (Ie : Ins Z h0 ei "java/lang/Object" true) (he : h0.size > ei) (nea : @Ne Nat ei a) (neb : @Ne Nat ei b) (hnn : nn = 1) :
    own_Met l (⟨"com/example/rosettine/rosettine/model/ConversionReportEntriesPinLaw", "addUpTo", "(Ljava/util/ArrayList;Lcom/example/rosettine/rosettine/model/ConversionReport$NotConverted;I)V"⟩ : MethodName) method_2_code 3 none ({ frames := 2, cells := 0, slots := 0, locals := 28 } : Room) Z #[(.ref a), (.ref ei), (.int nn)] h0 n0 (fun v h' => Keep h0 h' [a, b] ∧ v = none ∧ Fld Z h' a "java/util/AbstractList" "modCount" "I" (.int (mc + 1)) ∧ Fld Z h' a "java/util/ArrayList" "size" "I" (.int ((0 + 1) + 1)) ∧ Fld Z h' a "java/util/ArrayList" "elementData" "[Ljava/lang/Object;" (.ref b) ∧ own_A Z h' b ka (.object "java/lang/Object") (((List.replicate 10 .null).set 0 (.ref ei)).set 1 (.ref ei))) := by
  refine own_met (Ls := #[.val (.ref a), .val (.ref ei), .val (.int nn)]) own_pn7 hs0 (fun m => by first | (simp [entryFrame, mkF, argsToLocals, Value.category]; done) | rfl) ?_
  intro p e s m below meth c T X
  have K0 := Keep.refl h0 [a, b]
  have hi_de : n0 > de := (OL.1 ▸ z_dA.lt)
  have hi_a : h0.size > a := Fm.lt
  have hi_b : h0.size > b := Ab.lt
  subst hnn
  refine own_iloadN X 1 (1 : Int32) own_d7_0 rfl rfl ?_
  refine own_iconst X 2 (1 : Int32) own_d7_1 rfl rfl ?_
  refine own_icN X 5 own_d7_2 rfl (XT.ii_lt_f (by decide)) ?_
  refine own_aloadN X 6 (.ref a) own_d7_5 rfl rfl rfl ?_
  refine own_aloadN X 7 (.ref ei) own_d7_6 rfl rfl rfl ?_
  refine own_callV X 10 [(.ref ei)] [] own_d7_7 rfl (hw _ (List.mem_of_getElem? (i := 50) rfl)) (hw _ (List.mem_of_getElem? (i := 51) rfl)) (own_nf X.2.2.2.2.1 (hw _ (List.mem_of_getElem? (i := 53) rfl))) (hw _ (List.mem_of_getElem? (i := 53) rfl)) (hw _ (List.mem_of_getElem? (i := 52) rfl)) (hw _ (List.mem_of_getElem? (i := 24) rfl)) (hw _ (List.mem_of_getElem? (i := 54) rfl)) (by decide) Ea (own_add1m l Z a0 hw a ei b ka mc (0 + 1) ((List.replicate 10 .null).set 0 (.ref ei)) 1 h0 n0 X.sz Fm Fs Fe Ea (by omega) Ab Ob (by omega) Ie (by decide) (by decide) (by simp) (by simp only [List.length_set, List.length_replicate]; decide) (by omega)) (fun _ _ q => q.1.1) rfl own_pd16 rfl rfl rfl (by decide) (Nat.le_of_ble_eq_true rfl) (by decide) (by decide) ?_
  rintro v7 T h1 X ⟨K_, rfl, A2_, Fm_, Fs_, Fe_⟩
  have zs_h1 : h0.size ≤ h1.size := K_.1
  have OL := OL.keep K_ (allS (by omega) (allS (by omega) all0))
  have Ea := Ea.keep K_
  have Ie := own_Ins_keep Ie K_
  have K0 := K0.trans K_ (allS (Or.inl (by simp)) (allS (Or.inl (by simp)) all0))
  have Eb := Eb.keep K_
  have Ab := A2_
  have F_modCount_a := Fm_
  have F_size_a := Fs_
  have F_elementData_a := Fe_
  show own_Ends p e below _ (T.setTop (mkF m 10 #[.val (.ref a), .val (.ref ei), .val (.int (1 : Int32))] [(.int (1 : Int32))]))
  refine own_pop X 11 own_d7_10 rfl rfl ?_
  refine own_iloadN X 12 (1 : Int32) own_d7_11 rfl rfl ?_
  refine own_iconst X 13 (2 : Int32) own_d7_12 rfl rfl ?_
  refine own_icY X 22 own_d7_13 (by decide) (by decide) (XT.ii_lt_t (by decide)) ?_
  refine own_iloadN X 23 (1 : Int32) own_d7_22 rfl rfl ?_
  refine own_iconst X 24 (3 : Int32) own_d7_23 rfl rfl ?_
  refine own_icY X 33 own_d7_24 (by decide) (by decide) (XT.ii_lt_t (by decide)) ?_
  exact own_retV X own_d7_33 rfl (by decide) (by decide) (⟨K0, rfl, F_modCount_a, F_size_a, F_elementData_a, Ab⟩)
set_option maxRecDepth 65536 in
set_option maxHeartbeats 40000000 in
theorem own_upto_1_2 (l : Launch) (Z : State) (a0 : Array Value) (hw : ∀ d ∈ tables_1, d.before a0 Z = true) (a : Addr) (ei : Addr) (nn : Int32) (de : Addr) (kd : ClassId) (mc : Int32) (b : Addr) (ka : ClassId) (h0 : Heap) (n0 : Nat) (hs0 : n0 ≤ h0.size) (OL : Old Z n0 h0) (z_de : Sta Z Z.heap "java/util/ArrayList" "DEFAULTCAPACITY_EMPTY_ELEMENTDATA" "[Ljava/lang/Object;" (.ref de)) (z_dA : own_A Z Z.heap de kd (.object "java/lang/Object") []) (Fm : Fld Z h0 a "java/util/AbstractList" "modCount" "I" (.int mc)) (Fs : Fld Z h0 a "java/util/ArrayList" "size" "I" (.int (0 + 1))) (Fe : Fld Z h0 a "java/util/ArrayList" "elementData" "[Ljava/lang/Object;" (.ref b)) (Ea : Exa Z h0 a "java/util/ArrayList") (ga : n0 ≤ a) (Ab : own_A Z h0 b ka (.object "java/lang/Object") ((List.replicate 10 .null).set 0 (.ref ei))) (Ob : Ovr Z ka "java/lang/Object") (Eb : Exa Z h0 b "[Ljava/lang/Object;") (gb : n0 ≤ b) (nab : @Ne Nat a b) (Ie : Ins Z h0 ei "java/lang/Object" true) (he : h0.size > ei) (nea : @Ne Nat ei a) (neb : @Ne Nat ei b) (hnn : nn = 2) :
    own_Met l (⟨"com/example/rosettine/rosettine/model/ConversionReportEntriesPinLaw", "addUpTo", "(Ljava/util/ArrayList;Lcom/example/rosettine/rosettine/model/ConversionReport$NotConverted;I)V"⟩ : MethodName) method_2_code 3 none ({ frames := 2, cells := 0, slots := 0, locals := 28 } : Room) Z #[(.ref a), (.ref ei), (.int nn)] h0 n0 (fun v h' => Keep h0 h' [a, b] ∧ v = none ∧ Fld Z h' a "java/util/AbstractList" "modCount" "I" (.int ((mc + 1) + 1)) ∧ Fld Z h' a "java/util/ArrayList" "size" "I" (.int (((0 + 1) + 1) + 1)) ∧ Fld Z h' a "java/util/ArrayList" "elementData" "[Ljava/lang/Object;" (.ref b) ∧ own_A Z h' b ka (.object "java/lang/Object") ((((List.replicate 10 .null).set 0 (.ref ei)).set 1 (.ref ei)).set 2 (.ref ei))) := by
  refine own_met (Ls := #[.val (.ref a), .val (.ref ei), .val (.int nn)]) own_pn7 hs0 (fun m => by first | (simp [entryFrame, mkF, argsToLocals, Value.category]; done) | rfl) ?_
  intro p e s m below meth c T X
  have K0 := Keep.refl h0 [a, b]
  have hi_de : n0 > de := (OL.1 ▸ z_dA.lt)
  have hi_a : h0.size > a := Fm.lt
  have hi_b : h0.size > b := Ab.lt
  subst hnn
  refine own_iloadN X 1 (2 : Int32) own_d7_0 rfl rfl ?_
  refine own_iconst X 2 (1 : Int32) own_d7_1 rfl rfl ?_
  refine own_icN X 5 own_d7_2 rfl (XT.ii_lt_f (by decide)) ?_
  refine own_aloadN X 6 (.ref a) own_d7_5 rfl rfl rfl ?_
  refine own_aloadN X 7 (.ref ei) own_d7_6 rfl rfl rfl ?_
  refine own_callV X 10 [(.ref ei)] [] own_d7_7 rfl (hw _ (List.mem_of_getElem? (i := 50) rfl)) (hw _ (List.mem_of_getElem? (i := 51) rfl)) (own_nf X.2.2.2.2.1 (hw _ (List.mem_of_getElem? (i := 53) rfl))) (hw _ (List.mem_of_getElem? (i := 53) rfl)) (hw _ (List.mem_of_getElem? (i := 52) rfl)) (hw _ (List.mem_of_getElem? (i := 24) rfl)) (hw _ (List.mem_of_getElem? (i := 54) rfl)) (by decide) Ea (own_add1m l Z a0 hw a ei b ka mc (0 + 1) ((List.replicate 10 .null).set 0 (.ref ei)) 1 h0 n0 X.sz Fm Fs Fe Ea (by omega) Ab Ob (by omega) Ie (by decide) (by decide) (by simp) (by simp only [List.length_set, List.length_replicate]; decide) (by omega)) (fun _ _ q => q.1.1) rfl own_pd16 rfl rfl rfl (by decide) (Nat.le_of_ble_eq_true rfl) (by decide) (by decide) ?_
  rintro v7 T h1 X ⟨K_, rfl, A2_, Fm_, Fs_, Fe_⟩
  have zs_h1 : h0.size ≤ h1.size := K_.1
  have OL := OL.keep K_ (allS (by omega) (allS (by omega) all0))
  have Ea := Ea.keep K_
  have Ie := own_Ins_keep Ie K_
  have K0 := K0.trans K_ (allS (Or.inl (by simp)) (allS (Or.inl (by simp)) all0))
  have Eb := Eb.keep K_
  have Ab := A2_
  have F_modCount_a := Fm_
  have F_size_a := Fs_
  have F_elementData_a := Fe_
  show own_Ends p e below _ (T.setTop (mkF m 10 #[.val (.ref a), .val (.ref ei), .val (.int (2 : Int32))] [(.int (1 : Int32))]))
  refine own_pop X 11 own_d7_10 rfl rfl ?_
  refine own_iloadN X 12 (2 : Int32) own_d7_11 rfl rfl ?_
  refine own_iconst X 13 (2 : Int32) own_d7_12 rfl rfl ?_
  refine own_icN X 16 own_d7_13 rfl (XT.ii_lt_f (by decide)) ?_
  refine own_aloadN X 17 (.ref a) own_d7_16 rfl rfl rfl ?_
  refine own_aloadN X 18 (.ref ei) own_d7_17 rfl rfl rfl ?_
  refine own_callV X 21 [(.ref ei)] [] own_d7_18 rfl (hw _ (List.mem_of_getElem? (i := 50) rfl)) (hw _ (List.mem_of_getElem? (i := 51) rfl)) (own_nf X.2.2.2.2.1 (hw _ (List.mem_of_getElem? (i := 53) rfl))) (hw _ (List.mem_of_getElem? (i := 53) rfl)) (hw _ (List.mem_of_getElem? (i := 52) rfl)) (hw _ (List.mem_of_getElem? (i := 24) rfl)) (hw _ (List.mem_of_getElem? (i := 54) rfl)) (by decide) Ea (own_add1m l Z a0 hw a ei b ka (mc + 1) ((0 + 1) + 1) (((List.replicate 10 .null).set 0 (.ref ei)).set 1 (.ref ei)) 2 h1 n0 X.sz F_modCount_a F_size_a F_elementData_a Ea (by omega) Ab Ob (by omega) Ie (by decide) (by decide) (by simp) (by simp only [List.length_set, List.length_replicate]; decide) (by omega)) (fun _ _ q => q.1.1) rfl own_pd16 rfl rfl rfl (by decide) (Nat.le_of_ble_eq_true rfl) (by decide) (by decide) ?_
  rintro v18 T h2 X ⟨K_, rfl, A2_, Fm_, Fs_, Fe_⟩
  have zs_h2 : h1.size ≤ h2.size := K_.1
  have OL := OL.keep K_ (allS (by omega) (allS (by omega) all0))
  have Ea := Ea.keep K_
  have Ie := own_Ins_keep Ie K_
  have K0 := K0.trans K_ (allS (Or.inl (by simp)) (allS (Or.inl (by simp)) all0))
  have Eb := Eb.keep K_
  have Ab := A2_
  have F_modCount_a := Fm_
  have F_size_a := Fs_
  have F_elementData_a := Fe_
  show own_Ends p e below _ (T.setTop (mkF m 21 #[.val (.ref a), .val (.ref ei), .val (.int (2 : Int32))] [(.int (1 : Int32))]))
  refine own_pop X 22 own_d7_21 rfl rfl ?_
  refine own_iloadN X 23 (2 : Int32) own_d7_22 rfl rfl ?_
  refine own_iconst X 24 (3 : Int32) own_d7_23 rfl rfl ?_
  refine own_icY X 33 own_d7_24 (by decide) (by decide) (XT.ii_lt_t (by decide)) ?_
  exact own_retV X own_d7_33 rfl (by decide) (by decide) (⟨K0, rfl, F_modCount_a, F_size_a, F_elementData_a, Ab⟩)
set_option maxRecDepth 65536 in
set_option maxHeartbeats 40000000 in
theorem own_upto_1_3 (l : Launch) (Z : State) (a0 : Array Value) (hw : ∀ d ∈ tables_1, d.before a0 Z = true) (a : Addr) (ei : Addr) (nn : Int32) (de : Addr) (kd : ClassId) (mc : Int32) (b : Addr) (ka : ClassId) (h0 : Heap) (n0 : Nat) (hs0 : n0 ≤ h0.size) (OL : Old Z n0 h0) (z_de : Sta Z Z.heap "java/util/ArrayList" "DEFAULTCAPACITY_EMPTY_ELEMENTDATA" "[Ljava/lang/Object;" (.ref de)) (z_dA : own_A Z Z.heap de kd (.object "java/lang/Object") []) (Fm : Fld Z h0 a "java/util/AbstractList" "modCount" "I" (.int mc)) (Fs : Fld Z h0 a "java/util/ArrayList" "size" "I" (.int (0 + 1))) (Fe : Fld Z h0 a "java/util/ArrayList" "elementData" "[Ljava/lang/Object;" (.ref b)) (Ea : Exa Z h0 a "java/util/ArrayList") (ga : n0 ≤ a) (Ab : own_A Z h0 b ka (.object "java/lang/Object") ((List.replicate 10 .null).set 0 (.ref ei))) (Ob : Ovr Z ka "java/lang/Object") (Eb : Exa Z h0 b "[Ljava/lang/Object;") (gb : n0 ≤ b) (nab : @Ne Nat a b) (Ie : Ins Z h0 ei "java/lang/Object" true) (he : h0.size > ei) (nea : @Ne Nat ei a) (neb : @Ne Nat ei b) (hnn : nn = 3) :
    own_Met l (⟨"com/example/rosettine/rosettine/model/ConversionReportEntriesPinLaw", "addUpTo", "(Ljava/util/ArrayList;Lcom/example/rosettine/rosettine/model/ConversionReport$NotConverted;I)V"⟩ : MethodName) method_2_code 3 none ({ frames := 2, cells := 0, slots := 0, locals := 28 } : Room) Z #[(.ref a), (.ref ei), (.int nn)] h0 n0 (fun v h' => Keep h0 h' [a, b] ∧ v = none ∧ Fld Z h' a "java/util/AbstractList" "modCount" "I" (.int (((mc + 1) + 1) + 1)) ∧ Fld Z h' a "java/util/ArrayList" "size" "I" (.int ((((0 + 1) + 1) + 1) + 1)) ∧ Fld Z h' a "java/util/ArrayList" "elementData" "[Ljava/lang/Object;" (.ref b) ∧ own_A Z h' b ka (.object "java/lang/Object") (((((List.replicate 10 .null).set 0 (.ref ei)).set 1 (.ref ei)).set 2 (.ref ei)).set 3 (.ref ei))) := by
  refine own_met (Ls := #[.val (.ref a), .val (.ref ei), .val (.int nn)]) own_pn7 hs0 (fun m => by first | (simp [entryFrame, mkF, argsToLocals, Value.category]; done) | rfl) ?_
  intro p e s m below meth c T X
  have K0 := Keep.refl h0 [a, b]
  have hi_de : n0 > de := (OL.1 ▸ z_dA.lt)
  have hi_a : h0.size > a := Fm.lt
  have hi_b : h0.size > b := Ab.lt
  subst hnn
  refine own_iloadN X 1 (3 : Int32) own_d7_0 rfl rfl ?_
  refine own_iconst X 2 (1 : Int32) own_d7_1 rfl rfl ?_
  refine own_icN X 5 own_d7_2 rfl (XT.ii_lt_f (by decide)) ?_
  refine own_aloadN X 6 (.ref a) own_d7_5 rfl rfl rfl ?_
  refine own_aloadN X 7 (.ref ei) own_d7_6 rfl rfl rfl ?_
  refine own_callV X 10 [(.ref ei)] [] own_d7_7 rfl (hw _ (List.mem_of_getElem? (i := 50) rfl)) (hw _ (List.mem_of_getElem? (i := 51) rfl)) (own_nf X.2.2.2.2.1 (hw _ (List.mem_of_getElem? (i := 53) rfl))) (hw _ (List.mem_of_getElem? (i := 53) rfl)) (hw _ (List.mem_of_getElem? (i := 52) rfl)) (hw _ (List.mem_of_getElem? (i := 24) rfl)) (hw _ (List.mem_of_getElem? (i := 54) rfl)) (by decide) Ea (own_add1m l Z a0 hw a ei b ka mc (0 + 1) ((List.replicate 10 .null).set 0 (.ref ei)) 1 h0 n0 X.sz Fm Fs Fe Ea (by omega) Ab Ob (by omega) Ie (by decide) (by decide) (by simp) (by simp only [List.length_set, List.length_replicate]; decide) (by omega)) (fun _ _ q => q.1.1) rfl own_pd16 rfl rfl rfl (by decide) (Nat.le_of_ble_eq_true rfl) (by decide) (by decide) ?_
  rintro v7 T h1 X ⟨K_, rfl, A2_, Fm_, Fs_, Fe_⟩
  have zs_h1 : h0.size ≤ h1.size := K_.1
  have OL := OL.keep K_ (allS (by omega) (allS (by omega) all0))
  have Ea := Ea.keep K_
  have Ie := own_Ins_keep Ie K_
  have K0 := K0.trans K_ (allS (Or.inl (by simp)) (allS (Or.inl (by simp)) all0))
  have Eb := Eb.keep K_
  have Ab := A2_
  have F_modCount_a := Fm_
  have F_size_a := Fs_
  have F_elementData_a := Fe_
  show own_Ends p e below _ (T.setTop (mkF m 10 #[.val (.ref a), .val (.ref ei), .val (.int (3 : Int32))] [(.int (1 : Int32))]))
  refine own_pop X 11 own_d7_10 rfl rfl ?_
  refine own_iloadN X 12 (3 : Int32) own_d7_11 rfl rfl ?_
  refine own_iconst X 13 (2 : Int32) own_d7_12 rfl rfl ?_
  refine own_icN X 16 own_d7_13 rfl (XT.ii_lt_f (by decide)) ?_
  refine own_aloadN X 17 (.ref a) own_d7_16 rfl rfl rfl ?_
  refine own_aloadN X 18 (.ref ei) own_d7_17 rfl rfl rfl ?_
  refine own_callV X 21 [(.ref ei)] [] own_d7_18 rfl (hw _ (List.mem_of_getElem? (i := 50) rfl)) (hw _ (List.mem_of_getElem? (i := 51) rfl)) (own_nf X.2.2.2.2.1 (hw _ (List.mem_of_getElem? (i := 53) rfl))) (hw _ (List.mem_of_getElem? (i := 53) rfl)) (hw _ (List.mem_of_getElem? (i := 52) rfl)) (hw _ (List.mem_of_getElem? (i := 24) rfl)) (hw _ (List.mem_of_getElem? (i := 54) rfl)) (by decide) Ea (own_add1m l Z a0 hw a ei b ka (mc + 1) ((0 + 1) + 1) (((List.replicate 10 .null).set 0 (.ref ei)).set 1 (.ref ei)) 2 h1 n0 X.sz F_modCount_a F_size_a F_elementData_a Ea (by omega) Ab Ob (by omega) Ie (by decide) (by decide) (by simp) (by simp only [List.length_set, List.length_replicate]; decide) (by omega)) (fun _ _ q => q.1.1) rfl own_pd16 rfl rfl rfl (by decide) (Nat.le_of_ble_eq_true rfl) (by decide) (by decide) ?_
  rintro v18 T h2 X ⟨K_, rfl, A2_, Fm_, Fs_, Fe_⟩
  have zs_h2 : h1.size ≤ h2.size := K_.1
  have OL := OL.keep K_ (allS (by omega) (allS (by omega) all0))
  have Ea := Ea.keep K_
  have Ie := own_Ins_keep Ie K_
  have K0 := K0.trans K_ (allS (Or.inl (by simp)) (allS (Or.inl (by simp)) all0))
  have Eb := Eb.keep K_
  have Ab := A2_
  have F_modCount_a := Fm_
  have F_size_a := Fs_
  have F_elementData_a := Fe_
  show own_Ends p e below _ (T.setTop (mkF m 21 #[.val (.ref a), .val (.ref ei), .val (.int (3 : Int32))] [(.int (1 : Int32))]))
  refine own_pop X 22 own_d7_21 rfl rfl ?_
  refine own_iloadN X 23 (3 : Int32) own_d7_22 rfl rfl ?_
  refine own_iconst X 24 (3 : Int32) own_d7_23 rfl rfl ?_
  refine own_icN X 27 own_d7_24 rfl (XT.ii_lt_f (by decide)) ?_
  refine own_aloadN X 28 (.ref a) own_d7_27 rfl rfl rfl ?_
  refine own_aloadN X 29 (.ref ei) own_d7_28 rfl rfl rfl ?_
  refine own_callV X 32 [(.ref ei)] [] own_d7_29 rfl (hw _ (List.mem_of_getElem? (i := 50) rfl)) (hw _ (List.mem_of_getElem? (i := 51) rfl)) (own_nf X.2.2.2.2.1 (hw _ (List.mem_of_getElem? (i := 53) rfl))) (hw _ (List.mem_of_getElem? (i := 53) rfl)) (hw _ (List.mem_of_getElem? (i := 52) rfl)) (hw _ (List.mem_of_getElem? (i := 24) rfl)) (hw _ (List.mem_of_getElem? (i := 54) rfl)) (by decide) Ea (own_add1m l Z a0 hw a ei b ka ((mc + 1) + 1) (((0 + 1) + 1) + 1) ((((List.replicate 10 .null).set 0 (.ref ei)).set 1 (.ref ei)).set 2 (.ref ei)) 3 h2 n0 X.sz F_modCount_a F_size_a F_elementData_a Ea (by omega) Ab Ob (by omega) Ie (by decide) (by decide) (by simp) (by simp only [List.length_set, List.length_replicate]; decide) (by omega)) (fun _ _ q => q.1.1) rfl own_pd16 rfl rfl rfl (by decide) (Nat.le_of_ble_eq_true rfl) (by decide) (by decide) ?_
  rintro v29 T h3 X ⟨K_, rfl, A2_, Fm_, Fs_, Fe_⟩
  have zs_h3 : h2.size ≤ h3.size := K_.1
  have OL := OL.keep K_ (allS (by omega) (allS (by omega) all0))
  have Ea := Ea.keep K_
  have Ie := own_Ins_keep Ie K_
  have K0 := K0.trans K_ (allS (Or.inl (by simp)) (allS (Or.inl (by simp)) all0))
  have Eb := Eb.keep K_
  have Ab := A2_
  have F_modCount_a := Fm_
  have F_size_a := Fs_
  have F_elementData_a := Fe_
  show own_Ends p e below _ (T.setTop (mkF m 32 #[.val (.ref a), .val (.ref ei), .val (.int (3 : Int32))] [(.int (1 : Int32))]))
  refine own_pop X 33 own_d7_32 rfl rfl ?_
  exact own_retV X own_d7_33 rfl (by decide) (by decide) (⟨K0, rfl, F_modCount_a, F_size_a, F_elementData_a, Ab⟩)
set_option maxRecDepth 65536 in
set_option maxHeartbeats 40000000 in
theorem own_upto_2_0 (l : Launch) (Z : State) (a0 : Array Value) (hw : ∀ d ∈ tables_1, d.before a0 Z = true) (a : Addr) (ei : Addr) (nn : Int32) (de : Addr) (kd : ClassId) (mc : Int32) (b : Addr) (ka : ClassId) (h0 : Heap) (n0 : Nat) (hs0 : n0 ≤ h0.size) (OL : Old Z n0 h0) (z_de : Sta Z Z.heap "java/util/ArrayList" "DEFAULTCAPACITY_EMPTY_ELEMENTDATA" "[Ljava/lang/Object;" (.ref de)) (z_dA : own_A Z Z.heap de kd (.object "java/lang/Object") []) (Fm : Fld Z h0 a "java/util/AbstractList" "modCount" "I" (.int mc)) (Fs : Fld Z h0 a "java/util/ArrayList" "size" "I" (.int ((0 + 1) + 1))) (Fe : Fld Z h0 a "java/util/ArrayList" "elementData" "[Ljava/lang/Object;" (.ref b)) (Ea : Exa Z h0 a "java/util/ArrayList") (ga : n0 ≤ a) (Ab : own_A Z h0 b ka (.object "java/lang/Object") (((List.replicate 10 .null).set 0 (.ref ei)).set 1 (.ref ei))) (Ob : Ovr Z ka "java/lang/Object") (Eb : Exa Z h0 b "[Ljava/lang/Object;") (gb : n0 ≤ b) (nab : @Ne Nat a b) (Ie : Ins Z h0 ei "java/lang/Object" true) (he : h0.size > ei) (nea : @Ne Nat ei a) (neb : @Ne Nat ei b) (hnn : nn = 0) :
    own_Met l (⟨"com/example/rosettine/rosettine/model/ConversionReportEntriesPinLaw", "addUpTo", "(Ljava/util/ArrayList;Lcom/example/rosettine/rosettine/model/ConversionReport$NotConverted;I)V"⟩ : MethodName) method_2_code 3 none ({ frames := 0, cells := 0, slots := 0, locals := 0 } : Room) Z #[(.ref a), (.ref ei), (.int nn)] h0 n0 (fun v h' => Keep h0 h' [a, b] ∧ v = none ∧ Fld Z h' a "java/util/AbstractList" "modCount" "I" (.int mc) ∧ Fld Z h' a "java/util/ArrayList" "size" "I" (.int ((0 + 1) + 1)) ∧ Fld Z h' a "java/util/ArrayList" "elementData" "[Ljava/lang/Object;" (.ref b) ∧ own_A Z h' b ka (.object "java/lang/Object") (((List.replicate 10 .null).set 0 (.ref ei)).set 1 (.ref ei))) := by
  refine own_met (Ls := #[.val (.ref a), .val (.ref ei), .val (.int nn)]) own_pn7 hs0 (fun m => by first | (simp [entryFrame, mkF, argsToLocals, Value.category]; done) | rfl) ?_
  intro p e s m below meth c T X
  have K0 := Keep.refl h0 [a, b]
  have hi_de : n0 > de := (OL.1 ▸ z_dA.lt)
  have hi_a : h0.size > a := Fm.lt
  have hi_b : h0.size > b := Ab.lt
  subst hnn
  refine own_iloadN X 1 (0 : Int32) own_d7_0 rfl rfl ?_
  refine own_iconst X 2 (1 : Int32) own_d7_1 rfl rfl ?_
  refine own_icY X 11 own_d7_2 (by decide) (by decide) (XT.ii_lt_t (by decide)) ?_
  refine own_iloadN X 12 (0 : Int32) own_d7_11 rfl rfl ?_
  refine own_iconst X 13 (2 : Int32) own_d7_12 rfl rfl ?_
  refine own_icY X 22 own_d7_13 (by decide) (by decide) (XT.ii_lt_t (by decide)) ?_
  refine own_iloadN X 23 (0 : Int32) own_d7_22 rfl rfl ?_
  refine own_iconst X 24 (3 : Int32) own_d7_23 rfl rfl ?_
  refine own_icY X 33 own_d7_24 (by decide) (by decide) (XT.ii_lt_t (by decide)) ?_
  exact own_retV X own_d7_33 rfl (by decide) (by decide) (⟨K0, rfl, Fm, Fs, Fe, Ab⟩)
set_option maxRecDepth 65536 in
set_option maxHeartbeats 40000000 in
theorem own_upto_2_1 (l : Launch) (Z : State) (a0 : Array Value) (hw : ∀ d ∈ tables_1, d.before a0 Z = true) (a : Addr) (ei : Addr) (nn : Int32) (de : Addr) (kd : ClassId) (mc : Int32) (b : Addr) (ka : ClassId) (h0 : Heap) (n0 : Nat) (hs0 : n0 ≤ h0.size) (OL : Old Z n0 h0) (z_de : Sta Z Z.heap "java/util/ArrayList" "DEFAULTCAPACITY_EMPTY_ELEMENTDATA" "[Ljava/lang/Object;" (.ref de)) (z_dA : own_A Z Z.heap de kd (.object "java/lang/Object") []) (Fm : Fld Z h0 a "java/util/AbstractList" "modCount" "I" (.int mc)) (Fs : Fld Z h0 a "java/util/ArrayList" "size" "I" (.int ((0 + 1) + 1))) (Fe : Fld Z h0 a "java/util/ArrayList" "elementData" "[Ljava/lang/Object;" (.ref b)) (Ea : Exa Z h0 a "java/util/ArrayList") (ga : n0 ≤ a) (Ab : own_A Z h0 b ka (.object "java/lang/Object") (((List.replicate 10 .null).set 0 (.ref ei)).set 1 (.ref ei))) (Ob : Ovr Z ka "java/lang/Object") (Eb : Exa Z h0 b "[Ljava/lang/Object;") (gb : n0 ≤ b) (nab : @Ne Nat a b) (Ie : Ins Z h0 ei "java/lang/Object" true) (he : h0.size > ei) (nea : @Ne Nat ei a) (neb : @Ne Nat ei b) (hnn : nn = 1) :
    own_Met l (⟨"com/example/rosettine/rosettine/model/ConversionReportEntriesPinLaw", "addUpTo", "(Ljava/util/ArrayList;Lcom/example/rosettine/rosettine/model/ConversionReport$NotConverted;I)V"⟩ : MethodName) method_2_code 3 none ({ frames := 2, cells := 0, slots := 0, locals := 28 } : Room) Z #[(.ref a), (.ref ei), (.int nn)] h0 n0 (fun v h' => Keep h0 h' [a, b] ∧ v = none ∧ Fld Z h' a "java/util/AbstractList" "modCount" "I" (.int (mc + 1)) ∧ Fld Z h' a "java/util/ArrayList" "size" "I" (.int (((0 + 1) + 1) + 1)) ∧ Fld Z h' a "java/util/ArrayList" "elementData" "[Ljava/lang/Object;" (.ref b) ∧ own_A Z h' b ka (.object "java/lang/Object") ((((List.replicate 10 .null).set 0 (.ref ei)).set 1 (.ref ei)).set 2 (.ref ei))) := by
  refine own_met (Ls := #[.val (.ref a), .val (.ref ei), .val (.int nn)]) own_pn7 hs0 (fun m => by first | (simp [entryFrame, mkF, argsToLocals, Value.category]; done) | rfl) ?_
  intro p e s m below meth c T X
  have K0 := Keep.refl h0 [a, b]
  have hi_de : n0 > de := (OL.1 ▸ z_dA.lt)
  have hi_a : h0.size > a := Fm.lt
  have hi_b : h0.size > b := Ab.lt
  subst hnn
  refine own_iloadN X 1 (1 : Int32) own_d7_0 rfl rfl ?_
  refine own_iconst X 2 (1 : Int32) own_d7_1 rfl rfl ?_
  refine own_icN X 5 own_d7_2 rfl (XT.ii_lt_f (by decide)) ?_
  refine own_aloadN X 6 (.ref a) own_d7_5 rfl rfl rfl ?_
  refine own_aloadN X 7 (.ref ei) own_d7_6 rfl rfl rfl ?_
  refine own_callV X 10 [(.ref ei)] [] own_d7_7 rfl (hw _ (List.mem_of_getElem? (i := 50) rfl)) (hw _ (List.mem_of_getElem? (i := 51) rfl)) (own_nf X.2.2.2.2.1 (hw _ (List.mem_of_getElem? (i := 53) rfl))) (hw _ (List.mem_of_getElem? (i := 53) rfl)) (hw _ (List.mem_of_getElem? (i := 52) rfl)) (hw _ (List.mem_of_getElem? (i := 24) rfl)) (hw _ (List.mem_of_getElem? (i := 54) rfl)) (by decide) Ea (own_add1m l Z a0 hw a ei b ka mc ((0 + 1) + 1) (((List.replicate 10 .null).set 0 (.ref ei)).set 1 (.ref ei)) 2 h0 n0 X.sz Fm Fs Fe Ea (by omega) Ab Ob (by omega) Ie (by decide) (by decide) (by simp) (by simp only [List.length_set, List.length_replicate]; decide) (by omega)) (fun _ _ q => q.1.1) rfl own_pd16 rfl rfl rfl (by decide) (Nat.le_of_ble_eq_true rfl) (by decide) (by decide) ?_
  rintro v7 T h1 X ⟨K_, rfl, A2_, Fm_, Fs_, Fe_⟩
  have zs_h1 : h0.size ≤ h1.size := K_.1
  have OL := OL.keep K_ (allS (by omega) (allS (by omega) all0))
  have Ea := Ea.keep K_
  have Ie := own_Ins_keep Ie K_
  have K0 := K0.trans K_ (allS (Or.inl (by simp)) (allS (Or.inl (by simp)) all0))
  have Eb := Eb.keep K_
  have Ab := A2_
  have F_modCount_a := Fm_
  have F_size_a := Fs_
  have F_elementData_a := Fe_
  show own_Ends p e below _ (T.setTop (mkF m 10 #[.val (.ref a), .val (.ref ei), .val (.int (1 : Int32))] [(.int (1 : Int32))]))
  refine own_pop X 11 own_d7_10 rfl rfl ?_
  refine own_iloadN X 12 (1 : Int32) own_d7_11 rfl rfl ?_
  refine own_iconst X 13 (2 : Int32) own_d7_12 rfl rfl ?_
  refine own_icY X 22 own_d7_13 (by decide) (by decide) (XT.ii_lt_t (by decide)) ?_
  refine own_iloadN X 23 (1 : Int32) own_d7_22 rfl rfl ?_
  refine own_iconst X 24 (3 : Int32) own_d7_23 rfl rfl ?_
  refine own_icY X 33 own_d7_24 (by decide) (by decide) (XT.ii_lt_t (by decide)) ?_
  exact own_retV X own_d7_33 rfl (by decide) (by decide) (⟨K0, rfl, F_modCount_a, F_size_a, F_elementData_a, Ab⟩)
set_option maxRecDepth 65536 in
set_option maxHeartbeats 40000000 in
theorem own_upto_2_2 (l : Launch) (Z : State) (a0 : Array Value) (hw : ∀ d ∈ tables_1, d.before a0 Z = true) (a : Addr) (ei : Addr) (nn : Int32) (de : Addr) (kd : ClassId) (mc : Int32) (b : Addr) (ka : ClassId) (h0 : Heap) (n0 : Nat) (hs0 : n0 ≤ h0.size) (OL : Old Z n0 h0) (z_de : Sta Z Z.heap "java/util/ArrayList" "DEFAULTCAPACITY_EMPTY_ELEMENTDATA" "[Ljava/lang/Object;" (.ref de)) (z_dA : own_A Z Z.heap de kd (.object "java/lang/Object") []) (Fm : Fld Z h0 a "java/util/AbstractList" "modCount" "I" (.int mc)) (Fs : Fld Z h0 a "java/util/ArrayList" "size" "I" (.int ((0 + 1) + 1))) (Fe : Fld Z h0 a "java/util/ArrayList" "elementData" "[Ljava/lang/Object;" (.ref b)) (Ea : Exa Z h0 a "java/util/ArrayList") (ga : n0 ≤ a) (Ab : own_A Z h0 b ka (.object "java/lang/Object") (((List.replicate 10 .null).set 0 (.ref ei)).set 1 (.ref ei))) (Ob : Ovr Z ka "java/lang/Object") (Eb : Exa Z h0 b "[Ljava/lang/Object;") (gb : n0 ≤ b) (nab : @Ne Nat a b) (Ie : Ins Z h0 ei "java/lang/Object" true) (he : h0.size > ei) (nea : @Ne Nat ei a) (neb : @Ne Nat ei b) (hnn : nn = 2) :
    own_Met l (⟨"com/example/rosettine/rosettine/model/ConversionReportEntriesPinLaw", "addUpTo", "(Ljava/util/ArrayList;Lcom/example/rosettine/rosettine/model/ConversionReport$NotConverted;I)V"⟩ : MethodName) method_2_code 3 none ({ frames := 2, cells := 0, slots := 0, locals := 28 } : Room) Z #[(.ref a), (.ref ei), (.int nn)] h0 n0 (fun v h' => Keep h0 h' [a, b] ∧ v = none ∧ Fld Z h' a "java/util/AbstractList" "modCount" "I" (.int ((mc + 1) + 1)) ∧ Fld Z h' a "java/util/ArrayList" "size" "I" (.int ((((0 + 1) + 1) + 1) + 1)) ∧ Fld Z h' a "java/util/ArrayList" "elementData" "[Ljava/lang/Object;" (.ref b) ∧ own_A Z h' b ka (.object "java/lang/Object") (((((List.replicate 10 .null).set 0 (.ref ei)).set 1 (.ref ei)).set 2 (.ref ei)).set 3 (.ref ei))) := by
  refine own_met (Ls := #[.val (.ref a), .val (.ref ei), .val (.int nn)]) own_pn7 hs0 (fun m => by first | (simp [entryFrame, mkF, argsToLocals, Value.category]; done) | rfl) ?_
  intro p e s m below meth c T X
  have K0 := Keep.refl h0 [a, b]
  have hi_de : n0 > de := (OL.1 ▸ z_dA.lt)
  have hi_a : h0.size > a := Fm.lt
  have hi_b : h0.size > b := Ab.lt
  subst hnn
  refine own_iloadN X 1 (2 : Int32) own_d7_0 rfl rfl ?_
  refine own_iconst X 2 (1 : Int32) own_d7_1 rfl rfl ?_
  refine own_icN X 5 own_d7_2 rfl (XT.ii_lt_f (by decide)) ?_
  refine own_aloadN X 6 (.ref a) own_d7_5 rfl rfl rfl ?_
  refine own_aloadN X 7 (.ref ei) own_d7_6 rfl rfl rfl ?_
  refine own_callV X 10 [(.ref ei)] [] own_d7_7 rfl (hw _ (List.mem_of_getElem? (i := 50) rfl)) (hw _ (List.mem_of_getElem? (i := 51) rfl)) (own_nf X.2.2.2.2.1 (hw _ (List.mem_of_getElem? (i := 53) rfl))) (hw _ (List.mem_of_getElem? (i := 53) rfl)) (hw _ (List.mem_of_getElem? (i := 52) rfl)) (hw _ (List.mem_of_getElem? (i := 24) rfl)) (hw _ (List.mem_of_getElem? (i := 54) rfl)) (by decide) Ea (own_add1m l Z a0 hw a ei b ka mc ((0 + 1) + 1) (((List.replicate 10 .null).set 0 (.ref ei)).set 1 (.ref ei)) 2 h0 n0 X.sz Fm Fs Fe Ea (by omega) Ab Ob (by omega) Ie (by decide) (by decide) (by simp) (by simp only [List.length_set, List.length_replicate]; decide) (by omega)) (fun _ _ q => q.1.1) rfl own_pd16 rfl rfl rfl (by decide) (Nat.le_of_ble_eq_true rfl) (by decide) (by decide) ?_
  rintro v7 T h1 X ⟨K_, rfl, A2_, Fm_, Fs_, Fe_⟩
  have zs_h1 : h0.size ≤ h1.size := K_.1
  have OL := OL.keep K_ (allS (by omega) (allS (by omega) all0))
  have Ea := Ea.keep K_
  have Ie := own_Ins_keep Ie K_
  have K0 := K0.trans K_ (allS (Or.inl (by simp)) (allS (Or.inl (by simp)) all0))
  have Eb := Eb.keep K_
  have Ab := A2_
  have F_modCount_a := Fm_
  have F_size_a := Fs_
  have F_elementData_a := Fe_
  show own_Ends p e below _ (T.setTop (mkF m 10 #[.val (.ref a), .val (.ref ei), .val (.int (2 : Int32))] [(.int (1 : Int32))]))
  refine own_pop X 11 own_d7_10 rfl rfl ?_
  refine own_iloadN X 12 (2 : Int32) own_d7_11 rfl rfl ?_
  refine own_iconst X 13 (2 : Int32) own_d7_12 rfl rfl ?_
  refine own_icN X 16 own_d7_13 rfl (XT.ii_lt_f (by decide)) ?_
  refine own_aloadN X 17 (.ref a) own_d7_16 rfl rfl rfl ?_
  refine own_aloadN X 18 (.ref ei) own_d7_17 rfl rfl rfl ?_
  refine own_callV X 21 [(.ref ei)] [] own_d7_18 rfl (hw _ (List.mem_of_getElem? (i := 50) rfl)) (hw _ (List.mem_of_getElem? (i := 51) rfl)) (own_nf X.2.2.2.2.1 (hw _ (List.mem_of_getElem? (i := 53) rfl))) (hw _ (List.mem_of_getElem? (i := 53) rfl)) (hw _ (List.mem_of_getElem? (i := 52) rfl)) (hw _ (List.mem_of_getElem? (i := 24) rfl)) (hw _ (List.mem_of_getElem? (i := 54) rfl)) (by decide) Ea (own_add1m l Z a0 hw a ei b ka (mc + 1) (((0 + 1) + 1) + 1) ((((List.replicate 10 .null).set 0 (.ref ei)).set 1 (.ref ei)).set 2 (.ref ei)) 3 h1 n0 X.sz F_modCount_a F_size_a F_elementData_a Ea (by omega) Ab Ob (by omega) Ie (by decide) (by decide) (by simp) (by simp only [List.length_set, List.length_replicate]; decide) (by omega)) (fun _ _ q => q.1.1) rfl own_pd16 rfl rfl rfl (by decide) (Nat.le_of_ble_eq_true rfl) (by decide) (by decide) ?_
  rintro v18 T h2 X ⟨K_, rfl, A2_, Fm_, Fs_, Fe_⟩
  have zs_h2 : h1.size ≤ h2.size := K_.1
  have OL := OL.keep K_ (allS (by omega) (allS (by omega) all0))
  have Ea := Ea.keep K_
  have Ie := own_Ins_keep Ie K_
  have K0 := K0.trans K_ (allS (Or.inl (by simp)) (allS (Or.inl (by simp)) all0))
  have Eb := Eb.keep K_
  have Ab := A2_
  have F_modCount_a := Fm_
  have F_size_a := Fs_
  have F_elementData_a := Fe_
  show own_Ends p e below _ (T.setTop (mkF m 21 #[.val (.ref a), .val (.ref ei), .val (.int (2 : Int32))] [(.int (1 : Int32))]))
  refine own_pop X 22 own_d7_21 rfl rfl ?_
  refine own_iloadN X 23 (2 : Int32) own_d7_22 rfl rfl ?_
  refine own_iconst X 24 (3 : Int32) own_d7_23 rfl rfl ?_
  refine own_icY X 33 own_d7_24 (by decide) (by decide) (XT.ii_lt_t (by decide)) ?_
  exact own_retV X own_d7_33 rfl (by decide) (by decide) (⟨K0, rfl, F_modCount_a, F_size_a, F_elementData_a, Ab⟩)
set_option maxRecDepth 65536 in
set_option maxHeartbeats 40000000 in
theorem own_upto_2_3 (l : Launch) (Z : State) (a0 : Array Value) (hw : ∀ d ∈ tables_1, d.before a0 Z = true) (a : Addr) (ei : Addr) (nn : Int32) (de : Addr) (kd : ClassId) (mc : Int32) (b : Addr) (ka : ClassId) (h0 : Heap) (n0 : Nat) (hs0 : n0 ≤ h0.size) (OL : Old Z n0 h0) (z_de : Sta Z Z.heap "java/util/ArrayList" "DEFAULTCAPACITY_EMPTY_ELEMENTDATA" "[Ljava/lang/Object;" (.ref de)) (z_dA : own_A Z Z.heap de kd (.object "java/lang/Object") []) (Fm : Fld Z h0 a "java/util/AbstractList" "modCount" "I" (.int mc)) (Fs : Fld Z h0 a "java/util/ArrayList" "size" "I" (.int ((0 + 1) + 1))) (Fe : Fld Z h0 a "java/util/ArrayList" "elementData" "[Ljava/lang/Object;" (.ref b)) (Ea : Exa Z h0 a "java/util/ArrayList") (ga : n0 ≤ a) (Ab : own_A Z h0 b ka (.object "java/lang/Object") (((List.replicate 10 .null).set 0 (.ref ei)).set 1 (.ref ei))) (Ob : Ovr Z ka "java/lang/Object") (Eb : Exa Z h0 b "[Ljava/lang/Object;") (gb : n0 ≤ b) (nab : @Ne Nat a b) (Ie : Ins Z h0 ei "java/lang/Object" true) (he : h0.size > ei) (nea : @Ne Nat ei a) (neb : @Ne Nat ei b) (hnn : nn = 3) :
    own_Met l (⟨"com/example/rosettine/rosettine/model/ConversionReportEntriesPinLaw", "addUpTo", "(Ljava/util/ArrayList;Lcom/example/rosettine/rosettine/model/ConversionReport$NotConverted;I)V"⟩ : MethodName) method_2_code 3 none ({ frames := 2, cells := 0, slots := 0, locals := 28 } : Room) Z #[(.ref a), (.ref ei), (.int nn)] h0 n0 (fun v h' => Keep h0 h' [a, b] ∧ v = none ∧ Fld Z h' a "java/util/AbstractList" "modCount" "I" (.int (((mc + 1) + 1) + 1)) ∧ Fld Z h' a "java/util/ArrayList" "size" "I" (.int (((((0 + 1) + 1) + 1) + 1) + 1)) ∧ Fld Z h' a "java/util/ArrayList" "elementData" "[Ljava/lang/Object;" (.ref b) ∧ own_A Z h' b ka (.object "java/lang/Object") ((((((List.replicate 10 .null).set 0 (.ref ei)).set 1 (.ref ei)).set 2 (.ref ei)).set 3 (.ref ei)).set 4 (.ref ei))) := by
  refine own_met (Ls := #[.val (.ref a), .val (.ref ei), .val (.int nn)]) own_pn7 hs0 (fun m => by first | (simp [entryFrame, mkF, argsToLocals, Value.category]; done) | rfl) ?_
  intro p e s m below meth c T X
  have K0 := Keep.refl h0 [a, b]
  have hi_de : n0 > de := (OL.1 ▸ z_dA.lt)
  have hi_a : h0.size > a := Fm.lt
  have hi_b : h0.size > b := Ab.lt
  subst hnn
  refine own_iloadN X 1 (3 : Int32) own_d7_0 rfl rfl ?_
  refine own_iconst X 2 (1 : Int32) own_d7_1 rfl rfl ?_
  refine own_icN X 5 own_d7_2 rfl (XT.ii_lt_f (by decide)) ?_
  refine own_aloadN X 6 (.ref a) own_d7_5 rfl rfl rfl ?_
  refine own_aloadN X 7 (.ref ei) own_d7_6 rfl rfl rfl ?_
  refine own_callV X 10 [(.ref ei)] [] own_d7_7 rfl (hw _ (List.mem_of_getElem? (i := 50) rfl)) (hw _ (List.mem_of_getElem? (i := 51) rfl)) (own_nf X.2.2.2.2.1 (hw _ (List.mem_of_getElem? (i := 53) rfl))) (hw _ (List.mem_of_getElem? (i := 53) rfl)) (hw _ (List.mem_of_getElem? (i := 52) rfl)) (hw _ (List.mem_of_getElem? (i := 24) rfl)) (hw _ (List.mem_of_getElem? (i := 54) rfl)) (by decide) Ea (own_add1m l Z a0 hw a ei b ka mc ((0 + 1) + 1) (((List.replicate 10 .null).set 0 (.ref ei)).set 1 (.ref ei)) 2 h0 n0 X.sz Fm Fs Fe Ea (by omega) Ab Ob (by omega) Ie (by decide) (by decide) (by simp) (by simp only [List.length_set, List.length_replicate]; decide) (by omega)) (fun _ _ q => q.1.1) rfl own_pd16 rfl rfl rfl (by decide) (Nat.le_of_ble_eq_true rfl) (by decide) (by decide) ?_
  rintro v7 T h1 X ⟨K_, rfl, A2_, Fm_, Fs_, Fe_⟩
  have zs_h1 : h0.size ≤ h1.size := K_.1
  have OL := OL.keep K_ (allS (by omega) (allS (by omega) all0))
  have Ea := Ea.keep K_
  have Ie := own_Ins_keep Ie K_
  have K0 := K0.trans K_ (allS (Or.inl (by simp)) (allS (Or.inl (by simp)) all0))
  have Eb := Eb.keep K_
  have Ab := A2_
  have F_modCount_a := Fm_
  have F_size_a := Fs_
  have F_elementData_a := Fe_
  show own_Ends p e below _ (T.setTop (mkF m 10 #[.val (.ref a), .val (.ref ei), .val (.int (3 : Int32))] [(.int (1 : Int32))]))
  refine own_pop X 11 own_d7_10 rfl rfl ?_
  refine own_iloadN X 12 (3 : Int32) own_d7_11 rfl rfl ?_
  refine own_iconst X 13 (2 : Int32) own_d7_12 rfl rfl ?_
  refine own_icN X 16 own_d7_13 rfl (XT.ii_lt_f (by decide)) ?_
  refine own_aloadN X 17 (.ref a) own_d7_16 rfl rfl rfl ?_
  refine own_aloadN X 18 (.ref ei) own_d7_17 rfl rfl rfl ?_
  refine own_callV X 21 [(.ref ei)] [] own_d7_18 rfl (hw _ (List.mem_of_getElem? (i := 50) rfl)) (hw _ (List.mem_of_getElem? (i := 51) rfl)) (own_nf X.2.2.2.2.1 (hw _ (List.mem_of_getElem? (i := 53) rfl))) (hw _ (List.mem_of_getElem? (i := 53) rfl)) (hw _ (List.mem_of_getElem? (i := 52) rfl)) (hw _ (List.mem_of_getElem? (i := 24) rfl)) (hw _ (List.mem_of_getElem? (i := 54) rfl)) (by decide) Ea (own_add1m l Z a0 hw a ei b ka (mc + 1) (((0 + 1) + 1) + 1) ((((List.replicate 10 .null).set 0 (.ref ei)).set 1 (.ref ei)).set 2 (.ref ei)) 3 h1 n0 X.sz F_modCount_a F_size_a F_elementData_a Ea (by omega) Ab Ob (by omega) Ie (by decide) (by decide) (by simp) (by simp only [List.length_set, List.length_replicate]; decide) (by omega)) (fun _ _ q => q.1.1) rfl own_pd16 rfl rfl rfl (by decide) (Nat.le_of_ble_eq_true rfl) (by decide) (by decide) ?_
  rintro v18 T h2 X ⟨K_, rfl, A2_, Fm_, Fs_, Fe_⟩
  have zs_h2 : h1.size ≤ h2.size := K_.1
  have OL := OL.keep K_ (allS (by omega) (allS (by omega) all0))
  have Ea := Ea.keep K_
  have Ie := own_Ins_keep Ie K_
  have K0 := K0.trans K_ (allS (Or.inl (by simp)) (allS (Or.inl (by simp)) all0))
  have Eb := Eb.keep K_
  have Ab := A2_
  have F_modCount_a := Fm_
  have F_size_a := Fs_
  have F_elementData_a := Fe_
  show own_Ends p e below _ (T.setTop (mkF m 21 #[.val (.ref a), .val (.ref ei), .val (.int (3 : Int32))] [(.int (1 : Int32))]))
  refine own_pop X 22 own_d7_21 rfl rfl ?_
  refine own_iloadN X 23 (3 : Int32) own_d7_22 rfl rfl ?_
  refine own_iconst X 24 (3 : Int32) own_d7_23 rfl rfl ?_
  refine own_icN X 27 own_d7_24 rfl (XT.ii_lt_f (by decide)) ?_
  refine own_aloadN X 28 (.ref a) own_d7_27 rfl rfl rfl ?_
  refine own_aloadN X 29 (.ref ei) own_d7_28 rfl rfl rfl ?_
  refine own_callV X 32 [(.ref ei)] [] own_d7_29 rfl (hw _ (List.mem_of_getElem? (i := 50) rfl)) (hw _ (List.mem_of_getElem? (i := 51) rfl)) (own_nf X.2.2.2.2.1 (hw _ (List.mem_of_getElem? (i := 53) rfl))) (hw _ (List.mem_of_getElem? (i := 53) rfl)) (hw _ (List.mem_of_getElem? (i := 52) rfl)) (hw _ (List.mem_of_getElem? (i := 24) rfl)) (hw _ (List.mem_of_getElem? (i := 54) rfl)) (by decide) Ea (own_add1m l Z a0 hw a ei b ka ((mc + 1) + 1) ((((0 + 1) + 1) + 1) + 1) (((((List.replicate 10 .null).set 0 (.ref ei)).set 1 (.ref ei)).set 2 (.ref ei)).set 3 (.ref ei)) 4 h2 n0 X.sz F_modCount_a F_size_a F_elementData_a Ea (by omega) Ab Ob (by omega) Ie (by decide) (by decide) (by simp) (by simp only [List.length_set, List.length_replicate]; decide) (by omega)) (fun _ _ q => q.1.1) rfl own_pd16 rfl rfl rfl (by decide) (Nat.le_of_ble_eq_true rfl) (by decide) (by decide) ?_
  rintro v29 T h3 X ⟨K_, rfl, A2_, Fm_, Fs_, Fe_⟩
  have zs_h3 : h2.size ≤ h3.size := K_.1
  have OL := OL.keep K_ (allS (by omega) (allS (by omega) all0))
  have Ea := Ea.keep K_
  have Ie := own_Ins_keep Ie K_
  have K0 := K0.trans K_ (allS (Or.inl (by simp)) (allS (Or.inl (by simp)) all0))
  have Eb := Eb.keep K_
  have Ab := A2_
  have F_modCount_a := Fm_
  have F_size_a := Fs_
  have F_elementData_a := Fe_
  show own_Ends p e below _ (T.setTop (mkF m 32 #[.val (.ref a), .val (.ref ei), .val (.int (3 : Int32))] [(.int (1 : Int32))]))
  refine own_pop X 33 own_d7_32 rfl rfl ?_
  exact own_retV X own_d7_33 rfl (by decide) (by decide) (⟨K0, rfl, F_modCount_a, F_size_a, F_elementData_a, Ab⟩)
set_option maxRecDepth 65536 in
set_option maxHeartbeats 40000000 in
theorem own_upto_3_0 (l : Launch) (Z : State) (a0 : Array Value) (hw : ∀ d ∈ tables_1, d.before a0 Z = true) (a : Addr) (ei : Addr) (nn : Int32) (de : Addr) (kd : ClassId) (mc : Int32) (b : Addr) (ka : ClassId) (h0 : Heap) (n0 : Nat) (hs0 : n0 ≤ h0.size) (OL : Old Z n0 h0) (z_de : Sta Z Z.heap "java/util/ArrayList" "DEFAULTCAPACITY_EMPTY_ELEMENTDATA" "[Ljava/lang/Object;" (.ref de)) (z_dA : own_A Z Z.heap de kd (.object "java/lang/Object") []) (Fm : Fld Z h0 a "java/util/AbstractList" "modCount" "I" (.int mc)) (Fs : Fld Z h0 a "java/util/ArrayList" "size" "I" (.int (((0 + 1) + 1) + 1))) (Fe : Fld Z h0 a "java/util/ArrayList" "elementData" "[Ljava/lang/Object;" (.ref b)) (Ea : Exa Z h0 a "java/util/ArrayList") (ga : n0 ≤ a) (Ab : own_A Z h0 b ka (.object "java/lang/Object") ((((List.replicate 10 .null).set 0 (.ref ei)).set 1 (.ref ei)).set 2 (.ref ei))) (Ob : Ovr Z ka "java/lang/Object") (Eb : Exa Z h0 b "[Ljava/lang/Object;") (gb : n0 ≤ b) (nab : @Ne Nat a b) (Ie : Ins Z h0 ei "java/lang/Object" true) (he : h0.size > ei) (nea : @Ne Nat ei a) (neb : @Ne Nat ei b) (hnn : nn = 0) :
    own_Met l (⟨"com/example/rosettine/rosettine/model/ConversionReportEntriesPinLaw", "addUpTo", "(Ljava/util/ArrayList;Lcom/example/rosettine/rosettine/model/ConversionReport$NotConverted;I)V"⟩ : MethodName) method_2_code 3 none ({ frames := 0, cells := 0, slots := 0, locals := 0 } : Room) Z #[(.ref a), (.ref ei), (.int nn)] h0 n0 (fun v h' => Keep h0 h' [a, b] ∧ v = none ∧ Fld Z h' a "java/util/AbstractList" "modCount" "I" (.int mc) ∧ Fld Z h' a "java/util/ArrayList" "size" "I" (.int (((0 + 1) + 1) + 1)) ∧ Fld Z h' a "java/util/ArrayList" "elementData" "[Ljava/lang/Object;" (.ref b) ∧ own_A Z h' b ka (.object "java/lang/Object") ((((List.replicate 10 .null).set 0 (.ref ei)).set 1 (.ref ei)).set 2 (.ref ei))) := by
  refine own_met (Ls := #[.val (.ref a), .val (.ref ei), .val (.int nn)]) own_pn7 hs0 (fun m => by first | (simp [entryFrame, mkF, argsToLocals, Value.category]; done) | rfl) ?_
  intro p e s m below meth c T X
  have K0 := Keep.refl h0 [a, b]
  have hi_de : n0 > de := (OL.1 ▸ z_dA.lt)
  have hi_a : h0.size > a := Fm.lt
  have hi_b : h0.size > b := Ab.lt
  subst hnn
  refine own_iloadN X 1 (0 : Int32) own_d7_0 rfl rfl ?_
  refine own_iconst X 2 (1 : Int32) own_d7_1 rfl rfl ?_
  refine own_icY X 11 own_d7_2 (by decide) (by decide) (XT.ii_lt_t (by decide)) ?_
  refine own_iloadN X 12 (0 : Int32) own_d7_11 rfl rfl ?_
  refine own_iconst X 13 (2 : Int32) own_d7_12 rfl rfl ?_
  refine own_icY X 22 own_d7_13 (by decide) (by decide) (XT.ii_lt_t (by decide)) ?_
  refine own_iloadN X 23 (0 : Int32) own_d7_22 rfl rfl ?_
  refine own_iconst X 24 (3 : Int32) own_d7_23 rfl rfl ?_
  refine own_icY X 33 own_d7_24 (by decide) (by decide) (XT.ii_lt_t (by decide)) ?_
  exact own_retV X own_d7_33 rfl (by decide) (by decide) (⟨K0, rfl, Fm, Fs, Fe, Ab⟩)
set_option maxRecDepth 65536 in
set_option maxHeartbeats 40000000 in
theorem own_upto_3_1 (l : Launch) (Z : State) (a0 : Array Value) (hw : ∀ d ∈ tables_1, d.before a0 Z = true) (a : Addr) (ei : Addr) (nn : Int32) (de : Addr) (kd : ClassId) (mc : Int32) (b : Addr) (ka : ClassId) (h0 : Heap) (n0 : Nat) (hs0 : n0 ≤ h0.size) (OL : Old Z n0 h0) (z_de : Sta Z Z.heap "java/util/ArrayList" "DEFAULTCAPACITY_EMPTY_ELEMENTDATA" "[Ljava/lang/Object;" (.ref de)) (z_dA : own_A Z Z.heap de kd (.object "java/lang/Object") []) (Fm : Fld Z h0 a "java/util/AbstractList" "modCount" "I" (.int mc)) (Fs : Fld Z h0 a "java/util/ArrayList" "size" "I" (.int (((0 + 1) + 1) + 1))) (Fe : Fld Z h0 a "java/util/ArrayList" "elementData" "[Ljava/lang/Object;" (.ref b)) (Ea : Exa Z h0 a "java/util/ArrayList") (ga : n0 ≤ a) (Ab : own_A Z h0 b ka (.object "java/lang/Object") ((((List.replicate 10 .null).set 0 (.ref ei)).set 1 (.ref ei)).set 2 (.ref ei))) (Ob : Ovr Z ka "java/lang/Object") (Eb : Exa Z h0 b "[Ljava/lang/Object;") (gb : n0 ≤ b) (nab : @Ne Nat a b) (Ie : Ins Z h0 ei "java/lang/Object" true) (he : h0.size > ei) (nea : @Ne Nat ei a) (neb : @Ne Nat ei b) (hnn : nn = 1) :
    own_Met l (⟨"com/example/rosettine/rosettine/model/ConversionReportEntriesPinLaw", "addUpTo", "(Ljava/util/ArrayList;Lcom/example/rosettine/rosettine/model/ConversionReport$NotConverted;I)V"⟩ : MethodName) method_2_code 3 none ({ frames := 2, cells := 0, slots := 0, locals := 28 } : Room) Z #[(.ref a), (.ref ei), (.int nn)] h0 n0 (fun v h' => Keep h0 h' [a, b] ∧ v = none ∧ Fld Z h' a "java/util/AbstractList" "modCount" "I" (.int (mc + 1)) ∧ Fld Z h' a "java/util/ArrayList" "size" "I" (.int ((((0 + 1) + 1) + 1) + 1)) ∧ Fld Z h' a "java/util/ArrayList" "elementData" "[Ljava/lang/Object;" (.ref b) ∧ own_A Z h' b ka (.object "java/lang/Object") (((((List.replicate 10 .null).set 0 (.ref ei)).set 1 (.ref ei)).set 2 (.ref ei)).set 3 (.ref ei))) := by
  refine own_met (Ls := #[.val (.ref a), .val (.ref ei), .val (.int nn)]) own_pn7 hs0 (fun m => by first | (simp [entryFrame, mkF, argsToLocals, Value.category]; done) | rfl) ?_
  intro p e s m below meth c T X
  have K0 := Keep.refl h0 [a, b]
  have hi_de : n0 > de := (OL.1 ▸ z_dA.lt)
  have hi_a : h0.size > a := Fm.lt
  have hi_b : h0.size > b := Ab.lt
  subst hnn
  refine own_iloadN X 1 (1 : Int32) own_d7_0 rfl rfl ?_
  refine own_iconst X 2 (1 : Int32) own_d7_1 rfl rfl ?_
  refine own_icN X 5 own_d7_2 rfl (XT.ii_lt_f (by decide)) ?_
  refine own_aloadN X 6 (.ref a) own_d7_5 rfl rfl rfl ?_
  refine own_aloadN X 7 (.ref ei) own_d7_6 rfl rfl rfl ?_
  refine own_callV X 10 [(.ref ei)] [] own_d7_7 rfl (hw _ (List.mem_of_getElem? (i := 50) rfl)) (hw _ (List.mem_of_getElem? (i := 51) rfl)) (own_nf X.2.2.2.2.1 (hw _ (List.mem_of_getElem? (i := 53) rfl))) (hw _ (List.mem_of_getElem? (i := 53) rfl)) (hw _ (List.mem_of_getElem? (i := 52) rfl)) (hw _ (List.mem_of_getElem? (i := 24) rfl)) (hw _ (List.mem_of_getElem? (i := 54) rfl)) (by decide) Ea (own_add1m l Z a0 hw a ei b ka mc (((0 + 1) + 1) + 1) ((((List.replicate 10 .null).set 0 (.ref ei)).set 1 (.ref ei)).set 2 (.ref ei)) 3 h0 n0 X.sz Fm Fs Fe Ea (by omega) Ab Ob (by omega) Ie (by decide) (by decide) (by simp) (by simp only [List.length_set, List.length_replicate]; decide) (by omega)) (fun _ _ q => q.1.1) rfl own_pd16 rfl rfl rfl (by decide) (Nat.le_of_ble_eq_true rfl) (by decide) (by decide) ?_
  rintro v7 T h1 X ⟨K_, rfl, A2_, Fm_, Fs_, Fe_⟩
  have zs_h1 : h0.size ≤ h1.size := K_.1
  have OL := OL.keep K_ (allS (by omega) (allS (by omega) all0))
  have Ea := Ea.keep K_
  have Ie := own_Ins_keep Ie K_
  have K0 := K0.trans K_ (allS (Or.inl (by simp)) (allS (Or.inl (by simp)) all0))
  have Eb := Eb.keep K_
  have Ab := A2_
  have F_modCount_a := Fm_
  have F_size_a := Fs_
  have F_elementData_a := Fe_
  show own_Ends p e below _ (T.setTop (mkF m 10 #[.val (.ref a), .val (.ref ei), .val (.int (1 : Int32))] [(.int (1 : Int32))]))
  refine own_pop X 11 own_d7_10 rfl rfl ?_
  refine own_iloadN X 12 (1 : Int32) own_d7_11 rfl rfl ?_
  refine own_iconst X 13 (2 : Int32) own_d7_12 rfl rfl ?_
  refine own_icY X 22 own_d7_13 (by decide) (by decide) (XT.ii_lt_t (by decide)) ?_
  refine own_iloadN X 23 (1 : Int32) own_d7_22 rfl rfl ?_
  refine own_iconst X 24 (3 : Int32) own_d7_23 rfl rfl ?_
  refine own_icY X 33 own_d7_24 (by decide) (by decide) (XT.ii_lt_t (by decide)) ?_
  exact own_retV X own_d7_33 rfl (by decide) (by decide) (⟨K0, rfl, F_modCount_a, F_size_a, F_elementData_a, Ab⟩)
set_option maxRecDepth 65536 in
set_option maxHeartbeats 40000000 in
theorem own_upto_3_2 (l : Launch) (Z : State) (a0 : Array Value) (hw : ∀ d ∈ tables_1, d.before a0 Z = true) (a : Addr) (ei : Addr) (nn : Int32) (de : Addr) (kd : ClassId) (mc : Int32) (b : Addr) (ka : ClassId) (h0 : Heap) (n0 : Nat) (hs0 : n0 ≤ h0.size) (OL : Old Z n0 h0) (z_de : Sta Z Z.heap "java/util/ArrayList" "DEFAULTCAPACITY_EMPTY_ELEMENTDATA" "[Ljava/lang/Object;" (.ref de)) (z_dA : own_A Z Z.heap de kd (.object "java/lang/Object") []) (Fm : Fld Z h0 a "java/util/AbstractList" "modCount" "I" (.int mc)) (Fs : Fld Z h0 a "java/util/ArrayList" "size" "I" (.int (((0 + 1) + 1) + 1))) (Fe : Fld Z h0 a "java/util/ArrayList" "elementData" "[Ljava/lang/Object;" (.ref b)) (Ea : Exa Z h0 a "java/util/ArrayList") (ga : n0 ≤ a) (Ab : own_A Z h0 b ka (.object "java/lang/Object") ((((List.replicate 10 .null).set 0 (.ref ei)).set 1 (.ref ei)).set 2 (.ref ei))) (Ob : Ovr Z ka "java/lang/Object") (Eb : Exa Z h0 b "[Ljava/lang/Object;") (gb : n0 ≤ b) (nab : @Ne Nat a b) (Ie : Ins Z h0 ei "java/lang/Object" true) (he : h0.size > ei) (nea : @Ne Nat ei a) (neb : @Ne Nat ei b) (hnn : nn = 2) :
    own_Met l (⟨"com/example/rosettine/rosettine/model/ConversionReportEntriesPinLaw", "addUpTo", "(Ljava/util/ArrayList;Lcom/example/rosettine/rosettine/model/ConversionReport$NotConverted;I)V"⟩ : MethodName) method_2_code 3 none ({ frames := 2, cells := 0, slots := 0, locals := 28 } : Room) Z #[(.ref a), (.ref ei), (.int nn)] h0 n0 (fun v h' => Keep h0 h' [a, b] ∧ v = none ∧ Fld Z h' a "java/util/AbstractList" "modCount" "I" (.int ((mc + 1) + 1)) ∧ Fld Z h' a "java/util/ArrayList" "size" "I" (.int (((((0 + 1) + 1) + 1) + 1) + 1)) ∧ Fld Z h' a "java/util/ArrayList" "elementData" "[Ljava/lang/Object;" (.ref b) ∧ own_A Z h' b ka (.object "java/lang/Object") ((((((List.replicate 10 .null).set 0 (.ref ei)).set 1 (.ref ei)).set 2 (.ref ei)).set 3 (.ref ei)).set 4 (.ref ei))) := by
  refine own_met (Ls := #[.val (.ref a), .val (.ref ei), .val (.int nn)]) own_pn7 hs0 (fun m => by first | (simp [entryFrame, mkF, argsToLocals, Value.category]; done) | rfl) ?_
  intro p e s m below meth c T X
  have K0 := Keep.refl h0 [a, b]
  have hi_de : n0 > de := (OL.1 ▸ z_dA.lt)
  have hi_a : h0.size > a := Fm.lt
  have hi_b : h0.size > b := Ab.lt
  subst hnn
  refine own_iloadN X 1 (2 : Int32) own_d7_0 rfl rfl ?_
  refine own_iconst X 2 (1 : Int32) own_d7_1 rfl rfl ?_
  refine own_icN X 5 own_d7_2 rfl (XT.ii_lt_f (by decide)) ?_
  refine own_aloadN X 6 (.ref a) own_d7_5 rfl rfl rfl ?_
  refine own_aloadN X 7 (.ref ei) own_d7_6 rfl rfl rfl ?_
  refine own_callV X 10 [(.ref ei)] [] own_d7_7 rfl (hw _ (List.mem_of_getElem? (i := 50) rfl)) (hw _ (List.mem_of_getElem? (i := 51) rfl)) (own_nf X.2.2.2.2.1 (hw _ (List.mem_of_getElem? (i := 53) rfl))) (hw _ (List.mem_of_getElem? (i := 53) rfl)) (hw _ (List.mem_of_getElem? (i := 52) rfl)) (hw _ (List.mem_of_getElem? (i := 24) rfl)) (hw _ (List.mem_of_getElem? (i := 54) rfl)) (by decide) Ea (own_add1m l Z a0 hw a ei b ka mc (((0 + 1) + 1) + 1) ((((List.replicate 10 .null).set 0 (.ref ei)).set 1 (.ref ei)).set 2 (.ref ei)) 3 h0 n0 X.sz Fm Fs Fe Ea (by omega) Ab Ob (by omega) Ie (by decide) (by decide) (by simp) (by simp only [List.length_set, List.length_replicate]; decide) (by omega)) (fun _ _ q => q.1.1) rfl own_pd16 rfl rfl rfl (by decide) (Nat.le_of_ble_eq_true rfl) (by decide) (by decide) ?_
  rintro v7 T h1 X ⟨K_, rfl, A2_, Fm_, Fs_, Fe_⟩
  have zs_h1 : h0.size ≤ h1.size := K_.1
  have OL := OL.keep K_ (allS (by omega) (allS (by omega) all0))
  have Ea := Ea.keep K_
  have Ie := own_Ins_keep Ie K_
  have K0 := K0.trans K_ (allS (Or.inl (by simp)) (allS (Or.inl (by simp)) all0))
  have Eb := Eb.keep K_
  have Ab := A2_
  have F_modCount_a := Fm_
  have F_size_a := Fs_
  have F_elementData_a := Fe_
  show own_Ends p e below _ (T.setTop (mkF m 10 #[.val (.ref a), .val (.ref ei), .val (.int (2 : Int32))] [(.int (1 : Int32))]))
  refine own_pop X 11 own_d7_10 rfl rfl ?_
  refine own_iloadN X 12 (2 : Int32) own_d7_11 rfl rfl ?_
  refine own_iconst X 13 (2 : Int32) own_d7_12 rfl rfl ?_
  refine own_icN X 16 own_d7_13 rfl (XT.ii_lt_f (by decide)) ?_
  refine own_aloadN X 17 (.ref a) own_d7_16 rfl rfl rfl ?_
  refine own_aloadN X 18 (.ref ei) own_d7_17 rfl rfl rfl ?_
  refine own_callV X 21 [(.ref ei)] [] own_d7_18 rfl (hw _ (List.mem_of_getElem? (i := 50) rfl)) (hw _ (List.mem_of_getElem? (i := 51) rfl)) (own_nf X.2.2.2.2.1 (hw _ (List.mem_of_getElem? (i := 53) rfl))) (hw _ (List.mem_of_getElem? (i := 53) rfl)) (hw _ (List.mem_of_getElem? (i := 52) rfl)) (hw _ (List.mem_of_getElem? (i := 24) rfl)) (hw _ (List.mem_of_getElem? (i := 54) rfl)) (by decide) Ea (own_add1m l Z a0 hw a ei b ka (mc + 1) ((((0 + 1) + 1) + 1) + 1) (((((List.replicate 10 .null).set 0 (.ref ei)).set 1 (.ref ei)).set 2 (.ref ei)).set 3 (.ref ei)) 4 h1 n0 X.sz F_modCount_a F_size_a F_elementData_a Ea (by omega) Ab Ob (by omega) Ie (by decide) (by decide) (by simp) (by simp only [List.length_set, List.length_replicate]; decide) (by omega)) (fun _ _ q => q.1.1) rfl own_pd16 rfl rfl rfl (by decide) (Nat.le_of_ble_eq_true rfl) (by decide) (by decide) ?_
  rintro v18 T h2 X ⟨K_, rfl, A2_, Fm_, Fs_, Fe_⟩
  have zs_h2 : h1.size ≤ h2.size := K_.1
  have OL := OL.keep K_ (allS (by omega) (allS (by omega) all0))
  have Ea := Ea.keep K_
  have Ie := own_Ins_keep Ie K_
  have K0 := K0.trans K_ (allS (Or.inl (by simp)) (allS (Or.inl (by simp)) all0))
  have Eb := Eb.keep K_
  have Ab := A2_
  have F_modCount_a := Fm_
  have F_size_a := Fs_
  have F_elementData_a := Fe_
  show own_Ends p e below _ (T.setTop (mkF m 21 #[.val (.ref a), .val (.ref ei), .val (.int (2 : Int32))] [(.int (1 : Int32))]))
  refine own_pop X 22 own_d7_21 rfl rfl ?_
  refine own_iloadN X 23 (2 : Int32) own_d7_22 rfl rfl ?_
  refine own_iconst X 24 (3 : Int32) own_d7_23 rfl rfl ?_
  refine own_icY X 33 own_d7_24 (by decide) (by decide) (XT.ii_lt_t (by decide)) ?_
  exact own_retV X own_d7_33 rfl (by decide) (by decide) (⟨K0, rfl, F_modCount_a, F_size_a, F_elementData_a, Ab⟩)
set_option maxRecDepth 65536 in
set_option maxHeartbeats 40000000 in
theorem own_upto_3_3 (l : Launch) (Z : State) (a0 : Array Value) (hw : ∀ d ∈ tables_1, d.before a0 Z = true) (a : Addr) (ei : Addr) (nn : Int32) (de : Addr) (kd : ClassId) (mc : Int32) (b : Addr) (ka : ClassId) (h0 : Heap) (n0 : Nat) (hs0 : n0 ≤ h0.size) (OL : Old Z n0 h0) (z_de : Sta Z Z.heap "java/util/ArrayList" "DEFAULTCAPACITY_EMPTY_ELEMENTDATA" "[Ljava/lang/Object;" (.ref de)) (z_dA : own_A Z Z.heap de kd (.object "java/lang/Object") []) (Fm : Fld Z h0 a "java/util/AbstractList" "modCount" "I" (.int mc)) (Fs : Fld Z h0 a "java/util/ArrayList" "size" "I" (.int (((0 + 1) + 1) + 1))) (Fe : Fld Z h0 a "java/util/ArrayList" "elementData" "[Ljava/lang/Object;" (.ref b)) (Ea : Exa Z h0 a "java/util/ArrayList") (ga : n0 ≤ a) (Ab : own_A Z h0 b ka (.object "java/lang/Object") ((((List.replicate 10 .null).set 0 (.ref ei)).set 1 (.ref ei)).set 2 (.ref ei))) (Ob : Ovr Z ka "java/lang/Object") (Eb : Exa Z h0 b "[Ljava/lang/Object;") (gb : n0 ≤ b) (nab : @Ne Nat a b) (Ie : Ins Z h0 ei "java/lang/Object" true) (he : h0.size > ei) (nea : @Ne Nat ei a) (neb : @Ne Nat ei b) (hnn : nn = 3) :
    own_Met l (⟨"com/example/rosettine/rosettine/model/ConversionReportEntriesPinLaw", "addUpTo", "(Ljava/util/ArrayList;Lcom/example/rosettine/rosettine/model/ConversionReport$NotConverted;I)V"⟩ : MethodName) method_2_code 3 none ({ frames := 2, cells := 0, slots := 0, locals := 28 } : Room) Z #[(.ref a), (.ref ei), (.int nn)] h0 n0 (fun v h' => Keep h0 h' [a, b] ∧ v = none ∧ Fld Z h' a "java/util/AbstractList" "modCount" "I" (.int (((mc + 1) + 1) + 1)) ∧ Fld Z h' a "java/util/ArrayList" "size" "I" (.int ((((((0 + 1) + 1) + 1) + 1) + 1) + 1)) ∧ Fld Z h' a "java/util/ArrayList" "elementData" "[Ljava/lang/Object;" (.ref b) ∧ own_A Z h' b ka (.object "java/lang/Object") (((((((List.replicate 10 .null).set 0 (.ref ei)).set 1 (.ref ei)).set 2 (.ref ei)).set 3 (.ref ei)).set 4 (.ref ei)).set 5 (.ref ei))) := by
  refine own_met (Ls := #[.val (.ref a), .val (.ref ei), .val (.int nn)]) own_pn7 hs0 (fun m => by first | (simp [entryFrame, mkF, argsToLocals, Value.category]; done) | rfl) ?_
  intro p e s m below meth c T X
  have K0 := Keep.refl h0 [a, b]
  have hi_de : n0 > de := (OL.1 ▸ z_dA.lt)
  have hi_a : h0.size > a := Fm.lt
  have hi_b : h0.size > b := Ab.lt
  subst hnn
  refine own_iloadN X 1 (3 : Int32) own_d7_0 rfl rfl ?_
  refine own_iconst X 2 (1 : Int32) own_d7_1 rfl rfl ?_
  refine own_icN X 5 own_d7_2 rfl (XT.ii_lt_f (by decide)) ?_
  refine own_aloadN X 6 (.ref a) own_d7_5 rfl rfl rfl ?_
  refine own_aloadN X 7 (.ref ei) own_d7_6 rfl rfl rfl ?_
  refine own_callV X 10 [(.ref ei)] [] own_d7_7 rfl (hw _ (List.mem_of_getElem? (i := 50) rfl)) (hw _ (List.mem_of_getElem? (i := 51) rfl)) (own_nf X.2.2.2.2.1 (hw _ (List.mem_of_getElem? (i := 53) rfl))) (hw _ (List.mem_of_getElem? (i := 53) rfl)) (hw _ (List.mem_of_getElem? (i := 52) rfl)) (hw _ (List.mem_of_getElem? (i := 24) rfl)) (hw _ (List.mem_of_getElem? (i := 54) rfl)) (by decide) Ea (own_add1m l Z a0 hw a ei b ka mc (((0 + 1) + 1) + 1) ((((List.replicate 10 .null).set 0 (.ref ei)).set 1 (.ref ei)).set 2 (.ref ei)) 3 h0 n0 X.sz Fm Fs Fe Ea (by omega) Ab Ob (by omega) Ie (by decide) (by decide) (by simp) (by simp only [List.length_set, List.length_replicate]; decide) (by omega)) (fun _ _ q => q.1.1) rfl own_pd16 rfl rfl rfl (by decide) (Nat.le_of_ble_eq_true rfl) (by decide) (by decide) ?_
  rintro v7 T h1 X ⟨K_, rfl, A2_, Fm_, Fs_, Fe_⟩
  have zs_h1 : h0.size ≤ h1.size := K_.1
  have OL := OL.keep K_ (allS (by omega) (allS (by omega) all0))
  have Ea := Ea.keep K_
  have Ie := own_Ins_keep Ie K_
  have K0 := K0.trans K_ (allS (Or.inl (by simp)) (allS (Or.inl (by simp)) all0))
  have Eb := Eb.keep K_
  have Ab := A2_
  have F_modCount_a := Fm_
  have F_size_a := Fs_
  have F_elementData_a := Fe_
  show own_Ends p e below _ (T.setTop (mkF m 10 #[.val (.ref a), .val (.ref ei), .val (.int (3 : Int32))] [(.int (1 : Int32))]))
  refine own_pop X 11 own_d7_10 rfl rfl ?_
  refine own_iloadN X 12 (3 : Int32) own_d7_11 rfl rfl ?_
  refine own_iconst X 13 (2 : Int32) own_d7_12 rfl rfl ?_
  refine own_icN X 16 own_d7_13 rfl (XT.ii_lt_f (by decide)) ?_
  refine own_aloadN X 17 (.ref a) own_d7_16 rfl rfl rfl ?_
  refine own_aloadN X 18 (.ref ei) own_d7_17 rfl rfl rfl ?_
  refine own_callV X 21 [(.ref ei)] [] own_d7_18 rfl (hw _ (List.mem_of_getElem? (i := 50) rfl)) (hw _ (List.mem_of_getElem? (i := 51) rfl)) (own_nf X.2.2.2.2.1 (hw _ (List.mem_of_getElem? (i := 53) rfl))) (hw _ (List.mem_of_getElem? (i := 53) rfl)) (hw _ (List.mem_of_getElem? (i := 52) rfl)) (hw _ (List.mem_of_getElem? (i := 24) rfl)) (hw _ (List.mem_of_getElem? (i := 54) rfl)) (by decide) Ea (own_add1m l Z a0 hw a ei b ka (mc + 1) ((((0 + 1) + 1) + 1) + 1) (((((List.replicate 10 .null).set 0 (.ref ei)).set 1 (.ref ei)).set 2 (.ref ei)).set 3 (.ref ei)) 4 h1 n0 X.sz F_modCount_a F_size_a F_elementData_a Ea (by omega) Ab Ob (by omega) Ie (by decide) (by decide) (by simp) (by simp only [List.length_set, List.length_replicate]; decide) (by omega)) (fun _ _ q => q.1.1) rfl own_pd16 rfl rfl rfl (by decide) (Nat.le_of_ble_eq_true rfl) (by decide) (by decide) ?_
  rintro v18 T h2 X ⟨K_, rfl, A2_, Fm_, Fs_, Fe_⟩
  have zs_h2 : h1.size ≤ h2.size := K_.1
  have OL := OL.keep K_ (allS (by omega) (allS (by omega) all0))
  have Ea := Ea.keep K_
  have Ie := own_Ins_keep Ie K_
  have K0 := K0.trans K_ (allS (Or.inl (by simp)) (allS (Or.inl (by simp)) all0))
  have Eb := Eb.keep K_
  have Ab := A2_
  have F_modCount_a := Fm_
  have F_size_a := Fs_
  have F_elementData_a := Fe_
  show own_Ends p e below _ (T.setTop (mkF m 21 #[.val (.ref a), .val (.ref ei), .val (.int (3 : Int32))] [(.int (1 : Int32))]))
  refine own_pop X 22 own_d7_21 rfl rfl ?_
  refine own_iloadN X 23 (3 : Int32) own_d7_22 rfl rfl ?_
  refine own_iconst X 24 (3 : Int32) own_d7_23 rfl rfl ?_
  refine own_icN X 27 own_d7_24 rfl (XT.ii_lt_f (by decide)) ?_
  refine own_aloadN X 28 (.ref a) own_d7_27 rfl rfl rfl ?_
  refine own_aloadN X 29 (.ref ei) own_d7_28 rfl rfl rfl ?_
  refine own_callV X 32 [(.ref ei)] [] own_d7_29 rfl (hw _ (List.mem_of_getElem? (i := 50) rfl)) (hw _ (List.mem_of_getElem? (i := 51) rfl)) (own_nf X.2.2.2.2.1 (hw _ (List.mem_of_getElem? (i := 53) rfl))) (hw _ (List.mem_of_getElem? (i := 53) rfl)) (hw _ (List.mem_of_getElem? (i := 52) rfl)) (hw _ (List.mem_of_getElem? (i := 24) rfl)) (hw _ (List.mem_of_getElem? (i := 54) rfl)) (by decide) Ea (own_add1m l Z a0 hw a ei b ka ((mc + 1) + 1) (((((0 + 1) + 1) + 1) + 1) + 1) ((((((List.replicate 10 .null).set 0 (.ref ei)).set 1 (.ref ei)).set 2 (.ref ei)).set 3 (.ref ei)).set 4 (.ref ei)) 5 h2 n0 X.sz F_modCount_a F_size_a F_elementData_a Ea (by omega) Ab Ob (by omega) Ie (by decide) (by decide) (by simp) (by simp only [List.length_set, List.length_replicate]; decide) (by omega)) (fun _ _ q => q.1.1) rfl own_pd16 rfl rfl rfl (by decide) (Nat.le_of_ble_eq_true rfl) (by decide) (by decide) ?_
  rintro v29 T h3 X ⟨K_, rfl, A2_, Fm_, Fs_, Fe_⟩
  have zs_h3 : h2.size ≤ h3.size := K_.1
  have OL := OL.keep K_ (allS (by omega) (allS (by omega) all0))
  have Ea := Ea.keep K_
  have Ie := own_Ins_keep Ie K_
  have K0 := K0.trans K_ (allS (Or.inl (by simp)) (allS (Or.inl (by simp)) all0))
  have Eb := Eb.keep K_
  have Ab := A2_
  have F_modCount_a := Fm_
  have F_size_a := Fs_
  have F_elementData_a := Fe_
  show own_Ends p e below _ (T.setTop (mkF m 32 #[.val (.ref a), .val (.ref ei), .val (.int (3 : Int32))] [(.int (1 : Int32))]))
  refine own_pop X 33 own_d7_32 rfl rfl ?_
  exact own_retV X own_d7_33 rfl (by decide) (by decide) (⟨K0, rfl, F_modCount_a, F_size_a, F_elementData_a, Ab⟩)
theorem own_pd17 : parseMethodDescriptor "(Ljava/util/Optional;Ljava/util/Optional;Ljava/util/Optional;Ljava/lang/String;)V" = some ⟨[(.object "java/util/Optional"), (.object "java/util/Optional"), (.object "java/util/Optional"), (.object "java/lang/String")], none⟩ := by decide +kernel
theorem own_pd18 : parseMethodDescriptor "(Ljava/util/ArrayList;Lcom/example/rosettine/rosettine/model/ConversionReport$NotConverted;I)V" = some ⟨[(.object "java/util/ArrayList"), (.object "com/example/rosettine/rosettine/model/ConversionReport$NotConverted"), .int], none⟩ := by decide +kernel
theorem own_pd19 : parseMethodDescriptor "(ILjava/util/List;)V" = some ⟨[.int, (.object "java/util/List")], none⟩ := by decide +kernel
theorem own_pn0 : plainFor x = true := plainFor_of_name (by first | (simp [plainName, overriddenIn]; done) | decide +kernel)
set_option maxRecDepth 65536 in
set_option maxHeartbeats 40000000 in
theorem own_m0 (l : Launch) (Z : State) (a0 : Array Value) (hw : ∀ d ∈ tables_1, d.before a0 Z = true) (pa : Int32) (pb : Int32) (pc : Int32) (de : Addr) (kd : ClassId) (el : Addr) (ea : Addr) (ke : ClassId) (em : Addr) (mr : Addr) (h0 : Heap) (n0 : Nat) (hs0 : n0 ≤ h0.size) (OL : Old Z n0 h0) (z_de : Sta Z Z.heap "java/util/ArrayList" "DEFAULTCAPACITY_EMPTY_ELEMENTDATA" "[Ljava/lang/Object;" (.ref de)) (z_dA : own_A Z Z.heap de kd (.object "java/lang/Object") []) (z_el : Sta Z Z.heap "java/util/ImmutableCollections" "EMPTY_LIST" "Ljava/util/ImmutableCollections$ListN;" (.ref el)) (z_eE : Exa Z Z.heap el "java/util/ImmutableCollections$ListN") (z_eF : Fld Z Z.heap el "java/util/ImmutableCollections$ListN" "elements" "[Ljava/lang/Object;" (.ref ea)) (z_eA : own_A Z Z.heap ea ke (.object "java/lang/Object") []) (z_em : Sta Z Z.heap "java/util/ImmutableCollections" "EMPTY" "Ljava/lang/Object;" (.ref em)) (z_mE : Exa Z Z.heap em "java/lang/Object") (hmr : own_Mir Z "[Ljava/lang/Object;" mr) :
    own_Met l x code maxLocals ret room_1 Z #[(.int pa), (.int pb), (.int pc)] h0 n0 (fun v h' => v = some (.int 1)) := by
  refine own_met (Ls := #[.val (.int pa), .val (.int pb), .val (.int pc), .unset, .unset, .unset, .unset, .unset, .unset, .unset, .unset]) own_pn0 hs0 (fun m => by first | (simp [entryFrame, mkF, argsToLocals, Value.category, maxLocals]; done) | rfl) ?_
  intro p e s m below meth c T X
  have hi_de : n0 > de := (OL.1 ▸ z_dA.lt)
  have hi_el : n0 > el := (OL.1 ▸ z_eE.lt)
  have hi_ea : n0 > ea := (OL.1 ▸ z_eA.lt)
  have hi_em : n0 > em := (OL.1 ▸ z_mE.lt)
  refine own_iloadN X 1 pb at_0 rfl rfl ?_
  refine own_iconst X 2 (3 : Int32) at_1 rfl rfl ?_
  refine own_iand X 3 at_2 rfl ?_
  refine own_istoreN X 4 #[.val (.int pa), .val (.int pb), .val (.int pc), .val (.int (pb &&& (3 : Int32))), .unset, .unset, .unset, .unset, .unset, .unset, .unset] at_3 rfl rfl ?_
  rcases own_and3 pb with hn_ | hn_ | hn_ | hn_
  · rw [hn_]
    refine own_iloadN X 5 pc at_4 rfl rfl ?_
    refine own_iconst X 6 (3 : Int32) at_5 rfl rfl ?_
    refine own_iand X 7 at_6 rfl ?_
    refine own_istore X 9 #[.val (.int pa), .val (.int pb), .val (.int pc), .val (.int (0 : Int32)), .val (.int (pc &&& (3 : Int32))), .unset, .unset, .unset, .unset, .unset, .unset] at_7 rfl rfl ?_
    rcases own_and3 pc with hm_ | hm_ | hm_ | hm_
    · rw [hm_]
      refine own_new X 12 at_9 rfl (hw _ (List.mem_of_getElem? (i := 0) rfl)) (hw _ (List.mem_of_getElem? (i := 1) rfl)) (hw _ (List.mem_of_getElem? (i := 2) rfl)) (by decide) (by decide) ?_
      intro T h1 b2 g_b2 X E_h1 A_b2 D_b2
      have zs_h1 : h0.size ≤ h1.size := E_h1.1
      have OL := OL.ext E_h1
      have lo_b2 : h0.size ≤ b2 := Nat.le_of_eq g_b2.symm
      have hi_b2 : h1.size > b2 := A_b2.lt
      have F_section_b2 : Fld Z h1 b2 "com/example/rosettine/rosettine/model/ConversionReport$NotConverted" "section" "Ljava/util/Optional;" .null := D_b2 (Or.inr (hw _ (List.mem_of_getElem? (i := 15) rfl))) (ty := (.object "java/util/Optional")) (by decide)
      have F_template_b2 : Fld Z h1 b2 "com/example/rosettine/rosettine/model/ConversionReport$NotConverted" "template" "Ljava/util/Optional;" .null := D_b2 (Or.inr (hw _ (List.mem_of_getElem? (i := 17) rfl))) (ty := (.object "java/util/Optional")) (by decide)
      have F_id_b2 : Fld Z h1 b2 "com/example/rosettine/rosettine/model/ConversionReport$NotConverted" "id" "Ljava/util/Optional;" .null := D_b2 (Or.inr (hw _ (List.mem_of_getElem? (i := 19) rfl))) (ty := (.object "java/util/Optional")) (by decide)
      have F_reason_b2 : Fld Z h1 b2 "com/example/rosettine/rosettine/model/ConversionReport$NotConverted" "reason" "Ljava/lang/String;" .null := D_b2 (Or.inr (hw _ (List.mem_of_getElem? (i := 21) rfl))) (ty := (.object "java/lang/String")) (by decide)
      refine own_dup X 13 at_12 rfl rfl ?_
      refine own_anull X 14 at_13 rfl ?_
      refine own_anull X 15 at_14 rfl ?_
      refine own_anull X 16 at_15 rfl ?_
      refine own_anull X 17 at_16 rfl ?_
      refine own_init X 20 [.null, .null, .null, .null] [(.ref b2)] at_17 rfl (hw _ (List.mem_of_getElem? (i := 3) rfl)) (hw _ (List.mem_of_getElem? (i := 4) rfl)) (hw _ (List.mem_of_getElem? (i := 2) rfl)) (hw _ (List.mem_of_getElem? (i := 5) rfl)) (by decide) rfl (own_nc l Z a0 hw b2 h1 n0 X.sz F_section_b2 F_template_b2 F_id_b2 F_reason_b2 A_b2 (by omega)) (fun _ _ q => q.1.1) rfl own_pd17 rfl rfl rfl (by decide) (Nat.le_of_ble_eq_true rfl) (by decide) (by decide) ?_
      rintro v17 T h3 X ⟨K_, rfl⟩
      have zs_h3 : h1.size ≤ h3.size := K_.1
      have OL := OL.keep K_ (allS (by omega) all0)
      have A_b2 := A_b2.keep K_
      show own_Ends p e below _ (T.setTop (mkF m 20 #[.val (.int pa), .val (.int pb), .val (.int pc), .val (.int (0 : Int32)), .val (.int (0 : Int32)), .unset, .unset, .unset, .unset, .unset, .unset] [(.ref b2)]))
      refine own_astore X 22 #[.val (.int pa), .val (.int pb), .val (.int pc), .val (.int (0 : Int32)), .val (.int (0 : Int32)), .val (.ref b2), .unset, .unset, .unset, .unset, .unset] at_20 rfl rfl rfl ?_
      refine own_new X 25 at_22 rfl (hw _ (List.mem_of_getElem? (i := 22) rfl)) (hw _ (List.mem_of_getElem? (i := 23) rfl)) (hw _ (List.mem_of_getElem? (i := 24) rfl)) (by decide) (by decide) ?_
      intro T h4 b5 g_b5 X E_h4 A_b5 D_b5
      have zs_h4 : h3.size ≤ h4.size := E_h4.1
      have OL := OL.ext E_h4
      have A_b2 := Exa.ext E_h4 A_b2
      have lo_b5 : h3.size ≤ b5 := Nat.le_of_eq g_b5.symm
      have hi_b5 : h4.size > b5 := A_b5.lt
      have F_modCount_b5 : Fld Z h4 b5 "java/util/AbstractList" "modCount" "I" (.int (0 : Int32)) := D_b5 (Or.inl (hw _ (List.mem_of_getElem? (i := 42) rfl))) (ty := .int) (by decide)
      have F_elementData_b5 : Fld Z h4 b5 "java/util/ArrayList" "elementData" "[Ljava/lang/Object;" .null := D_b5 (Or.inl (hw _ (List.mem_of_getElem? (i := 45) rfl))) (ty := (.array (.object "java/lang/Object"))) (by decide)
      have F_size_b5 : Fld Z h4 b5 "java/util/ArrayList" "size" "I" (.int (0 : Int32)) := D_b5 (Or.inl (hw _ (List.mem_of_getElem? (i := 58) rfl))) (ty := .int) (by decide)
      refine own_dup X 26 at_25 rfl rfl ?_
      refine own_init X 29 [] [(.ref b5)] at_26 rfl (hw _ (List.mem_of_getElem? (i := 25) rfl)) (hw _ (List.mem_of_getElem? (i := 26) rfl)) (hw _ (List.mem_of_getElem? (i := 24) rfl)) (hw _ (List.mem_of_getElem? (i := 27) rfl)) (by decide) rfl (own_alinit l Z a0 hw b5 de h4 n0 X.sz OL z_de F_modCount_b5 F_size_b5 F_elementData_b5 A_b5 (by omega)) (fun _ _ q => q.1.1) rfl own_pd0 rfl rfl rfl (by decide) (Nat.le_of_ble_eq_true rfl) (by decide) (by decide) ?_
      rintro v26 T h6 X ⟨K_, rfl, Fm_, Fs_, Fe_⟩
      have zs_h6 : h4.size ≤ h6.size := K_.1
      have OL := OL.keep K_ (allS (by omega) all0)
      have A_b2 := A_b2.keep K_
      have A_b5 := A_b5.keep K_
      have F_modCount_b5 := Fm_
      have F_size_b5 := Fs_
      have F_elementData_b5 := Fe_
      show own_Ends p e below _ (T.setTop (mkF m 29 #[.val (.int pa), .val (.int pb), .val (.int pc), .val (.int (0 : Int32)), .val (.int (0 : Int32)), .val (.ref b2), .unset, .unset, .unset, .unset, .unset] [(.ref b5)]))
      refine own_astore X 31 #[.val (.int pa), .val (.int pb), .val (.int pc), .val (.int (0 : Int32)), .val (.int (0 : Int32)), .val (.ref b2), .val (.ref b5), .unset, .unset, .unset, .unset] at_29 rfl rfl rfl ?_
      refine own_aload X 33 (.ref b5) at_31 rfl rfl rfl ?_
      refine own_aload X 35 (.ref b2) at_33 rfl rfl rfl ?_
      refine own_iloadN X 36 (0 : Int32) at_35 rfl rfl ?_
      refine own_callS X 39 [(.ref b5), (.ref b2), (.int (0 : Int32))] [] at_36 rfl (hw _ (List.mem_of_getElem? (i := 46) rfl)) (hw _ (List.mem_of_getElem? (i := 47) rfl)) (hw _ (List.mem_of_getElem? (i := 48) rfl)) (hw _ (List.mem_of_getElem? (i := 49) rfl)) (by decide) (own_upto_0_0 l Z a0 hw b5 b2 (0 : Int32) de kd 0 h6 n0 X.sz OL z_de z_dA F_modCount_b5 F_size_b5 F_elementData_b5 A_b5 (by omega) (Ins.of_exa A_b2 (hw _ (List.mem_of_getElem? (i := 80) rfl))) (by omega) (by show @Ne Nat _ _; omega) rfl) (fun _ _ q => q.1.1) rfl own_pd18 rfl rfl rfl (by decide) (Nat.le_of_ble_eq_true rfl) (by decide) (by decide) ?_
      rintro v36 T h8 X ⟨K_, rfl, Fm_, Fs_, Fe_⟩
      have zs_h8 : h6.size ≤ h8.size := K_.1
      have OL := OL.keep K_ (allS (by omega) all0)
      have A_b2 := A_b2.keep K_
      have A_b5 := A_b5.keep K_
      have F_modCount_b5 := Fm_
      have F_size_b5 := Fs_
      have F_elementData_b5 := Fe_
      show own_Ends p e below _ (T.setTop (mkF m 39 #[.val (.int pa), .val (.int pb), .val (.int pc), .val (.int (0 : Int32)), .val (.int (0 : Int32)), .val (.ref b2), .val (.ref b5), .unset, .unset, .unset, .unset] []))
      refine own_new X 42 at_39 rfl (hw _ (List.mem_of_getElem? (i := 81) rfl)) (hw _ (List.mem_of_getElem? (i := 82) rfl)) (hw _ (List.mem_of_getElem? (i := 83) rfl)) (by decide) (by decide) ?_
      intro T h9 b10 g_b10 X E_h9 A_b10 D_b10
      have zs_h9 : h8.size ≤ h9.size := E_h9.1
      have OL := OL.ext E_h9
      have A_b2 := Exa.ext E_h9 A_b2
      have A_b5 := Exa.ext E_h9 A_b5
      have F_modCount_b5 := Fld.ext E_h9 F_modCount_b5
      have F_size_b5 := Fld.ext E_h9 F_size_b5
      have F_elementData_b5 := Fld.ext E_h9 F_elementData_b5
      have lo_b10 : h8.size ≤ b10 := Nat.le_of_eq g_b10.symm
      have hi_b10 : h9.size > b10 := A_b10.lt
      have F_converted_b10 : Fld Z h9 b10 "com/example/rosettine/rosettine/model/ConversionReport" "converted" "I" (.int (0 : Int32)) := D_b10 (Or.inr (hw _ (List.mem_of_getElem? (i := 177) rfl))) (ty := .int) (by decide)
      have F_notConverted_b10 : Fld Z h9 b10 "com/example/rosettine/rosettine/model/ConversionReport" "notConverted" "Ljava/util/List;" .null := D_b10 (Or.inr (hw _ (List.mem_of_getElem? (i := 179) rfl))) (ty := (.object "java/util/List")) (by decide)
      refine own_dup X 43 at_42 rfl rfl ?_
      refine own_iloadN X 44 pa at_43 rfl rfl ?_
      refine own_aload X 46 (.ref b5) at_44 rfl rfl rfl ?_
      refine own_init X 49 [(.int pa), (.ref b5)] [(.ref b10)] at_46 rfl (hw _ (List.mem_of_getElem? (i := 84) rfl)) (hw _ (List.mem_of_getElem? (i := 85) rfl)) (hw _ (List.mem_of_getElem? (i := 83) rfl)) (hw _ (List.mem_of_getElem? (i := 86) rfl)) (by decide) rfl (own_crini_0 l Z a0 hw b10 pa b5 de kd el ea ke em mr h9 n0 X.sz OL z_de z_dA z_el z_eE z_eF z_eA z_em z_mE hmr F_size_b5 A_b5 F_converted_b10 F_notConverted_b10 A_b10 (by omega) (by show @Ne Nat _ _; omega)) (fun _ _ q => q.1.1) rfl own_pd19 rfl rfl rfl (by decide) (Nat.le_of_ble_eq_true rfl) (by decide) (by decide) ?_
      rintro v46 T h12 X ⟨K_, rfl, Fcv_, L11, Fnc_, -, hel_⟩
      have zs_h12 : h9.size ≤ h12.size := K_.1
      have OL := OL.keep K_ (allS (by omega) all0)
      have A_b2 := A_b2.keep K_
      have A_b5 := A_b5.keep K_
      have F_modCount_b5 := F_modCount_b5.keep K_ (ninS (by show @Ne Nat _ _; omega) nin0)
      have F_size_b5 := F_size_b5.keep K_ (ninS (by show @Ne Nat _ _; omega) nin0)
      have F_elementData_b5 := F_elementData_b5.keep K_ (ninS (by show @Ne Nat _ _; omega) nin0)
      have A_b10 := A_b10.keep K_
      rw [hel_] at Fnc_
      have F_converted_b10 := Fcv_
      have F_notConverted_b10 := Fnc_
      show own_Ends p e below _ (T.setTop (mkF m 49 #[.val (.int pa), .val (.int pb), .val (.int pc), .val (.int (0 : Int32)), .val (.int (0 : Int32)), .val (.ref b2), .val (.ref b5), .unset, .unset, .unset, .unset] [(.ref b10)]))
      refine own_astore X 51 #[.val (.int pa), .val (.int pb), .val (.int pc), .val (.int (0 : Int32)), .val (.int (0 : Int32)), .val (.ref b2), .val (.ref b5), .val (.ref b10), .unset, .unset, .unset] at_49 rfl rfl rfl ?_
      refine own_aload X 53 (.ref b10) at_51 rfl rfl rfl ?_
      refine own_callV X 56 [] [] at_53 rfl (hw _ (List.mem_of_getElem? (i := 180) rfl)) (hw _ (List.mem_of_getElem? (i := 181) rfl)) (own_nf X.2.2.2.2.1 (hw _ (List.mem_of_getElem? (i := 183) rfl))) (hw _ (List.mem_of_getElem? (i := 183) rfl)) (hw _ (List.mem_of_getElem? (i := 182) rfl)) (hw _ (List.mem_of_getElem? (i := 83) rfl)) (hw _ (List.mem_of_getElem? (i := 184) rfl)) (by decide) A_b10 (own_entries_0 l Z a0 hw b10 pa el em b2 de kd el ea ke h12 n0 X.sz F_converted_b10 F_notConverted_b10 OL z_el z_eE z_eF z_eA rfl) (fun _ _ q => Nat.le_of_eq (congrArg Array.size q.1.symm)) rfl own_pd15 rfl rfl rfl (by decide) (Nat.le_of_ble_eq_true rfl) (by decide) (by decide) ?_
      rintro v53 T h_ X ⟨eh_, rfl⟩
      rw [eh_] at X
      show own_Ends p e below _ (T.setTop (mkF m 56 #[.val (.int pa), .val (.int pb), .val (.int pc), .val (.int (0 : Int32)), .val (.int (0 : Int32)), .val (.ref b2), .val (.ref b5), .val (.ref b10), .unset, .unset, .unset] [(.int (pa + 0))]))
      refine own_istore X 58 #[.val (.int pa), .val (.int pb), .val (.int pc), .val (.int (0 : Int32)), .val (.int (0 : Int32)), .val (.ref b2), .val (.ref b5), .val (.ref b10), .val (.int (pa + 0)), .unset, .unset] at_56 rfl rfl ?_
      refine own_aload X 60 (.ref b5) at_58 rfl rfl rfl ?_
      refine own_aload X 62 (.ref b2) at_60 rfl rfl rfl ?_
      refine own_iload X 64 (0 : Int32) at_62 rfl rfl ?_
      refine own_callS X 67 [(.ref b5), (.ref b2), (.int (0 : Int32))] [] at_64 rfl (hw _ (List.mem_of_getElem? (i := 46) rfl)) (hw _ (List.mem_of_getElem? (i := 47) rfl)) (hw _ (List.mem_of_getElem? (i := 48) rfl)) (hw _ (List.mem_of_getElem? (i := 49) rfl)) (by decide) (own_upto_0_0 l Z a0 hw b5 b2 (0 : Int32) de kd 0 h12 n0 X.sz OL z_de z_dA F_modCount_b5 F_size_b5 F_elementData_b5 A_b5 (by omega) (Ins.of_exa A_b2 (hw _ (List.mem_of_getElem? (i := 80) rfl))) (by omega) (by show @Ne Nat _ _; omega) rfl) (fun _ _ q => q.1.1) rfl own_pd18 rfl rfl rfl (by decide) (Nat.le_of_ble_eq_true rfl) (by decide) (by decide) ?_
      rintro v64 T h14 X ⟨K_, rfl, Fm_, Fs_, Fe_⟩
      have zs_h14 : h12.size ≤ h14.size := K_.1
      have OL := OL.keep K_ (allS (by omega) all0)
      have A_b2 := A_b2.keep K_
      have A_b5 := A_b5.keep K_
      have A_b10 := A_b10.keep K_
      have F_converted_b10 := F_converted_b10.keep K_ (ninS (by show @Ne Nat _ _; omega) nin0)
      have F_notConverted_b10 := F_notConverted_b10.keep K_ (ninS (by show @Ne Nat _ _; omega) nin0)
      have F_modCount_b5 := Fm_
      have F_size_b5 := Fs_
      have F_elementData_b5 := Fe_
      show own_Ends p e below _ (T.setTop (mkF m 67 #[.val (.int pa), .val (.int pb), .val (.int pc), .val (.int (0 : Int32)), .val (.int (0 : Int32)), .val (.ref b2), .val (.ref b5), .val (.ref b10), .val (.int (pa + 0)), .unset, .unset] []))
      refine own_aload X 69 (.ref b10) at_67 rfl rfl rfl ?_
      refine own_callV X 72 [] [] at_69 rfl (hw _ (List.mem_of_getElem? (i := 180) rfl)) (hw _ (List.mem_of_getElem? (i := 181) rfl)) (own_nf X.2.2.2.2.1 (hw _ (List.mem_of_getElem? (i := 183) rfl))) (hw _ (List.mem_of_getElem? (i := 183) rfl)) (hw _ (List.mem_of_getElem? (i := 182) rfl)) (hw _ (List.mem_of_getElem? (i := 83) rfl)) (hw _ (List.mem_of_getElem? (i := 184) rfl)) (by decide) A_b10 (own_entries_0 l Z a0 hw b10 pa el em b2 de kd el ea ke h14 n0 X.sz F_converted_b10 F_notConverted_b10 OL z_el z_eE z_eF z_eA rfl) (fun _ _ q => Nat.le_of_eq (congrArg Array.size q.1.symm)) rfl own_pd15 rfl rfl rfl (by decide) (Nat.le_of_ble_eq_true rfl) (by decide) (by decide) ?_
      rintro v69 T h_ X ⟨eh_, rfl⟩
      rw [eh_] at X
      show own_Ends p e below _ (T.setTop (mkF m 72 #[.val (.int pa), .val (.int pb), .val (.int pc), .val (.int (0 : Int32)), .val (.int (0 : Int32)), .val (.ref b2), .val (.ref b5), .val (.ref b10), .val (.int (pa + 0)), .unset, .unset] [(.int (pa + 0))]))
      refine own_istore X 74 #[.val (.int pa), .val (.int pb), .val (.int pc), .val (.int (0 : Int32)), .val (.int (0 : Int32)), .val (.ref b2), .val (.ref b5), .val (.ref b10), .val (.int (pa + 0)), .val (.int (pa + 0)), .unset] at_72 rfl rfl ?_
      refine own_iloadN X 75 pa at_74 rfl rfl ?_
      refine own_iloadN X 76 (0 : Int32) at_75 rfl rfl ?_
      refine own_iadd X 77 at_76 rfl ?_
      refine own_istore X 79 #[.val (.int pa), .val (.int pb), .val (.int pc), .val (.int (0 : Int32)), .val (.int (0 : Int32)), .val (.ref b2), .val (.ref b5), .val (.ref b10), .val (.int (pa + 0)), .val (.int (pa + 0)), .val (.int (pa + (0 : Int32)))] at_77 rfl rfl ?_
      refine own_iload X 81 (pa + 0) at_79 rfl rfl ?_
      refine own_iload X 83 (pa + (0 : Int32)) at_81 rfl rfl ?_
      refine own_icN X 86 at_83 rfl (XT.ii_ne_f rfl) ?_
      refine own_iload X 88 (pa + 0) at_86 rfl rfl ?_
      refine own_iload X 90 (pa + (0 : Int32)) at_88 rfl rfl ?_
      refine own_icN X 93 at_90 rfl (XT.ii_ne_f rfl) ?_
      refine own_iconst X 94 (1 : Int32) at_93 rfl rfl ?_
      refine own_goto X 98 at_94 (by decide) (by decide) ?_
      exact own_retN X .boolean at_98 rfl (by simp) (by decide) (by decide) (by decide)
    · rw [hm_]
      refine own_new X 12 at_9 rfl (hw _ (List.mem_of_getElem? (i := 0) rfl)) (hw _ (List.mem_of_getElem? (i := 1) rfl)) (hw _ (List.mem_of_getElem? (i := 2) rfl)) (by decide) (by decide) ?_
      intro T h15 b16 g_b16 X E_h15 A_b16 D_b16
      have zs_h15 : h0.size ≤ h15.size := E_h15.1
      have OL := OL.ext E_h15
      have lo_b16 : h0.size ≤ b16 := Nat.le_of_eq g_b16.symm
      have hi_b16 : h15.size > b16 := A_b16.lt
      have F_section_b16 : Fld Z h15 b16 "com/example/rosettine/rosettine/model/ConversionReport$NotConverted" "section" "Ljava/util/Optional;" .null := D_b16 (Or.inr (hw _ (List.mem_of_getElem? (i := 15) rfl))) (ty := (.object "java/util/Optional")) (by decide)
      have F_template_b16 : Fld Z h15 b16 "com/example/rosettine/rosettine/model/ConversionReport$NotConverted" "template" "Ljava/util/Optional;" .null := D_b16 (Or.inr (hw _ (List.mem_of_getElem? (i := 17) rfl))) (ty := (.object "java/util/Optional")) (by decide)
      have F_id_b16 : Fld Z h15 b16 "com/example/rosettine/rosettine/model/ConversionReport$NotConverted" "id" "Ljava/util/Optional;" .null := D_b16 (Or.inr (hw _ (List.mem_of_getElem? (i := 19) rfl))) (ty := (.object "java/util/Optional")) (by decide)
      have F_reason_b16 : Fld Z h15 b16 "com/example/rosettine/rosettine/model/ConversionReport$NotConverted" "reason" "Ljava/lang/String;" .null := D_b16 (Or.inr (hw _ (List.mem_of_getElem? (i := 21) rfl))) (ty := (.object "java/lang/String")) (by decide)
      refine own_dup X 13 at_12 rfl rfl ?_
      refine own_anull X 14 at_13 rfl ?_
      refine own_anull X 15 at_14 rfl ?_
      refine own_anull X 16 at_15 rfl ?_
      refine own_anull X 17 at_16 rfl ?_
      refine own_init X 20 [.null, .null, .null, .null] [(.ref b16)] at_17 rfl (hw _ (List.mem_of_getElem? (i := 3) rfl)) (hw _ (List.mem_of_getElem? (i := 4) rfl)) (hw _ (List.mem_of_getElem? (i := 2) rfl)) (hw _ (List.mem_of_getElem? (i := 5) rfl)) (by decide) rfl (own_nc l Z a0 hw b16 h15 n0 X.sz F_section_b16 F_template_b16 F_id_b16 F_reason_b16 A_b16 (by omega)) (fun _ _ q => q.1.1) rfl own_pd17 rfl rfl rfl (by decide) (Nat.le_of_ble_eq_true rfl) (by decide) (by decide) ?_
      rintro v17 T h17 X ⟨K_, rfl⟩
      have zs_h17 : h15.size ≤ h17.size := K_.1
      have OL := OL.keep K_ (allS (by omega) all0)
      have A_b16 := A_b16.keep K_
      show own_Ends p e below _ (T.setTop (mkF m 20 #[.val (.int pa), .val (.int pb), .val (.int pc), .val (.int (0 : Int32)), .val (.int (1 : Int32)), .unset, .unset, .unset, .unset, .unset, .unset] [(.ref b16)]))
      refine own_astore X 22 #[.val (.int pa), .val (.int pb), .val (.int pc), .val (.int (0 : Int32)), .val (.int (1 : Int32)), .val (.ref b16), .unset, .unset, .unset, .unset, .unset] at_20 rfl rfl rfl ?_
      refine own_new X 25 at_22 rfl (hw _ (List.mem_of_getElem? (i := 22) rfl)) (hw _ (List.mem_of_getElem? (i := 23) rfl)) (hw _ (List.mem_of_getElem? (i := 24) rfl)) (by decide) (by decide) ?_
      intro T h18 b19 g_b19 X E_h18 A_b19 D_b19
      have zs_h18 : h17.size ≤ h18.size := E_h18.1
      have OL := OL.ext E_h18
      have A_b16 := Exa.ext E_h18 A_b16
      have lo_b19 : h17.size ≤ b19 := Nat.le_of_eq g_b19.symm
      have hi_b19 : h18.size > b19 := A_b19.lt
      have F_modCount_b19 : Fld Z h18 b19 "java/util/AbstractList" "modCount" "I" (.int (0 : Int32)) := D_b19 (Or.inl (hw _ (List.mem_of_getElem? (i := 42) rfl))) (ty := .int) (by decide)
      have F_elementData_b19 : Fld Z h18 b19 "java/util/ArrayList" "elementData" "[Ljava/lang/Object;" .null := D_b19 (Or.inl (hw _ (List.mem_of_getElem? (i := 45) rfl))) (ty := (.array (.object "java/lang/Object"))) (by decide)
      have F_size_b19 : Fld Z h18 b19 "java/util/ArrayList" "size" "I" (.int (0 : Int32)) := D_b19 (Or.inl (hw _ (List.mem_of_getElem? (i := 58) rfl))) (ty := .int) (by decide)
      refine own_dup X 26 at_25 rfl rfl ?_
      refine own_init X 29 [] [(.ref b19)] at_26 rfl (hw _ (List.mem_of_getElem? (i := 25) rfl)) (hw _ (List.mem_of_getElem? (i := 26) rfl)) (hw _ (List.mem_of_getElem? (i := 24) rfl)) (hw _ (List.mem_of_getElem? (i := 27) rfl)) (by decide) rfl (own_alinit l Z a0 hw b19 de h18 n0 X.sz OL z_de F_modCount_b19 F_size_b19 F_elementData_b19 A_b19 (by omega)) (fun _ _ q => q.1.1) rfl own_pd0 rfl rfl rfl (by decide) (Nat.le_of_ble_eq_true rfl) (by decide) (by decide) ?_
      rintro v26 T h20 X ⟨K_, rfl, Fm_, Fs_, Fe_⟩
      have zs_h20 : h18.size ≤ h20.size := K_.1
      have OL := OL.keep K_ (allS (by omega) all0)
      have A_b16 := A_b16.keep K_
      have A_b19 := A_b19.keep K_
      have F_modCount_b19 := Fm_
      have F_size_b19 := Fs_
      have F_elementData_b19 := Fe_
      show own_Ends p e below _ (T.setTop (mkF m 29 #[.val (.int pa), .val (.int pb), .val (.int pc), .val (.int (0 : Int32)), .val (.int (1 : Int32)), .val (.ref b16), .unset, .unset, .unset, .unset, .unset] [(.ref b19)]))
      refine own_astore X 31 #[.val (.int pa), .val (.int pb), .val (.int pc), .val (.int (0 : Int32)), .val (.int (1 : Int32)), .val (.ref b16), .val (.ref b19), .unset, .unset, .unset, .unset] at_29 rfl rfl rfl ?_
      refine own_aload X 33 (.ref b19) at_31 rfl rfl rfl ?_
      refine own_aload X 35 (.ref b16) at_33 rfl rfl rfl ?_
      refine own_iloadN X 36 (0 : Int32) at_35 rfl rfl ?_
      refine own_callS X 39 [(.ref b19), (.ref b16), (.int (0 : Int32))] [] at_36 rfl (hw _ (List.mem_of_getElem? (i := 46) rfl)) (hw _ (List.mem_of_getElem? (i := 47) rfl)) (hw _ (List.mem_of_getElem? (i := 48) rfl)) (hw _ (List.mem_of_getElem? (i := 49) rfl)) (by decide) (own_upto_0_0 l Z a0 hw b19 b16 (0 : Int32) de kd 0 h20 n0 X.sz OL z_de z_dA F_modCount_b19 F_size_b19 F_elementData_b19 A_b19 (by omega) (Ins.of_exa A_b16 (hw _ (List.mem_of_getElem? (i := 80) rfl))) (by omega) (by show @Ne Nat _ _; omega) rfl) (fun _ _ q => q.1.1) rfl own_pd18 rfl rfl rfl (by decide) (Nat.le_of_ble_eq_true rfl) (by decide) (by decide) ?_
      rintro v36 T h22 X ⟨K_, rfl, Fm_, Fs_, Fe_⟩
      have zs_h22 : h20.size ≤ h22.size := K_.1
      have OL := OL.keep K_ (allS (by omega) all0)
      have A_b16 := A_b16.keep K_
      have A_b19 := A_b19.keep K_
      have F_modCount_b19 := Fm_
      have F_size_b19 := Fs_
      have F_elementData_b19 := Fe_
      show own_Ends p e below _ (T.setTop (mkF m 39 #[.val (.int pa), .val (.int pb), .val (.int pc), .val (.int (0 : Int32)), .val (.int (1 : Int32)), .val (.ref b16), .val (.ref b19), .unset, .unset, .unset, .unset] []))
      refine own_new X 42 at_39 rfl (hw _ (List.mem_of_getElem? (i := 81) rfl)) (hw _ (List.mem_of_getElem? (i := 82) rfl)) (hw _ (List.mem_of_getElem? (i := 83) rfl)) (by decide) (by decide) ?_
      intro T h23 b24 g_b24 X E_h23 A_b24 D_b24
      have zs_h23 : h22.size ≤ h23.size := E_h23.1
      have OL := OL.ext E_h23
      have A_b16 := Exa.ext E_h23 A_b16
      have A_b19 := Exa.ext E_h23 A_b19
      have F_modCount_b19 := Fld.ext E_h23 F_modCount_b19
      have F_size_b19 := Fld.ext E_h23 F_size_b19
      have F_elementData_b19 := Fld.ext E_h23 F_elementData_b19
      have lo_b24 : h22.size ≤ b24 := Nat.le_of_eq g_b24.symm
      have hi_b24 : h23.size > b24 := A_b24.lt
      have F_converted_b24 : Fld Z h23 b24 "com/example/rosettine/rosettine/model/ConversionReport" "converted" "I" (.int (0 : Int32)) := D_b24 (Or.inr (hw _ (List.mem_of_getElem? (i := 177) rfl))) (ty := .int) (by decide)
      have F_notConverted_b24 : Fld Z h23 b24 "com/example/rosettine/rosettine/model/ConversionReport" "notConverted" "Ljava/util/List;" .null := D_b24 (Or.inr (hw _ (List.mem_of_getElem? (i := 179) rfl))) (ty := (.object "java/util/List")) (by decide)
      refine own_dup X 43 at_42 rfl rfl ?_
      refine own_iloadN X 44 pa at_43 rfl rfl ?_
      refine own_aload X 46 (.ref b19) at_44 rfl rfl rfl ?_
      refine own_init X 49 [(.int pa), (.ref b19)] [(.ref b24)] at_46 rfl (hw _ (List.mem_of_getElem? (i := 84) rfl)) (hw _ (List.mem_of_getElem? (i := 85) rfl)) (hw _ (List.mem_of_getElem? (i := 83) rfl)) (hw _ (List.mem_of_getElem? (i := 86) rfl)) (by decide) rfl (own_crini_0 l Z a0 hw b24 pa b19 de kd el ea ke em mr h23 n0 X.sz OL z_de z_dA z_el z_eE z_eF z_eA z_em z_mE hmr F_size_b19 A_b19 F_converted_b24 F_notConverted_b24 A_b24 (by omega) (by show @Ne Nat _ _; omega)) (fun _ _ q => q.1.1) rfl own_pd19 rfl rfl rfl (by decide) (Nat.le_of_ble_eq_true rfl) (by decide) (by decide) ?_
      rintro v46 T h26 X ⟨K_, rfl, Fcv_, L25, Fnc_, -, hel_⟩
      have zs_h26 : h23.size ≤ h26.size := K_.1
      have OL := OL.keep K_ (allS (by omega) all0)
      have A_b16 := A_b16.keep K_
      have A_b19 := A_b19.keep K_
      have F_modCount_b19 := F_modCount_b19.keep K_ (ninS (by show @Ne Nat _ _; omega) nin0)
      have F_size_b19 := F_size_b19.keep K_ (ninS (by show @Ne Nat _ _; omega) nin0)
      have F_elementData_b19 := F_elementData_b19.keep K_ (ninS (by show @Ne Nat _ _; omega) nin0)
      have A_b24 := A_b24.keep K_
      rw [hel_] at Fnc_
      have F_converted_b24 := Fcv_
      have F_notConverted_b24 := Fnc_
      show own_Ends p e below _ (T.setTop (mkF m 49 #[.val (.int pa), .val (.int pb), .val (.int pc), .val (.int (0 : Int32)), .val (.int (1 : Int32)), .val (.ref b16), .val (.ref b19), .unset, .unset, .unset, .unset] [(.ref b24)]))
      refine own_astore X 51 #[.val (.int pa), .val (.int pb), .val (.int pc), .val (.int (0 : Int32)), .val (.int (1 : Int32)), .val (.ref b16), .val (.ref b19), .val (.ref b24), .unset, .unset, .unset] at_49 rfl rfl rfl ?_
      refine own_aload X 53 (.ref b24) at_51 rfl rfl rfl ?_
      refine own_callV X 56 [] [] at_53 rfl (hw _ (List.mem_of_getElem? (i := 180) rfl)) (hw _ (List.mem_of_getElem? (i := 181) rfl)) (own_nf X.2.2.2.2.1 (hw _ (List.mem_of_getElem? (i := 183) rfl))) (hw _ (List.mem_of_getElem? (i := 183) rfl)) (hw _ (List.mem_of_getElem? (i := 182) rfl)) (hw _ (List.mem_of_getElem? (i := 83) rfl)) (hw _ (List.mem_of_getElem? (i := 184) rfl)) (by decide) A_b24 (own_entries_0 l Z a0 hw b24 pa el em b16 de kd el ea ke h26 n0 X.sz F_converted_b24 F_notConverted_b24 OL z_el z_eE z_eF z_eA rfl) (fun _ _ q => Nat.le_of_eq (congrArg Array.size q.1.symm)) rfl own_pd15 rfl rfl rfl (by decide) (Nat.le_of_ble_eq_true rfl) (by decide) (by decide) ?_
      rintro v53 T h_ X ⟨eh_, rfl⟩
      rw [eh_] at X
      show own_Ends p e below _ (T.setTop (mkF m 56 #[.val (.int pa), .val (.int pb), .val (.int pc), .val (.int (0 : Int32)), .val (.int (1 : Int32)), .val (.ref b16), .val (.ref b19), .val (.ref b24), .unset, .unset, .unset] [(.int (pa + 0))]))
      refine own_istore X 58 #[.val (.int pa), .val (.int pb), .val (.int pc), .val (.int (0 : Int32)), .val (.int (1 : Int32)), .val (.ref b16), .val (.ref b19), .val (.ref b24), .val (.int (pa + 0)), .unset, .unset] at_56 rfl rfl ?_
      refine own_aload X 60 (.ref b19) at_58 rfl rfl rfl ?_
      refine own_aload X 62 (.ref b16) at_60 rfl rfl rfl ?_
      refine own_iload X 64 (1 : Int32) at_62 rfl rfl ?_
      refine own_callS X 67 [(.ref b19), (.ref b16), (.int (1 : Int32))] [] at_64 rfl (hw _ (List.mem_of_getElem? (i := 46) rfl)) (hw _ (List.mem_of_getElem? (i := 47) rfl)) (hw _ (List.mem_of_getElem? (i := 48) rfl)) (hw _ (List.mem_of_getElem? (i := 49) rfl)) (by decide) (own_upto_0_1 l Z a0 hw b19 b16 (1 : Int32) de kd 0 h26 n0 X.sz OL z_de z_dA F_modCount_b19 F_size_b19 F_elementData_b19 A_b19 (by omega) (Ins.of_exa A_b16 (hw _ (List.mem_of_getElem? (i := 80) rfl))) (by omega) (by show @Ne Nat _ _; omega) rfl) (fun _ _ q => q.1.1) rfl own_pd18 rfl rfl rfl (by decide) (Nat.le_of_ble_eq_true rfl) (by decide) (by decide) ?_
      rintro v64 T h28 X ⟨K_, rfl, Fm_, Fs_, b27, ka_b27, Fe_, lo_b27, hi_b27, A_b27, O_b27, C_b27⟩
      have zs_h28 : h26.size ≤ h28.size := K_.1
      have OL := OL.keep K_ (allS (by omega) all0)
      have A_b16 := A_b16.keep K_
      have A_b19 := A_b19.keep K_
      have A_b24 := A_b24.keep K_
      have F_converted_b24 := F_converted_b24.keep K_ (ninS (by show @Ne Nat _ _; omega) nin0)
      have F_notConverted_b24 := F_notConverted_b24.keep K_ (ninS (by show @Ne Nat _ _; omega) nin0)
      have F_modCount_b19 := Fm_
      have F_size_b19 := Fs_
      have F_elementData_b19 := Fe_
      show own_Ends p e below _ (T.setTop (mkF m 67 #[.val (.int pa), .val (.int pb), .val (.int pc), .val (.int (0 : Int32)), .val (.int (1 : Int32)), .val (.ref b16), .val (.ref b19), .val (.ref b24), .val (.int (pa + 0)), .unset, .unset] []))
      refine own_aload X 69 (.ref b24) at_67 rfl rfl rfl ?_
      refine own_callV X 72 [] [] at_69 rfl (hw _ (List.mem_of_getElem? (i := 180) rfl)) (hw _ (List.mem_of_getElem? (i := 181) rfl)) (own_nf X.2.2.2.2.1 (hw _ (List.mem_of_getElem? (i := 183) rfl))) (hw _ (List.mem_of_getElem? (i := 183) rfl)) (hw _ (List.mem_of_getElem? (i := 182) rfl)) (hw _ (List.mem_of_getElem? (i := 83) rfl)) (hw _ (List.mem_of_getElem? (i := 184) rfl)) (by decide) A_b24 (own_entries_0 l Z a0 hw b24 pa el em b16 de kd el ea ke h28 n0 X.sz F_converted_b24 F_notConverted_b24 OL z_el z_eE z_eF z_eA rfl) (fun _ _ q => Nat.le_of_eq (congrArg Array.size q.1.symm)) rfl own_pd15 rfl rfl rfl (by decide) (Nat.le_of_ble_eq_true rfl) (by decide) (by decide) ?_
      rintro v69 T h_ X ⟨eh_, rfl⟩
      rw [eh_] at X
      show own_Ends p e below _ (T.setTop (mkF m 72 #[.val (.int pa), .val (.int pb), .val (.int pc), .val (.int (0 : Int32)), .val (.int (1 : Int32)), .val (.ref b16), .val (.ref b19), .val (.ref b24), .val (.int (pa + 0)), .unset, .unset] [(.int (pa + 0))]))
      refine own_istore X 74 #[.val (.int pa), .val (.int pb), .val (.int pc), .val (.int (0 : Int32)), .val (.int (1 : Int32)), .val (.ref b16), .val (.ref b19), .val (.ref b24), .val (.int (pa + 0)), .val (.int (pa + 0)), .unset] at_72 rfl rfl ?_
      refine own_iloadN X 75 pa at_74 rfl rfl ?_
      refine own_iloadN X 76 (0 : Int32) at_75 rfl rfl ?_
      refine own_iadd X 77 at_76 rfl ?_
      refine own_istore X 79 #[.val (.int pa), .val (.int pb), .val (.int pc), .val (.int (0 : Int32)), .val (.int (1 : Int32)), .val (.ref b16), .val (.ref b19), .val (.ref b24), .val (.int (pa + 0)), .val (.int (pa + 0)), .val (.int (pa + (0 : Int32)))] at_77 rfl rfl ?_
      refine own_iload X 81 (pa + 0) at_79 rfl rfl ?_
      refine own_iload X 83 (pa + (0 : Int32)) at_81 rfl rfl ?_
      refine own_icN X 86 at_83 rfl (XT.ii_ne_f rfl) ?_
      refine own_iload X 88 (pa + 0) at_86 rfl rfl ?_
      refine own_iload X 90 (pa + (0 : Int32)) at_88 rfl rfl ?_
      refine own_icN X 93 at_90 rfl (XT.ii_ne_f rfl) ?_
      refine own_iconst X 94 (1 : Int32) at_93 rfl rfl ?_
      refine own_goto X 98 at_94 (by decide) (by decide) ?_
      exact own_retN X .boolean at_98 rfl (by simp) (by decide) (by decide) (by decide)
    · rw [hm_]
      refine own_new X 12 at_9 rfl (hw _ (List.mem_of_getElem? (i := 0) rfl)) (hw _ (List.mem_of_getElem? (i := 1) rfl)) (hw _ (List.mem_of_getElem? (i := 2) rfl)) (by decide) (by decide) ?_
      intro T h29 b30 g_b30 X E_h29 A_b30 D_b30
      have zs_h29 : h0.size ≤ h29.size := E_h29.1
      have OL := OL.ext E_h29
      have lo_b30 : h0.size ≤ b30 := Nat.le_of_eq g_b30.symm
      have hi_b30 : h29.size > b30 := A_b30.lt
      have F_section_b30 : Fld Z h29 b30 "com/example/rosettine/rosettine/model/ConversionReport$NotConverted" "section" "Ljava/util/Optional;" .null := D_b30 (Or.inr (hw _ (List.mem_of_getElem? (i := 15) rfl))) (ty := (.object "java/util/Optional")) (by decide)
      have F_template_b30 : Fld Z h29 b30 "com/example/rosettine/rosettine/model/ConversionReport$NotConverted" "template" "Ljava/util/Optional;" .null := D_b30 (Or.inr (hw _ (List.mem_of_getElem? (i := 17) rfl))) (ty := (.object "java/util/Optional")) (by decide)
      have F_id_b30 : Fld Z h29 b30 "com/example/rosettine/rosettine/model/ConversionReport$NotConverted" "id" "Ljava/util/Optional;" .null := D_b30 (Or.inr (hw _ (List.mem_of_getElem? (i := 19) rfl))) (ty := (.object "java/util/Optional")) (by decide)
      have F_reason_b30 : Fld Z h29 b30 "com/example/rosettine/rosettine/model/ConversionReport$NotConverted" "reason" "Ljava/lang/String;" .null := D_b30 (Or.inr (hw _ (List.mem_of_getElem? (i := 21) rfl))) (ty := (.object "java/lang/String")) (by decide)
      refine own_dup X 13 at_12 rfl rfl ?_
      refine own_anull X 14 at_13 rfl ?_
      refine own_anull X 15 at_14 rfl ?_
      refine own_anull X 16 at_15 rfl ?_
      refine own_anull X 17 at_16 rfl ?_
      refine own_init X 20 [.null, .null, .null, .null] [(.ref b30)] at_17 rfl (hw _ (List.mem_of_getElem? (i := 3) rfl)) (hw _ (List.mem_of_getElem? (i := 4) rfl)) (hw _ (List.mem_of_getElem? (i := 2) rfl)) (hw _ (List.mem_of_getElem? (i := 5) rfl)) (by decide) rfl (own_nc l Z a0 hw b30 h29 n0 X.sz F_section_b30 F_template_b30 F_id_b30 F_reason_b30 A_b30 (by omega)) (fun _ _ q => q.1.1) rfl own_pd17 rfl rfl rfl (by decide) (Nat.le_of_ble_eq_true rfl) (by decide) (by decide) ?_
      rintro v17 T h31 X ⟨K_, rfl⟩
      have zs_h31 : h29.size ≤ h31.size := K_.1
      have OL := OL.keep K_ (allS (by omega) all0)
      have A_b30 := A_b30.keep K_
      show own_Ends p e below _ (T.setTop (mkF m 20 #[.val (.int pa), .val (.int pb), .val (.int pc), .val (.int (0 : Int32)), .val (.int (2 : Int32)), .unset, .unset, .unset, .unset, .unset, .unset] [(.ref b30)]))
      refine own_astore X 22 #[.val (.int pa), .val (.int pb), .val (.int pc), .val (.int (0 : Int32)), .val (.int (2 : Int32)), .val (.ref b30), .unset, .unset, .unset, .unset, .unset] at_20 rfl rfl rfl ?_
      refine own_new X 25 at_22 rfl (hw _ (List.mem_of_getElem? (i := 22) rfl)) (hw _ (List.mem_of_getElem? (i := 23) rfl)) (hw _ (List.mem_of_getElem? (i := 24) rfl)) (by decide) (by decide) ?_
      intro T h32 b33 g_b33 X E_h32 A_b33 D_b33
      have zs_h32 : h31.size ≤ h32.size := E_h32.1
      have OL := OL.ext E_h32
      have A_b30 := Exa.ext E_h32 A_b30
      have lo_b33 : h31.size ≤ b33 := Nat.le_of_eq g_b33.symm
      have hi_b33 : h32.size > b33 := A_b33.lt
      have F_modCount_b33 : Fld Z h32 b33 "java/util/AbstractList" "modCount" "I" (.int (0 : Int32)) := D_b33 (Or.inl (hw _ (List.mem_of_getElem? (i := 42) rfl))) (ty := .int) (by decide)
      have F_elementData_b33 : Fld Z h32 b33 "java/util/ArrayList" "elementData" "[Ljava/lang/Object;" .null := D_b33 (Or.inl (hw _ (List.mem_of_getElem? (i := 45) rfl))) (ty := (.array (.object "java/lang/Object"))) (by decide)
      have F_size_b33 : Fld Z h32 b33 "java/util/ArrayList" "size" "I" (.int (0 : Int32)) := D_b33 (Or.inl (hw _ (List.mem_of_getElem? (i := 58) rfl))) (ty := .int) (by decide)
      refine own_dup X 26 at_25 rfl rfl ?_
      refine own_init X 29 [] [(.ref b33)] at_26 rfl (hw _ (List.mem_of_getElem? (i := 25) rfl)) (hw _ (List.mem_of_getElem? (i := 26) rfl)) (hw _ (List.mem_of_getElem? (i := 24) rfl)) (hw _ (List.mem_of_getElem? (i := 27) rfl)) (by decide) rfl (own_alinit l Z a0 hw b33 de h32 n0 X.sz OL z_de F_modCount_b33 F_size_b33 F_elementData_b33 A_b33 (by omega)) (fun _ _ q => q.1.1) rfl own_pd0 rfl rfl rfl (by decide) (Nat.le_of_ble_eq_true rfl) (by decide) (by decide) ?_
      rintro v26 T h34 X ⟨K_, rfl, Fm_, Fs_, Fe_⟩
      have zs_h34 : h32.size ≤ h34.size := K_.1
      have OL := OL.keep K_ (allS (by omega) all0)
      have A_b30 := A_b30.keep K_
      have A_b33 := A_b33.keep K_
      have F_modCount_b33 := Fm_
      have F_size_b33 := Fs_
      have F_elementData_b33 := Fe_
      show own_Ends p e below _ (T.setTop (mkF m 29 #[.val (.int pa), .val (.int pb), .val (.int pc), .val (.int (0 : Int32)), .val (.int (2 : Int32)), .val (.ref b30), .unset, .unset, .unset, .unset, .unset] [(.ref b33)]))
      refine own_astore X 31 #[.val (.int pa), .val (.int pb), .val (.int pc), .val (.int (0 : Int32)), .val (.int (2 : Int32)), .val (.ref b30), .val (.ref b33), .unset, .unset, .unset, .unset] at_29 rfl rfl rfl ?_
      refine own_aload X 33 (.ref b33) at_31 rfl rfl rfl ?_
      refine own_aload X 35 (.ref b30) at_33 rfl rfl rfl ?_
      refine own_iloadN X 36 (0 : Int32) at_35 rfl rfl ?_
      refine own_callS X 39 [(.ref b33), (.ref b30), (.int (0 : Int32))] [] at_36 rfl (hw _ (List.mem_of_getElem? (i := 46) rfl)) (hw _ (List.mem_of_getElem? (i := 47) rfl)) (hw _ (List.mem_of_getElem? (i := 48) rfl)) (hw _ (List.mem_of_getElem? (i := 49) rfl)) (by decide) (own_upto_0_0 l Z a0 hw b33 b30 (0 : Int32) de kd 0 h34 n0 X.sz OL z_de z_dA F_modCount_b33 F_size_b33 F_elementData_b33 A_b33 (by omega) (Ins.of_exa A_b30 (hw _ (List.mem_of_getElem? (i := 80) rfl))) (by omega) (by show @Ne Nat _ _; omega) rfl) (fun _ _ q => q.1.1) rfl own_pd18 rfl rfl rfl (by decide) (Nat.le_of_ble_eq_true rfl) (by decide) (by decide) ?_
      rintro v36 T h36 X ⟨K_, rfl, Fm_, Fs_, Fe_⟩
      have zs_h36 : h34.size ≤ h36.size := K_.1
      have OL := OL.keep K_ (allS (by omega) all0)
      have A_b30 := A_b30.keep K_
      have A_b33 := A_b33.keep K_
      have F_modCount_b33 := Fm_
      have F_size_b33 := Fs_
      have F_elementData_b33 := Fe_
      show own_Ends p e below _ (T.setTop (mkF m 39 #[.val (.int pa), .val (.int pb), .val (.int pc), .val (.int (0 : Int32)), .val (.int (2 : Int32)), .val (.ref b30), .val (.ref b33), .unset, .unset, .unset, .unset] []))
      refine own_new X 42 at_39 rfl (hw _ (List.mem_of_getElem? (i := 81) rfl)) (hw _ (List.mem_of_getElem? (i := 82) rfl)) (hw _ (List.mem_of_getElem? (i := 83) rfl)) (by decide) (by decide) ?_
      intro T h37 b38 g_b38 X E_h37 A_b38 D_b38
      have zs_h37 : h36.size ≤ h37.size := E_h37.1
      have OL := OL.ext E_h37
      have A_b30 := Exa.ext E_h37 A_b30
      have A_b33 := Exa.ext E_h37 A_b33
      have F_modCount_b33 := Fld.ext E_h37 F_modCount_b33
      have F_size_b33 := Fld.ext E_h37 F_size_b33
      have F_elementData_b33 := Fld.ext E_h37 F_elementData_b33
      have lo_b38 : h36.size ≤ b38 := Nat.le_of_eq g_b38.symm
      have hi_b38 : h37.size > b38 := A_b38.lt
      have F_converted_b38 : Fld Z h37 b38 "com/example/rosettine/rosettine/model/ConversionReport" "converted" "I" (.int (0 : Int32)) := D_b38 (Or.inr (hw _ (List.mem_of_getElem? (i := 177) rfl))) (ty := .int) (by decide)
      have F_notConverted_b38 : Fld Z h37 b38 "com/example/rosettine/rosettine/model/ConversionReport" "notConverted" "Ljava/util/List;" .null := D_b38 (Or.inr (hw _ (List.mem_of_getElem? (i := 179) rfl))) (ty := (.object "java/util/List")) (by decide)
      refine own_dup X 43 at_42 rfl rfl ?_
      refine own_iloadN X 44 pa at_43 rfl rfl ?_
      refine own_aload X 46 (.ref b33) at_44 rfl rfl rfl ?_
      refine own_init X 49 [(.int pa), (.ref b33)] [(.ref b38)] at_46 rfl (hw _ (List.mem_of_getElem? (i := 84) rfl)) (hw _ (List.mem_of_getElem? (i := 85) rfl)) (hw _ (List.mem_of_getElem? (i := 83) rfl)) (hw _ (List.mem_of_getElem? (i := 86) rfl)) (by decide) rfl (own_crini_0 l Z a0 hw b38 pa b33 de kd el ea ke em mr h37 n0 X.sz OL z_de z_dA z_el z_eE z_eF z_eA z_em z_mE hmr F_size_b33 A_b33 F_converted_b38 F_notConverted_b38 A_b38 (by omega) (by show @Ne Nat _ _; omega)) (fun _ _ q => q.1.1) rfl own_pd19 rfl rfl rfl (by decide) (Nat.le_of_ble_eq_true rfl) (by decide) (by decide) ?_
      rintro v46 T h40 X ⟨K_, rfl, Fcv_, L39, Fnc_, -, hel_⟩
      have zs_h40 : h37.size ≤ h40.size := K_.1
      have OL := OL.keep K_ (allS (by omega) all0)
      have A_b30 := A_b30.keep K_
      have A_b33 := A_b33.keep K_
      have F_modCount_b33 := F_modCount_b33.keep K_ (ninS (by show @Ne Nat _ _; omega) nin0)
      have F_size_b33 := F_size_b33.keep K_ (ninS (by show @Ne Nat _ _; omega) nin0)
      have F_elementData_b33 := F_elementData_b33.keep K_ (ninS (by show @Ne Nat _ _; omega) nin0)
      have A_b38 := A_b38.keep K_
      rw [hel_] at Fnc_
      have F_converted_b38 := Fcv_
      have F_notConverted_b38 := Fnc_
      show own_Ends p e below _ (T.setTop (mkF m 49 #[.val (.int pa), .val (.int pb), .val (.int pc), .val (.int (0 : Int32)), .val (.int (2 : Int32)), .val (.ref b30), .val (.ref b33), .unset, .unset, .unset, .unset] [(.ref b38)]))
      refine own_astore X 51 #[.val (.int pa), .val (.int pb), .val (.int pc), .val (.int (0 : Int32)), .val (.int (2 : Int32)), .val (.ref b30), .val (.ref b33), .val (.ref b38), .unset, .unset, .unset] at_49 rfl rfl rfl ?_
      refine own_aload X 53 (.ref b38) at_51 rfl rfl rfl ?_
      refine own_callV X 56 [] [] at_53 rfl (hw _ (List.mem_of_getElem? (i := 180) rfl)) (hw _ (List.mem_of_getElem? (i := 181) rfl)) (own_nf X.2.2.2.2.1 (hw _ (List.mem_of_getElem? (i := 183) rfl))) (hw _ (List.mem_of_getElem? (i := 183) rfl)) (hw _ (List.mem_of_getElem? (i := 182) rfl)) (hw _ (List.mem_of_getElem? (i := 83) rfl)) (hw _ (List.mem_of_getElem? (i := 184) rfl)) (by decide) A_b38 (own_entries_0 l Z a0 hw b38 pa el em b30 de kd el ea ke h40 n0 X.sz F_converted_b38 F_notConverted_b38 OL z_el z_eE z_eF z_eA rfl) (fun _ _ q => Nat.le_of_eq (congrArg Array.size q.1.symm)) rfl own_pd15 rfl rfl rfl (by decide) (Nat.le_of_ble_eq_true rfl) (by decide) (by decide) ?_
      rintro v53 T h_ X ⟨eh_, rfl⟩
      rw [eh_] at X
      show own_Ends p e below _ (T.setTop (mkF m 56 #[.val (.int pa), .val (.int pb), .val (.int pc), .val (.int (0 : Int32)), .val (.int (2 : Int32)), .val (.ref b30), .val (.ref b33), .val (.ref b38), .unset, .unset, .unset] [(.int (pa + 0))]))
      refine own_istore X 58 #[.val (.int pa), .val (.int pb), .val (.int pc), .val (.int (0 : Int32)), .val (.int (2 : Int32)), .val (.ref b30), .val (.ref b33), .val (.ref b38), .val (.int (pa + 0)), .unset, .unset] at_56 rfl rfl ?_
      refine own_aload X 60 (.ref b33) at_58 rfl rfl rfl ?_
      refine own_aload X 62 (.ref b30) at_60 rfl rfl rfl ?_
      refine own_iload X 64 (2 : Int32) at_62 rfl rfl ?_
      refine own_callS X 67 [(.ref b33), (.ref b30), (.int (2 : Int32))] [] at_64 rfl (hw _ (List.mem_of_getElem? (i := 46) rfl)) (hw _ (List.mem_of_getElem? (i := 47) rfl)) (hw _ (List.mem_of_getElem? (i := 48) rfl)) (hw _ (List.mem_of_getElem? (i := 49) rfl)) (by decide) (own_upto_0_2 l Z a0 hw b33 b30 (2 : Int32) de kd 0 h40 n0 X.sz OL z_de z_dA F_modCount_b33 F_size_b33 F_elementData_b33 A_b33 (by omega) (Ins.of_exa A_b30 (hw _ (List.mem_of_getElem? (i := 80) rfl))) (by omega) (by show @Ne Nat _ _; omega) rfl) (fun _ _ q => q.1.1) rfl own_pd18 rfl rfl rfl (by decide) (Nat.le_of_ble_eq_true rfl) (by decide) (by decide) ?_
      rintro v64 T h42 X ⟨K_, rfl, Fm_, Fs_, b41, ka_b41, Fe_, lo_b41, hi_b41, A_b41, O_b41, C_b41⟩
      have zs_h42 : h40.size ≤ h42.size := K_.1
      have OL := OL.keep K_ (allS (by omega) all0)
      have A_b30 := A_b30.keep K_
      have A_b33 := A_b33.keep K_
      have A_b38 := A_b38.keep K_
      have F_converted_b38 := F_converted_b38.keep K_ (ninS (by show @Ne Nat _ _; omega) nin0)
      have F_notConverted_b38 := F_notConverted_b38.keep K_ (ninS (by show @Ne Nat _ _; omega) nin0)
      have F_modCount_b33 := Fm_
      have F_size_b33 := Fs_
      have F_elementData_b33 := Fe_
      show own_Ends p e below _ (T.setTop (mkF m 67 #[.val (.int pa), .val (.int pb), .val (.int pc), .val (.int (0 : Int32)), .val (.int (2 : Int32)), .val (.ref b30), .val (.ref b33), .val (.ref b38), .val (.int (pa + 0)), .unset, .unset] []))
      refine own_aload X 69 (.ref b38) at_67 rfl rfl rfl ?_
      refine own_callV X 72 [] [] at_69 rfl (hw _ (List.mem_of_getElem? (i := 180) rfl)) (hw _ (List.mem_of_getElem? (i := 181) rfl)) (own_nf X.2.2.2.2.1 (hw _ (List.mem_of_getElem? (i := 183) rfl))) (hw _ (List.mem_of_getElem? (i := 183) rfl)) (hw _ (List.mem_of_getElem? (i := 182) rfl)) (hw _ (List.mem_of_getElem? (i := 83) rfl)) (hw _ (List.mem_of_getElem? (i := 184) rfl)) (by decide) A_b38 (own_entries_0 l Z a0 hw b38 pa el em b30 de kd el ea ke h42 n0 X.sz F_converted_b38 F_notConverted_b38 OL z_el z_eE z_eF z_eA rfl) (fun _ _ q => Nat.le_of_eq (congrArg Array.size q.1.symm)) rfl own_pd15 rfl rfl rfl (by decide) (Nat.le_of_ble_eq_true rfl) (by decide) (by decide) ?_
      rintro v69 T h_ X ⟨eh_, rfl⟩
      rw [eh_] at X
      show own_Ends p e below _ (T.setTop (mkF m 72 #[.val (.int pa), .val (.int pb), .val (.int pc), .val (.int (0 : Int32)), .val (.int (2 : Int32)), .val (.ref b30), .val (.ref b33), .val (.ref b38), .val (.int (pa + 0)), .unset, .unset] [(.int (pa + 0))]))
      refine own_istore X 74 #[.val (.int pa), .val (.int pb), .val (.int pc), .val (.int (0 : Int32)), .val (.int (2 : Int32)), .val (.ref b30), .val (.ref b33), .val (.ref b38), .val (.int (pa + 0)), .val (.int (pa + 0)), .unset] at_72 rfl rfl ?_
      refine own_iloadN X 75 pa at_74 rfl rfl ?_
      refine own_iloadN X 76 (0 : Int32) at_75 rfl rfl ?_
      refine own_iadd X 77 at_76 rfl ?_
      refine own_istore X 79 #[.val (.int pa), .val (.int pb), .val (.int pc), .val (.int (0 : Int32)), .val (.int (2 : Int32)), .val (.ref b30), .val (.ref b33), .val (.ref b38), .val (.int (pa + 0)), .val (.int (pa + 0)), .val (.int (pa + (0 : Int32)))] at_77 rfl rfl ?_
      refine own_iload X 81 (pa + 0) at_79 rfl rfl ?_
      refine own_iload X 83 (pa + (0 : Int32)) at_81 rfl rfl ?_
      refine own_icN X 86 at_83 rfl (XT.ii_ne_f rfl) ?_
      refine own_iload X 88 (pa + 0) at_86 rfl rfl ?_
      refine own_iload X 90 (pa + (0 : Int32)) at_88 rfl rfl ?_
      refine own_icN X 93 at_90 rfl (XT.ii_ne_f rfl) ?_
      refine own_iconst X 94 (1 : Int32) at_93 rfl rfl ?_
      refine own_goto X 98 at_94 (by decide) (by decide) ?_
      exact own_retN X .boolean at_98 rfl (by simp) (by decide) (by decide) (by decide)
    · rw [hm_]
      refine own_new X 12 at_9 rfl (hw _ (List.mem_of_getElem? (i := 0) rfl)) (hw _ (List.mem_of_getElem? (i := 1) rfl)) (hw _ (List.mem_of_getElem? (i := 2) rfl)) (by decide) (by decide) ?_
      intro T h43 b44 g_b44 X E_h43 A_b44 D_b44
      have zs_h43 : h0.size ≤ h43.size := E_h43.1
      have OL := OL.ext E_h43
      have lo_b44 : h0.size ≤ b44 := Nat.le_of_eq g_b44.symm
      have hi_b44 : h43.size > b44 := A_b44.lt
      have F_section_b44 : Fld Z h43 b44 "com/example/rosettine/rosettine/model/ConversionReport$NotConverted" "section" "Ljava/util/Optional;" .null := D_b44 (Or.inr (hw _ (List.mem_of_getElem? (i := 15) rfl))) (ty := (.object "java/util/Optional")) (by decide)
      have F_template_b44 : Fld Z h43 b44 "com/example/rosettine/rosettine/model/ConversionReport$NotConverted" "template" "Ljava/util/Optional;" .null := D_b44 (Or.inr (hw _ (List.mem_of_getElem? (i := 17) rfl))) (ty := (.object "java/util/Optional")) (by decide)
      have F_id_b44 : Fld Z h43 b44 "com/example/rosettine/rosettine/model/ConversionReport$NotConverted" "id" "Ljava/util/Optional;" .null := D_b44 (Or.inr (hw _ (List.mem_of_getElem? (i := 19) rfl))) (ty := (.object "java/util/Optional")) (by decide)
      have F_reason_b44 : Fld Z h43 b44 "com/example/rosettine/rosettine/model/ConversionReport$NotConverted" "reason" "Ljava/lang/String;" .null := D_b44 (Or.inr (hw _ (List.mem_of_getElem? (i := 21) rfl))) (ty := (.object "java/lang/String")) (by decide)
      refine own_dup X 13 at_12 rfl rfl ?_
      refine own_anull X 14 at_13 rfl ?_
      refine own_anull X 15 at_14 rfl ?_
      refine own_anull X 16 at_15 rfl ?_
      refine own_anull X 17 at_16 rfl ?_
      refine own_init X 20 [.null, .null, .null, .null] [(.ref b44)] at_17 rfl (hw _ (List.mem_of_getElem? (i := 3) rfl)) (hw _ (List.mem_of_getElem? (i := 4) rfl)) (hw _ (List.mem_of_getElem? (i := 2) rfl)) (hw _ (List.mem_of_getElem? (i := 5) rfl)) (by decide) rfl (own_nc l Z a0 hw b44 h43 n0 X.sz F_section_b44 F_template_b44 F_id_b44 F_reason_b44 A_b44 (by omega)) (fun _ _ q => q.1.1) rfl own_pd17 rfl rfl rfl (by decide) (Nat.le_of_ble_eq_true rfl) (by decide) (by decide) ?_
      rintro v17 T h45 X ⟨K_, rfl⟩
      have zs_h45 : h43.size ≤ h45.size := K_.1
      have OL := OL.keep K_ (allS (by omega) all0)
      have A_b44 := A_b44.keep K_
      show own_Ends p e below _ (T.setTop (mkF m 20 #[.val (.int pa), .val (.int pb), .val (.int pc), .val (.int (0 : Int32)), .val (.int (3 : Int32)), .unset, .unset, .unset, .unset, .unset, .unset] [(.ref b44)]))
      refine own_astore X 22 #[.val (.int pa), .val (.int pb), .val (.int pc), .val (.int (0 : Int32)), .val (.int (3 : Int32)), .val (.ref b44), .unset, .unset, .unset, .unset, .unset] at_20 rfl rfl rfl ?_
      refine own_new X 25 at_22 rfl (hw _ (List.mem_of_getElem? (i := 22) rfl)) (hw _ (List.mem_of_getElem? (i := 23) rfl)) (hw _ (List.mem_of_getElem? (i := 24) rfl)) (by decide) (by decide) ?_
      intro T h46 b47 g_b47 X E_h46 A_b47 D_b47
      have zs_h46 : h45.size ≤ h46.size := E_h46.1
      have OL := OL.ext E_h46
      have A_b44 := Exa.ext E_h46 A_b44
      have lo_b47 : h45.size ≤ b47 := Nat.le_of_eq g_b47.symm
      have hi_b47 : h46.size > b47 := A_b47.lt
      have F_modCount_b47 : Fld Z h46 b47 "java/util/AbstractList" "modCount" "I" (.int (0 : Int32)) := D_b47 (Or.inl (hw _ (List.mem_of_getElem? (i := 42) rfl))) (ty := .int) (by decide)
      have F_elementData_b47 : Fld Z h46 b47 "java/util/ArrayList" "elementData" "[Ljava/lang/Object;" .null := D_b47 (Or.inl (hw _ (List.mem_of_getElem? (i := 45) rfl))) (ty := (.array (.object "java/lang/Object"))) (by decide)
      have F_size_b47 : Fld Z h46 b47 "java/util/ArrayList" "size" "I" (.int (0 : Int32)) := D_b47 (Or.inl (hw _ (List.mem_of_getElem? (i := 58) rfl))) (ty := .int) (by decide)
      refine own_dup X 26 at_25 rfl rfl ?_
      refine own_init X 29 [] [(.ref b47)] at_26 rfl (hw _ (List.mem_of_getElem? (i := 25) rfl)) (hw _ (List.mem_of_getElem? (i := 26) rfl)) (hw _ (List.mem_of_getElem? (i := 24) rfl)) (hw _ (List.mem_of_getElem? (i := 27) rfl)) (by decide) rfl (own_alinit l Z a0 hw b47 de h46 n0 X.sz OL z_de F_modCount_b47 F_size_b47 F_elementData_b47 A_b47 (by omega)) (fun _ _ q => q.1.1) rfl own_pd0 rfl rfl rfl (by decide) (Nat.le_of_ble_eq_true rfl) (by decide) (by decide) ?_
      rintro v26 T h48 X ⟨K_, rfl, Fm_, Fs_, Fe_⟩
      have zs_h48 : h46.size ≤ h48.size := K_.1
      have OL := OL.keep K_ (allS (by omega) all0)
      have A_b44 := A_b44.keep K_
      have A_b47 := A_b47.keep K_
      have F_modCount_b47 := Fm_
      have F_size_b47 := Fs_
      have F_elementData_b47 := Fe_
      show own_Ends p e below _ (T.setTop (mkF m 29 #[.val (.int pa), .val (.int pb), .val (.int pc), .val (.int (0 : Int32)), .val (.int (3 : Int32)), .val (.ref b44), .unset, .unset, .unset, .unset, .unset] [(.ref b47)]))
      refine own_astore X 31 #[.val (.int pa), .val (.int pb), .val (.int pc), .val (.int (0 : Int32)), .val (.int (3 : Int32)), .val (.ref b44), .val (.ref b47), .unset, .unset, .unset, .unset] at_29 rfl rfl rfl ?_
      refine own_aload X 33 (.ref b47) at_31 rfl rfl rfl ?_
      refine own_aload X 35 (.ref b44) at_33 rfl rfl rfl ?_
      refine own_iloadN X 36 (0 : Int32) at_35 rfl rfl ?_
      refine own_callS X 39 [(.ref b47), (.ref b44), (.int (0 : Int32))] [] at_36 rfl (hw _ (List.mem_of_getElem? (i := 46) rfl)) (hw _ (List.mem_of_getElem? (i := 47) rfl)) (hw _ (List.mem_of_getElem? (i := 48) rfl)) (hw _ (List.mem_of_getElem? (i := 49) rfl)) (by decide) (own_upto_0_0 l Z a0 hw b47 b44 (0 : Int32) de kd 0 h48 n0 X.sz OL z_de z_dA F_modCount_b47 F_size_b47 F_elementData_b47 A_b47 (by omega) (Ins.of_exa A_b44 (hw _ (List.mem_of_getElem? (i := 80) rfl))) (by omega) (by show @Ne Nat _ _; omega) rfl) (fun _ _ q => q.1.1) rfl own_pd18 rfl rfl rfl (by decide) (Nat.le_of_ble_eq_true rfl) (by decide) (by decide) ?_
      rintro v36 T h50 X ⟨K_, rfl, Fm_, Fs_, Fe_⟩
      have zs_h50 : h48.size ≤ h50.size := K_.1
      have OL := OL.keep K_ (allS (by omega) all0)
      have A_b44 := A_b44.keep K_
      have A_b47 := A_b47.keep K_
      have F_modCount_b47 := Fm_
      have F_size_b47 := Fs_
      have F_elementData_b47 := Fe_
      show own_Ends p e below _ (T.setTop (mkF m 39 #[.val (.int pa), .val (.int pb), .val (.int pc), .val (.int (0 : Int32)), .val (.int (3 : Int32)), .val (.ref b44), .val (.ref b47), .unset, .unset, .unset, .unset] []))
      refine own_new X 42 at_39 rfl (hw _ (List.mem_of_getElem? (i := 81) rfl)) (hw _ (List.mem_of_getElem? (i := 82) rfl)) (hw _ (List.mem_of_getElem? (i := 83) rfl)) (by decide) (by decide) ?_
      intro T h51 b52 g_b52 X E_h51 A_b52 D_b52
      have zs_h51 : h50.size ≤ h51.size := E_h51.1
      have OL := OL.ext E_h51
      have A_b44 := Exa.ext E_h51 A_b44
      have A_b47 := Exa.ext E_h51 A_b47
      have F_modCount_b47 := Fld.ext E_h51 F_modCount_b47
      have F_size_b47 := Fld.ext E_h51 F_size_b47
      have F_elementData_b47 := Fld.ext E_h51 F_elementData_b47
      have lo_b52 : h50.size ≤ b52 := Nat.le_of_eq g_b52.symm
      have hi_b52 : h51.size > b52 := A_b52.lt
      have F_converted_b52 : Fld Z h51 b52 "com/example/rosettine/rosettine/model/ConversionReport" "converted" "I" (.int (0 : Int32)) := D_b52 (Or.inr (hw _ (List.mem_of_getElem? (i := 177) rfl))) (ty := .int) (by decide)
      have F_notConverted_b52 : Fld Z h51 b52 "com/example/rosettine/rosettine/model/ConversionReport" "notConverted" "Ljava/util/List;" .null := D_b52 (Or.inr (hw _ (List.mem_of_getElem? (i := 179) rfl))) (ty := (.object "java/util/List")) (by decide)
      refine own_dup X 43 at_42 rfl rfl ?_
      refine own_iloadN X 44 pa at_43 rfl rfl ?_
      refine own_aload X 46 (.ref b47) at_44 rfl rfl rfl ?_
      refine own_init X 49 [(.int pa), (.ref b47)] [(.ref b52)] at_46 rfl (hw _ (List.mem_of_getElem? (i := 84) rfl)) (hw _ (List.mem_of_getElem? (i := 85) rfl)) (hw _ (List.mem_of_getElem? (i := 83) rfl)) (hw _ (List.mem_of_getElem? (i := 86) rfl)) (by decide) rfl (own_crini_0 l Z a0 hw b52 pa b47 de kd el ea ke em mr h51 n0 X.sz OL z_de z_dA z_el z_eE z_eF z_eA z_em z_mE hmr F_size_b47 A_b47 F_converted_b52 F_notConverted_b52 A_b52 (by omega) (by show @Ne Nat _ _; omega)) (fun _ _ q => q.1.1) rfl own_pd19 rfl rfl rfl (by decide) (Nat.le_of_ble_eq_true rfl) (by decide) (by decide) ?_
      rintro v46 T h54 X ⟨K_, rfl, Fcv_, L53, Fnc_, -, hel_⟩
      have zs_h54 : h51.size ≤ h54.size := K_.1
      have OL := OL.keep K_ (allS (by omega) all0)
      have A_b44 := A_b44.keep K_
      have A_b47 := A_b47.keep K_
      have F_modCount_b47 := F_modCount_b47.keep K_ (ninS (by show @Ne Nat _ _; omega) nin0)
      have F_size_b47 := F_size_b47.keep K_ (ninS (by show @Ne Nat _ _; omega) nin0)
      have F_elementData_b47 := F_elementData_b47.keep K_ (ninS (by show @Ne Nat _ _; omega) nin0)
      have A_b52 := A_b52.keep K_
      rw [hel_] at Fnc_
      have F_converted_b52 := Fcv_
      have F_notConverted_b52 := Fnc_
      show own_Ends p e below _ (T.setTop (mkF m 49 #[.val (.int pa), .val (.int pb), .val (.int pc), .val (.int (0 : Int32)), .val (.int (3 : Int32)), .val (.ref b44), .val (.ref b47), .unset, .unset, .unset, .unset] [(.ref b52)]))
      refine own_astore X 51 #[.val (.int pa), .val (.int pb), .val (.int pc), .val (.int (0 : Int32)), .val (.int (3 : Int32)), .val (.ref b44), .val (.ref b47), .val (.ref b52), .unset, .unset, .unset] at_49 rfl rfl rfl ?_
      refine own_aload X 53 (.ref b52) at_51 rfl rfl rfl ?_
      refine own_callV X 56 [] [] at_53 rfl (hw _ (List.mem_of_getElem? (i := 180) rfl)) (hw _ (List.mem_of_getElem? (i := 181) rfl)) (own_nf X.2.2.2.2.1 (hw _ (List.mem_of_getElem? (i := 183) rfl))) (hw _ (List.mem_of_getElem? (i := 183) rfl)) (hw _ (List.mem_of_getElem? (i := 182) rfl)) (hw _ (List.mem_of_getElem? (i := 83) rfl)) (hw _ (List.mem_of_getElem? (i := 184) rfl)) (by decide) A_b52 (own_entries_0 l Z a0 hw b52 pa el em b44 de kd el ea ke h54 n0 X.sz F_converted_b52 F_notConverted_b52 OL z_el z_eE z_eF z_eA rfl) (fun _ _ q => Nat.le_of_eq (congrArg Array.size q.1.symm)) rfl own_pd15 rfl rfl rfl (by decide) (Nat.le_of_ble_eq_true rfl) (by decide) (by decide) ?_
      rintro v53 T h_ X ⟨eh_, rfl⟩
      rw [eh_] at X
      show own_Ends p e below _ (T.setTop (mkF m 56 #[.val (.int pa), .val (.int pb), .val (.int pc), .val (.int (0 : Int32)), .val (.int (3 : Int32)), .val (.ref b44), .val (.ref b47), .val (.ref b52), .unset, .unset, .unset] [(.int (pa + 0))]))
      refine own_istore X 58 #[.val (.int pa), .val (.int pb), .val (.int pc), .val (.int (0 : Int32)), .val (.int (3 : Int32)), .val (.ref b44), .val (.ref b47), .val (.ref b52), .val (.int (pa + 0)), .unset, .unset] at_56 rfl rfl ?_
      refine own_aload X 60 (.ref b47) at_58 rfl rfl rfl ?_
      refine own_aload X 62 (.ref b44) at_60 rfl rfl rfl ?_
      refine own_iload X 64 (3 : Int32) at_62 rfl rfl ?_
      refine own_callS X 67 [(.ref b47), (.ref b44), (.int (3 : Int32))] [] at_64 rfl (hw _ (List.mem_of_getElem? (i := 46) rfl)) (hw _ (List.mem_of_getElem? (i := 47) rfl)) (hw _ (List.mem_of_getElem? (i := 48) rfl)) (hw _ (List.mem_of_getElem? (i := 49) rfl)) (by decide) (own_upto_0_3 l Z a0 hw b47 b44 (3 : Int32) de kd 0 h54 n0 X.sz OL z_de z_dA F_modCount_b47 F_size_b47 F_elementData_b47 A_b47 (by omega) (Ins.of_exa A_b44 (hw _ (List.mem_of_getElem? (i := 80) rfl))) (by omega) (by show @Ne Nat _ _; omega) rfl) (fun _ _ q => q.1.1) rfl own_pd18 rfl rfl rfl (by decide) (Nat.le_of_ble_eq_true rfl) (by decide) (by decide) ?_
      rintro v64 T h56 X ⟨K_, rfl, Fm_, Fs_, b55, ka_b55, Fe_, lo_b55, hi_b55, A_b55, O_b55, C_b55⟩
      have zs_h56 : h54.size ≤ h56.size := K_.1
      have OL := OL.keep K_ (allS (by omega) all0)
      have A_b44 := A_b44.keep K_
      have A_b47 := A_b47.keep K_
      have A_b52 := A_b52.keep K_
      have F_converted_b52 := F_converted_b52.keep K_ (ninS (by show @Ne Nat _ _; omega) nin0)
      have F_notConverted_b52 := F_notConverted_b52.keep K_ (ninS (by show @Ne Nat _ _; omega) nin0)
      have F_modCount_b47 := Fm_
      have F_size_b47 := Fs_
      have F_elementData_b47 := Fe_
      show own_Ends p e below _ (T.setTop (mkF m 67 #[.val (.int pa), .val (.int pb), .val (.int pc), .val (.int (0 : Int32)), .val (.int (3 : Int32)), .val (.ref b44), .val (.ref b47), .val (.ref b52), .val (.int (pa + 0)), .unset, .unset] []))
      refine own_aload X 69 (.ref b52) at_67 rfl rfl rfl ?_
      refine own_callV X 72 [] [] at_69 rfl (hw _ (List.mem_of_getElem? (i := 180) rfl)) (hw _ (List.mem_of_getElem? (i := 181) rfl)) (own_nf X.2.2.2.2.1 (hw _ (List.mem_of_getElem? (i := 183) rfl))) (hw _ (List.mem_of_getElem? (i := 183) rfl)) (hw _ (List.mem_of_getElem? (i := 182) rfl)) (hw _ (List.mem_of_getElem? (i := 83) rfl)) (hw _ (List.mem_of_getElem? (i := 184) rfl)) (by decide) A_b52 (own_entries_0 l Z a0 hw b52 pa el em b44 de kd el ea ke h56 n0 X.sz F_converted_b52 F_notConverted_b52 OL z_el z_eE z_eF z_eA rfl) (fun _ _ q => Nat.le_of_eq (congrArg Array.size q.1.symm)) rfl own_pd15 rfl rfl rfl (by decide) (Nat.le_of_ble_eq_true rfl) (by decide) (by decide) ?_
      rintro v69 T h_ X ⟨eh_, rfl⟩
      rw [eh_] at X
      show own_Ends p e below _ (T.setTop (mkF m 72 #[.val (.int pa), .val (.int pb), .val (.int pc), .val (.int (0 : Int32)), .val (.int (3 : Int32)), .val (.ref b44), .val (.ref b47), .val (.ref b52), .val (.int (pa + 0)), .unset, .unset] [(.int (pa + 0))]))
      refine own_istore X 74 #[.val (.int pa), .val (.int pb), .val (.int pc), .val (.int (0 : Int32)), .val (.int (3 : Int32)), .val (.ref b44), .val (.ref b47), .val (.ref b52), .val (.int (pa + 0)), .val (.int (pa + 0)), .unset] at_72 rfl rfl ?_
      refine own_iloadN X 75 pa at_74 rfl rfl ?_
      refine own_iloadN X 76 (0 : Int32) at_75 rfl rfl ?_
      refine own_iadd X 77 at_76 rfl ?_
      refine own_istore X 79 #[.val (.int pa), .val (.int pb), .val (.int pc), .val (.int (0 : Int32)), .val (.int (3 : Int32)), .val (.ref b44), .val (.ref b47), .val (.ref b52), .val (.int (pa + 0)), .val (.int (pa + 0)), .val (.int (pa + (0 : Int32)))] at_77 rfl rfl ?_
      refine own_iload X 81 (pa + 0) at_79 rfl rfl ?_
      refine own_iload X 83 (pa + (0 : Int32)) at_81 rfl rfl ?_
      refine own_icN X 86 at_83 rfl (XT.ii_ne_f rfl) ?_
      refine own_iload X 88 (pa + 0) at_86 rfl rfl ?_
      refine own_iload X 90 (pa + (0 : Int32)) at_88 rfl rfl ?_
      refine own_icN X 93 at_90 rfl (XT.ii_ne_f rfl) ?_
      refine own_iconst X 94 (1 : Int32) at_93 rfl rfl ?_
      refine own_goto X 98 at_94 (by decide) (by decide) ?_
      exact own_retN X .boolean at_98 rfl (by simp) (by decide) (by decide) (by decide)
  · rw [hn_]
    refine own_iloadN X 5 pc at_4 rfl rfl ?_
    refine own_iconst X 6 (3 : Int32) at_5 rfl rfl ?_
    refine own_iand X 7 at_6 rfl ?_
    refine own_istore X 9 #[.val (.int pa), .val (.int pb), .val (.int pc), .val (.int (1 : Int32)), .val (.int (pc &&& (3 : Int32))), .unset, .unset, .unset, .unset, .unset, .unset] at_7 rfl rfl ?_
    rcases own_and3 pc with hm_ | hm_ | hm_ | hm_
    · rw [hm_]
      refine own_new X 12 at_9 rfl (hw _ (List.mem_of_getElem? (i := 0) rfl)) (hw _ (List.mem_of_getElem? (i := 1) rfl)) (hw _ (List.mem_of_getElem? (i := 2) rfl)) (by decide) (by decide) ?_
      intro T h57 b58 g_b58 X E_h57 A_b58 D_b58
      have zs_h57 : h0.size ≤ h57.size := E_h57.1
      have OL := OL.ext E_h57
      have lo_b58 : h0.size ≤ b58 := Nat.le_of_eq g_b58.symm
      have hi_b58 : h57.size > b58 := A_b58.lt
      have F_section_b58 : Fld Z h57 b58 "com/example/rosettine/rosettine/model/ConversionReport$NotConverted" "section" "Ljava/util/Optional;" .null := D_b58 (Or.inr (hw _ (List.mem_of_getElem? (i := 15) rfl))) (ty := (.object "java/util/Optional")) (by decide)
      have F_template_b58 : Fld Z h57 b58 "com/example/rosettine/rosettine/model/ConversionReport$NotConverted" "template" "Ljava/util/Optional;" .null := D_b58 (Or.inr (hw _ (List.mem_of_getElem? (i := 17) rfl))) (ty := (.object "java/util/Optional")) (by decide)
      have F_id_b58 : Fld Z h57 b58 "com/example/rosettine/rosettine/model/ConversionReport$NotConverted" "id" "Ljava/util/Optional;" .null := D_b58 (Or.inr (hw _ (List.mem_of_getElem? (i := 19) rfl))) (ty := (.object "java/util/Optional")) (by decide)
      have F_reason_b58 : Fld Z h57 b58 "com/example/rosettine/rosettine/model/ConversionReport$NotConverted" "reason" "Ljava/lang/String;" .null := D_b58 (Or.inr (hw _ (List.mem_of_getElem? (i := 21) rfl))) (ty := (.object "java/lang/String")) (by decide)
      refine own_dup X 13 at_12 rfl rfl ?_
      refine own_anull X 14 at_13 rfl ?_
      refine own_anull X 15 at_14 rfl ?_
      refine own_anull X 16 at_15 rfl ?_
      refine own_anull X 17 at_16 rfl ?_
      refine own_init X 20 [.null, .null, .null, .null] [(.ref b58)] at_17 rfl (hw _ (List.mem_of_getElem? (i := 3) rfl)) (hw _ (List.mem_of_getElem? (i := 4) rfl)) (hw _ (List.mem_of_getElem? (i := 2) rfl)) (hw _ (List.mem_of_getElem? (i := 5) rfl)) (by decide) rfl (own_nc l Z a0 hw b58 h57 n0 X.sz F_section_b58 F_template_b58 F_id_b58 F_reason_b58 A_b58 (by omega)) (fun _ _ q => q.1.1) rfl own_pd17 rfl rfl rfl (by decide) (Nat.le_of_ble_eq_true rfl) (by decide) (by decide) ?_
      rintro v17 T h59 X ⟨K_, rfl⟩
      have zs_h59 : h57.size ≤ h59.size := K_.1
      have OL := OL.keep K_ (allS (by omega) all0)
      have A_b58 := A_b58.keep K_
      show own_Ends p e below _ (T.setTop (mkF m 20 #[.val (.int pa), .val (.int pb), .val (.int pc), .val (.int (1 : Int32)), .val (.int (0 : Int32)), .unset, .unset, .unset, .unset, .unset, .unset] [(.ref b58)]))
      refine own_astore X 22 #[.val (.int pa), .val (.int pb), .val (.int pc), .val (.int (1 : Int32)), .val (.int (0 : Int32)), .val (.ref b58), .unset, .unset, .unset, .unset, .unset] at_20 rfl rfl rfl ?_
      refine own_new X 25 at_22 rfl (hw _ (List.mem_of_getElem? (i := 22) rfl)) (hw _ (List.mem_of_getElem? (i := 23) rfl)) (hw _ (List.mem_of_getElem? (i := 24) rfl)) (by decide) (by decide) ?_
      intro T h60 b61 g_b61 X E_h60 A_b61 D_b61
      have zs_h60 : h59.size ≤ h60.size := E_h60.1
      have OL := OL.ext E_h60
      have A_b58 := Exa.ext E_h60 A_b58
      have lo_b61 : h59.size ≤ b61 := Nat.le_of_eq g_b61.symm
      have hi_b61 : h60.size > b61 := A_b61.lt
      have F_modCount_b61 : Fld Z h60 b61 "java/util/AbstractList" "modCount" "I" (.int (0 : Int32)) := D_b61 (Or.inl (hw _ (List.mem_of_getElem? (i := 42) rfl))) (ty := .int) (by decide)
      have F_elementData_b61 : Fld Z h60 b61 "java/util/ArrayList" "elementData" "[Ljava/lang/Object;" .null := D_b61 (Or.inl (hw _ (List.mem_of_getElem? (i := 45) rfl))) (ty := (.array (.object "java/lang/Object"))) (by decide)
      have F_size_b61 : Fld Z h60 b61 "java/util/ArrayList" "size" "I" (.int (0 : Int32)) := D_b61 (Or.inl (hw _ (List.mem_of_getElem? (i := 58) rfl))) (ty := .int) (by decide)
      refine own_dup X 26 at_25 rfl rfl ?_
      refine own_init X 29 [] [(.ref b61)] at_26 rfl (hw _ (List.mem_of_getElem? (i := 25) rfl)) (hw _ (List.mem_of_getElem? (i := 26) rfl)) (hw _ (List.mem_of_getElem? (i := 24) rfl)) (hw _ (List.mem_of_getElem? (i := 27) rfl)) (by decide) rfl (own_alinit l Z a0 hw b61 de h60 n0 X.sz OL z_de F_modCount_b61 F_size_b61 F_elementData_b61 A_b61 (by omega)) (fun _ _ q => q.1.1) rfl own_pd0 rfl rfl rfl (by decide) (Nat.le_of_ble_eq_true rfl) (by decide) (by decide) ?_
      rintro v26 T h62 X ⟨K_, rfl, Fm_, Fs_, Fe_⟩
      have zs_h62 : h60.size ≤ h62.size := K_.1
      have OL := OL.keep K_ (allS (by omega) all0)
      have A_b58 := A_b58.keep K_
      have A_b61 := A_b61.keep K_
      have F_modCount_b61 := Fm_
      have F_size_b61 := Fs_
      have F_elementData_b61 := Fe_
      show own_Ends p e below _ (T.setTop (mkF m 29 #[.val (.int pa), .val (.int pb), .val (.int pc), .val (.int (1 : Int32)), .val (.int (0 : Int32)), .val (.ref b58), .unset, .unset, .unset, .unset, .unset] [(.ref b61)]))
      refine own_astore X 31 #[.val (.int pa), .val (.int pb), .val (.int pc), .val (.int (1 : Int32)), .val (.int (0 : Int32)), .val (.ref b58), .val (.ref b61), .unset, .unset, .unset, .unset] at_29 rfl rfl rfl ?_
      refine own_aload X 33 (.ref b61) at_31 rfl rfl rfl ?_
      refine own_aload X 35 (.ref b58) at_33 rfl rfl rfl ?_
      refine own_iloadN X 36 (1 : Int32) at_35 rfl rfl ?_
      refine own_callS X 39 [(.ref b61), (.ref b58), (.int (1 : Int32))] [] at_36 rfl (hw _ (List.mem_of_getElem? (i := 46) rfl)) (hw _ (List.mem_of_getElem? (i := 47) rfl)) (hw _ (List.mem_of_getElem? (i := 48) rfl)) (hw _ (List.mem_of_getElem? (i := 49) rfl)) (by decide) (own_upto_0_1 l Z a0 hw b61 b58 (1 : Int32) de kd 0 h62 n0 X.sz OL z_de z_dA F_modCount_b61 F_size_b61 F_elementData_b61 A_b61 (by omega) (Ins.of_exa A_b58 (hw _ (List.mem_of_getElem? (i := 80) rfl))) (by omega) (by show @Ne Nat _ _; omega) rfl) (fun _ _ q => q.1.1) rfl own_pd18 rfl rfl rfl (by decide) (Nat.le_of_ble_eq_true rfl) (by decide) (by decide) ?_
      rintro v36 T h64 X ⟨K_, rfl, Fm_, Fs_, b63, ka_b63, Fe_, lo_b63, hi_b63, A_b63, O_b63, C_b63⟩
      have zs_h64 : h62.size ≤ h64.size := K_.1
      have OL := OL.keep K_ (allS (by omega) all0)
      have A_b58 := A_b58.keep K_
      have A_b61 := A_b61.keep K_
      have F_modCount_b61 := Fm_
      have F_size_b61 := Fs_
      have F_elementData_b61 := Fe_
      show own_Ends p e below _ (T.setTop (mkF m 39 #[.val (.int pa), .val (.int pb), .val (.int pc), .val (.int (1 : Int32)), .val (.int (0 : Int32)), .val (.ref b58), .val (.ref b61), .unset, .unset, .unset, .unset] []))
      refine own_new X 42 at_39 rfl (hw _ (List.mem_of_getElem? (i := 81) rfl)) (hw _ (List.mem_of_getElem? (i := 82) rfl)) (hw _ (List.mem_of_getElem? (i := 83) rfl)) (by decide) (by decide) ?_
      intro T h65 b66 g_b66 X E_h65 A_b66 D_b66
      have zs_h65 : h64.size ≤ h65.size := E_h65.1
      have OL := OL.ext E_h65
      have A_b58 := Exa.ext E_h65 A_b58
      have A_b61 := Exa.ext E_h65 A_b61
      have F_modCount_b61 := Fld.ext E_h65 F_modCount_b61
      have F_size_b61 := Fld.ext E_h65 F_size_b61
      have F_elementData_b61 := Fld.ext E_h65 F_elementData_b61
      have A_b63 := A_b63.ext E_h65
      have C_b63 := Exa.ext E_h65 C_b63
      have lo_b66 : h64.size ≤ b66 := Nat.le_of_eq g_b66.symm
      have hi_b66 : h65.size > b66 := A_b66.lt
      have F_converted_b66 : Fld Z h65 b66 "com/example/rosettine/rosettine/model/ConversionReport" "converted" "I" (.int (0 : Int32)) := D_b66 (Or.inr (hw _ (List.mem_of_getElem? (i := 177) rfl))) (ty := .int) (by decide)
      have F_notConverted_b66 : Fld Z h65 b66 "com/example/rosettine/rosettine/model/ConversionReport" "notConverted" "Ljava/util/List;" .null := D_b66 (Or.inr (hw _ (List.mem_of_getElem? (i := 179) rfl))) (ty := (.object "java/util/List")) (by decide)
      refine own_dup X 43 at_42 rfl rfl ?_
      refine own_iloadN X 44 pa at_43 rfl rfl ?_
      refine own_aload X 46 (.ref b61) at_44 rfl rfl rfl ?_
      refine own_init X 49 [(.int pa), (.ref b61)] [(.ref b66)] at_46 rfl (hw _ (List.mem_of_getElem? (i := 84) rfl)) (hw _ (List.mem_of_getElem? (i := 85) rfl)) (hw _ (List.mem_of_getElem? (i := 83) rfl)) (hw _ (List.mem_of_getElem? (i := 86) rfl)) (by decide) rfl (own_crini_1 l Z a0 hw b66 pa b61 de kd el ea ke em mr b58 ka_b63 b63 h65 n0 X.sz OL z_de z_dA z_el z_eE z_eF z_eA z_em z_mE hmr F_size_b61 A_b61 F_elementData_b61 A_b63 C_b63 (Ins.of_exa A_b58 (hw _ (List.mem_of_getElem? (i := 80) rfl))) (by omega) (by omega) F_converted_b66 F_notConverted_b66 A_b66 (by omega) (by show @Ne Nat _ _; omega) (by show @Ne Nat _ _; omega)) (fun _ _ q => q.1.1) rfl own_pd19 rfl rfl rfl (by decide) (Nat.le_of_ble_eq_true rfl) (by decide) (by decide) ?_
      rintro v46 T h68 X ⟨K_, rfl, Fcv_, L67, Fnc_, lo_L67, hi_L67, E_L67, F_e1_L67⟩
      have zs_h68 : h65.size ≤ h68.size := K_.1
      have OL := OL.keep K_ (allS (by omega) all0)
      have A_b58 := A_b58.keep K_
      have A_b61 := A_b61.keep K_
      have F_modCount_b61 := F_modCount_b61.keep K_ (ninS (by show @Ne Nat _ _; omega) nin0)
      have F_size_b61 := F_size_b61.keep K_ (ninS (by show @Ne Nat _ _; omega) nin0)
      have F_elementData_b61 := F_elementData_b61.keep K_ (ninS (by show @Ne Nat _ _; omega) nin0)
      have A_b63 := A_b63.keep K_ (ninS (by show @Ne Nat _ _; omega) nin0)
      have C_b63 := C_b63.keep K_
      have A_b66 := A_b66.keep K_
      have F_converted_b66 := Fcv_
      have F_notConverted_b66 := Fnc_
      show own_Ends p e below _ (T.setTop (mkF m 49 #[.val (.int pa), .val (.int pb), .val (.int pc), .val (.int (1 : Int32)), .val (.int (0 : Int32)), .val (.ref b58), .val (.ref b61), .unset, .unset, .unset, .unset] [(.ref b66)]))
      refine own_astore X 51 #[.val (.int pa), .val (.int pb), .val (.int pc), .val (.int (1 : Int32)), .val (.int (0 : Int32)), .val (.ref b58), .val (.ref b61), .val (.ref b66), .unset, .unset, .unset] at_49 rfl rfl rfl ?_
      refine own_aload X 53 (.ref b66) at_51 rfl rfl rfl ?_
      refine own_callV X 56 [] [] at_53 rfl (hw _ (List.mem_of_getElem? (i := 180) rfl)) (hw _ (List.mem_of_getElem? (i := 181) rfl)) (own_nf X.2.2.2.2.1 (hw _ (List.mem_of_getElem? (i := 183) rfl))) (hw _ (List.mem_of_getElem? (i := 183) rfl)) (hw _ (List.mem_of_getElem? (i := 182) rfl)) (hw _ (List.mem_of_getElem? (i := 83) rfl)) (hw _ (List.mem_of_getElem? (i := 184) rfl)) (by decide) A_b66 (own_entries_1 l Z a0 hw b66 pa L67 em b58 de kd el ea ke h68 n0 X.sz F_converted_b66 F_notConverted_b66 OL E_L67 F_e1_L67 z_em z_mE) (fun _ _ q => Nat.le_of_eq (congrArg Array.size q.1.symm)) rfl own_pd15 rfl rfl rfl (by decide) (Nat.le_of_ble_eq_true rfl) (by decide) (by decide) ?_
      rintro v53 T h_ X ⟨eh_, rfl⟩
      rw [eh_] at X
      show own_Ends p e below _ (T.setTop (mkF m 56 #[.val (.int pa), .val (.int pb), .val (.int pc), .val (.int (1 : Int32)), .val (.int (0 : Int32)), .val (.ref b58), .val (.ref b61), .val (.ref b66), .unset, .unset, .unset] [(.int (pa + 1))]))
      refine own_istore X 58 #[.val (.int pa), .val (.int pb), .val (.int pc), .val (.int (1 : Int32)), .val (.int (0 : Int32)), .val (.ref b58), .val (.ref b61), .val (.ref b66), .val (.int (pa + 1)), .unset, .unset] at_56 rfl rfl ?_
      refine own_aload X 60 (.ref b61) at_58 rfl rfl rfl ?_
      refine own_aload X 62 (.ref b58) at_60 rfl rfl rfl ?_
      refine own_iload X 64 (0 : Int32) at_62 rfl rfl ?_
      refine own_callS X 67 [(.ref b61), (.ref b58), (.int (0 : Int32))] [] at_64 rfl (hw _ (List.mem_of_getElem? (i := 46) rfl)) (hw _ (List.mem_of_getElem? (i := 47) rfl)) (hw _ (List.mem_of_getElem? (i := 48) rfl)) (hw _ (List.mem_of_getElem? (i := 49) rfl)) (by decide) (own_upto_1_0 l Z a0 hw b61 b58 (0 : Int32) de kd (0 + 1) b63 ka_b63 h68 n0 X.sz OL z_de z_dA F_modCount_b61 F_size_b61 F_elementData_b61 A_b61 (by omega) A_b63 O_b63 C_b63 (by omega) (by show @Ne Nat _ _; omega) (Ins.of_exa A_b58 (hw _ (List.mem_of_getElem? (i := 80) rfl))) (by omega) (by show @Ne Nat _ _; omega) (by show @Ne Nat _ _; omega) rfl) (fun _ _ q => q.1.1) rfl own_pd18 rfl rfl rfl (by decide) (Nat.le_of_ble_eq_true rfl) (by decide) (by decide) ?_
      rintro v64 T h70 X ⟨K_, rfl, Fm_, Fs_, Fe_, A2_⟩
      have zs_h70 : h68.size ≤ h70.size := K_.1
      have OL := OL.keep K_ (allS (by omega) (allS (by omega) all0))
      have A_b58 := A_b58.keep K_
      have A_b61 := A_b61.keep K_
      have C_b63 := C_b63.keep K_
      have A_b66 := A_b66.keep K_
      have F_converted_b66 := F_converted_b66.keep K_ (ninS (by show @Ne Nat _ _; omega) (ninS (by show @Ne Nat _ _; omega) nin0))
      have F_notConverted_b66 := F_notConverted_b66.keep K_ (ninS (by show @Ne Nat _ _; omega) (ninS (by show @Ne Nat _ _; omega) nin0))
      have E_L67 := E_L67.keep K_
      have F_e1_L67 := F_e1_L67.keep K_ (ninS (by show @Ne Nat _ _; omega) (ninS (by show @Ne Nat _ _; omega) nin0))
      have F_modCount_b61 := Fm_
      have F_size_b61 := Fs_
      have F_elementData_b61 := Fe_
      have A_b63 := A2_
      show own_Ends p e below _ (T.setTop (mkF m 67 #[.val (.int pa), .val (.int pb), .val (.int pc), .val (.int (1 : Int32)), .val (.int (0 : Int32)), .val (.ref b58), .val (.ref b61), .val (.ref b66), .val (.int (pa + 1)), .unset, .unset] []))
      refine own_aload X 69 (.ref b66) at_67 rfl rfl rfl ?_
      refine own_callV X 72 [] [] at_69 rfl (hw _ (List.mem_of_getElem? (i := 180) rfl)) (hw _ (List.mem_of_getElem? (i := 181) rfl)) (own_nf X.2.2.2.2.1 (hw _ (List.mem_of_getElem? (i := 183) rfl))) (hw _ (List.mem_of_getElem? (i := 183) rfl)) (hw _ (List.mem_of_getElem? (i := 182) rfl)) (hw _ (List.mem_of_getElem? (i := 83) rfl)) (hw _ (List.mem_of_getElem? (i := 184) rfl)) (by decide) A_b66 (own_entries_1 l Z a0 hw b66 pa L67 em b58 de kd el ea ke h70 n0 X.sz F_converted_b66 F_notConverted_b66 OL E_L67 F_e1_L67 z_em z_mE) (fun _ _ q => Nat.le_of_eq (congrArg Array.size q.1.symm)) rfl own_pd15 rfl rfl rfl (by decide) (Nat.le_of_ble_eq_true rfl) (by decide) (by decide) ?_
      rintro v69 T h_ X ⟨eh_, rfl⟩
      rw [eh_] at X
      show own_Ends p e below _ (T.setTop (mkF m 72 #[.val (.int pa), .val (.int pb), .val (.int pc), .val (.int (1 : Int32)), .val (.int (0 : Int32)), .val (.ref b58), .val (.ref b61), .val (.ref b66), .val (.int (pa + 1)), .unset, .unset] [(.int (pa + 1))]))
      refine own_istore X 74 #[.val (.int pa), .val (.int pb), .val (.int pc), .val (.int (1 : Int32)), .val (.int (0 : Int32)), .val (.ref b58), .val (.ref b61), .val (.ref b66), .val (.int (pa + 1)), .val (.int (pa + 1)), .unset] at_72 rfl rfl ?_
      refine own_iloadN X 75 pa at_74 rfl rfl ?_
      refine own_iloadN X 76 (1 : Int32) at_75 rfl rfl ?_
      refine own_iadd X 77 at_76 rfl ?_
      refine own_istore X 79 #[.val (.int pa), .val (.int pb), .val (.int pc), .val (.int (1 : Int32)), .val (.int (0 : Int32)), .val (.ref b58), .val (.ref b61), .val (.ref b66), .val (.int (pa + 1)), .val (.int (pa + 1)), .val (.int (pa + (1 : Int32)))] at_77 rfl rfl ?_
      refine own_iload X 81 (pa + 1) at_79 rfl rfl ?_
      refine own_iload X 83 (pa + (1 : Int32)) at_81 rfl rfl ?_
      refine own_icN X 86 at_83 rfl (XT.ii_ne_f rfl) ?_
      refine own_iload X 88 (pa + 1) at_86 rfl rfl ?_
      refine own_iload X 90 (pa + (1 : Int32)) at_88 rfl rfl ?_
      refine own_icN X 93 at_90 rfl (XT.ii_ne_f rfl) ?_
      refine own_iconst X 94 (1 : Int32) at_93 rfl rfl ?_
      refine own_goto X 98 at_94 (by decide) (by decide) ?_
      exact own_retN X .boolean at_98 rfl (by simp) (by decide) (by decide) (by decide)
    · rw [hm_]
      refine own_new X 12 at_9 rfl (hw _ (List.mem_of_getElem? (i := 0) rfl)) (hw _ (List.mem_of_getElem? (i := 1) rfl)) (hw _ (List.mem_of_getElem? (i := 2) rfl)) (by decide) (by decide) ?_
      intro T h71 b72 g_b72 X E_h71 A_b72 D_b72
      have zs_h71 : h0.size ≤ h71.size := E_h71.1
      have OL := OL.ext E_h71
      have lo_b72 : h0.size ≤ b72 := Nat.le_of_eq g_b72.symm
      have hi_b72 : h71.size > b72 := A_b72.lt
      have F_section_b72 : Fld Z h71 b72 "com/example/rosettine/rosettine/model/ConversionReport$NotConverted" "section" "Ljava/util/Optional;" .null := D_b72 (Or.inr (hw _ (List.mem_of_getElem? (i := 15) rfl))) (ty := (.object "java/util/Optional")) (by decide)
      have F_template_b72 : Fld Z h71 b72 "com/example/rosettine/rosettine/model/ConversionReport$NotConverted" "template" "Ljava/util/Optional;" .null := D_b72 (Or.inr (hw _ (List.mem_of_getElem? (i := 17) rfl))) (ty := (.object "java/util/Optional")) (by decide)
      have F_id_b72 : Fld Z h71 b72 "com/example/rosettine/rosettine/model/ConversionReport$NotConverted" "id" "Ljava/util/Optional;" .null := D_b72 (Or.inr (hw _ (List.mem_of_getElem? (i := 19) rfl))) (ty := (.object "java/util/Optional")) (by decide)
      have F_reason_b72 : Fld Z h71 b72 "com/example/rosettine/rosettine/model/ConversionReport$NotConverted" "reason" "Ljava/lang/String;" .null := D_b72 (Or.inr (hw _ (List.mem_of_getElem? (i := 21) rfl))) (ty := (.object "java/lang/String")) (by decide)
      refine own_dup X 13 at_12 rfl rfl ?_
      refine own_anull X 14 at_13 rfl ?_
      refine own_anull X 15 at_14 rfl ?_
      refine own_anull X 16 at_15 rfl ?_
      refine own_anull X 17 at_16 rfl ?_
      refine own_init X 20 [.null, .null, .null, .null] [(.ref b72)] at_17 rfl (hw _ (List.mem_of_getElem? (i := 3) rfl)) (hw _ (List.mem_of_getElem? (i := 4) rfl)) (hw _ (List.mem_of_getElem? (i := 2) rfl)) (hw _ (List.mem_of_getElem? (i := 5) rfl)) (by decide) rfl (own_nc l Z a0 hw b72 h71 n0 X.sz F_section_b72 F_template_b72 F_id_b72 F_reason_b72 A_b72 (by omega)) (fun _ _ q => q.1.1) rfl own_pd17 rfl rfl rfl (by decide) (Nat.le_of_ble_eq_true rfl) (by decide) (by decide) ?_
      rintro v17 T h73 X ⟨K_, rfl⟩
      have zs_h73 : h71.size ≤ h73.size := K_.1
      have OL := OL.keep K_ (allS (by omega) all0)
      have A_b72 := A_b72.keep K_
      show own_Ends p e below _ (T.setTop (mkF m 20 #[.val (.int pa), .val (.int pb), .val (.int pc), .val (.int (1 : Int32)), .val (.int (1 : Int32)), .unset, .unset, .unset, .unset, .unset, .unset] [(.ref b72)]))
      refine own_astore X 22 #[.val (.int pa), .val (.int pb), .val (.int pc), .val (.int (1 : Int32)), .val (.int (1 : Int32)), .val (.ref b72), .unset, .unset, .unset, .unset, .unset] at_20 rfl rfl rfl ?_
      refine own_new X 25 at_22 rfl (hw _ (List.mem_of_getElem? (i := 22) rfl)) (hw _ (List.mem_of_getElem? (i := 23) rfl)) (hw _ (List.mem_of_getElem? (i := 24) rfl)) (by decide) (by decide) ?_
      intro T h74 b75 g_b75 X E_h74 A_b75 D_b75
      have zs_h74 : h73.size ≤ h74.size := E_h74.1
      have OL := OL.ext E_h74
      have A_b72 := Exa.ext E_h74 A_b72
      have lo_b75 : h73.size ≤ b75 := Nat.le_of_eq g_b75.symm
      have hi_b75 : h74.size > b75 := A_b75.lt
      have F_modCount_b75 : Fld Z h74 b75 "java/util/AbstractList" "modCount" "I" (.int (0 : Int32)) := D_b75 (Or.inl (hw _ (List.mem_of_getElem? (i := 42) rfl))) (ty := .int) (by decide)
      have F_elementData_b75 : Fld Z h74 b75 "java/util/ArrayList" "elementData" "[Ljava/lang/Object;" .null := D_b75 (Or.inl (hw _ (List.mem_of_getElem? (i := 45) rfl))) (ty := (.array (.object "java/lang/Object"))) (by decide)
      have F_size_b75 : Fld Z h74 b75 "java/util/ArrayList" "size" "I" (.int (0 : Int32)) := D_b75 (Or.inl (hw _ (List.mem_of_getElem? (i := 58) rfl))) (ty := .int) (by decide)
      refine own_dup X 26 at_25 rfl rfl ?_
      refine own_init X 29 [] [(.ref b75)] at_26 rfl (hw _ (List.mem_of_getElem? (i := 25) rfl)) (hw _ (List.mem_of_getElem? (i := 26) rfl)) (hw _ (List.mem_of_getElem? (i := 24) rfl)) (hw _ (List.mem_of_getElem? (i := 27) rfl)) (by decide) rfl (own_alinit l Z a0 hw b75 de h74 n0 X.sz OL z_de F_modCount_b75 F_size_b75 F_elementData_b75 A_b75 (by omega)) (fun _ _ q => q.1.1) rfl own_pd0 rfl rfl rfl (by decide) (Nat.le_of_ble_eq_true rfl) (by decide) (by decide) ?_
      rintro v26 T h76 X ⟨K_, rfl, Fm_, Fs_, Fe_⟩
      have zs_h76 : h74.size ≤ h76.size := K_.1
      have OL := OL.keep K_ (allS (by omega) all0)
      have A_b72 := A_b72.keep K_
      have A_b75 := A_b75.keep K_
      have F_modCount_b75 := Fm_
      have F_size_b75 := Fs_
      have F_elementData_b75 := Fe_
      show own_Ends p e below _ (T.setTop (mkF m 29 #[.val (.int pa), .val (.int pb), .val (.int pc), .val (.int (1 : Int32)), .val (.int (1 : Int32)), .val (.ref b72), .unset, .unset, .unset, .unset, .unset] [(.ref b75)]))
      refine own_astore X 31 #[.val (.int pa), .val (.int pb), .val (.int pc), .val (.int (1 : Int32)), .val (.int (1 : Int32)), .val (.ref b72), .val (.ref b75), .unset, .unset, .unset, .unset] at_29 rfl rfl rfl ?_
      refine own_aload X 33 (.ref b75) at_31 rfl rfl rfl ?_
      refine own_aload X 35 (.ref b72) at_33 rfl rfl rfl ?_
      refine own_iloadN X 36 (1 : Int32) at_35 rfl rfl ?_
      refine own_callS X 39 [(.ref b75), (.ref b72), (.int (1 : Int32))] [] at_36 rfl (hw _ (List.mem_of_getElem? (i := 46) rfl)) (hw _ (List.mem_of_getElem? (i := 47) rfl)) (hw _ (List.mem_of_getElem? (i := 48) rfl)) (hw _ (List.mem_of_getElem? (i := 49) rfl)) (by decide) (own_upto_0_1 l Z a0 hw b75 b72 (1 : Int32) de kd 0 h76 n0 X.sz OL z_de z_dA F_modCount_b75 F_size_b75 F_elementData_b75 A_b75 (by omega) (Ins.of_exa A_b72 (hw _ (List.mem_of_getElem? (i := 80) rfl))) (by omega) (by show @Ne Nat _ _; omega) rfl) (fun _ _ q => q.1.1) rfl own_pd18 rfl rfl rfl (by decide) (Nat.le_of_ble_eq_true rfl) (by decide) (by decide) ?_
      rintro v36 T h78 X ⟨K_, rfl, Fm_, Fs_, b77, ka_b77, Fe_, lo_b77, hi_b77, A_b77, O_b77, C_b77⟩
      have zs_h78 : h76.size ≤ h78.size := K_.1
      have OL := OL.keep K_ (allS (by omega) all0)
      have A_b72 := A_b72.keep K_
      have A_b75 := A_b75.keep K_
      have F_modCount_b75 := Fm_
      have F_size_b75 := Fs_
      have F_elementData_b75 := Fe_
      show own_Ends p e below _ (T.setTop (mkF m 39 #[.val (.int pa), .val (.int pb), .val (.int pc), .val (.int (1 : Int32)), .val (.int (1 : Int32)), .val (.ref b72), .val (.ref b75), .unset, .unset, .unset, .unset] []))
      refine own_new X 42 at_39 rfl (hw _ (List.mem_of_getElem? (i := 81) rfl)) (hw _ (List.mem_of_getElem? (i := 82) rfl)) (hw _ (List.mem_of_getElem? (i := 83) rfl)) (by decide) (by decide) ?_
      intro T h79 b80 g_b80 X E_h79 A_b80 D_b80
      have zs_h79 : h78.size ≤ h79.size := E_h79.1
      have OL := OL.ext E_h79
      have A_b72 := Exa.ext E_h79 A_b72
      have A_b75 := Exa.ext E_h79 A_b75
      have F_modCount_b75 := Fld.ext E_h79 F_modCount_b75
      have F_size_b75 := Fld.ext E_h79 F_size_b75
      have F_elementData_b75 := Fld.ext E_h79 F_elementData_b75
      have A_b77 := A_b77.ext E_h79
      have C_b77 := Exa.ext E_h79 C_b77
      have lo_b80 : h78.size ≤ b80 := Nat.le_of_eq g_b80.symm
      have hi_b80 : h79.size > b80 := A_b80.lt
      have F_converted_b80 : Fld Z h79 b80 "com/example/rosettine/rosettine/model/ConversionReport" "converted" "I" (.int (0 : Int32)) := D_b80 (Or.inr (hw _ (List.mem_of_getElem? (i := 177) rfl))) (ty := .int) (by decide)
      have F_notConverted_b80 : Fld Z h79 b80 "com/example/rosettine/rosettine/model/ConversionReport" "notConverted" "Ljava/util/List;" .null := D_b80 (Or.inr (hw _ (List.mem_of_getElem? (i := 179) rfl))) (ty := (.object "java/util/List")) (by decide)
      refine own_dup X 43 at_42 rfl rfl ?_
      refine own_iloadN X 44 pa at_43 rfl rfl ?_
      refine own_aload X 46 (.ref b75) at_44 rfl rfl rfl ?_
      refine own_init X 49 [(.int pa), (.ref b75)] [(.ref b80)] at_46 rfl (hw _ (List.mem_of_getElem? (i := 84) rfl)) (hw _ (List.mem_of_getElem? (i := 85) rfl)) (hw _ (List.mem_of_getElem? (i := 83) rfl)) (hw _ (List.mem_of_getElem? (i := 86) rfl)) (by decide) rfl (own_crini_1 l Z a0 hw b80 pa b75 de kd el ea ke em mr b72 ka_b77 b77 h79 n0 X.sz OL z_de z_dA z_el z_eE z_eF z_eA z_em z_mE hmr F_size_b75 A_b75 F_elementData_b75 A_b77 C_b77 (Ins.of_exa A_b72 (hw _ (List.mem_of_getElem? (i := 80) rfl))) (by omega) (by omega) F_converted_b80 F_notConverted_b80 A_b80 (by omega) (by show @Ne Nat _ _; omega) (by show @Ne Nat _ _; omega)) (fun _ _ q => q.1.1) rfl own_pd19 rfl rfl rfl (by decide) (Nat.le_of_ble_eq_true rfl) (by decide) (by decide) ?_
      rintro v46 T h82 X ⟨K_, rfl, Fcv_, L81, Fnc_, lo_L81, hi_L81, E_L81, F_e1_L81⟩
      have zs_h82 : h79.size ≤ h82.size := K_.1
      have OL := OL.keep K_ (allS (by omega) all0)
      have A_b72 := A_b72.keep K_
      have A_b75 := A_b75.keep K_
      have F_modCount_b75 := F_modCount_b75.keep K_ (ninS (by show @Ne Nat _ _; omega) nin0)
      have F_size_b75 := F_size_b75.keep K_ (ninS (by show @Ne Nat _ _; omega) nin0)
      have F_elementData_b75 := F_elementData_b75.keep K_ (ninS (by show @Ne Nat _ _; omega) nin0)
      have A_b77 := A_b77.keep K_ (ninS (by show @Ne Nat _ _; omega) nin0)
      have C_b77 := C_b77.keep K_
      have A_b80 := A_b80.keep K_
      have F_converted_b80 := Fcv_
      have F_notConverted_b80 := Fnc_
      show own_Ends p e below _ (T.setTop (mkF m 49 #[.val (.int pa), .val (.int pb), .val (.int pc), .val (.int (1 : Int32)), .val (.int (1 : Int32)), .val (.ref b72), .val (.ref b75), .unset, .unset, .unset, .unset] [(.ref b80)]))
      refine own_astore X 51 #[.val (.int pa), .val (.int pb), .val (.int pc), .val (.int (1 : Int32)), .val (.int (1 : Int32)), .val (.ref b72), .val (.ref b75), .val (.ref b80), .unset, .unset, .unset] at_49 rfl rfl rfl ?_
      refine own_aload X 53 (.ref b80) at_51 rfl rfl rfl ?_
      refine own_callV X 56 [] [] at_53 rfl (hw _ (List.mem_of_getElem? (i := 180) rfl)) (hw _ (List.mem_of_getElem? (i := 181) rfl)) (own_nf X.2.2.2.2.1 (hw _ (List.mem_of_getElem? (i := 183) rfl))) (hw _ (List.mem_of_getElem? (i := 183) rfl)) (hw _ (List.mem_of_getElem? (i := 182) rfl)) (hw _ (List.mem_of_getElem? (i := 83) rfl)) (hw _ (List.mem_of_getElem? (i := 184) rfl)) (by decide) A_b80 (own_entries_1 l Z a0 hw b80 pa L81 em b72 de kd el ea ke h82 n0 X.sz F_converted_b80 F_notConverted_b80 OL E_L81 F_e1_L81 z_em z_mE) (fun _ _ q => Nat.le_of_eq (congrArg Array.size q.1.symm)) rfl own_pd15 rfl rfl rfl (by decide) (Nat.le_of_ble_eq_true rfl) (by decide) (by decide) ?_
      rintro v53 T h_ X ⟨eh_, rfl⟩
      rw [eh_] at X
      show own_Ends p e below _ (T.setTop (mkF m 56 #[.val (.int pa), .val (.int pb), .val (.int pc), .val (.int (1 : Int32)), .val (.int (1 : Int32)), .val (.ref b72), .val (.ref b75), .val (.ref b80), .unset, .unset, .unset] [(.int (pa + 1))]))
      refine own_istore X 58 #[.val (.int pa), .val (.int pb), .val (.int pc), .val (.int (1 : Int32)), .val (.int (1 : Int32)), .val (.ref b72), .val (.ref b75), .val (.ref b80), .val (.int (pa + 1)), .unset, .unset] at_56 rfl rfl ?_
      refine own_aload X 60 (.ref b75) at_58 rfl rfl rfl ?_
      refine own_aload X 62 (.ref b72) at_60 rfl rfl rfl ?_
      refine own_iload X 64 (1 : Int32) at_62 rfl rfl ?_
      refine own_callS X 67 [(.ref b75), (.ref b72), (.int (1 : Int32))] [] at_64 rfl (hw _ (List.mem_of_getElem? (i := 46) rfl)) (hw _ (List.mem_of_getElem? (i := 47) rfl)) (hw _ (List.mem_of_getElem? (i := 48) rfl)) (hw _ (List.mem_of_getElem? (i := 49) rfl)) (by decide) (own_upto_1_1 l Z a0 hw b75 b72 (1 : Int32) de kd (0 + 1) b77 ka_b77 h82 n0 X.sz OL z_de z_dA F_modCount_b75 F_size_b75 F_elementData_b75 A_b75 (by omega) A_b77 O_b77 C_b77 (by omega) (by show @Ne Nat _ _; omega) (Ins.of_exa A_b72 (hw _ (List.mem_of_getElem? (i := 80) rfl))) (by omega) (by show @Ne Nat _ _; omega) (by show @Ne Nat _ _; omega) rfl) (fun _ _ q => q.1.1) rfl own_pd18 rfl rfl rfl (by decide) (Nat.le_of_ble_eq_true rfl) (by decide) (by decide) ?_
      rintro v64 T h84 X ⟨K_, rfl, Fm_, Fs_, Fe_, A2_⟩
      have zs_h84 : h82.size ≤ h84.size := K_.1
      have OL := OL.keep K_ (allS (by omega) (allS (by omega) all0))
      have A_b72 := A_b72.keep K_
      have A_b75 := A_b75.keep K_
      have C_b77 := C_b77.keep K_
      have A_b80 := A_b80.keep K_
      have F_converted_b80 := F_converted_b80.keep K_ (ninS (by show @Ne Nat _ _; omega) (ninS (by show @Ne Nat _ _; omega) nin0))
      have F_notConverted_b80 := F_notConverted_b80.keep K_ (ninS (by show @Ne Nat _ _; omega) (ninS (by show @Ne Nat _ _; omega) nin0))
      have E_L81 := E_L81.keep K_
      have F_e1_L81 := F_e1_L81.keep K_ (ninS (by show @Ne Nat _ _; omega) (ninS (by show @Ne Nat _ _; omega) nin0))
      have F_modCount_b75 := Fm_
      have F_size_b75 := Fs_
      have F_elementData_b75 := Fe_
      have A_b77 := A2_
      show own_Ends p e below _ (T.setTop (mkF m 67 #[.val (.int pa), .val (.int pb), .val (.int pc), .val (.int (1 : Int32)), .val (.int (1 : Int32)), .val (.ref b72), .val (.ref b75), .val (.ref b80), .val (.int (pa + 1)), .unset, .unset] []))
      refine own_aload X 69 (.ref b80) at_67 rfl rfl rfl ?_
      refine own_callV X 72 [] [] at_69 rfl (hw _ (List.mem_of_getElem? (i := 180) rfl)) (hw _ (List.mem_of_getElem? (i := 181) rfl)) (own_nf X.2.2.2.2.1 (hw _ (List.mem_of_getElem? (i := 183) rfl))) (hw _ (List.mem_of_getElem? (i := 183) rfl)) (hw _ (List.mem_of_getElem? (i := 182) rfl)) (hw _ (List.mem_of_getElem? (i := 83) rfl)) (hw _ (List.mem_of_getElem? (i := 184) rfl)) (by decide) A_b80 (own_entries_1 l Z a0 hw b80 pa L81 em b72 de kd el ea ke h84 n0 X.sz F_converted_b80 F_notConverted_b80 OL E_L81 F_e1_L81 z_em z_mE) (fun _ _ q => Nat.le_of_eq (congrArg Array.size q.1.symm)) rfl own_pd15 rfl rfl rfl (by decide) (Nat.le_of_ble_eq_true rfl) (by decide) (by decide) ?_
      rintro v69 T h_ X ⟨eh_, rfl⟩
      rw [eh_] at X
      show own_Ends p e below _ (T.setTop (mkF m 72 #[.val (.int pa), .val (.int pb), .val (.int pc), .val (.int (1 : Int32)), .val (.int (1 : Int32)), .val (.ref b72), .val (.ref b75), .val (.ref b80), .val (.int (pa + 1)), .unset, .unset] [(.int (pa + 1))]))
      refine own_istore X 74 #[.val (.int pa), .val (.int pb), .val (.int pc), .val (.int (1 : Int32)), .val (.int (1 : Int32)), .val (.ref b72), .val (.ref b75), .val (.ref b80), .val (.int (pa + 1)), .val (.int (pa + 1)), .unset] at_72 rfl rfl ?_
      refine own_iloadN X 75 pa at_74 rfl rfl ?_
      refine own_iloadN X 76 (1 : Int32) at_75 rfl rfl ?_
      refine own_iadd X 77 at_76 rfl ?_
      refine own_istore X 79 #[.val (.int pa), .val (.int pb), .val (.int pc), .val (.int (1 : Int32)), .val (.int (1 : Int32)), .val (.ref b72), .val (.ref b75), .val (.ref b80), .val (.int (pa + 1)), .val (.int (pa + 1)), .val (.int (pa + (1 : Int32)))] at_77 rfl rfl ?_
      refine own_iload X 81 (pa + 1) at_79 rfl rfl ?_
      refine own_iload X 83 (pa + (1 : Int32)) at_81 rfl rfl ?_
      refine own_icN X 86 at_83 rfl (XT.ii_ne_f rfl) ?_
      refine own_iload X 88 (pa + 1) at_86 rfl rfl ?_
      refine own_iload X 90 (pa + (1 : Int32)) at_88 rfl rfl ?_
      refine own_icN X 93 at_90 rfl (XT.ii_ne_f rfl) ?_
      refine own_iconst X 94 (1 : Int32) at_93 rfl rfl ?_
      refine own_goto X 98 at_94 (by decide) (by decide) ?_
      exact own_retN X .boolean at_98 rfl (by simp) (by decide) (by decide) (by decide)
    · rw [hm_]
      refine own_new X 12 at_9 rfl (hw _ (List.mem_of_getElem? (i := 0) rfl)) (hw _ (List.mem_of_getElem? (i := 1) rfl)) (hw _ (List.mem_of_getElem? (i := 2) rfl)) (by decide) (by decide) ?_
      intro T h85 b86 g_b86 X E_h85 A_b86 D_b86
      have zs_h85 : h0.size ≤ h85.size := E_h85.1
      have OL := OL.ext E_h85
      have lo_b86 : h0.size ≤ b86 := Nat.le_of_eq g_b86.symm
      have hi_b86 : h85.size > b86 := A_b86.lt
      have F_section_b86 : Fld Z h85 b86 "com/example/rosettine/rosettine/model/ConversionReport$NotConverted" "section" "Ljava/util/Optional;" .null := D_b86 (Or.inr (hw _ (List.mem_of_getElem? (i := 15) rfl))) (ty := (.object "java/util/Optional")) (by decide)
      have F_template_b86 : Fld Z h85 b86 "com/example/rosettine/rosettine/model/ConversionReport$NotConverted" "template" "Ljava/util/Optional;" .null := D_b86 (Or.inr (hw _ (List.mem_of_getElem? (i := 17) rfl))) (ty := (.object "java/util/Optional")) (by decide)
      have F_id_b86 : Fld Z h85 b86 "com/example/rosettine/rosettine/model/ConversionReport$NotConverted" "id" "Ljava/util/Optional;" .null := D_b86 (Or.inr (hw _ (List.mem_of_getElem? (i := 19) rfl))) (ty := (.object "java/util/Optional")) (by decide)
      have F_reason_b86 : Fld Z h85 b86 "com/example/rosettine/rosettine/model/ConversionReport$NotConverted" "reason" "Ljava/lang/String;" .null := D_b86 (Or.inr (hw _ (List.mem_of_getElem? (i := 21) rfl))) (ty := (.object "java/lang/String")) (by decide)
      refine own_dup X 13 at_12 rfl rfl ?_
      refine own_anull X 14 at_13 rfl ?_
      refine own_anull X 15 at_14 rfl ?_
      refine own_anull X 16 at_15 rfl ?_
      refine own_anull X 17 at_16 rfl ?_
      refine own_init X 20 [.null, .null, .null, .null] [(.ref b86)] at_17 rfl (hw _ (List.mem_of_getElem? (i := 3) rfl)) (hw _ (List.mem_of_getElem? (i := 4) rfl)) (hw _ (List.mem_of_getElem? (i := 2) rfl)) (hw _ (List.mem_of_getElem? (i := 5) rfl)) (by decide) rfl (own_nc l Z a0 hw b86 h85 n0 X.sz F_section_b86 F_template_b86 F_id_b86 F_reason_b86 A_b86 (by omega)) (fun _ _ q => q.1.1) rfl own_pd17 rfl rfl rfl (by decide) (Nat.le_of_ble_eq_true rfl) (by decide) (by decide) ?_
      rintro v17 T h87 X ⟨K_, rfl⟩
      have zs_h87 : h85.size ≤ h87.size := K_.1
      have OL := OL.keep K_ (allS (by omega) all0)
      have A_b86 := A_b86.keep K_
      show own_Ends p e below _ (T.setTop (mkF m 20 #[.val (.int pa), .val (.int pb), .val (.int pc), .val (.int (1 : Int32)), .val (.int (2 : Int32)), .unset, .unset, .unset, .unset, .unset, .unset] [(.ref b86)]))
      refine own_astore X 22 #[.val (.int pa), .val (.int pb), .val (.int pc), .val (.int (1 : Int32)), .val (.int (2 : Int32)), .val (.ref b86), .unset, .unset, .unset, .unset, .unset] at_20 rfl rfl rfl ?_
      refine own_new X 25 at_22 rfl (hw _ (List.mem_of_getElem? (i := 22) rfl)) (hw _ (List.mem_of_getElem? (i := 23) rfl)) (hw _ (List.mem_of_getElem? (i := 24) rfl)) (by decide) (by decide) ?_
      intro T h88 b89 g_b89 X E_h88 A_b89 D_b89
      have zs_h88 : h87.size ≤ h88.size := E_h88.1
      have OL := OL.ext E_h88
      have A_b86 := Exa.ext E_h88 A_b86
      have lo_b89 : h87.size ≤ b89 := Nat.le_of_eq g_b89.symm
      have hi_b89 : h88.size > b89 := A_b89.lt
      have F_modCount_b89 : Fld Z h88 b89 "java/util/AbstractList" "modCount" "I" (.int (0 : Int32)) := D_b89 (Or.inl (hw _ (List.mem_of_getElem? (i := 42) rfl))) (ty := .int) (by decide)
      have F_elementData_b89 : Fld Z h88 b89 "java/util/ArrayList" "elementData" "[Ljava/lang/Object;" .null := D_b89 (Or.inl (hw _ (List.mem_of_getElem? (i := 45) rfl))) (ty := (.array (.object "java/lang/Object"))) (by decide)
      have F_size_b89 : Fld Z h88 b89 "java/util/ArrayList" "size" "I" (.int (0 : Int32)) := D_b89 (Or.inl (hw _ (List.mem_of_getElem? (i := 58) rfl))) (ty := .int) (by decide)
      refine own_dup X 26 at_25 rfl rfl ?_
      refine own_init X 29 [] [(.ref b89)] at_26 rfl (hw _ (List.mem_of_getElem? (i := 25) rfl)) (hw _ (List.mem_of_getElem? (i := 26) rfl)) (hw _ (List.mem_of_getElem? (i := 24) rfl)) (hw _ (List.mem_of_getElem? (i := 27) rfl)) (by decide) rfl (own_alinit l Z a0 hw b89 de h88 n0 X.sz OL z_de F_modCount_b89 F_size_b89 F_elementData_b89 A_b89 (by omega)) (fun _ _ q => q.1.1) rfl own_pd0 rfl rfl rfl (by decide) (Nat.le_of_ble_eq_true rfl) (by decide) (by decide) ?_
      rintro v26 T h90 X ⟨K_, rfl, Fm_, Fs_, Fe_⟩
      have zs_h90 : h88.size ≤ h90.size := K_.1
      have OL := OL.keep K_ (allS (by omega) all0)
      have A_b86 := A_b86.keep K_
      have A_b89 := A_b89.keep K_
      have F_modCount_b89 := Fm_
      have F_size_b89 := Fs_
      have F_elementData_b89 := Fe_
      show own_Ends p e below _ (T.setTop (mkF m 29 #[.val (.int pa), .val (.int pb), .val (.int pc), .val (.int (1 : Int32)), .val (.int (2 : Int32)), .val (.ref b86), .unset, .unset, .unset, .unset, .unset] [(.ref b89)]))
      refine own_astore X 31 #[.val (.int pa), .val (.int pb), .val (.int pc), .val (.int (1 : Int32)), .val (.int (2 : Int32)), .val (.ref b86), .val (.ref b89), .unset, .unset, .unset, .unset] at_29 rfl rfl rfl ?_
      refine own_aload X 33 (.ref b89) at_31 rfl rfl rfl ?_
      refine own_aload X 35 (.ref b86) at_33 rfl rfl rfl ?_
      refine own_iloadN X 36 (1 : Int32) at_35 rfl rfl ?_
      refine own_callS X 39 [(.ref b89), (.ref b86), (.int (1 : Int32))] [] at_36 rfl (hw _ (List.mem_of_getElem? (i := 46) rfl)) (hw _ (List.mem_of_getElem? (i := 47) rfl)) (hw _ (List.mem_of_getElem? (i := 48) rfl)) (hw _ (List.mem_of_getElem? (i := 49) rfl)) (by decide) (own_upto_0_1 l Z a0 hw b89 b86 (1 : Int32) de kd 0 h90 n0 X.sz OL z_de z_dA F_modCount_b89 F_size_b89 F_elementData_b89 A_b89 (by omega) (Ins.of_exa A_b86 (hw _ (List.mem_of_getElem? (i := 80) rfl))) (by omega) (by show @Ne Nat _ _; omega) rfl) (fun _ _ q => q.1.1) rfl own_pd18 rfl rfl rfl (by decide) (Nat.le_of_ble_eq_true rfl) (by decide) (by decide) ?_
      rintro v36 T h92 X ⟨K_, rfl, Fm_, Fs_, b91, ka_b91, Fe_, lo_b91, hi_b91, A_b91, O_b91, C_b91⟩
      have zs_h92 : h90.size ≤ h92.size := K_.1
      have OL := OL.keep K_ (allS (by omega) all0)
      have A_b86 := A_b86.keep K_
      have A_b89 := A_b89.keep K_
      have F_modCount_b89 := Fm_
      have F_size_b89 := Fs_
      have F_elementData_b89 := Fe_
      show own_Ends p e below _ (T.setTop (mkF m 39 #[.val (.int pa), .val (.int pb), .val (.int pc), .val (.int (1 : Int32)), .val (.int (2 : Int32)), .val (.ref b86), .val (.ref b89), .unset, .unset, .unset, .unset] []))
      refine own_new X 42 at_39 rfl (hw _ (List.mem_of_getElem? (i := 81) rfl)) (hw _ (List.mem_of_getElem? (i := 82) rfl)) (hw _ (List.mem_of_getElem? (i := 83) rfl)) (by decide) (by decide) ?_
      intro T h93 b94 g_b94 X E_h93 A_b94 D_b94
      have zs_h93 : h92.size ≤ h93.size := E_h93.1
      have OL := OL.ext E_h93
      have A_b86 := Exa.ext E_h93 A_b86
      have A_b89 := Exa.ext E_h93 A_b89
      have F_modCount_b89 := Fld.ext E_h93 F_modCount_b89
      have F_size_b89 := Fld.ext E_h93 F_size_b89
      have F_elementData_b89 := Fld.ext E_h93 F_elementData_b89
      have A_b91 := A_b91.ext E_h93
      have C_b91 := Exa.ext E_h93 C_b91
      have lo_b94 : h92.size ≤ b94 := Nat.le_of_eq g_b94.symm
      have hi_b94 : h93.size > b94 := A_b94.lt
      have F_converted_b94 : Fld Z h93 b94 "com/example/rosettine/rosettine/model/ConversionReport" "converted" "I" (.int (0 : Int32)) := D_b94 (Or.inr (hw _ (List.mem_of_getElem? (i := 177) rfl))) (ty := .int) (by decide)
      have F_notConverted_b94 : Fld Z h93 b94 "com/example/rosettine/rosettine/model/ConversionReport" "notConverted" "Ljava/util/List;" .null := D_b94 (Or.inr (hw _ (List.mem_of_getElem? (i := 179) rfl))) (ty := (.object "java/util/List")) (by decide)
      refine own_dup X 43 at_42 rfl rfl ?_
      refine own_iloadN X 44 pa at_43 rfl rfl ?_
      refine own_aload X 46 (.ref b89) at_44 rfl rfl rfl ?_
      refine own_init X 49 [(.int pa), (.ref b89)] [(.ref b94)] at_46 rfl (hw _ (List.mem_of_getElem? (i := 84) rfl)) (hw _ (List.mem_of_getElem? (i := 85) rfl)) (hw _ (List.mem_of_getElem? (i := 83) rfl)) (hw _ (List.mem_of_getElem? (i := 86) rfl)) (by decide) rfl (own_crini_1 l Z a0 hw b94 pa b89 de kd el ea ke em mr b86 ka_b91 b91 h93 n0 X.sz OL z_de z_dA z_el z_eE z_eF z_eA z_em z_mE hmr F_size_b89 A_b89 F_elementData_b89 A_b91 C_b91 (Ins.of_exa A_b86 (hw _ (List.mem_of_getElem? (i := 80) rfl))) (by omega) (by omega) F_converted_b94 F_notConverted_b94 A_b94 (by omega) (by show @Ne Nat _ _; omega) (by show @Ne Nat _ _; omega)) (fun _ _ q => q.1.1) rfl own_pd19 rfl rfl rfl (by decide) (Nat.le_of_ble_eq_true rfl) (by decide) (by decide) ?_
      rintro v46 T h96 X ⟨K_, rfl, Fcv_, L95, Fnc_, lo_L95, hi_L95, E_L95, F_e1_L95⟩
      have zs_h96 : h93.size ≤ h96.size := K_.1
      have OL := OL.keep K_ (allS (by omega) all0)
      have A_b86 := A_b86.keep K_
      have A_b89 := A_b89.keep K_
      have F_modCount_b89 := F_modCount_b89.keep K_ (ninS (by show @Ne Nat _ _; omega) nin0)
      have F_size_b89 := F_size_b89.keep K_ (ninS (by show @Ne Nat _ _; omega) nin0)
      have F_elementData_b89 := F_elementData_b89.keep K_ (ninS (by show @Ne Nat _ _; omega) nin0)
      have A_b91 := A_b91.keep K_ (ninS (by show @Ne Nat _ _; omega) nin0)
      have C_b91 := C_b91.keep K_
      have A_b94 := A_b94.keep K_
      have F_converted_b94 := Fcv_
      have F_notConverted_b94 := Fnc_
      show own_Ends p e below _ (T.setTop (mkF m 49 #[.val (.int pa), .val (.int pb), .val (.int pc), .val (.int (1 : Int32)), .val (.int (2 : Int32)), .val (.ref b86), .val (.ref b89), .unset, .unset, .unset, .unset] [(.ref b94)]))
      refine own_astore X 51 #[.val (.int pa), .val (.int pb), .val (.int pc), .val (.int (1 : Int32)), .val (.int (2 : Int32)), .val (.ref b86), .val (.ref b89), .val (.ref b94), .unset, .unset, .unset] at_49 rfl rfl rfl ?_
      refine own_aload X 53 (.ref b94) at_51 rfl rfl rfl ?_
      refine own_callV X 56 [] [] at_53 rfl (hw _ (List.mem_of_getElem? (i := 180) rfl)) (hw _ (List.mem_of_getElem? (i := 181) rfl)) (own_nf X.2.2.2.2.1 (hw _ (List.mem_of_getElem? (i := 183) rfl))) (hw _ (List.mem_of_getElem? (i := 183) rfl)) (hw _ (List.mem_of_getElem? (i := 182) rfl)) (hw _ (List.mem_of_getElem? (i := 83) rfl)) (hw _ (List.mem_of_getElem? (i := 184) rfl)) (by decide) A_b94 (own_entries_1 l Z a0 hw b94 pa L95 em b86 de kd el ea ke h96 n0 X.sz F_converted_b94 F_notConverted_b94 OL E_L95 F_e1_L95 z_em z_mE) (fun _ _ q => Nat.le_of_eq (congrArg Array.size q.1.symm)) rfl own_pd15 rfl rfl rfl (by decide) (Nat.le_of_ble_eq_true rfl) (by decide) (by decide) ?_
      rintro v53 T h_ X ⟨eh_, rfl⟩
      rw [eh_] at X
      show own_Ends p e below _ (T.setTop (mkF m 56 #[.val (.int pa), .val (.int pb), .val (.int pc), .val (.int (1 : Int32)), .val (.int (2 : Int32)), .val (.ref b86), .val (.ref b89), .val (.ref b94), .unset, .unset, .unset] [(.int (pa + 1))]))
      refine own_istore X 58 #[.val (.int pa), .val (.int pb), .val (.int pc), .val (.int (1 : Int32)), .val (.int (2 : Int32)), .val (.ref b86), .val (.ref b89), .val (.ref b94), .val (.int (pa + 1)), .unset, .unset] at_56 rfl rfl ?_
      refine own_aload X 60 (.ref b89) at_58 rfl rfl rfl ?_
      refine own_aload X 62 (.ref b86) at_60 rfl rfl rfl ?_
      refine own_iload X 64 (2 : Int32) at_62 rfl rfl ?_
      refine own_callS X 67 [(.ref b89), (.ref b86), (.int (2 : Int32))] [] at_64 rfl (hw _ (List.mem_of_getElem? (i := 46) rfl)) (hw _ (List.mem_of_getElem? (i := 47) rfl)) (hw _ (List.mem_of_getElem? (i := 48) rfl)) (hw _ (List.mem_of_getElem? (i := 49) rfl)) (by decide) (own_upto_1_2 l Z a0 hw b89 b86 (2 : Int32) de kd (0 + 1) b91 ka_b91 h96 n0 X.sz OL z_de z_dA F_modCount_b89 F_size_b89 F_elementData_b89 A_b89 (by omega) A_b91 O_b91 C_b91 (by omega) (by show @Ne Nat _ _; omega) (Ins.of_exa A_b86 (hw _ (List.mem_of_getElem? (i := 80) rfl))) (by omega) (by show @Ne Nat _ _; omega) (by show @Ne Nat _ _; omega) rfl) (fun _ _ q => q.1.1) rfl own_pd18 rfl rfl rfl (by decide) (Nat.le_of_ble_eq_true rfl) (by decide) (by decide) ?_
      rintro v64 T h98 X ⟨K_, rfl, Fm_, Fs_, Fe_, A2_⟩
      have zs_h98 : h96.size ≤ h98.size := K_.1
      have OL := OL.keep K_ (allS (by omega) (allS (by omega) all0))
      have A_b86 := A_b86.keep K_
      have A_b89 := A_b89.keep K_
      have C_b91 := C_b91.keep K_
      have A_b94 := A_b94.keep K_
      have F_converted_b94 := F_converted_b94.keep K_ (ninS (by show @Ne Nat _ _; omega) (ninS (by show @Ne Nat _ _; omega) nin0))
      have F_notConverted_b94 := F_notConverted_b94.keep K_ (ninS (by show @Ne Nat _ _; omega) (ninS (by show @Ne Nat _ _; omega) nin0))
      have E_L95 := E_L95.keep K_
      have F_e1_L95 := F_e1_L95.keep K_ (ninS (by show @Ne Nat _ _; omega) (ninS (by show @Ne Nat _ _; omega) nin0))
      have F_modCount_b89 := Fm_
      have F_size_b89 := Fs_
      have F_elementData_b89 := Fe_
      have A_b91 := A2_
      show own_Ends p e below _ (T.setTop (mkF m 67 #[.val (.int pa), .val (.int pb), .val (.int pc), .val (.int (1 : Int32)), .val (.int (2 : Int32)), .val (.ref b86), .val (.ref b89), .val (.ref b94), .val (.int (pa + 1)), .unset, .unset] []))
      refine own_aload X 69 (.ref b94) at_67 rfl rfl rfl ?_
      refine own_callV X 72 [] [] at_69 rfl (hw _ (List.mem_of_getElem? (i := 180) rfl)) (hw _ (List.mem_of_getElem? (i := 181) rfl)) (own_nf X.2.2.2.2.1 (hw _ (List.mem_of_getElem? (i := 183) rfl))) (hw _ (List.mem_of_getElem? (i := 183) rfl)) (hw _ (List.mem_of_getElem? (i := 182) rfl)) (hw _ (List.mem_of_getElem? (i := 83) rfl)) (hw _ (List.mem_of_getElem? (i := 184) rfl)) (by decide) A_b94 (own_entries_1 l Z a0 hw b94 pa L95 em b86 de kd el ea ke h98 n0 X.sz F_converted_b94 F_notConverted_b94 OL E_L95 F_e1_L95 z_em z_mE) (fun _ _ q => Nat.le_of_eq (congrArg Array.size q.1.symm)) rfl own_pd15 rfl rfl rfl (by decide) (Nat.le_of_ble_eq_true rfl) (by decide) (by decide) ?_
      rintro v69 T h_ X ⟨eh_, rfl⟩
      rw [eh_] at X
      show own_Ends p e below _ (T.setTop (mkF m 72 #[.val (.int pa), .val (.int pb), .val (.int pc), .val (.int (1 : Int32)), .val (.int (2 : Int32)), .val (.ref b86), .val (.ref b89), .val (.ref b94), .val (.int (pa + 1)), .unset, .unset] [(.int (pa + 1))]))
      refine own_istore X 74 #[.val (.int pa), .val (.int pb), .val (.int pc), .val (.int (1 : Int32)), .val (.int (2 : Int32)), .val (.ref b86), .val (.ref b89), .val (.ref b94), .val (.int (pa + 1)), .val (.int (pa + 1)), .unset] at_72 rfl rfl ?_
      refine own_iloadN X 75 pa at_74 rfl rfl ?_
      refine own_iloadN X 76 (1 : Int32) at_75 rfl rfl ?_
      refine own_iadd X 77 at_76 rfl ?_
      refine own_istore X 79 #[.val (.int pa), .val (.int pb), .val (.int pc), .val (.int (1 : Int32)), .val (.int (2 : Int32)), .val (.ref b86), .val (.ref b89), .val (.ref b94), .val (.int (pa + 1)), .val (.int (pa + 1)), .val (.int (pa + (1 : Int32)))] at_77 rfl rfl ?_
      refine own_iload X 81 (pa + 1) at_79 rfl rfl ?_
      refine own_iload X 83 (pa + (1 : Int32)) at_81 rfl rfl ?_
      refine own_icN X 86 at_83 rfl (XT.ii_ne_f rfl) ?_
      refine own_iload X 88 (pa + 1) at_86 rfl rfl ?_
      refine own_iload X 90 (pa + (1 : Int32)) at_88 rfl rfl ?_
      refine own_icN X 93 at_90 rfl (XT.ii_ne_f rfl) ?_
      refine own_iconst X 94 (1 : Int32) at_93 rfl rfl ?_
      refine own_goto X 98 at_94 (by decide) (by decide) ?_
      exact own_retN X .boolean at_98 rfl (by simp) (by decide) (by decide) (by decide)
    · rw [hm_]
      refine own_new X 12 at_9 rfl (hw _ (List.mem_of_getElem? (i := 0) rfl)) (hw _ (List.mem_of_getElem? (i := 1) rfl)) (hw _ (List.mem_of_getElem? (i := 2) rfl)) (by decide) (by decide) ?_
      intro T h99 b100 g_b100 X E_h99 A_b100 D_b100
      have zs_h99 : h0.size ≤ h99.size := E_h99.1
      have OL := OL.ext E_h99
      have lo_b100 : h0.size ≤ b100 := Nat.le_of_eq g_b100.symm
      have hi_b100 : h99.size > b100 := A_b100.lt
      have F_section_b100 : Fld Z h99 b100 "com/example/rosettine/rosettine/model/ConversionReport$NotConverted" "section" "Ljava/util/Optional;" .null := D_b100 (Or.inr (hw _ (List.mem_of_getElem? (i := 15) rfl))) (ty := (.object "java/util/Optional")) (by decide)
      have F_template_b100 : Fld Z h99 b100 "com/example/rosettine/rosettine/model/ConversionReport$NotConverted" "template" "Ljava/util/Optional;" .null := D_b100 (Or.inr (hw _ (List.mem_of_getElem? (i := 17) rfl))) (ty := (.object "java/util/Optional")) (by decide)
      have F_id_b100 : Fld Z h99 b100 "com/example/rosettine/rosettine/model/ConversionReport$NotConverted" "id" "Ljava/util/Optional;" .null := D_b100 (Or.inr (hw _ (List.mem_of_getElem? (i := 19) rfl))) (ty := (.object "java/util/Optional")) (by decide)
      have F_reason_b100 : Fld Z h99 b100 "com/example/rosettine/rosettine/model/ConversionReport$NotConverted" "reason" "Ljava/lang/String;" .null := D_b100 (Or.inr (hw _ (List.mem_of_getElem? (i := 21) rfl))) (ty := (.object "java/lang/String")) (by decide)
      refine own_dup X 13 at_12 rfl rfl ?_
      refine own_anull X 14 at_13 rfl ?_
      refine own_anull X 15 at_14 rfl ?_
      refine own_anull X 16 at_15 rfl ?_
      refine own_anull X 17 at_16 rfl ?_
      refine own_init X 20 [.null, .null, .null, .null] [(.ref b100)] at_17 rfl (hw _ (List.mem_of_getElem? (i := 3) rfl)) (hw _ (List.mem_of_getElem? (i := 4) rfl)) (hw _ (List.mem_of_getElem? (i := 2) rfl)) (hw _ (List.mem_of_getElem? (i := 5) rfl)) (by decide) rfl (own_nc l Z a0 hw b100 h99 n0 X.sz F_section_b100 F_template_b100 F_id_b100 F_reason_b100 A_b100 (by omega)) (fun _ _ q => q.1.1) rfl own_pd17 rfl rfl rfl (by decide) (Nat.le_of_ble_eq_true rfl) (by decide) (by decide) ?_
      rintro v17 T h101 X ⟨K_, rfl⟩
      have zs_h101 : h99.size ≤ h101.size := K_.1
      have OL := OL.keep K_ (allS (by omega) all0)
      have A_b100 := A_b100.keep K_
      show own_Ends p e below _ (T.setTop (mkF m 20 #[.val (.int pa), .val (.int pb), .val (.int pc), .val (.int (1 : Int32)), .val (.int (3 : Int32)), .unset, .unset, .unset, .unset, .unset, .unset] [(.ref b100)]))
      refine own_astore X 22 #[.val (.int pa), .val (.int pb), .val (.int pc), .val (.int (1 : Int32)), .val (.int (3 : Int32)), .val (.ref b100), .unset, .unset, .unset, .unset, .unset] at_20 rfl rfl rfl ?_
      refine own_new X 25 at_22 rfl (hw _ (List.mem_of_getElem? (i := 22) rfl)) (hw _ (List.mem_of_getElem? (i := 23) rfl)) (hw _ (List.mem_of_getElem? (i := 24) rfl)) (by decide) (by decide) ?_
      intro T h102 b103 g_b103 X E_h102 A_b103 D_b103
      have zs_h102 : h101.size ≤ h102.size := E_h102.1
      have OL := OL.ext E_h102
      have A_b100 := Exa.ext E_h102 A_b100
      have lo_b103 : h101.size ≤ b103 := Nat.le_of_eq g_b103.symm
      have hi_b103 : h102.size > b103 := A_b103.lt
      have F_modCount_b103 : Fld Z h102 b103 "java/util/AbstractList" "modCount" "I" (.int (0 : Int32)) := D_b103 (Or.inl (hw _ (List.mem_of_getElem? (i := 42) rfl))) (ty := .int) (by decide)
      have F_elementData_b103 : Fld Z h102 b103 "java/util/ArrayList" "elementData" "[Ljava/lang/Object;" .null := D_b103 (Or.inl (hw _ (List.mem_of_getElem? (i := 45) rfl))) (ty := (.array (.object "java/lang/Object"))) (by decide)
      have F_size_b103 : Fld Z h102 b103 "java/util/ArrayList" "size" "I" (.int (0 : Int32)) := D_b103 (Or.inl (hw _ (List.mem_of_getElem? (i := 58) rfl))) (ty := .int) (by decide)
      refine own_dup X 26 at_25 rfl rfl ?_
      refine own_init X 29 [] [(.ref b103)] at_26 rfl (hw _ (List.mem_of_getElem? (i := 25) rfl)) (hw _ (List.mem_of_getElem? (i := 26) rfl)) (hw _ (List.mem_of_getElem? (i := 24) rfl)) (hw _ (List.mem_of_getElem? (i := 27) rfl)) (by decide) rfl (own_alinit l Z a0 hw b103 de h102 n0 X.sz OL z_de F_modCount_b103 F_size_b103 F_elementData_b103 A_b103 (by omega)) (fun _ _ q => q.1.1) rfl own_pd0 rfl rfl rfl (by decide) (Nat.le_of_ble_eq_true rfl) (by decide) (by decide) ?_
      rintro v26 T h104 X ⟨K_, rfl, Fm_, Fs_, Fe_⟩
      have zs_h104 : h102.size ≤ h104.size := K_.1
      have OL := OL.keep K_ (allS (by omega) all0)
      have A_b100 := A_b100.keep K_
      have A_b103 := A_b103.keep K_
      have F_modCount_b103 := Fm_
      have F_size_b103 := Fs_
      have F_elementData_b103 := Fe_
      show own_Ends p e below _ (T.setTop (mkF m 29 #[.val (.int pa), .val (.int pb), .val (.int pc), .val (.int (1 : Int32)), .val (.int (3 : Int32)), .val (.ref b100), .unset, .unset, .unset, .unset, .unset] [(.ref b103)]))
      refine own_astore X 31 #[.val (.int pa), .val (.int pb), .val (.int pc), .val (.int (1 : Int32)), .val (.int (3 : Int32)), .val (.ref b100), .val (.ref b103), .unset, .unset, .unset, .unset] at_29 rfl rfl rfl ?_
      refine own_aload X 33 (.ref b103) at_31 rfl rfl rfl ?_
      refine own_aload X 35 (.ref b100) at_33 rfl rfl rfl ?_
      refine own_iloadN X 36 (1 : Int32) at_35 rfl rfl ?_
      refine own_callS X 39 [(.ref b103), (.ref b100), (.int (1 : Int32))] [] at_36 rfl (hw _ (List.mem_of_getElem? (i := 46) rfl)) (hw _ (List.mem_of_getElem? (i := 47) rfl)) (hw _ (List.mem_of_getElem? (i := 48) rfl)) (hw _ (List.mem_of_getElem? (i := 49) rfl)) (by decide) (own_upto_0_1 l Z a0 hw b103 b100 (1 : Int32) de kd 0 h104 n0 X.sz OL z_de z_dA F_modCount_b103 F_size_b103 F_elementData_b103 A_b103 (by omega) (Ins.of_exa A_b100 (hw _ (List.mem_of_getElem? (i := 80) rfl))) (by omega) (by show @Ne Nat _ _; omega) rfl) (fun _ _ q => q.1.1) rfl own_pd18 rfl rfl rfl (by decide) (Nat.le_of_ble_eq_true rfl) (by decide) (by decide) ?_
      rintro v36 T h106 X ⟨K_, rfl, Fm_, Fs_, b105, ka_b105, Fe_, lo_b105, hi_b105, A_b105, O_b105, C_b105⟩
      have zs_h106 : h104.size ≤ h106.size := K_.1
      have OL := OL.keep K_ (allS (by omega) all0)
      have A_b100 := A_b100.keep K_
      have A_b103 := A_b103.keep K_
      have F_modCount_b103 := Fm_
      have F_size_b103 := Fs_
      have F_elementData_b103 := Fe_
      show own_Ends p e below _ (T.setTop (mkF m 39 #[.val (.int pa), .val (.int pb), .val (.int pc), .val (.int (1 : Int32)), .val (.int (3 : Int32)), .val (.ref b100), .val (.ref b103), .unset, .unset, .unset, .unset] []))
      refine own_new X 42 at_39 rfl (hw _ (List.mem_of_getElem? (i := 81) rfl)) (hw _ (List.mem_of_getElem? (i := 82) rfl)) (hw _ (List.mem_of_getElem? (i := 83) rfl)) (by decide) (by decide) ?_
      intro T h107 b108 g_b108 X E_h107 A_b108 D_b108
      have zs_h107 : h106.size ≤ h107.size := E_h107.1
      have OL := OL.ext E_h107
      have A_b100 := Exa.ext E_h107 A_b100
      have A_b103 := Exa.ext E_h107 A_b103
      have F_modCount_b103 := Fld.ext E_h107 F_modCount_b103
      have F_size_b103 := Fld.ext E_h107 F_size_b103
      have F_elementData_b103 := Fld.ext E_h107 F_elementData_b103
      have A_b105 := A_b105.ext E_h107
      have C_b105 := Exa.ext E_h107 C_b105
      have lo_b108 : h106.size ≤ b108 := Nat.le_of_eq g_b108.symm
      have hi_b108 : h107.size > b108 := A_b108.lt
      have F_converted_b108 : Fld Z h107 b108 "com/example/rosettine/rosettine/model/ConversionReport" "converted" "I" (.int (0 : Int32)) := D_b108 (Or.inr (hw _ (List.mem_of_getElem? (i := 177) rfl))) (ty := .int) (by decide)
      have F_notConverted_b108 : Fld Z h107 b108 "com/example/rosettine/rosettine/model/ConversionReport" "notConverted" "Ljava/util/List;" .null := D_b108 (Or.inr (hw _ (List.mem_of_getElem? (i := 179) rfl))) (ty := (.object "java/util/List")) (by decide)
      refine own_dup X 43 at_42 rfl rfl ?_
      refine own_iloadN X 44 pa at_43 rfl rfl ?_
      refine own_aload X 46 (.ref b103) at_44 rfl rfl rfl ?_
      refine own_init X 49 [(.int pa), (.ref b103)] [(.ref b108)] at_46 rfl (hw _ (List.mem_of_getElem? (i := 84) rfl)) (hw _ (List.mem_of_getElem? (i := 85) rfl)) (hw _ (List.mem_of_getElem? (i := 83) rfl)) (hw _ (List.mem_of_getElem? (i := 86) rfl)) (by decide) rfl (own_crini_1 l Z a0 hw b108 pa b103 de kd el ea ke em mr b100 ka_b105 b105 h107 n0 X.sz OL z_de z_dA z_el z_eE z_eF z_eA z_em z_mE hmr F_size_b103 A_b103 F_elementData_b103 A_b105 C_b105 (Ins.of_exa A_b100 (hw _ (List.mem_of_getElem? (i := 80) rfl))) (by omega) (by omega) F_converted_b108 F_notConverted_b108 A_b108 (by omega) (by show @Ne Nat _ _; omega) (by show @Ne Nat _ _; omega)) (fun _ _ q => q.1.1) rfl own_pd19 rfl rfl rfl (by decide) (Nat.le_of_ble_eq_true rfl) (by decide) (by decide) ?_
      rintro v46 T h110 X ⟨K_, rfl, Fcv_, L109, Fnc_, lo_L109, hi_L109, E_L109, F_e1_L109⟩
      have zs_h110 : h107.size ≤ h110.size := K_.1
      have OL := OL.keep K_ (allS (by omega) all0)
      have A_b100 := A_b100.keep K_
      have A_b103 := A_b103.keep K_
      have F_modCount_b103 := F_modCount_b103.keep K_ (ninS (by show @Ne Nat _ _; omega) nin0)
      have F_size_b103 := F_size_b103.keep K_ (ninS (by show @Ne Nat _ _; omega) nin0)
      have F_elementData_b103 := F_elementData_b103.keep K_ (ninS (by show @Ne Nat _ _; omega) nin0)
      have A_b105 := A_b105.keep K_ (ninS (by show @Ne Nat _ _; omega) nin0)
      have C_b105 := C_b105.keep K_
      have A_b108 := A_b108.keep K_
      have F_converted_b108 := Fcv_
      have F_notConverted_b108 := Fnc_
      show own_Ends p e below _ (T.setTop (mkF m 49 #[.val (.int pa), .val (.int pb), .val (.int pc), .val (.int (1 : Int32)), .val (.int (3 : Int32)), .val (.ref b100), .val (.ref b103), .unset, .unset, .unset, .unset] [(.ref b108)]))
      refine own_astore X 51 #[.val (.int pa), .val (.int pb), .val (.int pc), .val (.int (1 : Int32)), .val (.int (3 : Int32)), .val (.ref b100), .val (.ref b103), .val (.ref b108), .unset, .unset, .unset] at_49 rfl rfl rfl ?_
      refine own_aload X 53 (.ref b108) at_51 rfl rfl rfl ?_
      refine own_callV X 56 [] [] at_53 rfl (hw _ (List.mem_of_getElem? (i := 180) rfl)) (hw _ (List.mem_of_getElem? (i := 181) rfl)) (own_nf X.2.2.2.2.1 (hw _ (List.mem_of_getElem? (i := 183) rfl))) (hw _ (List.mem_of_getElem? (i := 183) rfl)) (hw _ (List.mem_of_getElem? (i := 182) rfl)) (hw _ (List.mem_of_getElem? (i := 83) rfl)) (hw _ (List.mem_of_getElem? (i := 184) rfl)) (by decide) A_b108 (own_entries_1 l Z a0 hw b108 pa L109 em b100 de kd el ea ke h110 n0 X.sz F_converted_b108 F_notConverted_b108 OL E_L109 F_e1_L109 z_em z_mE) (fun _ _ q => Nat.le_of_eq (congrArg Array.size q.1.symm)) rfl own_pd15 rfl rfl rfl (by decide) (Nat.le_of_ble_eq_true rfl) (by decide) (by decide) ?_
      rintro v53 T h_ X ⟨eh_, rfl⟩
      rw [eh_] at X
      show own_Ends p e below _ (T.setTop (mkF m 56 #[.val (.int pa), .val (.int pb), .val (.int pc), .val (.int (1 : Int32)), .val (.int (3 : Int32)), .val (.ref b100), .val (.ref b103), .val (.ref b108), .unset, .unset, .unset] [(.int (pa + 1))]))
      refine own_istore X 58 #[.val (.int pa), .val (.int pb), .val (.int pc), .val (.int (1 : Int32)), .val (.int (3 : Int32)), .val (.ref b100), .val (.ref b103), .val (.ref b108), .val (.int (pa + 1)), .unset, .unset] at_56 rfl rfl ?_
      refine own_aload X 60 (.ref b103) at_58 rfl rfl rfl ?_
      refine own_aload X 62 (.ref b100) at_60 rfl rfl rfl ?_
      refine own_iload X 64 (3 : Int32) at_62 rfl rfl ?_
      refine own_callS X 67 [(.ref b103), (.ref b100), (.int (3 : Int32))] [] at_64 rfl (hw _ (List.mem_of_getElem? (i := 46) rfl)) (hw _ (List.mem_of_getElem? (i := 47) rfl)) (hw _ (List.mem_of_getElem? (i := 48) rfl)) (hw _ (List.mem_of_getElem? (i := 49) rfl)) (by decide) (own_upto_1_3 l Z a0 hw b103 b100 (3 : Int32) de kd (0 + 1) b105 ka_b105 h110 n0 X.sz OL z_de z_dA F_modCount_b103 F_size_b103 F_elementData_b103 A_b103 (by omega) A_b105 O_b105 C_b105 (by omega) (by show @Ne Nat _ _; omega) (Ins.of_exa A_b100 (hw _ (List.mem_of_getElem? (i := 80) rfl))) (by omega) (by show @Ne Nat _ _; omega) (by show @Ne Nat _ _; omega) rfl) (fun _ _ q => q.1.1) rfl own_pd18 rfl rfl rfl (by decide) (Nat.le_of_ble_eq_true rfl) (by decide) (by decide) ?_
      rintro v64 T h112 X ⟨K_, rfl, Fm_, Fs_, Fe_, A2_⟩
      have zs_h112 : h110.size ≤ h112.size := K_.1
      have OL := OL.keep K_ (allS (by omega) (allS (by omega) all0))
      have A_b100 := A_b100.keep K_
      have A_b103 := A_b103.keep K_
      have C_b105 := C_b105.keep K_
      have A_b108 := A_b108.keep K_
      have F_converted_b108 := F_converted_b108.keep K_ (ninS (by show @Ne Nat _ _; omega) (ninS (by show @Ne Nat _ _; omega) nin0))
      have F_notConverted_b108 := F_notConverted_b108.keep K_ (ninS (by show @Ne Nat _ _; omega) (ninS (by show @Ne Nat _ _; omega) nin0))
      have E_L109 := E_L109.keep K_
      have F_e1_L109 := F_e1_L109.keep K_ (ninS (by show @Ne Nat _ _; omega) (ninS (by show @Ne Nat _ _; omega) nin0))
      have F_modCount_b103 := Fm_
      have F_size_b103 := Fs_
      have F_elementData_b103 := Fe_
      have A_b105 := A2_
      show own_Ends p e below _ (T.setTop (mkF m 67 #[.val (.int pa), .val (.int pb), .val (.int pc), .val (.int (1 : Int32)), .val (.int (3 : Int32)), .val (.ref b100), .val (.ref b103), .val (.ref b108), .val (.int (pa + 1)), .unset, .unset] []))
      refine own_aload X 69 (.ref b108) at_67 rfl rfl rfl ?_
      refine own_callV X 72 [] [] at_69 rfl (hw _ (List.mem_of_getElem? (i := 180) rfl)) (hw _ (List.mem_of_getElem? (i := 181) rfl)) (own_nf X.2.2.2.2.1 (hw _ (List.mem_of_getElem? (i := 183) rfl))) (hw _ (List.mem_of_getElem? (i := 183) rfl)) (hw _ (List.mem_of_getElem? (i := 182) rfl)) (hw _ (List.mem_of_getElem? (i := 83) rfl)) (hw _ (List.mem_of_getElem? (i := 184) rfl)) (by decide) A_b108 (own_entries_1 l Z a0 hw b108 pa L109 em b100 de kd el ea ke h112 n0 X.sz F_converted_b108 F_notConverted_b108 OL E_L109 F_e1_L109 z_em z_mE) (fun _ _ q => Nat.le_of_eq (congrArg Array.size q.1.symm)) rfl own_pd15 rfl rfl rfl (by decide) (Nat.le_of_ble_eq_true rfl) (by decide) (by decide) ?_
      rintro v69 T h_ X ⟨eh_, rfl⟩
      rw [eh_] at X
      show own_Ends p e below _ (T.setTop (mkF m 72 #[.val (.int pa), .val (.int pb), .val (.int pc), .val (.int (1 : Int32)), .val (.int (3 : Int32)), .val (.ref b100), .val (.ref b103), .val (.ref b108), .val (.int (pa + 1)), .unset, .unset] [(.int (pa + 1))]))
      refine own_istore X 74 #[.val (.int pa), .val (.int pb), .val (.int pc), .val (.int (1 : Int32)), .val (.int (3 : Int32)), .val (.ref b100), .val (.ref b103), .val (.ref b108), .val (.int (pa + 1)), .val (.int (pa + 1)), .unset] at_72 rfl rfl ?_
      refine own_iloadN X 75 pa at_74 rfl rfl ?_
      refine own_iloadN X 76 (1 : Int32) at_75 rfl rfl ?_
      refine own_iadd X 77 at_76 rfl ?_
      refine own_istore X 79 #[.val (.int pa), .val (.int pb), .val (.int pc), .val (.int (1 : Int32)), .val (.int (3 : Int32)), .val (.ref b100), .val (.ref b103), .val (.ref b108), .val (.int (pa + 1)), .val (.int (pa + 1)), .val (.int (pa + (1 : Int32)))] at_77 rfl rfl ?_
      refine own_iload X 81 (pa + 1) at_79 rfl rfl ?_
      refine own_iload X 83 (pa + (1 : Int32)) at_81 rfl rfl ?_
      refine own_icN X 86 at_83 rfl (XT.ii_ne_f rfl) ?_
      refine own_iload X 88 (pa + 1) at_86 rfl rfl ?_
      refine own_iload X 90 (pa + (1 : Int32)) at_88 rfl rfl ?_
      refine own_icN X 93 at_90 rfl (XT.ii_ne_f rfl) ?_
      refine own_iconst X 94 (1 : Int32) at_93 rfl rfl ?_
      refine own_goto X 98 at_94 (by decide) (by decide) ?_
      exact own_retN X .boolean at_98 rfl (by simp) (by decide) (by decide) (by decide)
  · rw [hn_]
    refine own_iloadN X 5 pc at_4 rfl rfl ?_
    refine own_iconst X 6 (3 : Int32) at_5 rfl rfl ?_
    refine own_iand X 7 at_6 rfl ?_
    refine own_istore X 9 #[.val (.int pa), .val (.int pb), .val (.int pc), .val (.int (2 : Int32)), .val (.int (pc &&& (3 : Int32))), .unset, .unset, .unset, .unset, .unset, .unset] at_7 rfl rfl ?_
    rcases own_and3 pc with hm_ | hm_ | hm_ | hm_
    · rw [hm_]
      refine own_new X 12 at_9 rfl (hw _ (List.mem_of_getElem? (i := 0) rfl)) (hw _ (List.mem_of_getElem? (i := 1) rfl)) (hw _ (List.mem_of_getElem? (i := 2) rfl)) (by decide) (by decide) ?_
      intro T h113 b114 g_b114 X E_h113 A_b114 D_b114
      have zs_h113 : h0.size ≤ h113.size := E_h113.1
      have OL := OL.ext E_h113
      have lo_b114 : h0.size ≤ b114 := Nat.le_of_eq g_b114.symm
      have hi_b114 : h113.size > b114 := A_b114.lt
      have F_section_b114 : Fld Z h113 b114 "com/example/rosettine/rosettine/model/ConversionReport$NotConverted" "section" "Ljava/util/Optional;" .null := D_b114 (Or.inr (hw _ (List.mem_of_getElem? (i := 15) rfl))) (ty := (.object "java/util/Optional")) (by decide)
      have F_template_b114 : Fld Z h113 b114 "com/example/rosettine/rosettine/model/ConversionReport$NotConverted" "template" "Ljava/util/Optional;" .null := D_b114 (Or.inr (hw _ (List.mem_of_getElem? (i := 17) rfl))) (ty := (.object "java/util/Optional")) (by decide)
      have F_id_b114 : Fld Z h113 b114 "com/example/rosettine/rosettine/model/ConversionReport$NotConverted" "id" "Ljava/util/Optional;" .null := D_b114 (Or.inr (hw _ (List.mem_of_getElem? (i := 19) rfl))) (ty := (.object "java/util/Optional")) (by decide)
      have F_reason_b114 : Fld Z h113 b114 "com/example/rosettine/rosettine/model/ConversionReport$NotConverted" "reason" "Ljava/lang/String;" .null := D_b114 (Or.inr (hw _ (List.mem_of_getElem? (i := 21) rfl))) (ty := (.object "java/lang/String")) (by decide)
      refine own_dup X 13 at_12 rfl rfl ?_
      refine own_anull X 14 at_13 rfl ?_
      refine own_anull X 15 at_14 rfl ?_
      refine own_anull X 16 at_15 rfl ?_
      refine own_anull X 17 at_16 rfl ?_
      refine own_init X 20 [.null, .null, .null, .null] [(.ref b114)] at_17 rfl (hw _ (List.mem_of_getElem? (i := 3) rfl)) (hw _ (List.mem_of_getElem? (i := 4) rfl)) (hw _ (List.mem_of_getElem? (i := 2) rfl)) (hw _ (List.mem_of_getElem? (i := 5) rfl)) (by decide) rfl (own_nc l Z a0 hw b114 h113 n0 X.sz F_section_b114 F_template_b114 F_id_b114 F_reason_b114 A_b114 (by omega)) (fun _ _ q => q.1.1) rfl own_pd17 rfl rfl rfl (by decide) (Nat.le_of_ble_eq_true rfl) (by decide) (by decide) ?_
      rintro v17 T h115 X ⟨K_, rfl⟩
      have zs_h115 : h113.size ≤ h115.size := K_.1
      have OL := OL.keep K_ (allS (by omega) all0)
      have A_b114 := A_b114.keep K_
      show own_Ends p e below _ (T.setTop (mkF m 20 #[.val (.int pa), .val (.int pb), .val (.int pc), .val (.int (2 : Int32)), .val (.int (0 : Int32)), .unset, .unset, .unset, .unset, .unset, .unset] [(.ref b114)]))
      refine own_astore X 22 #[.val (.int pa), .val (.int pb), .val (.int pc), .val (.int (2 : Int32)), .val (.int (0 : Int32)), .val (.ref b114), .unset, .unset, .unset, .unset, .unset] at_20 rfl rfl rfl ?_
      refine own_new X 25 at_22 rfl (hw _ (List.mem_of_getElem? (i := 22) rfl)) (hw _ (List.mem_of_getElem? (i := 23) rfl)) (hw _ (List.mem_of_getElem? (i := 24) rfl)) (by decide) (by decide) ?_
      intro T h116 b117 g_b117 X E_h116 A_b117 D_b117
      have zs_h116 : h115.size ≤ h116.size := E_h116.1
      have OL := OL.ext E_h116
      have A_b114 := Exa.ext E_h116 A_b114
      have lo_b117 : h115.size ≤ b117 := Nat.le_of_eq g_b117.symm
      have hi_b117 : h116.size > b117 := A_b117.lt
      have F_modCount_b117 : Fld Z h116 b117 "java/util/AbstractList" "modCount" "I" (.int (0 : Int32)) := D_b117 (Or.inl (hw _ (List.mem_of_getElem? (i := 42) rfl))) (ty := .int) (by decide)
      have F_elementData_b117 : Fld Z h116 b117 "java/util/ArrayList" "elementData" "[Ljava/lang/Object;" .null := D_b117 (Or.inl (hw _ (List.mem_of_getElem? (i := 45) rfl))) (ty := (.array (.object "java/lang/Object"))) (by decide)
      have F_size_b117 : Fld Z h116 b117 "java/util/ArrayList" "size" "I" (.int (0 : Int32)) := D_b117 (Or.inl (hw _ (List.mem_of_getElem? (i := 58) rfl))) (ty := .int) (by decide)
      refine own_dup X 26 at_25 rfl rfl ?_
      refine own_init X 29 [] [(.ref b117)] at_26 rfl (hw _ (List.mem_of_getElem? (i := 25) rfl)) (hw _ (List.mem_of_getElem? (i := 26) rfl)) (hw _ (List.mem_of_getElem? (i := 24) rfl)) (hw _ (List.mem_of_getElem? (i := 27) rfl)) (by decide) rfl (own_alinit l Z a0 hw b117 de h116 n0 X.sz OL z_de F_modCount_b117 F_size_b117 F_elementData_b117 A_b117 (by omega)) (fun _ _ q => q.1.1) rfl own_pd0 rfl rfl rfl (by decide) (Nat.le_of_ble_eq_true rfl) (by decide) (by decide) ?_
      rintro v26 T h118 X ⟨K_, rfl, Fm_, Fs_, Fe_⟩
      have zs_h118 : h116.size ≤ h118.size := K_.1
      have OL := OL.keep K_ (allS (by omega) all0)
      have A_b114 := A_b114.keep K_
      have A_b117 := A_b117.keep K_
      have F_modCount_b117 := Fm_
      have F_size_b117 := Fs_
      have F_elementData_b117 := Fe_
      show own_Ends p e below _ (T.setTop (mkF m 29 #[.val (.int pa), .val (.int pb), .val (.int pc), .val (.int (2 : Int32)), .val (.int (0 : Int32)), .val (.ref b114), .unset, .unset, .unset, .unset, .unset] [(.ref b117)]))
      refine own_astore X 31 #[.val (.int pa), .val (.int pb), .val (.int pc), .val (.int (2 : Int32)), .val (.int (0 : Int32)), .val (.ref b114), .val (.ref b117), .unset, .unset, .unset, .unset] at_29 rfl rfl rfl ?_
      refine own_aload X 33 (.ref b117) at_31 rfl rfl rfl ?_
      refine own_aload X 35 (.ref b114) at_33 rfl rfl rfl ?_
      refine own_iloadN X 36 (2 : Int32) at_35 rfl rfl ?_
      refine own_callS X 39 [(.ref b117), (.ref b114), (.int (2 : Int32))] [] at_36 rfl (hw _ (List.mem_of_getElem? (i := 46) rfl)) (hw _ (List.mem_of_getElem? (i := 47) rfl)) (hw _ (List.mem_of_getElem? (i := 48) rfl)) (hw _ (List.mem_of_getElem? (i := 49) rfl)) (by decide) (own_upto_0_2 l Z a0 hw b117 b114 (2 : Int32) de kd 0 h118 n0 X.sz OL z_de z_dA F_modCount_b117 F_size_b117 F_elementData_b117 A_b117 (by omega) (Ins.of_exa A_b114 (hw _ (List.mem_of_getElem? (i := 80) rfl))) (by omega) (by show @Ne Nat _ _; omega) rfl) (fun _ _ q => q.1.1) rfl own_pd18 rfl rfl rfl (by decide) (Nat.le_of_ble_eq_true rfl) (by decide) (by decide) ?_
      rintro v36 T h120 X ⟨K_, rfl, Fm_, Fs_, b119, ka_b119, Fe_, lo_b119, hi_b119, A_b119, O_b119, C_b119⟩
      have zs_h120 : h118.size ≤ h120.size := K_.1
      have OL := OL.keep K_ (allS (by omega) all0)
      have A_b114 := A_b114.keep K_
      have A_b117 := A_b117.keep K_
      have F_modCount_b117 := Fm_
      have F_size_b117 := Fs_
      have F_elementData_b117 := Fe_
      show own_Ends p e below _ (T.setTop (mkF m 39 #[.val (.int pa), .val (.int pb), .val (.int pc), .val (.int (2 : Int32)), .val (.int (0 : Int32)), .val (.ref b114), .val (.ref b117), .unset, .unset, .unset, .unset] []))
      refine own_new X 42 at_39 rfl (hw _ (List.mem_of_getElem? (i := 81) rfl)) (hw _ (List.mem_of_getElem? (i := 82) rfl)) (hw _ (List.mem_of_getElem? (i := 83) rfl)) (by decide) (by decide) ?_
      intro T h121 b122 g_b122 X E_h121 A_b122 D_b122
      have zs_h121 : h120.size ≤ h121.size := E_h121.1
      have OL := OL.ext E_h121
      have A_b114 := Exa.ext E_h121 A_b114
      have A_b117 := Exa.ext E_h121 A_b117
      have F_modCount_b117 := Fld.ext E_h121 F_modCount_b117
      have F_size_b117 := Fld.ext E_h121 F_size_b117
      have F_elementData_b117 := Fld.ext E_h121 F_elementData_b117
      have A_b119 := A_b119.ext E_h121
      have C_b119 := Exa.ext E_h121 C_b119
      have lo_b122 : h120.size ≤ b122 := Nat.le_of_eq g_b122.symm
      have hi_b122 : h121.size > b122 := A_b122.lt
      have F_converted_b122 : Fld Z h121 b122 "com/example/rosettine/rosettine/model/ConversionReport" "converted" "I" (.int (0 : Int32)) := D_b122 (Or.inr (hw _ (List.mem_of_getElem? (i := 177) rfl))) (ty := .int) (by decide)
      have F_notConverted_b122 : Fld Z h121 b122 "com/example/rosettine/rosettine/model/ConversionReport" "notConverted" "Ljava/util/List;" .null := D_b122 (Or.inr (hw _ (List.mem_of_getElem? (i := 179) rfl))) (ty := (.object "java/util/List")) (by decide)
      refine own_dup X 43 at_42 rfl rfl ?_
      refine own_iloadN X 44 pa at_43 rfl rfl ?_
      refine own_aload X 46 (.ref b117) at_44 rfl rfl rfl ?_
      refine own_init X 49 [(.int pa), (.ref b117)] [(.ref b122)] at_46 rfl (hw _ (List.mem_of_getElem? (i := 84) rfl)) (hw _ (List.mem_of_getElem? (i := 85) rfl)) (hw _ (List.mem_of_getElem? (i := 83) rfl)) (hw _ (List.mem_of_getElem? (i := 86) rfl)) (by decide) rfl (own_crini_2 l Z a0 hw b122 pa b117 de kd el ea ke em mr b114 ka_b119 b119 h121 n0 X.sz OL z_de z_dA z_el z_eE z_eF z_eA z_em z_mE hmr F_size_b117 A_b117 F_elementData_b117 A_b119 C_b119 (Ins.of_exa A_b114 (hw _ (List.mem_of_getElem? (i := 80) rfl))) (by omega) (by omega) F_converted_b122 F_notConverted_b122 A_b122 (by omega) (by show @Ne Nat _ _; omega) (by show @Ne Nat _ _; omega)) (fun _ _ q => q.1.1) rfl own_pd19 rfl rfl rfl (by decide) (Nat.le_of_ble_eq_true rfl) (by decide) (by decide) ?_
      rintro v46 T h124 X ⟨K_, rfl, Fcv_, L123, Fnc_, lo_L123, hi_L123, E_L123, F_e1_L123⟩
      have zs_h124 : h121.size ≤ h124.size := K_.1
      have OL := OL.keep K_ (allS (by omega) all0)
      have A_b114 := A_b114.keep K_
      have A_b117 := A_b117.keep K_
      have F_modCount_b117 := F_modCount_b117.keep K_ (ninS (by show @Ne Nat _ _; omega) nin0)
      have F_size_b117 := F_size_b117.keep K_ (ninS (by show @Ne Nat _ _; omega) nin0)
      have F_elementData_b117 := F_elementData_b117.keep K_ (ninS (by show @Ne Nat _ _; omega) nin0)
      have A_b119 := A_b119.keep K_ (ninS (by show @Ne Nat _ _; omega) nin0)
      have C_b119 := C_b119.keep K_
      have A_b122 := A_b122.keep K_
      have F_converted_b122 := Fcv_
      have F_notConverted_b122 := Fnc_
      show own_Ends p e below _ (T.setTop (mkF m 49 #[.val (.int pa), .val (.int pb), .val (.int pc), .val (.int (2 : Int32)), .val (.int (0 : Int32)), .val (.ref b114), .val (.ref b117), .unset, .unset, .unset, .unset] [(.ref b122)]))
      refine own_astore X 51 #[.val (.int pa), .val (.int pb), .val (.int pc), .val (.int (2 : Int32)), .val (.int (0 : Int32)), .val (.ref b114), .val (.ref b117), .val (.ref b122), .unset, .unset, .unset] at_49 rfl rfl rfl ?_
      refine own_aload X 53 (.ref b122) at_51 rfl rfl rfl ?_
      refine own_callV X 56 [] [] at_53 rfl (hw _ (List.mem_of_getElem? (i := 180) rfl)) (hw _ (List.mem_of_getElem? (i := 181) rfl)) (own_nf X.2.2.2.2.1 (hw _ (List.mem_of_getElem? (i := 183) rfl))) (hw _ (List.mem_of_getElem? (i := 183) rfl)) (hw _ (List.mem_of_getElem? (i := 182) rfl)) (hw _ (List.mem_of_getElem? (i := 83) rfl)) (hw _ (List.mem_of_getElem? (i := 184) rfl)) (by decide) A_b122 (own_entries_2 l Z a0 hw b122 pa L123 em b114 de kd el ea ke h124 n0 X.sz F_converted_b122 F_notConverted_b122 OL E_L123 F_e1_L123 z_em z_mE (by omega)) (fun _ _ q => Nat.le_of_eq (congrArg Array.size q.1.symm)) rfl own_pd15 rfl rfl rfl (by decide) (Nat.le_of_ble_eq_true rfl) (by decide) (by decide) ?_
      rintro v53 T h_ X ⟨eh_, rfl⟩
      rw [eh_] at X
      show own_Ends p e below _ (T.setTop (mkF m 56 #[.val (.int pa), .val (.int pb), .val (.int pc), .val (.int (2 : Int32)), .val (.int (0 : Int32)), .val (.ref b114), .val (.ref b117), .val (.ref b122), .unset, .unset, .unset] [(.int (pa + 2))]))
      refine own_istore X 58 #[.val (.int pa), .val (.int pb), .val (.int pc), .val (.int (2 : Int32)), .val (.int (0 : Int32)), .val (.ref b114), .val (.ref b117), .val (.ref b122), .val (.int (pa + 2)), .unset, .unset] at_56 rfl rfl ?_
      refine own_aload X 60 (.ref b117) at_58 rfl rfl rfl ?_
      refine own_aload X 62 (.ref b114) at_60 rfl rfl rfl ?_
      refine own_iload X 64 (0 : Int32) at_62 rfl rfl ?_
      refine own_callS X 67 [(.ref b117), (.ref b114), (.int (0 : Int32))] [] at_64 rfl (hw _ (List.mem_of_getElem? (i := 46) rfl)) (hw _ (List.mem_of_getElem? (i := 47) rfl)) (hw _ (List.mem_of_getElem? (i := 48) rfl)) (hw _ (List.mem_of_getElem? (i := 49) rfl)) (by decide) (own_upto_2_0 l Z a0 hw b117 b114 (0 : Int32) de kd ((0 + 1) + 1) b119 ka_b119 h124 n0 X.sz OL z_de z_dA F_modCount_b117 F_size_b117 F_elementData_b117 A_b117 (by omega) A_b119 O_b119 C_b119 (by omega) (by show @Ne Nat _ _; omega) (Ins.of_exa A_b114 (hw _ (List.mem_of_getElem? (i := 80) rfl))) (by omega) (by show @Ne Nat _ _; omega) (by show @Ne Nat _ _; omega) rfl) (fun _ _ q => q.1.1) rfl own_pd18 rfl rfl rfl (by decide) (Nat.le_of_ble_eq_true rfl) (by decide) (by decide) ?_
      rintro v64 T h126 X ⟨K_, rfl, Fm_, Fs_, Fe_, A2_⟩
      have zs_h126 : h124.size ≤ h126.size := K_.1
      have OL := OL.keep K_ (allS (by omega) (allS (by omega) all0))
      have A_b114 := A_b114.keep K_
      have A_b117 := A_b117.keep K_
      have C_b119 := C_b119.keep K_
      have A_b122 := A_b122.keep K_
      have F_converted_b122 := F_converted_b122.keep K_ (ninS (by show @Ne Nat _ _; omega) (ninS (by show @Ne Nat _ _; omega) nin0))
      have F_notConverted_b122 := F_notConverted_b122.keep K_ (ninS (by show @Ne Nat _ _; omega) (ninS (by show @Ne Nat _ _; omega) nin0))
      have E_L123 := E_L123.keep K_
      have F_e1_L123 := F_e1_L123.keep K_ (ninS (by show @Ne Nat _ _; omega) (ninS (by show @Ne Nat _ _; omega) nin0))
      have F_modCount_b117 := Fm_
      have F_size_b117 := Fs_
      have F_elementData_b117 := Fe_
      have A_b119 := A2_
      show own_Ends p e below _ (T.setTop (mkF m 67 #[.val (.int pa), .val (.int pb), .val (.int pc), .val (.int (2 : Int32)), .val (.int (0 : Int32)), .val (.ref b114), .val (.ref b117), .val (.ref b122), .val (.int (pa + 2)), .unset, .unset] []))
      refine own_aload X 69 (.ref b122) at_67 rfl rfl rfl ?_
      refine own_callV X 72 [] [] at_69 rfl (hw _ (List.mem_of_getElem? (i := 180) rfl)) (hw _ (List.mem_of_getElem? (i := 181) rfl)) (own_nf X.2.2.2.2.1 (hw _ (List.mem_of_getElem? (i := 183) rfl))) (hw _ (List.mem_of_getElem? (i := 183) rfl)) (hw _ (List.mem_of_getElem? (i := 182) rfl)) (hw _ (List.mem_of_getElem? (i := 83) rfl)) (hw _ (List.mem_of_getElem? (i := 184) rfl)) (by decide) A_b122 (own_entries_2 l Z a0 hw b122 pa L123 em b114 de kd el ea ke h126 n0 X.sz F_converted_b122 F_notConverted_b122 OL E_L123 F_e1_L123 z_em z_mE (by omega)) (fun _ _ q => Nat.le_of_eq (congrArg Array.size q.1.symm)) rfl own_pd15 rfl rfl rfl (by decide) (Nat.le_of_ble_eq_true rfl) (by decide) (by decide) ?_
      rintro v69 T h_ X ⟨eh_, rfl⟩
      rw [eh_] at X
      show own_Ends p e below _ (T.setTop (mkF m 72 #[.val (.int pa), .val (.int pb), .val (.int pc), .val (.int (2 : Int32)), .val (.int (0 : Int32)), .val (.ref b114), .val (.ref b117), .val (.ref b122), .val (.int (pa + 2)), .unset, .unset] [(.int (pa + 2))]))
      refine own_istore X 74 #[.val (.int pa), .val (.int pb), .val (.int pc), .val (.int (2 : Int32)), .val (.int (0 : Int32)), .val (.ref b114), .val (.ref b117), .val (.ref b122), .val (.int (pa + 2)), .val (.int (pa + 2)), .unset] at_72 rfl rfl ?_
      refine own_iloadN X 75 pa at_74 rfl rfl ?_
      refine own_iloadN X 76 (2 : Int32) at_75 rfl rfl ?_
      refine own_iadd X 77 at_76 rfl ?_
      refine own_istore X 79 #[.val (.int pa), .val (.int pb), .val (.int pc), .val (.int (2 : Int32)), .val (.int (0 : Int32)), .val (.ref b114), .val (.ref b117), .val (.ref b122), .val (.int (pa + 2)), .val (.int (pa + 2)), .val (.int (pa + (2 : Int32)))] at_77 rfl rfl ?_
      refine own_iload X 81 (pa + 2) at_79 rfl rfl ?_
      refine own_iload X 83 (pa + (2 : Int32)) at_81 rfl rfl ?_
      refine own_icN X 86 at_83 rfl (XT.ii_ne_f rfl) ?_
      refine own_iload X 88 (pa + 2) at_86 rfl rfl ?_
      refine own_iload X 90 (pa + (2 : Int32)) at_88 rfl rfl ?_
      refine own_icN X 93 at_90 rfl (XT.ii_ne_f rfl) ?_
      refine own_iconst X 94 (1 : Int32) at_93 rfl rfl ?_
      refine own_goto X 98 at_94 (by decide) (by decide) ?_
      exact own_retN X .boolean at_98 rfl (by simp) (by decide) (by decide) (by decide)
    · rw [hm_]
      refine own_new X 12 at_9 rfl (hw _ (List.mem_of_getElem? (i := 0) rfl)) (hw _ (List.mem_of_getElem? (i := 1) rfl)) (hw _ (List.mem_of_getElem? (i := 2) rfl)) (by decide) (by decide) ?_
      intro T h127 b128 g_b128 X E_h127 A_b128 D_b128
      have zs_h127 : h0.size ≤ h127.size := E_h127.1
      have OL := OL.ext E_h127
      have lo_b128 : h0.size ≤ b128 := Nat.le_of_eq g_b128.symm
      have hi_b128 : h127.size > b128 := A_b128.lt
      have F_section_b128 : Fld Z h127 b128 "com/example/rosettine/rosettine/model/ConversionReport$NotConverted" "section" "Ljava/util/Optional;" .null := D_b128 (Or.inr (hw _ (List.mem_of_getElem? (i := 15) rfl))) (ty := (.object "java/util/Optional")) (by decide)
      have F_template_b128 : Fld Z h127 b128 "com/example/rosettine/rosettine/model/ConversionReport$NotConverted" "template" "Ljava/util/Optional;" .null := D_b128 (Or.inr (hw _ (List.mem_of_getElem? (i := 17) rfl))) (ty := (.object "java/util/Optional")) (by decide)
      have F_id_b128 : Fld Z h127 b128 "com/example/rosettine/rosettine/model/ConversionReport$NotConverted" "id" "Ljava/util/Optional;" .null := D_b128 (Or.inr (hw _ (List.mem_of_getElem? (i := 19) rfl))) (ty := (.object "java/util/Optional")) (by decide)
      have F_reason_b128 : Fld Z h127 b128 "com/example/rosettine/rosettine/model/ConversionReport$NotConverted" "reason" "Ljava/lang/String;" .null := D_b128 (Or.inr (hw _ (List.mem_of_getElem? (i := 21) rfl))) (ty := (.object "java/lang/String")) (by decide)
      refine own_dup X 13 at_12 rfl rfl ?_
      refine own_anull X 14 at_13 rfl ?_
      refine own_anull X 15 at_14 rfl ?_
      refine own_anull X 16 at_15 rfl ?_
      refine own_anull X 17 at_16 rfl ?_
      refine own_init X 20 [.null, .null, .null, .null] [(.ref b128)] at_17 rfl (hw _ (List.mem_of_getElem? (i := 3) rfl)) (hw _ (List.mem_of_getElem? (i := 4) rfl)) (hw _ (List.mem_of_getElem? (i := 2) rfl)) (hw _ (List.mem_of_getElem? (i := 5) rfl)) (by decide) rfl (own_nc l Z a0 hw b128 h127 n0 X.sz F_section_b128 F_template_b128 F_id_b128 F_reason_b128 A_b128 (by omega)) (fun _ _ q => q.1.1) rfl own_pd17 rfl rfl rfl (by decide) (Nat.le_of_ble_eq_true rfl) (by decide) (by decide) ?_
      rintro v17 T h129 X ⟨K_, rfl⟩
      have zs_h129 : h127.size ≤ h129.size := K_.1
      have OL := OL.keep K_ (allS (by omega) all0)
      have A_b128 := A_b128.keep K_
      show own_Ends p e below _ (T.setTop (mkF m 20 #[.val (.int pa), .val (.int pb), .val (.int pc), .val (.int (2 : Int32)), .val (.int (1 : Int32)), .unset, .unset, .unset, .unset, .unset, .unset] [(.ref b128)]))
      refine own_astore X 22 #[.val (.int pa), .val (.int pb), .val (.int pc), .val (.int (2 : Int32)), .val (.int (1 : Int32)), .val (.ref b128), .unset, .unset, .unset, .unset, .unset] at_20 rfl rfl rfl ?_
      refine own_new X 25 at_22 rfl (hw _ (List.mem_of_getElem? (i := 22) rfl)) (hw _ (List.mem_of_getElem? (i := 23) rfl)) (hw _ (List.mem_of_getElem? (i := 24) rfl)) (by decide) (by decide) ?_
      intro T h130 b131 g_b131 X E_h130 A_b131 D_b131
      have zs_h130 : h129.size ≤ h130.size := E_h130.1
      have OL := OL.ext E_h130
      have A_b128 := Exa.ext E_h130 A_b128
      have lo_b131 : h129.size ≤ b131 := Nat.le_of_eq g_b131.symm
      have hi_b131 : h130.size > b131 := A_b131.lt
      have F_modCount_b131 : Fld Z h130 b131 "java/util/AbstractList" "modCount" "I" (.int (0 : Int32)) := D_b131 (Or.inl (hw _ (List.mem_of_getElem? (i := 42) rfl))) (ty := .int) (by decide)
      have F_elementData_b131 : Fld Z h130 b131 "java/util/ArrayList" "elementData" "[Ljava/lang/Object;" .null := D_b131 (Or.inl (hw _ (List.mem_of_getElem? (i := 45) rfl))) (ty := (.array (.object "java/lang/Object"))) (by decide)
      have F_size_b131 : Fld Z h130 b131 "java/util/ArrayList" "size" "I" (.int (0 : Int32)) := D_b131 (Or.inl (hw _ (List.mem_of_getElem? (i := 58) rfl))) (ty := .int) (by decide)
      refine own_dup X 26 at_25 rfl rfl ?_
      refine own_init X 29 [] [(.ref b131)] at_26 rfl (hw _ (List.mem_of_getElem? (i := 25) rfl)) (hw _ (List.mem_of_getElem? (i := 26) rfl)) (hw _ (List.mem_of_getElem? (i := 24) rfl)) (hw _ (List.mem_of_getElem? (i := 27) rfl)) (by decide) rfl (own_alinit l Z a0 hw b131 de h130 n0 X.sz OL z_de F_modCount_b131 F_size_b131 F_elementData_b131 A_b131 (by omega)) (fun _ _ q => q.1.1) rfl own_pd0 rfl rfl rfl (by decide) (Nat.le_of_ble_eq_true rfl) (by decide) (by decide) ?_
      rintro v26 T h132 X ⟨K_, rfl, Fm_, Fs_, Fe_⟩
      have zs_h132 : h130.size ≤ h132.size := K_.1
      have OL := OL.keep K_ (allS (by omega) all0)
      have A_b128 := A_b128.keep K_
      have A_b131 := A_b131.keep K_
      have F_modCount_b131 := Fm_
      have F_size_b131 := Fs_
      have F_elementData_b131 := Fe_
      show own_Ends p e below _ (T.setTop (mkF m 29 #[.val (.int pa), .val (.int pb), .val (.int pc), .val (.int (2 : Int32)), .val (.int (1 : Int32)), .val (.ref b128), .unset, .unset, .unset, .unset, .unset] [(.ref b131)]))
      refine own_astore X 31 #[.val (.int pa), .val (.int pb), .val (.int pc), .val (.int (2 : Int32)), .val (.int (1 : Int32)), .val (.ref b128), .val (.ref b131), .unset, .unset, .unset, .unset] at_29 rfl rfl rfl ?_
      refine own_aload X 33 (.ref b131) at_31 rfl rfl rfl ?_
      refine own_aload X 35 (.ref b128) at_33 rfl rfl rfl ?_
      refine own_iloadN X 36 (2 : Int32) at_35 rfl rfl ?_
      refine own_callS X 39 [(.ref b131), (.ref b128), (.int (2 : Int32))] [] at_36 rfl (hw _ (List.mem_of_getElem? (i := 46) rfl)) (hw _ (List.mem_of_getElem? (i := 47) rfl)) (hw _ (List.mem_of_getElem? (i := 48) rfl)) (hw _ (List.mem_of_getElem? (i := 49) rfl)) (by decide) (own_upto_0_2 l Z a0 hw b131 b128 (2 : Int32) de kd 0 h132 n0 X.sz OL z_de z_dA F_modCount_b131 F_size_b131 F_elementData_b131 A_b131 (by omega) (Ins.of_exa A_b128 (hw _ (List.mem_of_getElem? (i := 80) rfl))) (by omega) (by show @Ne Nat _ _; omega) rfl) (fun _ _ q => q.1.1) rfl own_pd18 rfl rfl rfl (by decide) (Nat.le_of_ble_eq_true rfl) (by decide) (by decide) ?_
      rintro v36 T h134 X ⟨K_, rfl, Fm_, Fs_, b133, ka_b133, Fe_, lo_b133, hi_b133, A_b133, O_b133, C_b133⟩
      have zs_h134 : h132.size ≤ h134.size := K_.1
      have OL := OL.keep K_ (allS (by omega) all0)
      have A_b128 := A_b128.keep K_
      have A_b131 := A_b131.keep K_
      have F_modCount_b131 := Fm_
      have F_size_b131 := Fs_
      have F_elementData_b131 := Fe_
      show own_Ends p e below _ (T.setTop (mkF m 39 #[.val (.int pa), .val (.int pb), .val (.int pc), .val (.int (2 : Int32)), .val (.int (1 : Int32)), .val (.ref b128), .val (.ref b131), .unset, .unset, .unset, .unset] []))
      refine own_new X 42 at_39 rfl (hw _ (List.mem_of_getElem? (i := 81) rfl)) (hw _ (List.mem_of_getElem? (i := 82) rfl)) (hw _ (List.mem_of_getElem? (i := 83) rfl)) (by decide) (by decide) ?_
      intro T h135 b136 g_b136 X E_h135 A_b136 D_b136
      have zs_h135 : h134.size ≤ h135.size := E_h135.1
      have OL := OL.ext E_h135
      have A_b128 := Exa.ext E_h135 A_b128
      have A_b131 := Exa.ext E_h135 A_b131
      have F_modCount_b131 := Fld.ext E_h135 F_modCount_b131
      have F_size_b131 := Fld.ext E_h135 F_size_b131
      have F_elementData_b131 := Fld.ext E_h135 F_elementData_b131
      have A_b133 := A_b133.ext E_h135
      have C_b133 := Exa.ext E_h135 C_b133
      have lo_b136 : h134.size ≤ b136 := Nat.le_of_eq g_b136.symm
      have hi_b136 : h135.size > b136 := A_b136.lt
      have F_converted_b136 : Fld Z h135 b136 "com/example/rosettine/rosettine/model/ConversionReport" "converted" "I" (.int (0 : Int32)) := D_b136 (Or.inr (hw _ (List.mem_of_getElem? (i := 177) rfl))) (ty := .int) (by decide)
      have F_notConverted_b136 : Fld Z h135 b136 "com/example/rosettine/rosettine/model/ConversionReport" "notConverted" "Ljava/util/List;" .null := D_b136 (Or.inr (hw _ (List.mem_of_getElem? (i := 179) rfl))) (ty := (.object "java/util/List")) (by decide)
      refine own_dup X 43 at_42 rfl rfl ?_
      refine own_iloadN X 44 pa at_43 rfl rfl ?_
      refine own_aload X 46 (.ref b131) at_44 rfl rfl rfl ?_
      refine own_init X 49 [(.int pa), (.ref b131)] [(.ref b136)] at_46 rfl (hw _ (List.mem_of_getElem? (i := 84) rfl)) (hw _ (List.mem_of_getElem? (i := 85) rfl)) (hw _ (List.mem_of_getElem? (i := 83) rfl)) (hw _ (List.mem_of_getElem? (i := 86) rfl)) (by decide) rfl (own_crini_2 l Z a0 hw b136 pa b131 de kd el ea ke em mr b128 ka_b133 b133 h135 n0 X.sz OL z_de z_dA z_el z_eE z_eF z_eA z_em z_mE hmr F_size_b131 A_b131 F_elementData_b131 A_b133 C_b133 (Ins.of_exa A_b128 (hw _ (List.mem_of_getElem? (i := 80) rfl))) (by omega) (by omega) F_converted_b136 F_notConverted_b136 A_b136 (by omega) (by show @Ne Nat _ _; omega) (by show @Ne Nat _ _; omega)) (fun _ _ q => q.1.1) rfl own_pd19 rfl rfl rfl (by decide) (Nat.le_of_ble_eq_true rfl) (by decide) (by decide) ?_
      rintro v46 T h138 X ⟨K_, rfl, Fcv_, L137, Fnc_, lo_L137, hi_L137, E_L137, F_e1_L137⟩
      have zs_h138 : h135.size ≤ h138.size := K_.1
      have OL := OL.keep K_ (allS (by omega) all0)
      have A_b128 := A_b128.keep K_
      have A_b131 := A_b131.keep K_
      have F_modCount_b131 := F_modCount_b131.keep K_ (ninS (by show @Ne Nat _ _; omega) nin0)
      have F_size_b131 := F_size_b131.keep K_ (ninS (by show @Ne Nat _ _; omega) nin0)
      have F_elementData_b131 := F_elementData_b131.keep K_ (ninS (by show @Ne Nat _ _; omega) nin0)
      have A_b133 := A_b133.keep K_ (ninS (by show @Ne Nat _ _; omega) nin0)
      have C_b133 := C_b133.keep K_
      have A_b136 := A_b136.keep K_
      have F_converted_b136 := Fcv_
      have F_notConverted_b136 := Fnc_
      show own_Ends p e below _ (T.setTop (mkF m 49 #[.val (.int pa), .val (.int pb), .val (.int pc), .val (.int (2 : Int32)), .val (.int (1 : Int32)), .val (.ref b128), .val (.ref b131), .unset, .unset, .unset, .unset] [(.ref b136)]))
      refine own_astore X 51 #[.val (.int pa), .val (.int pb), .val (.int pc), .val (.int (2 : Int32)), .val (.int (1 : Int32)), .val (.ref b128), .val (.ref b131), .val (.ref b136), .unset, .unset, .unset] at_49 rfl rfl rfl ?_
      refine own_aload X 53 (.ref b136) at_51 rfl rfl rfl ?_
      refine own_callV X 56 [] [] at_53 rfl (hw _ (List.mem_of_getElem? (i := 180) rfl)) (hw _ (List.mem_of_getElem? (i := 181) rfl)) (own_nf X.2.2.2.2.1 (hw _ (List.mem_of_getElem? (i := 183) rfl))) (hw _ (List.mem_of_getElem? (i := 183) rfl)) (hw _ (List.mem_of_getElem? (i := 182) rfl)) (hw _ (List.mem_of_getElem? (i := 83) rfl)) (hw _ (List.mem_of_getElem? (i := 184) rfl)) (by decide) A_b136 (own_entries_2 l Z a0 hw b136 pa L137 em b128 de kd el ea ke h138 n0 X.sz F_converted_b136 F_notConverted_b136 OL E_L137 F_e1_L137 z_em z_mE (by omega)) (fun _ _ q => Nat.le_of_eq (congrArg Array.size q.1.symm)) rfl own_pd15 rfl rfl rfl (by decide) (Nat.le_of_ble_eq_true rfl) (by decide) (by decide) ?_
      rintro v53 T h_ X ⟨eh_, rfl⟩
      rw [eh_] at X
      show own_Ends p e below _ (T.setTop (mkF m 56 #[.val (.int pa), .val (.int pb), .val (.int pc), .val (.int (2 : Int32)), .val (.int (1 : Int32)), .val (.ref b128), .val (.ref b131), .val (.ref b136), .unset, .unset, .unset] [(.int (pa + 2))]))
      refine own_istore X 58 #[.val (.int pa), .val (.int pb), .val (.int pc), .val (.int (2 : Int32)), .val (.int (1 : Int32)), .val (.ref b128), .val (.ref b131), .val (.ref b136), .val (.int (pa + 2)), .unset, .unset] at_56 rfl rfl ?_
      refine own_aload X 60 (.ref b131) at_58 rfl rfl rfl ?_
      refine own_aload X 62 (.ref b128) at_60 rfl rfl rfl ?_
      refine own_iload X 64 (1 : Int32) at_62 rfl rfl ?_
      refine own_callS X 67 [(.ref b131), (.ref b128), (.int (1 : Int32))] [] at_64 rfl (hw _ (List.mem_of_getElem? (i := 46) rfl)) (hw _ (List.mem_of_getElem? (i := 47) rfl)) (hw _ (List.mem_of_getElem? (i := 48) rfl)) (hw _ (List.mem_of_getElem? (i := 49) rfl)) (by decide) (own_upto_2_1 l Z a0 hw b131 b128 (1 : Int32) de kd ((0 + 1) + 1) b133 ka_b133 h138 n0 X.sz OL z_de z_dA F_modCount_b131 F_size_b131 F_elementData_b131 A_b131 (by omega) A_b133 O_b133 C_b133 (by omega) (by show @Ne Nat _ _; omega) (Ins.of_exa A_b128 (hw _ (List.mem_of_getElem? (i := 80) rfl))) (by omega) (by show @Ne Nat _ _; omega) (by show @Ne Nat _ _; omega) rfl) (fun _ _ q => q.1.1) rfl own_pd18 rfl rfl rfl (by decide) (Nat.le_of_ble_eq_true rfl) (by decide) (by decide) ?_
      rintro v64 T h140 X ⟨K_, rfl, Fm_, Fs_, Fe_, A2_⟩
      have zs_h140 : h138.size ≤ h140.size := K_.1
      have OL := OL.keep K_ (allS (by omega) (allS (by omega) all0))
      have A_b128 := A_b128.keep K_
      have A_b131 := A_b131.keep K_
      have C_b133 := C_b133.keep K_
      have A_b136 := A_b136.keep K_
      have F_converted_b136 := F_converted_b136.keep K_ (ninS (by show @Ne Nat _ _; omega) (ninS (by show @Ne Nat _ _; omega) nin0))
      have F_notConverted_b136 := F_notConverted_b136.keep K_ (ninS (by show @Ne Nat _ _; omega) (ninS (by show @Ne Nat _ _; omega) nin0))
      have E_L137 := E_L137.keep K_
      have F_e1_L137 := F_e1_L137.keep K_ (ninS (by show @Ne Nat _ _; omega) (ninS (by show @Ne Nat _ _; omega) nin0))
      have F_modCount_b131 := Fm_
      have F_size_b131 := Fs_
      have F_elementData_b131 := Fe_
      have A_b133 := A2_
      show own_Ends p e below _ (T.setTop (mkF m 67 #[.val (.int pa), .val (.int pb), .val (.int pc), .val (.int (2 : Int32)), .val (.int (1 : Int32)), .val (.ref b128), .val (.ref b131), .val (.ref b136), .val (.int (pa + 2)), .unset, .unset] []))
      refine own_aload X 69 (.ref b136) at_67 rfl rfl rfl ?_
      refine own_callV X 72 [] [] at_69 rfl (hw _ (List.mem_of_getElem? (i := 180) rfl)) (hw _ (List.mem_of_getElem? (i := 181) rfl)) (own_nf X.2.2.2.2.1 (hw _ (List.mem_of_getElem? (i := 183) rfl))) (hw _ (List.mem_of_getElem? (i := 183) rfl)) (hw _ (List.mem_of_getElem? (i := 182) rfl)) (hw _ (List.mem_of_getElem? (i := 83) rfl)) (hw _ (List.mem_of_getElem? (i := 184) rfl)) (by decide) A_b136 (own_entries_2 l Z a0 hw b136 pa L137 em b128 de kd el ea ke h140 n0 X.sz F_converted_b136 F_notConverted_b136 OL E_L137 F_e1_L137 z_em z_mE (by omega)) (fun _ _ q => Nat.le_of_eq (congrArg Array.size q.1.symm)) rfl own_pd15 rfl rfl rfl (by decide) (Nat.le_of_ble_eq_true rfl) (by decide) (by decide) ?_
      rintro v69 T h_ X ⟨eh_, rfl⟩
      rw [eh_] at X
      show own_Ends p e below _ (T.setTop (mkF m 72 #[.val (.int pa), .val (.int pb), .val (.int pc), .val (.int (2 : Int32)), .val (.int (1 : Int32)), .val (.ref b128), .val (.ref b131), .val (.ref b136), .val (.int (pa + 2)), .unset, .unset] [(.int (pa + 2))]))
      refine own_istore X 74 #[.val (.int pa), .val (.int pb), .val (.int pc), .val (.int (2 : Int32)), .val (.int (1 : Int32)), .val (.ref b128), .val (.ref b131), .val (.ref b136), .val (.int (pa + 2)), .val (.int (pa + 2)), .unset] at_72 rfl rfl ?_
      refine own_iloadN X 75 pa at_74 rfl rfl ?_
      refine own_iloadN X 76 (2 : Int32) at_75 rfl rfl ?_
      refine own_iadd X 77 at_76 rfl ?_
      refine own_istore X 79 #[.val (.int pa), .val (.int pb), .val (.int pc), .val (.int (2 : Int32)), .val (.int (1 : Int32)), .val (.ref b128), .val (.ref b131), .val (.ref b136), .val (.int (pa + 2)), .val (.int (pa + 2)), .val (.int (pa + (2 : Int32)))] at_77 rfl rfl ?_
      refine own_iload X 81 (pa + 2) at_79 rfl rfl ?_
      refine own_iload X 83 (pa + (2 : Int32)) at_81 rfl rfl ?_
      refine own_icN X 86 at_83 rfl (XT.ii_ne_f rfl) ?_
      refine own_iload X 88 (pa + 2) at_86 rfl rfl ?_
      refine own_iload X 90 (pa + (2 : Int32)) at_88 rfl rfl ?_
      refine own_icN X 93 at_90 rfl (XT.ii_ne_f rfl) ?_
      refine own_iconst X 94 (1 : Int32) at_93 rfl rfl ?_
      refine own_goto X 98 at_94 (by decide) (by decide) ?_
      exact own_retN X .boolean at_98 rfl (by simp) (by decide) (by decide) (by decide)
    · rw [hm_]
      refine own_new X 12 at_9 rfl (hw _ (List.mem_of_getElem? (i := 0) rfl)) (hw _ (List.mem_of_getElem? (i := 1) rfl)) (hw _ (List.mem_of_getElem? (i := 2) rfl)) (by decide) (by decide) ?_
      intro T h141 b142 g_b142 X E_h141 A_b142 D_b142
      have zs_h141 : h0.size ≤ h141.size := E_h141.1
      have OL := OL.ext E_h141
      have lo_b142 : h0.size ≤ b142 := Nat.le_of_eq g_b142.symm
      have hi_b142 : h141.size > b142 := A_b142.lt
      have F_section_b142 : Fld Z h141 b142 "com/example/rosettine/rosettine/model/ConversionReport$NotConverted" "section" "Ljava/util/Optional;" .null := D_b142 (Or.inr (hw _ (List.mem_of_getElem? (i := 15) rfl))) (ty := (.object "java/util/Optional")) (by decide)
      have F_template_b142 : Fld Z h141 b142 "com/example/rosettine/rosettine/model/ConversionReport$NotConverted" "template" "Ljava/util/Optional;" .null := D_b142 (Or.inr (hw _ (List.mem_of_getElem? (i := 17) rfl))) (ty := (.object "java/util/Optional")) (by decide)
      have F_id_b142 : Fld Z h141 b142 "com/example/rosettine/rosettine/model/ConversionReport$NotConverted" "id" "Ljava/util/Optional;" .null := D_b142 (Or.inr (hw _ (List.mem_of_getElem? (i := 19) rfl))) (ty := (.object "java/util/Optional")) (by decide)
      have F_reason_b142 : Fld Z h141 b142 "com/example/rosettine/rosettine/model/ConversionReport$NotConverted" "reason" "Ljava/lang/String;" .null := D_b142 (Or.inr (hw _ (List.mem_of_getElem? (i := 21) rfl))) (ty := (.object "java/lang/String")) (by decide)
      refine own_dup X 13 at_12 rfl rfl ?_
      refine own_anull X 14 at_13 rfl ?_
      refine own_anull X 15 at_14 rfl ?_
      refine own_anull X 16 at_15 rfl ?_
      refine own_anull X 17 at_16 rfl ?_
      refine own_init X 20 [.null, .null, .null, .null] [(.ref b142)] at_17 rfl (hw _ (List.mem_of_getElem? (i := 3) rfl)) (hw _ (List.mem_of_getElem? (i := 4) rfl)) (hw _ (List.mem_of_getElem? (i := 2) rfl)) (hw _ (List.mem_of_getElem? (i := 5) rfl)) (by decide) rfl (own_nc l Z a0 hw b142 h141 n0 X.sz F_section_b142 F_template_b142 F_id_b142 F_reason_b142 A_b142 (by omega)) (fun _ _ q => q.1.1) rfl own_pd17 rfl rfl rfl (by decide) (Nat.le_of_ble_eq_true rfl) (by decide) (by decide) ?_
      rintro v17 T h143 X ⟨K_, rfl⟩
      have zs_h143 : h141.size ≤ h143.size := K_.1
      have OL := OL.keep K_ (allS (by omega) all0)
      have A_b142 := A_b142.keep K_
      show own_Ends p e below _ (T.setTop (mkF m 20 #[.val (.int pa), .val (.int pb), .val (.int pc), .val (.int (2 : Int32)), .val (.int (2 : Int32)), .unset, .unset, .unset, .unset, .unset, .unset] [(.ref b142)]))
      refine own_astore X 22 #[.val (.int pa), .val (.int pb), .val (.int pc), .val (.int (2 : Int32)), .val (.int (2 : Int32)), .val (.ref b142), .unset, .unset, .unset, .unset, .unset] at_20 rfl rfl rfl ?_
      refine own_new X 25 at_22 rfl (hw _ (List.mem_of_getElem? (i := 22) rfl)) (hw _ (List.mem_of_getElem? (i := 23) rfl)) (hw _ (List.mem_of_getElem? (i := 24) rfl)) (by decide) (by decide) ?_
      intro T h144 b145 g_b145 X E_h144 A_b145 D_b145
      have zs_h144 : h143.size ≤ h144.size := E_h144.1
      have OL := OL.ext E_h144
      have A_b142 := Exa.ext E_h144 A_b142
      have lo_b145 : h143.size ≤ b145 := Nat.le_of_eq g_b145.symm
      have hi_b145 : h144.size > b145 := A_b145.lt
      have F_modCount_b145 : Fld Z h144 b145 "java/util/AbstractList" "modCount" "I" (.int (0 : Int32)) := D_b145 (Or.inl (hw _ (List.mem_of_getElem? (i := 42) rfl))) (ty := .int) (by decide)
      have F_elementData_b145 : Fld Z h144 b145 "java/util/ArrayList" "elementData" "[Ljava/lang/Object;" .null := D_b145 (Or.inl (hw _ (List.mem_of_getElem? (i := 45) rfl))) (ty := (.array (.object "java/lang/Object"))) (by decide)
      have F_size_b145 : Fld Z h144 b145 "java/util/ArrayList" "size" "I" (.int (0 : Int32)) := D_b145 (Or.inl (hw _ (List.mem_of_getElem? (i := 58) rfl))) (ty := .int) (by decide)
      refine own_dup X 26 at_25 rfl rfl ?_
      refine own_init X 29 [] [(.ref b145)] at_26 rfl (hw _ (List.mem_of_getElem? (i := 25) rfl)) (hw _ (List.mem_of_getElem? (i := 26) rfl)) (hw _ (List.mem_of_getElem? (i := 24) rfl)) (hw _ (List.mem_of_getElem? (i := 27) rfl)) (by decide) rfl (own_alinit l Z a0 hw b145 de h144 n0 X.sz OL z_de F_modCount_b145 F_size_b145 F_elementData_b145 A_b145 (by omega)) (fun _ _ q => q.1.1) rfl own_pd0 rfl rfl rfl (by decide) (Nat.le_of_ble_eq_true rfl) (by decide) (by decide) ?_
      rintro v26 T h146 X ⟨K_, rfl, Fm_, Fs_, Fe_⟩
      have zs_h146 : h144.size ≤ h146.size := K_.1
      have OL := OL.keep K_ (allS (by omega) all0)
      have A_b142 := A_b142.keep K_
      have A_b145 := A_b145.keep K_
      have F_modCount_b145 := Fm_
      have F_size_b145 := Fs_
      have F_elementData_b145 := Fe_
      show own_Ends p e below _ (T.setTop (mkF m 29 #[.val (.int pa), .val (.int pb), .val (.int pc), .val (.int (2 : Int32)), .val (.int (2 : Int32)), .val (.ref b142), .unset, .unset, .unset, .unset, .unset] [(.ref b145)]))
      refine own_astore X 31 #[.val (.int pa), .val (.int pb), .val (.int pc), .val (.int (2 : Int32)), .val (.int (2 : Int32)), .val (.ref b142), .val (.ref b145), .unset, .unset, .unset, .unset] at_29 rfl rfl rfl ?_
      refine own_aload X 33 (.ref b145) at_31 rfl rfl rfl ?_
      refine own_aload X 35 (.ref b142) at_33 rfl rfl rfl ?_
      refine own_iloadN X 36 (2 : Int32) at_35 rfl rfl ?_
      refine own_callS X 39 [(.ref b145), (.ref b142), (.int (2 : Int32))] [] at_36 rfl (hw _ (List.mem_of_getElem? (i := 46) rfl)) (hw _ (List.mem_of_getElem? (i := 47) rfl)) (hw _ (List.mem_of_getElem? (i := 48) rfl)) (hw _ (List.mem_of_getElem? (i := 49) rfl)) (by decide) (own_upto_0_2 l Z a0 hw b145 b142 (2 : Int32) de kd 0 h146 n0 X.sz OL z_de z_dA F_modCount_b145 F_size_b145 F_elementData_b145 A_b145 (by omega) (Ins.of_exa A_b142 (hw _ (List.mem_of_getElem? (i := 80) rfl))) (by omega) (by show @Ne Nat _ _; omega) rfl) (fun _ _ q => q.1.1) rfl own_pd18 rfl rfl rfl (by decide) (Nat.le_of_ble_eq_true rfl) (by decide) (by decide) ?_
      rintro v36 T h148 X ⟨K_, rfl, Fm_, Fs_, b147, ka_b147, Fe_, lo_b147, hi_b147, A_b147, O_b147, C_b147⟩
      have zs_h148 : h146.size ≤ h148.size := K_.1
      have OL := OL.keep K_ (allS (by omega) all0)
      have A_b142 := A_b142.keep K_
      have A_b145 := A_b145.keep K_
      have F_modCount_b145 := Fm_
      have F_size_b145 := Fs_
      have F_elementData_b145 := Fe_
      show own_Ends p e below _ (T.setTop (mkF m 39 #[.val (.int pa), .val (.int pb), .val (.int pc), .val (.int (2 : Int32)), .val (.int (2 : Int32)), .val (.ref b142), .val (.ref b145), .unset, .unset, .unset, .unset] []))
      refine own_new X 42 at_39 rfl (hw _ (List.mem_of_getElem? (i := 81) rfl)) (hw _ (List.mem_of_getElem? (i := 82) rfl)) (hw _ (List.mem_of_getElem? (i := 83) rfl)) (by decide) (by decide) ?_
      intro T h149 b150 g_b150 X E_h149 A_b150 D_b150
      have zs_h149 : h148.size ≤ h149.size := E_h149.1
      have OL := OL.ext E_h149
      have A_b142 := Exa.ext E_h149 A_b142
      have A_b145 := Exa.ext E_h149 A_b145
      have F_modCount_b145 := Fld.ext E_h149 F_modCount_b145
      have F_size_b145 := Fld.ext E_h149 F_size_b145
      have F_elementData_b145 := Fld.ext E_h149 F_elementData_b145
      have A_b147 := A_b147.ext E_h149
      have C_b147 := Exa.ext E_h149 C_b147
      have lo_b150 : h148.size ≤ b150 := Nat.le_of_eq g_b150.symm
      have hi_b150 : h149.size > b150 := A_b150.lt
      have F_converted_b150 : Fld Z h149 b150 "com/example/rosettine/rosettine/model/ConversionReport" "converted" "I" (.int (0 : Int32)) := D_b150 (Or.inr (hw _ (List.mem_of_getElem? (i := 177) rfl))) (ty := .int) (by decide)
      have F_notConverted_b150 : Fld Z h149 b150 "com/example/rosettine/rosettine/model/ConversionReport" "notConverted" "Ljava/util/List;" .null := D_b150 (Or.inr (hw _ (List.mem_of_getElem? (i := 179) rfl))) (ty := (.object "java/util/List")) (by decide)
      refine own_dup X 43 at_42 rfl rfl ?_
      refine own_iloadN X 44 pa at_43 rfl rfl ?_
      refine own_aload X 46 (.ref b145) at_44 rfl rfl rfl ?_
      refine own_init X 49 [(.int pa), (.ref b145)] [(.ref b150)] at_46 rfl (hw _ (List.mem_of_getElem? (i := 84) rfl)) (hw _ (List.mem_of_getElem? (i := 85) rfl)) (hw _ (List.mem_of_getElem? (i := 83) rfl)) (hw _ (List.mem_of_getElem? (i := 86) rfl)) (by decide) rfl (own_crini_2 l Z a0 hw b150 pa b145 de kd el ea ke em mr b142 ka_b147 b147 h149 n0 X.sz OL z_de z_dA z_el z_eE z_eF z_eA z_em z_mE hmr F_size_b145 A_b145 F_elementData_b145 A_b147 C_b147 (Ins.of_exa A_b142 (hw _ (List.mem_of_getElem? (i := 80) rfl))) (by omega) (by omega) F_converted_b150 F_notConverted_b150 A_b150 (by omega) (by show @Ne Nat _ _; omega) (by show @Ne Nat _ _; omega)) (fun _ _ q => q.1.1) rfl own_pd19 rfl rfl rfl (by decide) (Nat.le_of_ble_eq_true rfl) (by decide) (by decide) ?_
      rintro v46 T h152 X ⟨K_, rfl, Fcv_, L151, Fnc_, lo_L151, hi_L151, E_L151, F_e1_L151⟩
      have zs_h152 : h149.size ≤ h152.size := K_.1
      have OL := OL.keep K_ (allS (by omega) all0)
      have A_b142 := A_b142.keep K_
      have A_b145 := A_b145.keep K_
      have F_modCount_b145 := F_modCount_b145.keep K_ (ninS (by show @Ne Nat _ _; omega) nin0)
      have F_size_b145 := F_size_b145.keep K_ (ninS (by show @Ne Nat _ _; omega) nin0)
      have F_elementData_b145 := F_elementData_b145.keep K_ (ninS (by show @Ne Nat _ _; omega) nin0)
      have A_b147 := A_b147.keep K_ (ninS (by show @Ne Nat _ _; omega) nin0)
      have C_b147 := C_b147.keep K_
      have A_b150 := A_b150.keep K_
      have F_converted_b150 := Fcv_
      have F_notConverted_b150 := Fnc_
      show own_Ends p e below _ (T.setTop (mkF m 49 #[.val (.int pa), .val (.int pb), .val (.int pc), .val (.int (2 : Int32)), .val (.int (2 : Int32)), .val (.ref b142), .val (.ref b145), .unset, .unset, .unset, .unset] [(.ref b150)]))
      refine own_astore X 51 #[.val (.int pa), .val (.int pb), .val (.int pc), .val (.int (2 : Int32)), .val (.int (2 : Int32)), .val (.ref b142), .val (.ref b145), .val (.ref b150), .unset, .unset, .unset] at_49 rfl rfl rfl ?_
      refine own_aload X 53 (.ref b150) at_51 rfl rfl rfl ?_
      refine own_callV X 56 [] [] at_53 rfl (hw _ (List.mem_of_getElem? (i := 180) rfl)) (hw _ (List.mem_of_getElem? (i := 181) rfl)) (own_nf X.2.2.2.2.1 (hw _ (List.mem_of_getElem? (i := 183) rfl))) (hw _ (List.mem_of_getElem? (i := 183) rfl)) (hw _ (List.mem_of_getElem? (i := 182) rfl)) (hw _ (List.mem_of_getElem? (i := 83) rfl)) (hw _ (List.mem_of_getElem? (i := 184) rfl)) (by decide) A_b150 (own_entries_2 l Z a0 hw b150 pa L151 em b142 de kd el ea ke h152 n0 X.sz F_converted_b150 F_notConverted_b150 OL E_L151 F_e1_L151 z_em z_mE (by omega)) (fun _ _ q => Nat.le_of_eq (congrArg Array.size q.1.symm)) rfl own_pd15 rfl rfl rfl (by decide) (Nat.le_of_ble_eq_true rfl) (by decide) (by decide) ?_
      rintro v53 T h_ X ⟨eh_, rfl⟩
      rw [eh_] at X
      show own_Ends p e below _ (T.setTop (mkF m 56 #[.val (.int pa), .val (.int pb), .val (.int pc), .val (.int (2 : Int32)), .val (.int (2 : Int32)), .val (.ref b142), .val (.ref b145), .val (.ref b150), .unset, .unset, .unset] [(.int (pa + 2))]))
      refine own_istore X 58 #[.val (.int pa), .val (.int pb), .val (.int pc), .val (.int (2 : Int32)), .val (.int (2 : Int32)), .val (.ref b142), .val (.ref b145), .val (.ref b150), .val (.int (pa + 2)), .unset, .unset] at_56 rfl rfl ?_
      refine own_aload X 60 (.ref b145) at_58 rfl rfl rfl ?_
      refine own_aload X 62 (.ref b142) at_60 rfl rfl rfl ?_
      refine own_iload X 64 (2 : Int32) at_62 rfl rfl ?_
      refine own_callS X 67 [(.ref b145), (.ref b142), (.int (2 : Int32))] [] at_64 rfl (hw _ (List.mem_of_getElem? (i := 46) rfl)) (hw _ (List.mem_of_getElem? (i := 47) rfl)) (hw _ (List.mem_of_getElem? (i := 48) rfl)) (hw _ (List.mem_of_getElem? (i := 49) rfl)) (by decide) (own_upto_2_2 l Z a0 hw b145 b142 (2 : Int32) de kd ((0 + 1) + 1) b147 ka_b147 h152 n0 X.sz OL z_de z_dA F_modCount_b145 F_size_b145 F_elementData_b145 A_b145 (by omega) A_b147 O_b147 C_b147 (by omega) (by show @Ne Nat _ _; omega) (Ins.of_exa A_b142 (hw _ (List.mem_of_getElem? (i := 80) rfl))) (by omega) (by show @Ne Nat _ _; omega) (by show @Ne Nat _ _; omega) rfl) (fun _ _ q => q.1.1) rfl own_pd18 rfl rfl rfl (by decide) (Nat.le_of_ble_eq_true rfl) (by decide) (by decide) ?_
      rintro v64 T h154 X ⟨K_, rfl, Fm_, Fs_, Fe_, A2_⟩
      have zs_h154 : h152.size ≤ h154.size := K_.1
      have OL := OL.keep K_ (allS (by omega) (allS (by omega) all0))
      have A_b142 := A_b142.keep K_
      have A_b145 := A_b145.keep K_
      have C_b147 := C_b147.keep K_
      have A_b150 := A_b150.keep K_
      have F_converted_b150 := F_converted_b150.keep K_ (ninS (by show @Ne Nat _ _; omega) (ninS (by show @Ne Nat _ _; omega) nin0))
      have F_notConverted_b150 := F_notConverted_b150.keep K_ (ninS (by show @Ne Nat _ _; omega) (ninS (by show @Ne Nat _ _; omega) nin0))
      have E_L151 := E_L151.keep K_
      have F_e1_L151 := F_e1_L151.keep K_ (ninS (by show @Ne Nat _ _; omega) (ninS (by show @Ne Nat _ _; omega) nin0))
      have F_modCount_b145 := Fm_
      have F_size_b145 := Fs_
      have F_elementData_b145 := Fe_
      have A_b147 := A2_
      show own_Ends p e below _ (T.setTop (mkF m 67 #[.val (.int pa), .val (.int pb), .val (.int pc), .val (.int (2 : Int32)), .val (.int (2 : Int32)), .val (.ref b142), .val (.ref b145), .val (.ref b150), .val (.int (pa + 2)), .unset, .unset] []))
      refine own_aload X 69 (.ref b150) at_67 rfl rfl rfl ?_
      refine own_callV X 72 [] [] at_69 rfl (hw _ (List.mem_of_getElem? (i := 180) rfl)) (hw _ (List.mem_of_getElem? (i := 181) rfl)) (own_nf X.2.2.2.2.1 (hw _ (List.mem_of_getElem? (i := 183) rfl))) (hw _ (List.mem_of_getElem? (i := 183) rfl)) (hw _ (List.mem_of_getElem? (i := 182) rfl)) (hw _ (List.mem_of_getElem? (i := 83) rfl)) (hw _ (List.mem_of_getElem? (i := 184) rfl)) (by decide) A_b150 (own_entries_2 l Z a0 hw b150 pa L151 em b142 de kd el ea ke h154 n0 X.sz F_converted_b150 F_notConverted_b150 OL E_L151 F_e1_L151 z_em z_mE (by omega)) (fun _ _ q => Nat.le_of_eq (congrArg Array.size q.1.symm)) rfl own_pd15 rfl rfl rfl (by decide) (Nat.le_of_ble_eq_true rfl) (by decide) (by decide) ?_
      rintro v69 T h_ X ⟨eh_, rfl⟩
      rw [eh_] at X
      show own_Ends p e below _ (T.setTop (mkF m 72 #[.val (.int pa), .val (.int pb), .val (.int pc), .val (.int (2 : Int32)), .val (.int (2 : Int32)), .val (.ref b142), .val (.ref b145), .val (.ref b150), .val (.int (pa + 2)), .unset, .unset] [(.int (pa + 2))]))
      refine own_istore X 74 #[.val (.int pa), .val (.int pb), .val (.int pc), .val (.int (2 : Int32)), .val (.int (2 : Int32)), .val (.ref b142), .val (.ref b145), .val (.ref b150), .val (.int (pa + 2)), .val (.int (pa + 2)), .unset] at_72 rfl rfl ?_
      refine own_iloadN X 75 pa at_74 rfl rfl ?_
      refine own_iloadN X 76 (2 : Int32) at_75 rfl rfl ?_
      refine own_iadd X 77 at_76 rfl ?_
      refine own_istore X 79 #[.val (.int pa), .val (.int pb), .val (.int pc), .val (.int (2 : Int32)), .val (.int (2 : Int32)), .val (.ref b142), .val (.ref b145), .val (.ref b150), .val (.int (pa + 2)), .val (.int (pa + 2)), .val (.int (pa + (2 : Int32)))] at_77 rfl rfl ?_
      refine own_iload X 81 (pa + 2) at_79 rfl rfl ?_
      refine own_iload X 83 (pa + (2 : Int32)) at_81 rfl rfl ?_
      refine own_icN X 86 at_83 rfl (XT.ii_ne_f rfl) ?_
      refine own_iload X 88 (pa + 2) at_86 rfl rfl ?_
      refine own_iload X 90 (pa + (2 : Int32)) at_88 rfl rfl ?_
      refine own_icN X 93 at_90 rfl (XT.ii_ne_f rfl) ?_
      refine own_iconst X 94 (1 : Int32) at_93 rfl rfl ?_
      refine own_goto X 98 at_94 (by decide) (by decide) ?_
      exact own_retN X .boolean at_98 rfl (by simp) (by decide) (by decide) (by decide)
    · rw [hm_]
      refine own_new X 12 at_9 rfl (hw _ (List.mem_of_getElem? (i := 0) rfl)) (hw _ (List.mem_of_getElem? (i := 1) rfl)) (hw _ (List.mem_of_getElem? (i := 2) rfl)) (by decide) (by decide) ?_
      intro T h155 b156 g_b156 X E_h155 A_b156 D_b156
      have zs_h155 : h0.size ≤ h155.size := E_h155.1
      have OL := OL.ext E_h155
      have lo_b156 : h0.size ≤ b156 := Nat.le_of_eq g_b156.symm
      have hi_b156 : h155.size > b156 := A_b156.lt
      have F_section_b156 : Fld Z h155 b156 "com/example/rosettine/rosettine/model/ConversionReport$NotConverted" "section" "Ljava/util/Optional;" .null := D_b156 (Or.inr (hw _ (List.mem_of_getElem? (i := 15) rfl))) (ty := (.object "java/util/Optional")) (by decide)
      have F_template_b156 : Fld Z h155 b156 "com/example/rosettine/rosettine/model/ConversionReport$NotConverted" "template" "Ljava/util/Optional;" .null := D_b156 (Or.inr (hw _ (List.mem_of_getElem? (i := 17) rfl))) (ty := (.object "java/util/Optional")) (by decide)
      have F_id_b156 : Fld Z h155 b156 "com/example/rosettine/rosettine/model/ConversionReport$NotConverted" "id" "Ljava/util/Optional;" .null := D_b156 (Or.inr (hw _ (List.mem_of_getElem? (i := 19) rfl))) (ty := (.object "java/util/Optional")) (by decide)
      have F_reason_b156 : Fld Z h155 b156 "com/example/rosettine/rosettine/model/ConversionReport$NotConverted" "reason" "Ljava/lang/String;" .null := D_b156 (Or.inr (hw _ (List.mem_of_getElem? (i := 21) rfl))) (ty := (.object "java/lang/String")) (by decide)
      refine own_dup X 13 at_12 rfl rfl ?_
      refine own_anull X 14 at_13 rfl ?_
      refine own_anull X 15 at_14 rfl ?_
      refine own_anull X 16 at_15 rfl ?_
      refine own_anull X 17 at_16 rfl ?_
      refine own_init X 20 [.null, .null, .null, .null] [(.ref b156)] at_17 rfl (hw _ (List.mem_of_getElem? (i := 3) rfl)) (hw _ (List.mem_of_getElem? (i := 4) rfl)) (hw _ (List.mem_of_getElem? (i := 2) rfl)) (hw _ (List.mem_of_getElem? (i := 5) rfl)) (by decide) rfl (own_nc l Z a0 hw b156 h155 n0 X.sz F_section_b156 F_template_b156 F_id_b156 F_reason_b156 A_b156 (by omega)) (fun _ _ q => q.1.1) rfl own_pd17 rfl rfl rfl (by decide) (Nat.le_of_ble_eq_true rfl) (by decide) (by decide) ?_
      rintro v17 T h157 X ⟨K_, rfl⟩
      have zs_h157 : h155.size ≤ h157.size := K_.1
      have OL := OL.keep K_ (allS (by omega) all0)
      have A_b156 := A_b156.keep K_
      show own_Ends p e below _ (T.setTop (mkF m 20 #[.val (.int pa), .val (.int pb), .val (.int pc), .val (.int (2 : Int32)), .val (.int (3 : Int32)), .unset, .unset, .unset, .unset, .unset, .unset] [(.ref b156)]))
      refine own_astore X 22 #[.val (.int pa), .val (.int pb), .val (.int pc), .val (.int (2 : Int32)), .val (.int (3 : Int32)), .val (.ref b156), .unset, .unset, .unset, .unset, .unset] at_20 rfl rfl rfl ?_
      refine own_new X 25 at_22 rfl (hw _ (List.mem_of_getElem? (i := 22) rfl)) (hw _ (List.mem_of_getElem? (i := 23) rfl)) (hw _ (List.mem_of_getElem? (i := 24) rfl)) (by decide) (by decide) ?_
      intro T h158 b159 g_b159 X E_h158 A_b159 D_b159
      have zs_h158 : h157.size ≤ h158.size := E_h158.1
      have OL := OL.ext E_h158
      have A_b156 := Exa.ext E_h158 A_b156
      have lo_b159 : h157.size ≤ b159 := Nat.le_of_eq g_b159.symm
      have hi_b159 : h158.size > b159 := A_b159.lt
      have F_modCount_b159 : Fld Z h158 b159 "java/util/AbstractList" "modCount" "I" (.int (0 : Int32)) := D_b159 (Or.inl (hw _ (List.mem_of_getElem? (i := 42) rfl))) (ty := .int) (by decide)
      have F_elementData_b159 : Fld Z h158 b159 "java/util/ArrayList" "elementData" "[Ljava/lang/Object;" .null := D_b159 (Or.inl (hw _ (List.mem_of_getElem? (i := 45) rfl))) (ty := (.array (.object "java/lang/Object"))) (by decide)
      have F_size_b159 : Fld Z h158 b159 "java/util/ArrayList" "size" "I" (.int (0 : Int32)) := D_b159 (Or.inl (hw _ (List.mem_of_getElem? (i := 58) rfl))) (ty := .int) (by decide)
      refine own_dup X 26 at_25 rfl rfl ?_
      refine own_init X 29 [] [(.ref b159)] at_26 rfl (hw _ (List.mem_of_getElem? (i := 25) rfl)) (hw _ (List.mem_of_getElem? (i := 26) rfl)) (hw _ (List.mem_of_getElem? (i := 24) rfl)) (hw _ (List.mem_of_getElem? (i := 27) rfl)) (by decide) rfl (own_alinit l Z a0 hw b159 de h158 n0 X.sz OL z_de F_modCount_b159 F_size_b159 F_elementData_b159 A_b159 (by omega)) (fun _ _ q => q.1.1) rfl own_pd0 rfl rfl rfl (by decide) (Nat.le_of_ble_eq_true rfl) (by decide) (by decide) ?_
      rintro v26 T h160 X ⟨K_, rfl, Fm_, Fs_, Fe_⟩
      have zs_h160 : h158.size ≤ h160.size := K_.1
      have OL := OL.keep K_ (allS (by omega) all0)
      have A_b156 := A_b156.keep K_
      have A_b159 := A_b159.keep K_
      have F_modCount_b159 := Fm_
      have F_size_b159 := Fs_
      have F_elementData_b159 := Fe_
      show own_Ends p e below _ (T.setTop (mkF m 29 #[.val (.int pa), .val (.int pb), .val (.int pc), .val (.int (2 : Int32)), .val (.int (3 : Int32)), .val (.ref b156), .unset, .unset, .unset, .unset, .unset] [(.ref b159)]))
      refine own_astore X 31 #[.val (.int pa), .val (.int pb), .val (.int pc), .val (.int (2 : Int32)), .val (.int (3 : Int32)), .val (.ref b156), .val (.ref b159), .unset, .unset, .unset, .unset] at_29 rfl rfl rfl ?_
      refine own_aload X 33 (.ref b159) at_31 rfl rfl rfl ?_
      refine own_aload X 35 (.ref b156) at_33 rfl rfl rfl ?_
      refine own_iloadN X 36 (2 : Int32) at_35 rfl rfl ?_
      refine own_callS X 39 [(.ref b159), (.ref b156), (.int (2 : Int32))] [] at_36 rfl (hw _ (List.mem_of_getElem? (i := 46) rfl)) (hw _ (List.mem_of_getElem? (i := 47) rfl)) (hw _ (List.mem_of_getElem? (i := 48) rfl)) (hw _ (List.mem_of_getElem? (i := 49) rfl)) (by decide) (own_upto_0_2 l Z a0 hw b159 b156 (2 : Int32) de kd 0 h160 n0 X.sz OL z_de z_dA F_modCount_b159 F_size_b159 F_elementData_b159 A_b159 (by omega) (Ins.of_exa A_b156 (hw _ (List.mem_of_getElem? (i := 80) rfl))) (by omega) (by show @Ne Nat _ _; omega) rfl) (fun _ _ q => q.1.1) rfl own_pd18 rfl rfl rfl (by decide) (Nat.le_of_ble_eq_true rfl) (by decide) (by decide) ?_
      rintro v36 T h162 X ⟨K_, rfl, Fm_, Fs_, b161, ka_b161, Fe_, lo_b161, hi_b161, A_b161, O_b161, C_b161⟩
      have zs_h162 : h160.size ≤ h162.size := K_.1
      have OL := OL.keep K_ (allS (by omega) all0)
      have A_b156 := A_b156.keep K_
      have A_b159 := A_b159.keep K_
      have F_modCount_b159 := Fm_
      have F_size_b159 := Fs_
      have F_elementData_b159 := Fe_
      show own_Ends p e below _ (T.setTop (mkF m 39 #[.val (.int pa), .val (.int pb), .val (.int pc), .val (.int (2 : Int32)), .val (.int (3 : Int32)), .val (.ref b156), .val (.ref b159), .unset, .unset, .unset, .unset] []))
      refine own_new X 42 at_39 rfl (hw _ (List.mem_of_getElem? (i := 81) rfl)) (hw _ (List.mem_of_getElem? (i := 82) rfl)) (hw _ (List.mem_of_getElem? (i := 83) rfl)) (by decide) (by decide) ?_
      intro T h163 b164 g_b164 X E_h163 A_b164 D_b164
      have zs_h163 : h162.size ≤ h163.size := E_h163.1
      have OL := OL.ext E_h163
      have A_b156 := Exa.ext E_h163 A_b156
      have A_b159 := Exa.ext E_h163 A_b159
      have F_modCount_b159 := Fld.ext E_h163 F_modCount_b159
      have F_size_b159 := Fld.ext E_h163 F_size_b159
      have F_elementData_b159 := Fld.ext E_h163 F_elementData_b159
      have A_b161 := A_b161.ext E_h163
      have C_b161 := Exa.ext E_h163 C_b161
      have lo_b164 : h162.size ≤ b164 := Nat.le_of_eq g_b164.symm
      have hi_b164 : h163.size > b164 := A_b164.lt
      have F_converted_b164 : Fld Z h163 b164 "com/example/rosettine/rosettine/model/ConversionReport" "converted" "I" (.int (0 : Int32)) := D_b164 (Or.inr (hw _ (List.mem_of_getElem? (i := 177) rfl))) (ty := .int) (by decide)
      have F_notConverted_b164 : Fld Z h163 b164 "com/example/rosettine/rosettine/model/ConversionReport" "notConverted" "Ljava/util/List;" .null := D_b164 (Or.inr (hw _ (List.mem_of_getElem? (i := 179) rfl))) (ty := (.object "java/util/List")) (by decide)
      refine own_dup X 43 at_42 rfl rfl ?_
      refine own_iloadN X 44 pa at_43 rfl rfl ?_
      refine own_aload X 46 (.ref b159) at_44 rfl rfl rfl ?_
      refine own_init X 49 [(.int pa), (.ref b159)] [(.ref b164)] at_46 rfl (hw _ (List.mem_of_getElem? (i := 84) rfl)) (hw _ (List.mem_of_getElem? (i := 85) rfl)) (hw _ (List.mem_of_getElem? (i := 83) rfl)) (hw _ (List.mem_of_getElem? (i := 86) rfl)) (by decide) rfl (own_crini_2 l Z a0 hw b164 pa b159 de kd el ea ke em mr b156 ka_b161 b161 h163 n0 X.sz OL z_de z_dA z_el z_eE z_eF z_eA z_em z_mE hmr F_size_b159 A_b159 F_elementData_b159 A_b161 C_b161 (Ins.of_exa A_b156 (hw _ (List.mem_of_getElem? (i := 80) rfl))) (by omega) (by omega) F_converted_b164 F_notConverted_b164 A_b164 (by omega) (by show @Ne Nat _ _; omega) (by show @Ne Nat _ _; omega)) (fun _ _ q => q.1.1) rfl own_pd19 rfl rfl rfl (by decide) (Nat.le_of_ble_eq_true rfl) (by decide) (by decide) ?_
      rintro v46 T h166 X ⟨K_, rfl, Fcv_, L165, Fnc_, lo_L165, hi_L165, E_L165, F_e1_L165⟩
      have zs_h166 : h163.size ≤ h166.size := K_.1
      have OL := OL.keep K_ (allS (by omega) all0)
      have A_b156 := A_b156.keep K_
      have A_b159 := A_b159.keep K_
      have F_modCount_b159 := F_modCount_b159.keep K_ (ninS (by show @Ne Nat _ _; omega) nin0)
      have F_size_b159 := F_size_b159.keep K_ (ninS (by show @Ne Nat _ _; omega) nin0)
      have F_elementData_b159 := F_elementData_b159.keep K_ (ninS (by show @Ne Nat _ _; omega) nin0)
      have A_b161 := A_b161.keep K_ (ninS (by show @Ne Nat _ _; omega) nin0)
      have C_b161 := C_b161.keep K_
      have A_b164 := A_b164.keep K_
      have F_converted_b164 := Fcv_
      have F_notConverted_b164 := Fnc_
      show own_Ends p e below _ (T.setTop (mkF m 49 #[.val (.int pa), .val (.int pb), .val (.int pc), .val (.int (2 : Int32)), .val (.int (3 : Int32)), .val (.ref b156), .val (.ref b159), .unset, .unset, .unset, .unset] [(.ref b164)]))
      refine own_astore X 51 #[.val (.int pa), .val (.int pb), .val (.int pc), .val (.int (2 : Int32)), .val (.int (3 : Int32)), .val (.ref b156), .val (.ref b159), .val (.ref b164), .unset, .unset, .unset] at_49 rfl rfl rfl ?_
      refine own_aload X 53 (.ref b164) at_51 rfl rfl rfl ?_
      refine own_callV X 56 [] [] at_53 rfl (hw _ (List.mem_of_getElem? (i := 180) rfl)) (hw _ (List.mem_of_getElem? (i := 181) rfl)) (own_nf X.2.2.2.2.1 (hw _ (List.mem_of_getElem? (i := 183) rfl))) (hw _ (List.mem_of_getElem? (i := 183) rfl)) (hw _ (List.mem_of_getElem? (i := 182) rfl)) (hw _ (List.mem_of_getElem? (i := 83) rfl)) (hw _ (List.mem_of_getElem? (i := 184) rfl)) (by decide) A_b164 (own_entries_2 l Z a0 hw b164 pa L165 em b156 de kd el ea ke h166 n0 X.sz F_converted_b164 F_notConverted_b164 OL E_L165 F_e1_L165 z_em z_mE (by omega)) (fun _ _ q => Nat.le_of_eq (congrArg Array.size q.1.symm)) rfl own_pd15 rfl rfl rfl (by decide) (Nat.le_of_ble_eq_true rfl) (by decide) (by decide) ?_
      rintro v53 T h_ X ⟨eh_, rfl⟩
      rw [eh_] at X
      show own_Ends p e below _ (T.setTop (mkF m 56 #[.val (.int pa), .val (.int pb), .val (.int pc), .val (.int (2 : Int32)), .val (.int (3 : Int32)), .val (.ref b156), .val (.ref b159), .val (.ref b164), .unset, .unset, .unset] [(.int (pa + 2))]))
      refine own_istore X 58 #[.val (.int pa), .val (.int pb), .val (.int pc), .val (.int (2 : Int32)), .val (.int (3 : Int32)), .val (.ref b156), .val (.ref b159), .val (.ref b164), .val (.int (pa + 2)), .unset, .unset] at_56 rfl rfl ?_
      refine own_aload X 60 (.ref b159) at_58 rfl rfl rfl ?_
      refine own_aload X 62 (.ref b156) at_60 rfl rfl rfl ?_
      refine own_iload X 64 (3 : Int32) at_62 rfl rfl ?_
      refine own_callS X 67 [(.ref b159), (.ref b156), (.int (3 : Int32))] [] at_64 rfl (hw _ (List.mem_of_getElem? (i := 46) rfl)) (hw _ (List.mem_of_getElem? (i := 47) rfl)) (hw _ (List.mem_of_getElem? (i := 48) rfl)) (hw _ (List.mem_of_getElem? (i := 49) rfl)) (by decide) (own_upto_2_3 l Z a0 hw b159 b156 (3 : Int32) de kd ((0 + 1) + 1) b161 ka_b161 h166 n0 X.sz OL z_de z_dA F_modCount_b159 F_size_b159 F_elementData_b159 A_b159 (by omega) A_b161 O_b161 C_b161 (by omega) (by show @Ne Nat _ _; omega) (Ins.of_exa A_b156 (hw _ (List.mem_of_getElem? (i := 80) rfl))) (by omega) (by show @Ne Nat _ _; omega) (by show @Ne Nat _ _; omega) rfl) (fun _ _ q => q.1.1) rfl own_pd18 rfl rfl rfl (by decide) (Nat.le_of_ble_eq_true rfl) (by decide) (by decide) ?_
      rintro v64 T h168 X ⟨K_, rfl, Fm_, Fs_, Fe_, A2_⟩
      have zs_h168 : h166.size ≤ h168.size := K_.1
      have OL := OL.keep K_ (allS (by omega) (allS (by omega) all0))
      have A_b156 := A_b156.keep K_
      have A_b159 := A_b159.keep K_
      have C_b161 := C_b161.keep K_
      have A_b164 := A_b164.keep K_
      have F_converted_b164 := F_converted_b164.keep K_ (ninS (by show @Ne Nat _ _; omega) (ninS (by show @Ne Nat _ _; omega) nin0))
      have F_notConverted_b164 := F_notConverted_b164.keep K_ (ninS (by show @Ne Nat _ _; omega) (ninS (by show @Ne Nat _ _; omega) nin0))
      have E_L165 := E_L165.keep K_
      have F_e1_L165 := F_e1_L165.keep K_ (ninS (by show @Ne Nat _ _; omega) (ninS (by show @Ne Nat _ _; omega) nin0))
      have F_modCount_b159 := Fm_
      have F_size_b159 := Fs_
      have F_elementData_b159 := Fe_
      have A_b161 := A2_
      show own_Ends p e below _ (T.setTop (mkF m 67 #[.val (.int pa), .val (.int pb), .val (.int pc), .val (.int (2 : Int32)), .val (.int (3 : Int32)), .val (.ref b156), .val (.ref b159), .val (.ref b164), .val (.int (pa + 2)), .unset, .unset] []))
      refine own_aload X 69 (.ref b164) at_67 rfl rfl rfl ?_
      refine own_callV X 72 [] [] at_69 rfl (hw _ (List.mem_of_getElem? (i := 180) rfl)) (hw _ (List.mem_of_getElem? (i := 181) rfl)) (own_nf X.2.2.2.2.1 (hw _ (List.mem_of_getElem? (i := 183) rfl))) (hw _ (List.mem_of_getElem? (i := 183) rfl)) (hw _ (List.mem_of_getElem? (i := 182) rfl)) (hw _ (List.mem_of_getElem? (i := 83) rfl)) (hw _ (List.mem_of_getElem? (i := 184) rfl)) (by decide) A_b164 (own_entries_2 l Z a0 hw b164 pa L165 em b156 de kd el ea ke h168 n0 X.sz F_converted_b164 F_notConverted_b164 OL E_L165 F_e1_L165 z_em z_mE (by omega)) (fun _ _ q => Nat.le_of_eq (congrArg Array.size q.1.symm)) rfl own_pd15 rfl rfl rfl (by decide) (Nat.le_of_ble_eq_true rfl) (by decide) (by decide) ?_
      rintro v69 T h_ X ⟨eh_, rfl⟩
      rw [eh_] at X
      show own_Ends p e below _ (T.setTop (mkF m 72 #[.val (.int pa), .val (.int pb), .val (.int pc), .val (.int (2 : Int32)), .val (.int (3 : Int32)), .val (.ref b156), .val (.ref b159), .val (.ref b164), .val (.int (pa + 2)), .unset, .unset] [(.int (pa + 2))]))
      refine own_istore X 74 #[.val (.int pa), .val (.int pb), .val (.int pc), .val (.int (2 : Int32)), .val (.int (3 : Int32)), .val (.ref b156), .val (.ref b159), .val (.ref b164), .val (.int (pa + 2)), .val (.int (pa + 2)), .unset] at_72 rfl rfl ?_
      refine own_iloadN X 75 pa at_74 rfl rfl ?_
      refine own_iloadN X 76 (2 : Int32) at_75 rfl rfl ?_
      refine own_iadd X 77 at_76 rfl ?_
      refine own_istore X 79 #[.val (.int pa), .val (.int pb), .val (.int pc), .val (.int (2 : Int32)), .val (.int (3 : Int32)), .val (.ref b156), .val (.ref b159), .val (.ref b164), .val (.int (pa + 2)), .val (.int (pa + 2)), .val (.int (pa + (2 : Int32)))] at_77 rfl rfl ?_
      refine own_iload X 81 (pa + 2) at_79 rfl rfl ?_
      refine own_iload X 83 (pa + (2 : Int32)) at_81 rfl rfl ?_
      refine own_icN X 86 at_83 rfl (XT.ii_ne_f rfl) ?_
      refine own_iload X 88 (pa + 2) at_86 rfl rfl ?_
      refine own_iload X 90 (pa + (2 : Int32)) at_88 rfl rfl ?_
      refine own_icN X 93 at_90 rfl (XT.ii_ne_f rfl) ?_
      refine own_iconst X 94 (1 : Int32) at_93 rfl rfl ?_
      refine own_goto X 98 at_94 (by decide) (by decide) ?_
      exact own_retN X .boolean at_98 rfl (by simp) (by decide) (by decide) (by decide)
  · rw [hn_]
    refine own_iloadN X 5 pc at_4 rfl rfl ?_
    refine own_iconst X 6 (3 : Int32) at_5 rfl rfl ?_
    refine own_iand X 7 at_6 rfl ?_
    refine own_istore X 9 #[.val (.int pa), .val (.int pb), .val (.int pc), .val (.int (3 : Int32)), .val (.int (pc &&& (3 : Int32))), .unset, .unset, .unset, .unset, .unset, .unset] at_7 rfl rfl ?_
    rcases own_and3 pc with hm_ | hm_ | hm_ | hm_
    · rw [hm_]
      refine own_new X 12 at_9 rfl (hw _ (List.mem_of_getElem? (i := 0) rfl)) (hw _ (List.mem_of_getElem? (i := 1) rfl)) (hw _ (List.mem_of_getElem? (i := 2) rfl)) (by decide) (by decide) ?_
      intro T h169 b170 g_b170 X E_h169 A_b170 D_b170
      have zs_h169 : h0.size ≤ h169.size := E_h169.1
      have OL := OL.ext E_h169
      have lo_b170 : h0.size ≤ b170 := Nat.le_of_eq g_b170.symm
      have hi_b170 : h169.size > b170 := A_b170.lt
      have F_section_b170 : Fld Z h169 b170 "com/example/rosettine/rosettine/model/ConversionReport$NotConverted" "section" "Ljava/util/Optional;" .null := D_b170 (Or.inr (hw _ (List.mem_of_getElem? (i := 15) rfl))) (ty := (.object "java/util/Optional")) (by decide)
      have F_template_b170 : Fld Z h169 b170 "com/example/rosettine/rosettine/model/ConversionReport$NotConverted" "template" "Ljava/util/Optional;" .null := D_b170 (Or.inr (hw _ (List.mem_of_getElem? (i := 17) rfl))) (ty := (.object "java/util/Optional")) (by decide)
      have F_id_b170 : Fld Z h169 b170 "com/example/rosettine/rosettine/model/ConversionReport$NotConverted" "id" "Ljava/util/Optional;" .null := D_b170 (Or.inr (hw _ (List.mem_of_getElem? (i := 19) rfl))) (ty := (.object "java/util/Optional")) (by decide)
      have F_reason_b170 : Fld Z h169 b170 "com/example/rosettine/rosettine/model/ConversionReport$NotConverted" "reason" "Ljava/lang/String;" .null := D_b170 (Or.inr (hw _ (List.mem_of_getElem? (i := 21) rfl))) (ty := (.object "java/lang/String")) (by decide)
      refine own_dup X 13 at_12 rfl rfl ?_
      refine own_anull X 14 at_13 rfl ?_
      refine own_anull X 15 at_14 rfl ?_
      refine own_anull X 16 at_15 rfl ?_
      refine own_anull X 17 at_16 rfl ?_
      refine own_init X 20 [.null, .null, .null, .null] [(.ref b170)] at_17 rfl (hw _ (List.mem_of_getElem? (i := 3) rfl)) (hw _ (List.mem_of_getElem? (i := 4) rfl)) (hw _ (List.mem_of_getElem? (i := 2) rfl)) (hw _ (List.mem_of_getElem? (i := 5) rfl)) (by decide) rfl (own_nc l Z a0 hw b170 h169 n0 X.sz F_section_b170 F_template_b170 F_id_b170 F_reason_b170 A_b170 (by omega)) (fun _ _ q => q.1.1) rfl own_pd17 rfl rfl rfl (by decide) (Nat.le_of_ble_eq_true rfl) (by decide) (by decide) ?_
      rintro v17 T h171 X ⟨K_, rfl⟩
      have zs_h171 : h169.size ≤ h171.size := K_.1
      have OL := OL.keep K_ (allS (by omega) all0)
      have A_b170 := A_b170.keep K_
      show own_Ends p e below _ (T.setTop (mkF m 20 #[.val (.int pa), .val (.int pb), .val (.int pc), .val (.int (3 : Int32)), .val (.int (0 : Int32)), .unset, .unset, .unset, .unset, .unset, .unset] [(.ref b170)]))
      refine own_astore X 22 #[.val (.int pa), .val (.int pb), .val (.int pc), .val (.int (3 : Int32)), .val (.int (0 : Int32)), .val (.ref b170), .unset, .unset, .unset, .unset, .unset] at_20 rfl rfl rfl ?_
      refine own_new X 25 at_22 rfl (hw _ (List.mem_of_getElem? (i := 22) rfl)) (hw _ (List.mem_of_getElem? (i := 23) rfl)) (hw _ (List.mem_of_getElem? (i := 24) rfl)) (by decide) (by decide) ?_
      intro T h172 b173 g_b173 X E_h172 A_b173 D_b173
      have zs_h172 : h171.size ≤ h172.size := E_h172.1
      have OL := OL.ext E_h172
      have A_b170 := Exa.ext E_h172 A_b170
      have lo_b173 : h171.size ≤ b173 := Nat.le_of_eq g_b173.symm
      have hi_b173 : h172.size > b173 := A_b173.lt
      have F_modCount_b173 : Fld Z h172 b173 "java/util/AbstractList" "modCount" "I" (.int (0 : Int32)) := D_b173 (Or.inl (hw _ (List.mem_of_getElem? (i := 42) rfl))) (ty := .int) (by decide)
      have F_elementData_b173 : Fld Z h172 b173 "java/util/ArrayList" "elementData" "[Ljava/lang/Object;" .null := D_b173 (Or.inl (hw _ (List.mem_of_getElem? (i := 45) rfl))) (ty := (.array (.object "java/lang/Object"))) (by decide)
      have F_size_b173 : Fld Z h172 b173 "java/util/ArrayList" "size" "I" (.int (0 : Int32)) := D_b173 (Or.inl (hw _ (List.mem_of_getElem? (i := 58) rfl))) (ty := .int) (by decide)
      refine own_dup X 26 at_25 rfl rfl ?_
      refine own_init X 29 [] [(.ref b173)] at_26 rfl (hw _ (List.mem_of_getElem? (i := 25) rfl)) (hw _ (List.mem_of_getElem? (i := 26) rfl)) (hw _ (List.mem_of_getElem? (i := 24) rfl)) (hw _ (List.mem_of_getElem? (i := 27) rfl)) (by decide) rfl (own_alinit l Z a0 hw b173 de h172 n0 X.sz OL z_de F_modCount_b173 F_size_b173 F_elementData_b173 A_b173 (by omega)) (fun _ _ q => q.1.1) rfl own_pd0 rfl rfl rfl (by decide) (Nat.le_of_ble_eq_true rfl) (by decide) (by decide) ?_
      rintro v26 T h174 X ⟨K_, rfl, Fm_, Fs_, Fe_⟩
      have zs_h174 : h172.size ≤ h174.size := K_.1
      have OL := OL.keep K_ (allS (by omega) all0)
      have A_b170 := A_b170.keep K_
      have A_b173 := A_b173.keep K_
      have F_modCount_b173 := Fm_
      have F_size_b173 := Fs_
      have F_elementData_b173 := Fe_
      show own_Ends p e below _ (T.setTop (mkF m 29 #[.val (.int pa), .val (.int pb), .val (.int pc), .val (.int (3 : Int32)), .val (.int (0 : Int32)), .val (.ref b170), .unset, .unset, .unset, .unset, .unset] [(.ref b173)]))
      refine own_astore X 31 #[.val (.int pa), .val (.int pb), .val (.int pc), .val (.int (3 : Int32)), .val (.int (0 : Int32)), .val (.ref b170), .val (.ref b173), .unset, .unset, .unset, .unset] at_29 rfl rfl rfl ?_
      refine own_aload X 33 (.ref b173) at_31 rfl rfl rfl ?_
      refine own_aload X 35 (.ref b170) at_33 rfl rfl rfl ?_
      refine own_iloadN X 36 (3 : Int32) at_35 rfl rfl ?_
      refine own_callS X 39 [(.ref b173), (.ref b170), (.int (3 : Int32))] [] at_36 rfl (hw _ (List.mem_of_getElem? (i := 46) rfl)) (hw _ (List.mem_of_getElem? (i := 47) rfl)) (hw _ (List.mem_of_getElem? (i := 48) rfl)) (hw _ (List.mem_of_getElem? (i := 49) rfl)) (by decide) (own_upto_0_3 l Z a0 hw b173 b170 (3 : Int32) de kd 0 h174 n0 X.sz OL z_de z_dA F_modCount_b173 F_size_b173 F_elementData_b173 A_b173 (by omega) (Ins.of_exa A_b170 (hw _ (List.mem_of_getElem? (i := 80) rfl))) (by omega) (by show @Ne Nat _ _; omega) rfl) (fun _ _ q => q.1.1) rfl own_pd18 rfl rfl rfl (by decide) (Nat.le_of_ble_eq_true rfl) (by decide) (by decide) ?_
      rintro v36 T h176 X ⟨K_, rfl, Fm_, Fs_, b175, ka_b175, Fe_, lo_b175, hi_b175, A_b175, O_b175, C_b175⟩
      have zs_h176 : h174.size ≤ h176.size := K_.1
      have OL := OL.keep K_ (allS (by omega) all0)
      have A_b170 := A_b170.keep K_
      have A_b173 := A_b173.keep K_
      have F_modCount_b173 := Fm_
      have F_size_b173 := Fs_
      have F_elementData_b173 := Fe_
      show own_Ends p e below _ (T.setTop (mkF m 39 #[.val (.int pa), .val (.int pb), .val (.int pc), .val (.int (3 : Int32)), .val (.int (0 : Int32)), .val (.ref b170), .val (.ref b173), .unset, .unset, .unset, .unset] []))
      refine own_new X 42 at_39 rfl (hw _ (List.mem_of_getElem? (i := 81) rfl)) (hw _ (List.mem_of_getElem? (i := 82) rfl)) (hw _ (List.mem_of_getElem? (i := 83) rfl)) (by decide) (by decide) ?_
      intro T h177 b178 g_b178 X E_h177 A_b178 D_b178
      have zs_h177 : h176.size ≤ h177.size := E_h177.1
      have OL := OL.ext E_h177
      have A_b170 := Exa.ext E_h177 A_b170
      have A_b173 := Exa.ext E_h177 A_b173
      have F_modCount_b173 := Fld.ext E_h177 F_modCount_b173
      have F_size_b173 := Fld.ext E_h177 F_size_b173
      have F_elementData_b173 := Fld.ext E_h177 F_elementData_b173
      have A_b175 := A_b175.ext E_h177
      have C_b175 := Exa.ext E_h177 C_b175
      have lo_b178 : h176.size ≤ b178 := Nat.le_of_eq g_b178.symm
      have hi_b178 : h177.size > b178 := A_b178.lt
      have F_converted_b178 : Fld Z h177 b178 "com/example/rosettine/rosettine/model/ConversionReport" "converted" "I" (.int (0 : Int32)) := D_b178 (Or.inr (hw _ (List.mem_of_getElem? (i := 177) rfl))) (ty := .int) (by decide)
      have F_notConverted_b178 : Fld Z h177 b178 "com/example/rosettine/rosettine/model/ConversionReport" "notConverted" "Ljava/util/List;" .null := D_b178 (Or.inr (hw _ (List.mem_of_getElem? (i := 179) rfl))) (ty := (.object "java/util/List")) (by decide)
      refine own_dup X 43 at_42 rfl rfl ?_
      refine own_iloadN X 44 pa at_43 rfl rfl ?_
      refine own_aload X 46 (.ref b173) at_44 rfl rfl rfl ?_
      refine own_init X 49 [(.int pa), (.ref b173)] [(.ref b178)] at_46 rfl (hw _ (List.mem_of_getElem? (i := 84) rfl)) (hw _ (List.mem_of_getElem? (i := 85) rfl)) (hw _ (List.mem_of_getElem? (i := 83) rfl)) (hw _ (List.mem_of_getElem? (i := 86) rfl)) (by decide) rfl (own_crini_3 l Z a0 hw b178 pa b173 de kd el ea ke em mr b170 ka_b175 b175 h177 n0 X.sz OL z_de z_dA z_el z_eE z_eF z_eA z_em z_mE hmr F_size_b173 A_b173 F_elementData_b173 A_b175 C_b175 (Ins.of_exa A_b170 (hw _ (List.mem_of_getElem? (i := 80) rfl))) (by omega) (by omega) F_converted_b178 F_notConverted_b178 A_b178 (by omega) (by show @Ne Nat _ _; omega) (by show @Ne Nat _ _; omega)) (fun _ _ q => q.1.1) rfl own_pd19 rfl rfl rfl (by decide) (Nat.le_of_ble_eq_true rfl) (by decide) (by decide) ?_
      rintro v46 T h180 X ⟨K_, rfl, Fcv_, L179, Fnc_, lo_L179, hi_L179, E_L179, c_L179, kc_L179, F_el_L179, loc_L179, hic_L179, A_L179⟩
      have zs_h180 : h177.size ≤ h180.size := K_.1
      have OL := OL.keep K_ (allS (by omega) all0)
      have A_b170 := A_b170.keep K_
      have A_b173 := A_b173.keep K_
      have F_modCount_b173 := F_modCount_b173.keep K_ (ninS (by show @Ne Nat _ _; omega) nin0)
      have F_size_b173 := F_size_b173.keep K_ (ninS (by show @Ne Nat _ _; omega) nin0)
      have F_elementData_b173 := F_elementData_b173.keep K_ (ninS (by show @Ne Nat _ _; omega) nin0)
      have A_b175 := A_b175.keep K_ (ninS (by show @Ne Nat _ _; omega) nin0)
      have C_b175 := C_b175.keep K_
      have A_b178 := A_b178.keep K_
      have F_converted_b178 := Fcv_
      have F_notConverted_b178 := Fnc_
      show own_Ends p e below _ (T.setTop (mkF m 49 #[.val (.int pa), .val (.int pb), .val (.int pc), .val (.int (3 : Int32)), .val (.int (0 : Int32)), .val (.ref b170), .val (.ref b173), .unset, .unset, .unset, .unset] [(.ref b178)]))
      refine own_astore X 51 #[.val (.int pa), .val (.int pb), .val (.int pc), .val (.int (3 : Int32)), .val (.int (0 : Int32)), .val (.ref b170), .val (.ref b173), .val (.ref b178), .unset, .unset, .unset] at_49 rfl rfl rfl ?_
      refine own_aload X 53 (.ref b178) at_51 rfl rfl rfl ?_
      refine own_callV X 56 [] [] at_53 rfl (hw _ (List.mem_of_getElem? (i := 180) rfl)) (hw _ (List.mem_of_getElem? (i := 181) rfl)) (own_nf X.2.2.2.2.1 (hw _ (List.mem_of_getElem? (i := 183) rfl))) (hw _ (List.mem_of_getElem? (i := 183) rfl)) (hw _ (List.mem_of_getElem? (i := 182) rfl)) (hw _ (List.mem_of_getElem? (i := 83) rfl)) (hw _ (List.mem_of_getElem? (i := 184) rfl)) (by decide) A_b178 (own_entries_3 l Z a0 hw b178 pa L179 em b170 c_L179 kc_L179 el ea ke h180 n0 X.sz F_converted_b178 F_notConverted_b178 OL E_L179 F_el_L179 A_L179) (fun _ _ q => Nat.le_of_eq (congrArg Array.size q.1.symm)) rfl own_pd15 rfl rfl rfl (by decide) (Nat.le_of_ble_eq_true rfl) (by decide) (by decide) ?_
      rintro v53 T h_ X ⟨eh_, rfl⟩
      rw [eh_] at X
      show own_Ends p e below _ (T.setTop (mkF m 56 #[.val (.int pa), .val (.int pb), .val (.int pc), .val (.int (3 : Int32)), .val (.int (0 : Int32)), .val (.ref b170), .val (.ref b173), .val (.ref b178), .unset, .unset, .unset] [(.int (pa + 3))]))
      refine own_istore X 58 #[.val (.int pa), .val (.int pb), .val (.int pc), .val (.int (3 : Int32)), .val (.int (0 : Int32)), .val (.ref b170), .val (.ref b173), .val (.ref b178), .val (.int (pa + 3)), .unset, .unset] at_56 rfl rfl ?_
      refine own_aload X 60 (.ref b173) at_58 rfl rfl rfl ?_
      refine own_aload X 62 (.ref b170) at_60 rfl rfl rfl ?_
      refine own_iload X 64 (0 : Int32) at_62 rfl rfl ?_
      refine own_callS X 67 [(.ref b173), (.ref b170), (.int (0 : Int32))] [] at_64 rfl (hw _ (List.mem_of_getElem? (i := 46) rfl)) (hw _ (List.mem_of_getElem? (i := 47) rfl)) (hw _ (List.mem_of_getElem? (i := 48) rfl)) (hw _ (List.mem_of_getElem? (i := 49) rfl)) (by decide) (own_upto_3_0 l Z a0 hw b173 b170 (0 : Int32) de kd (((0 + 1) + 1) + 1) b175 ka_b175 h180 n0 X.sz OL z_de z_dA F_modCount_b173 F_size_b173 F_elementData_b173 A_b173 (by omega) A_b175 O_b175 C_b175 (by omega) (by show @Ne Nat _ _; omega) (Ins.of_exa A_b170 (hw _ (List.mem_of_getElem? (i := 80) rfl))) (by omega) (by show @Ne Nat _ _; omega) (by show @Ne Nat _ _; omega) rfl) (fun _ _ q => q.1.1) rfl own_pd18 rfl rfl rfl (by decide) (Nat.le_of_ble_eq_true rfl) (by decide) (by decide) ?_
      rintro v64 T h182 X ⟨K_, rfl, Fm_, Fs_, Fe_, A2_⟩
      have zs_h182 : h180.size ≤ h182.size := K_.1
      have OL := OL.keep K_ (allS (by omega) (allS (by omega) all0))
      have A_b170 := A_b170.keep K_
      have A_b173 := A_b173.keep K_
      have C_b175 := C_b175.keep K_
      have A_b178 := A_b178.keep K_
      have F_converted_b178 := F_converted_b178.keep K_ (ninS (by show @Ne Nat _ _; omega) (ninS (by show @Ne Nat _ _; omega) nin0))
      have F_notConverted_b178 := F_notConverted_b178.keep K_ (ninS (by show @Ne Nat _ _; omega) (ninS (by show @Ne Nat _ _; omega) nin0))
      have E_L179 := E_L179.keep K_
      have F_el_L179 := F_el_L179.keep K_ (ninS (by show @Ne Nat _ _; omega) (ninS (by show @Ne Nat _ _; omega) nin0))
      have A_L179 := A_L179.keep K_ (ninS (by show @Ne Nat _ _; omega) (ninS (by show @Ne Nat _ _; omega) nin0))
      have F_modCount_b173 := Fm_
      have F_size_b173 := Fs_
      have F_elementData_b173 := Fe_
      have A_b175 := A2_
      show own_Ends p e below _ (T.setTop (mkF m 67 #[.val (.int pa), .val (.int pb), .val (.int pc), .val (.int (3 : Int32)), .val (.int (0 : Int32)), .val (.ref b170), .val (.ref b173), .val (.ref b178), .val (.int (pa + 3)), .unset, .unset] []))
      refine own_aload X 69 (.ref b178) at_67 rfl rfl rfl ?_
      refine own_callV X 72 [] [] at_69 rfl (hw _ (List.mem_of_getElem? (i := 180) rfl)) (hw _ (List.mem_of_getElem? (i := 181) rfl)) (own_nf X.2.2.2.2.1 (hw _ (List.mem_of_getElem? (i := 183) rfl))) (hw _ (List.mem_of_getElem? (i := 183) rfl)) (hw _ (List.mem_of_getElem? (i := 182) rfl)) (hw _ (List.mem_of_getElem? (i := 83) rfl)) (hw _ (List.mem_of_getElem? (i := 184) rfl)) (by decide) A_b178 (own_entries_3 l Z a0 hw b178 pa L179 em b170 c_L179 kc_L179 el ea ke h182 n0 X.sz F_converted_b178 F_notConverted_b178 OL E_L179 F_el_L179 A_L179) (fun _ _ q => Nat.le_of_eq (congrArg Array.size q.1.symm)) rfl own_pd15 rfl rfl rfl (by decide) (Nat.le_of_ble_eq_true rfl) (by decide) (by decide) ?_
      rintro v69 T h_ X ⟨eh_, rfl⟩
      rw [eh_] at X
      show own_Ends p e below _ (T.setTop (mkF m 72 #[.val (.int pa), .val (.int pb), .val (.int pc), .val (.int (3 : Int32)), .val (.int (0 : Int32)), .val (.ref b170), .val (.ref b173), .val (.ref b178), .val (.int (pa + 3)), .unset, .unset] [(.int (pa + 3))]))
      refine own_istore X 74 #[.val (.int pa), .val (.int pb), .val (.int pc), .val (.int (3 : Int32)), .val (.int (0 : Int32)), .val (.ref b170), .val (.ref b173), .val (.ref b178), .val (.int (pa + 3)), .val (.int (pa + 3)), .unset] at_72 rfl rfl ?_
      refine own_iloadN X 75 pa at_74 rfl rfl ?_
      refine own_iloadN X 76 (3 : Int32) at_75 rfl rfl ?_
      refine own_iadd X 77 at_76 rfl ?_
      refine own_istore X 79 #[.val (.int pa), .val (.int pb), .val (.int pc), .val (.int (3 : Int32)), .val (.int (0 : Int32)), .val (.ref b170), .val (.ref b173), .val (.ref b178), .val (.int (pa + 3)), .val (.int (pa + 3)), .val (.int (pa + (3 : Int32)))] at_77 rfl rfl ?_
      refine own_iload X 81 (pa + 3) at_79 rfl rfl ?_
      refine own_iload X 83 (pa + (3 : Int32)) at_81 rfl rfl ?_
      refine own_icN X 86 at_83 rfl (XT.ii_ne_f rfl) ?_
      refine own_iload X 88 (pa + 3) at_86 rfl rfl ?_
      refine own_iload X 90 (pa + (3 : Int32)) at_88 rfl rfl ?_
      refine own_icN X 93 at_90 rfl (XT.ii_ne_f rfl) ?_
      refine own_iconst X 94 (1 : Int32) at_93 rfl rfl ?_
      refine own_goto X 98 at_94 (by decide) (by decide) ?_
      exact own_retN X .boolean at_98 rfl (by simp) (by decide) (by decide) (by decide)
    · rw [hm_]
      refine own_new X 12 at_9 rfl (hw _ (List.mem_of_getElem? (i := 0) rfl)) (hw _ (List.mem_of_getElem? (i := 1) rfl)) (hw _ (List.mem_of_getElem? (i := 2) rfl)) (by decide) (by decide) ?_
      intro T h183 b184 g_b184 X E_h183 A_b184 D_b184
      have zs_h183 : h0.size ≤ h183.size := E_h183.1
      have OL := OL.ext E_h183
      have lo_b184 : h0.size ≤ b184 := Nat.le_of_eq g_b184.symm
      have hi_b184 : h183.size > b184 := A_b184.lt
      have F_section_b184 : Fld Z h183 b184 "com/example/rosettine/rosettine/model/ConversionReport$NotConverted" "section" "Ljava/util/Optional;" .null := D_b184 (Or.inr (hw _ (List.mem_of_getElem? (i := 15) rfl))) (ty := (.object "java/util/Optional")) (by decide)
      have F_template_b184 : Fld Z h183 b184 "com/example/rosettine/rosettine/model/ConversionReport$NotConverted" "template" "Ljava/util/Optional;" .null := D_b184 (Or.inr (hw _ (List.mem_of_getElem? (i := 17) rfl))) (ty := (.object "java/util/Optional")) (by decide)
      have F_id_b184 : Fld Z h183 b184 "com/example/rosettine/rosettine/model/ConversionReport$NotConverted" "id" "Ljava/util/Optional;" .null := D_b184 (Or.inr (hw _ (List.mem_of_getElem? (i := 19) rfl))) (ty := (.object "java/util/Optional")) (by decide)
      have F_reason_b184 : Fld Z h183 b184 "com/example/rosettine/rosettine/model/ConversionReport$NotConverted" "reason" "Ljava/lang/String;" .null := D_b184 (Or.inr (hw _ (List.mem_of_getElem? (i := 21) rfl))) (ty := (.object "java/lang/String")) (by decide)
      refine own_dup X 13 at_12 rfl rfl ?_
      refine own_anull X 14 at_13 rfl ?_
      refine own_anull X 15 at_14 rfl ?_
      refine own_anull X 16 at_15 rfl ?_
      refine own_anull X 17 at_16 rfl ?_
      refine own_init X 20 [.null, .null, .null, .null] [(.ref b184)] at_17 rfl (hw _ (List.mem_of_getElem? (i := 3) rfl)) (hw _ (List.mem_of_getElem? (i := 4) rfl)) (hw _ (List.mem_of_getElem? (i := 2) rfl)) (hw _ (List.mem_of_getElem? (i := 5) rfl)) (by decide) rfl (own_nc l Z a0 hw b184 h183 n0 X.sz F_section_b184 F_template_b184 F_id_b184 F_reason_b184 A_b184 (by omega)) (fun _ _ q => q.1.1) rfl own_pd17 rfl rfl rfl (by decide) (Nat.le_of_ble_eq_true rfl) (by decide) (by decide) ?_
      rintro v17 T h185 X ⟨K_, rfl⟩
      have zs_h185 : h183.size ≤ h185.size := K_.1
      have OL := OL.keep K_ (allS (by omega) all0)
      have A_b184 := A_b184.keep K_
      show own_Ends p e below _ (T.setTop (mkF m 20 #[.val (.int pa), .val (.int pb), .val (.int pc), .val (.int (3 : Int32)), .val (.int (1 : Int32)), .unset, .unset, .unset, .unset, .unset, .unset] [(.ref b184)]))
      refine own_astore X 22 #[.val (.int pa), .val (.int pb), .val (.int pc), .val (.int (3 : Int32)), .val (.int (1 : Int32)), .val (.ref b184), .unset, .unset, .unset, .unset, .unset] at_20 rfl rfl rfl ?_
      refine own_new X 25 at_22 rfl (hw _ (List.mem_of_getElem? (i := 22) rfl)) (hw _ (List.mem_of_getElem? (i := 23) rfl)) (hw _ (List.mem_of_getElem? (i := 24) rfl)) (by decide) (by decide) ?_
      intro T h186 b187 g_b187 X E_h186 A_b187 D_b187
      have zs_h186 : h185.size ≤ h186.size := E_h186.1
      have OL := OL.ext E_h186
      have A_b184 := Exa.ext E_h186 A_b184
      have lo_b187 : h185.size ≤ b187 := Nat.le_of_eq g_b187.symm
      have hi_b187 : h186.size > b187 := A_b187.lt
      have F_modCount_b187 : Fld Z h186 b187 "java/util/AbstractList" "modCount" "I" (.int (0 : Int32)) := D_b187 (Or.inl (hw _ (List.mem_of_getElem? (i := 42) rfl))) (ty := .int) (by decide)
      have F_elementData_b187 : Fld Z h186 b187 "java/util/ArrayList" "elementData" "[Ljava/lang/Object;" .null := D_b187 (Or.inl (hw _ (List.mem_of_getElem? (i := 45) rfl))) (ty := (.array (.object "java/lang/Object"))) (by decide)
      have F_size_b187 : Fld Z h186 b187 "java/util/ArrayList" "size" "I" (.int (0 : Int32)) := D_b187 (Or.inl (hw _ (List.mem_of_getElem? (i := 58) rfl))) (ty := .int) (by decide)
      refine own_dup X 26 at_25 rfl rfl ?_
      refine own_init X 29 [] [(.ref b187)] at_26 rfl (hw _ (List.mem_of_getElem? (i := 25) rfl)) (hw _ (List.mem_of_getElem? (i := 26) rfl)) (hw _ (List.mem_of_getElem? (i := 24) rfl)) (hw _ (List.mem_of_getElem? (i := 27) rfl)) (by decide) rfl (own_alinit l Z a0 hw b187 de h186 n0 X.sz OL z_de F_modCount_b187 F_size_b187 F_elementData_b187 A_b187 (by omega)) (fun _ _ q => q.1.1) rfl own_pd0 rfl rfl rfl (by decide) (Nat.le_of_ble_eq_true rfl) (by decide) (by decide) ?_
      rintro v26 T h188 X ⟨K_, rfl, Fm_, Fs_, Fe_⟩
      have zs_h188 : h186.size ≤ h188.size := K_.1
      have OL := OL.keep K_ (allS (by omega) all0)
      have A_b184 := A_b184.keep K_
      have A_b187 := A_b187.keep K_
      have F_modCount_b187 := Fm_
      have F_size_b187 := Fs_
      have F_elementData_b187 := Fe_
      show own_Ends p e below _ (T.setTop (mkF m 29 #[.val (.int pa), .val (.int pb), .val (.int pc), .val (.int (3 : Int32)), .val (.int (1 : Int32)), .val (.ref b184), .unset, .unset, .unset, .unset, .unset] [(.ref b187)]))
      refine own_astore X 31 #[.val (.int pa), .val (.int pb), .val (.int pc), .val (.int (3 : Int32)), .val (.int (1 : Int32)), .val (.ref b184), .val (.ref b187), .unset, .unset, .unset, .unset] at_29 rfl rfl rfl ?_
      refine own_aload X 33 (.ref b187) at_31 rfl rfl rfl ?_
      refine own_aload X 35 (.ref b184) at_33 rfl rfl rfl ?_
      refine own_iloadN X 36 (3 : Int32) at_35 rfl rfl ?_
      refine own_callS X 39 [(.ref b187), (.ref b184), (.int (3 : Int32))] [] at_36 rfl (hw _ (List.mem_of_getElem? (i := 46) rfl)) (hw _ (List.mem_of_getElem? (i := 47) rfl)) (hw _ (List.mem_of_getElem? (i := 48) rfl)) (hw _ (List.mem_of_getElem? (i := 49) rfl)) (by decide) (own_upto_0_3 l Z a0 hw b187 b184 (3 : Int32) de kd 0 h188 n0 X.sz OL z_de z_dA F_modCount_b187 F_size_b187 F_elementData_b187 A_b187 (by omega) (Ins.of_exa A_b184 (hw _ (List.mem_of_getElem? (i := 80) rfl))) (by omega) (by show @Ne Nat _ _; omega) rfl) (fun _ _ q => q.1.1) rfl own_pd18 rfl rfl rfl (by decide) (Nat.le_of_ble_eq_true rfl) (by decide) (by decide) ?_
      rintro v36 T h190 X ⟨K_, rfl, Fm_, Fs_, b189, ka_b189, Fe_, lo_b189, hi_b189, A_b189, O_b189, C_b189⟩
      have zs_h190 : h188.size ≤ h190.size := K_.1
      have OL := OL.keep K_ (allS (by omega) all0)
      have A_b184 := A_b184.keep K_
      have A_b187 := A_b187.keep K_
      have F_modCount_b187 := Fm_
      have F_size_b187 := Fs_
      have F_elementData_b187 := Fe_
      show own_Ends p e below _ (T.setTop (mkF m 39 #[.val (.int pa), .val (.int pb), .val (.int pc), .val (.int (3 : Int32)), .val (.int (1 : Int32)), .val (.ref b184), .val (.ref b187), .unset, .unset, .unset, .unset] []))
      refine own_new X 42 at_39 rfl (hw _ (List.mem_of_getElem? (i := 81) rfl)) (hw _ (List.mem_of_getElem? (i := 82) rfl)) (hw _ (List.mem_of_getElem? (i := 83) rfl)) (by decide) (by decide) ?_
      intro T h191 b192 g_b192 X E_h191 A_b192 D_b192
      have zs_h191 : h190.size ≤ h191.size := E_h191.1
      have OL := OL.ext E_h191
      have A_b184 := Exa.ext E_h191 A_b184
      have A_b187 := Exa.ext E_h191 A_b187
      have F_modCount_b187 := Fld.ext E_h191 F_modCount_b187
      have F_size_b187 := Fld.ext E_h191 F_size_b187
      have F_elementData_b187 := Fld.ext E_h191 F_elementData_b187
      have A_b189 := A_b189.ext E_h191
      have C_b189 := Exa.ext E_h191 C_b189
      have lo_b192 : h190.size ≤ b192 := Nat.le_of_eq g_b192.symm
      have hi_b192 : h191.size > b192 := A_b192.lt
      have F_converted_b192 : Fld Z h191 b192 "com/example/rosettine/rosettine/model/ConversionReport" "converted" "I" (.int (0 : Int32)) := D_b192 (Or.inr (hw _ (List.mem_of_getElem? (i := 177) rfl))) (ty := .int) (by decide)
      have F_notConverted_b192 : Fld Z h191 b192 "com/example/rosettine/rosettine/model/ConversionReport" "notConverted" "Ljava/util/List;" .null := D_b192 (Or.inr (hw _ (List.mem_of_getElem? (i := 179) rfl))) (ty := (.object "java/util/List")) (by decide)
      refine own_dup X 43 at_42 rfl rfl ?_
      refine own_iloadN X 44 pa at_43 rfl rfl ?_
      refine own_aload X 46 (.ref b187) at_44 rfl rfl rfl ?_
      refine own_init X 49 [(.int pa), (.ref b187)] [(.ref b192)] at_46 rfl (hw _ (List.mem_of_getElem? (i := 84) rfl)) (hw _ (List.mem_of_getElem? (i := 85) rfl)) (hw _ (List.mem_of_getElem? (i := 83) rfl)) (hw _ (List.mem_of_getElem? (i := 86) rfl)) (by decide) rfl (own_crini_3 l Z a0 hw b192 pa b187 de kd el ea ke em mr b184 ka_b189 b189 h191 n0 X.sz OL z_de z_dA z_el z_eE z_eF z_eA z_em z_mE hmr F_size_b187 A_b187 F_elementData_b187 A_b189 C_b189 (Ins.of_exa A_b184 (hw _ (List.mem_of_getElem? (i := 80) rfl))) (by omega) (by omega) F_converted_b192 F_notConverted_b192 A_b192 (by omega) (by show @Ne Nat _ _; omega) (by show @Ne Nat _ _; omega)) (fun _ _ q => q.1.1) rfl own_pd19 rfl rfl rfl (by decide) (Nat.le_of_ble_eq_true rfl) (by decide) (by decide) ?_
      rintro v46 T h194 X ⟨K_, rfl, Fcv_, L193, Fnc_, lo_L193, hi_L193, E_L193, c_L193, kc_L193, F_el_L193, loc_L193, hic_L193, A_L193⟩
      have zs_h194 : h191.size ≤ h194.size := K_.1
      have OL := OL.keep K_ (allS (by omega) all0)
      have A_b184 := A_b184.keep K_
      have A_b187 := A_b187.keep K_
      have F_modCount_b187 := F_modCount_b187.keep K_ (ninS (by show @Ne Nat _ _; omega) nin0)
      have F_size_b187 := F_size_b187.keep K_ (ninS (by show @Ne Nat _ _; omega) nin0)
      have F_elementData_b187 := F_elementData_b187.keep K_ (ninS (by show @Ne Nat _ _; omega) nin0)
      have A_b189 := A_b189.keep K_ (ninS (by show @Ne Nat _ _; omega) nin0)
      have C_b189 := C_b189.keep K_
      have A_b192 := A_b192.keep K_
      have F_converted_b192 := Fcv_
      have F_notConverted_b192 := Fnc_
      show own_Ends p e below _ (T.setTop (mkF m 49 #[.val (.int pa), .val (.int pb), .val (.int pc), .val (.int (3 : Int32)), .val (.int (1 : Int32)), .val (.ref b184), .val (.ref b187), .unset, .unset, .unset, .unset] [(.ref b192)]))
      refine own_astore X 51 #[.val (.int pa), .val (.int pb), .val (.int pc), .val (.int (3 : Int32)), .val (.int (1 : Int32)), .val (.ref b184), .val (.ref b187), .val (.ref b192), .unset, .unset, .unset] at_49 rfl rfl rfl ?_
      refine own_aload X 53 (.ref b192) at_51 rfl rfl rfl ?_
      refine own_callV X 56 [] [] at_53 rfl (hw _ (List.mem_of_getElem? (i := 180) rfl)) (hw _ (List.mem_of_getElem? (i := 181) rfl)) (own_nf X.2.2.2.2.1 (hw _ (List.mem_of_getElem? (i := 183) rfl))) (hw _ (List.mem_of_getElem? (i := 183) rfl)) (hw _ (List.mem_of_getElem? (i := 182) rfl)) (hw _ (List.mem_of_getElem? (i := 83) rfl)) (hw _ (List.mem_of_getElem? (i := 184) rfl)) (by decide) A_b192 (own_entries_3 l Z a0 hw b192 pa L193 em b184 c_L193 kc_L193 el ea ke h194 n0 X.sz F_converted_b192 F_notConverted_b192 OL E_L193 F_el_L193 A_L193) (fun _ _ q => Nat.le_of_eq (congrArg Array.size q.1.symm)) rfl own_pd15 rfl rfl rfl (by decide) (Nat.le_of_ble_eq_true rfl) (by decide) (by decide) ?_
      rintro v53 T h_ X ⟨eh_, rfl⟩
      rw [eh_] at X
      show own_Ends p e below _ (T.setTop (mkF m 56 #[.val (.int pa), .val (.int pb), .val (.int pc), .val (.int (3 : Int32)), .val (.int (1 : Int32)), .val (.ref b184), .val (.ref b187), .val (.ref b192), .unset, .unset, .unset] [(.int (pa + 3))]))
      refine own_istore X 58 #[.val (.int pa), .val (.int pb), .val (.int pc), .val (.int (3 : Int32)), .val (.int (1 : Int32)), .val (.ref b184), .val (.ref b187), .val (.ref b192), .val (.int (pa + 3)), .unset, .unset] at_56 rfl rfl ?_
      refine own_aload X 60 (.ref b187) at_58 rfl rfl rfl ?_
      refine own_aload X 62 (.ref b184) at_60 rfl rfl rfl ?_
      refine own_iload X 64 (1 : Int32) at_62 rfl rfl ?_
      refine own_callS X 67 [(.ref b187), (.ref b184), (.int (1 : Int32))] [] at_64 rfl (hw _ (List.mem_of_getElem? (i := 46) rfl)) (hw _ (List.mem_of_getElem? (i := 47) rfl)) (hw _ (List.mem_of_getElem? (i := 48) rfl)) (hw _ (List.mem_of_getElem? (i := 49) rfl)) (by decide) (own_upto_3_1 l Z a0 hw b187 b184 (1 : Int32) de kd (((0 + 1) + 1) + 1) b189 ka_b189 h194 n0 X.sz OL z_de z_dA F_modCount_b187 F_size_b187 F_elementData_b187 A_b187 (by omega) A_b189 O_b189 C_b189 (by omega) (by show @Ne Nat _ _; omega) (Ins.of_exa A_b184 (hw _ (List.mem_of_getElem? (i := 80) rfl))) (by omega) (by show @Ne Nat _ _; omega) (by show @Ne Nat _ _; omega) rfl) (fun _ _ q => q.1.1) rfl own_pd18 rfl rfl rfl (by decide) (Nat.le_of_ble_eq_true rfl) (by decide) (by decide) ?_
      rintro v64 T h196 X ⟨K_, rfl, Fm_, Fs_, Fe_, A2_⟩
      have zs_h196 : h194.size ≤ h196.size := K_.1
      have OL := OL.keep K_ (allS (by omega) (allS (by omega) all0))
      have A_b184 := A_b184.keep K_
      have A_b187 := A_b187.keep K_
      have C_b189 := C_b189.keep K_
      have A_b192 := A_b192.keep K_
      have F_converted_b192 := F_converted_b192.keep K_ (ninS (by show @Ne Nat _ _; omega) (ninS (by show @Ne Nat _ _; omega) nin0))
      have F_notConverted_b192 := F_notConverted_b192.keep K_ (ninS (by show @Ne Nat _ _; omega) (ninS (by show @Ne Nat _ _; omega) nin0))
      have E_L193 := E_L193.keep K_
      have F_el_L193 := F_el_L193.keep K_ (ninS (by show @Ne Nat _ _; omega) (ninS (by show @Ne Nat _ _; omega) nin0))
      have A_L193 := A_L193.keep K_ (ninS (by show @Ne Nat _ _; omega) (ninS (by show @Ne Nat _ _; omega) nin0))
      have F_modCount_b187 := Fm_
      have F_size_b187 := Fs_
      have F_elementData_b187 := Fe_
      have A_b189 := A2_
      show own_Ends p e below _ (T.setTop (mkF m 67 #[.val (.int pa), .val (.int pb), .val (.int pc), .val (.int (3 : Int32)), .val (.int (1 : Int32)), .val (.ref b184), .val (.ref b187), .val (.ref b192), .val (.int (pa + 3)), .unset, .unset] []))
      refine own_aload X 69 (.ref b192) at_67 rfl rfl rfl ?_
      refine own_callV X 72 [] [] at_69 rfl (hw _ (List.mem_of_getElem? (i := 180) rfl)) (hw _ (List.mem_of_getElem? (i := 181) rfl)) (own_nf X.2.2.2.2.1 (hw _ (List.mem_of_getElem? (i := 183) rfl))) (hw _ (List.mem_of_getElem? (i := 183) rfl)) (hw _ (List.mem_of_getElem? (i := 182) rfl)) (hw _ (List.mem_of_getElem? (i := 83) rfl)) (hw _ (List.mem_of_getElem? (i := 184) rfl)) (by decide) A_b192 (own_entries_3 l Z a0 hw b192 pa L193 em b184 c_L193 kc_L193 el ea ke h196 n0 X.sz F_converted_b192 F_notConverted_b192 OL E_L193 F_el_L193 A_L193) (fun _ _ q => Nat.le_of_eq (congrArg Array.size q.1.symm)) rfl own_pd15 rfl rfl rfl (by decide) (Nat.le_of_ble_eq_true rfl) (by decide) (by decide) ?_
      rintro v69 T h_ X ⟨eh_, rfl⟩
      rw [eh_] at X
      show own_Ends p e below _ (T.setTop (mkF m 72 #[.val (.int pa), .val (.int pb), .val (.int pc), .val (.int (3 : Int32)), .val (.int (1 : Int32)), .val (.ref b184), .val (.ref b187), .val (.ref b192), .val (.int (pa + 3)), .unset, .unset] [(.int (pa + 3))]))
      refine own_istore X 74 #[.val (.int pa), .val (.int pb), .val (.int pc), .val (.int (3 : Int32)), .val (.int (1 : Int32)), .val (.ref b184), .val (.ref b187), .val (.ref b192), .val (.int (pa + 3)), .val (.int (pa + 3)), .unset] at_72 rfl rfl ?_
      refine own_iloadN X 75 pa at_74 rfl rfl ?_
      refine own_iloadN X 76 (3 : Int32) at_75 rfl rfl ?_
      refine own_iadd X 77 at_76 rfl ?_
      refine own_istore X 79 #[.val (.int pa), .val (.int pb), .val (.int pc), .val (.int (3 : Int32)), .val (.int (1 : Int32)), .val (.ref b184), .val (.ref b187), .val (.ref b192), .val (.int (pa + 3)), .val (.int (pa + 3)), .val (.int (pa + (3 : Int32)))] at_77 rfl rfl ?_
      refine own_iload X 81 (pa + 3) at_79 rfl rfl ?_
      refine own_iload X 83 (pa + (3 : Int32)) at_81 rfl rfl ?_
      refine own_icN X 86 at_83 rfl (XT.ii_ne_f rfl) ?_
      refine own_iload X 88 (pa + 3) at_86 rfl rfl ?_
      refine own_iload X 90 (pa + (3 : Int32)) at_88 rfl rfl ?_
      refine own_icN X 93 at_90 rfl (XT.ii_ne_f rfl) ?_
      refine own_iconst X 94 (1 : Int32) at_93 rfl rfl ?_
      refine own_goto X 98 at_94 (by decide) (by decide) ?_
      exact own_retN X .boolean at_98 rfl (by simp) (by decide) (by decide) (by decide)
    · rw [hm_]
      refine own_new X 12 at_9 rfl (hw _ (List.mem_of_getElem? (i := 0) rfl)) (hw _ (List.mem_of_getElem? (i := 1) rfl)) (hw _ (List.mem_of_getElem? (i := 2) rfl)) (by decide) (by decide) ?_
      intro T h197 b198 g_b198 X E_h197 A_b198 D_b198
      have zs_h197 : h0.size ≤ h197.size := E_h197.1
      have OL := OL.ext E_h197
      have lo_b198 : h0.size ≤ b198 := Nat.le_of_eq g_b198.symm
      have hi_b198 : h197.size > b198 := A_b198.lt
      have F_section_b198 : Fld Z h197 b198 "com/example/rosettine/rosettine/model/ConversionReport$NotConverted" "section" "Ljava/util/Optional;" .null := D_b198 (Or.inr (hw _ (List.mem_of_getElem? (i := 15) rfl))) (ty := (.object "java/util/Optional")) (by decide)
      have F_template_b198 : Fld Z h197 b198 "com/example/rosettine/rosettine/model/ConversionReport$NotConverted" "template" "Ljava/util/Optional;" .null := D_b198 (Or.inr (hw _ (List.mem_of_getElem? (i := 17) rfl))) (ty := (.object "java/util/Optional")) (by decide)
      have F_id_b198 : Fld Z h197 b198 "com/example/rosettine/rosettine/model/ConversionReport$NotConverted" "id" "Ljava/util/Optional;" .null := D_b198 (Or.inr (hw _ (List.mem_of_getElem? (i := 19) rfl))) (ty := (.object "java/util/Optional")) (by decide)
      have F_reason_b198 : Fld Z h197 b198 "com/example/rosettine/rosettine/model/ConversionReport$NotConverted" "reason" "Ljava/lang/String;" .null := D_b198 (Or.inr (hw _ (List.mem_of_getElem? (i := 21) rfl))) (ty := (.object "java/lang/String")) (by decide)
      refine own_dup X 13 at_12 rfl rfl ?_
      refine own_anull X 14 at_13 rfl ?_
      refine own_anull X 15 at_14 rfl ?_
      refine own_anull X 16 at_15 rfl ?_
      refine own_anull X 17 at_16 rfl ?_
      refine own_init X 20 [.null, .null, .null, .null] [(.ref b198)] at_17 rfl (hw _ (List.mem_of_getElem? (i := 3) rfl)) (hw _ (List.mem_of_getElem? (i := 4) rfl)) (hw _ (List.mem_of_getElem? (i := 2) rfl)) (hw _ (List.mem_of_getElem? (i := 5) rfl)) (by decide) rfl (own_nc l Z a0 hw b198 h197 n0 X.sz F_section_b198 F_template_b198 F_id_b198 F_reason_b198 A_b198 (by omega)) (fun _ _ q => q.1.1) rfl own_pd17 rfl rfl rfl (by decide) (Nat.le_of_ble_eq_true rfl) (by decide) (by decide) ?_
      rintro v17 T h199 X ⟨K_, rfl⟩
      have zs_h199 : h197.size ≤ h199.size := K_.1
      have OL := OL.keep K_ (allS (by omega) all0)
      have A_b198 := A_b198.keep K_
      show own_Ends p e below _ (T.setTop (mkF m 20 #[.val (.int pa), .val (.int pb), .val (.int pc), .val (.int (3 : Int32)), .val (.int (2 : Int32)), .unset, .unset, .unset, .unset, .unset, .unset] [(.ref b198)]))
      refine own_astore X 22 #[.val (.int pa), .val (.int pb), .val (.int pc), .val (.int (3 : Int32)), .val (.int (2 : Int32)), .val (.ref b198), .unset, .unset, .unset, .unset, .unset] at_20 rfl rfl rfl ?_
      refine own_new X 25 at_22 rfl (hw _ (List.mem_of_getElem? (i := 22) rfl)) (hw _ (List.mem_of_getElem? (i := 23) rfl)) (hw _ (List.mem_of_getElem? (i := 24) rfl)) (by decide) (by decide) ?_
      intro T h200 b201 g_b201 X E_h200 A_b201 D_b201
      have zs_h200 : h199.size ≤ h200.size := E_h200.1
      have OL := OL.ext E_h200
      have A_b198 := Exa.ext E_h200 A_b198
      have lo_b201 : h199.size ≤ b201 := Nat.le_of_eq g_b201.symm
      have hi_b201 : h200.size > b201 := A_b201.lt
      have F_modCount_b201 : Fld Z h200 b201 "java/util/AbstractList" "modCount" "I" (.int (0 : Int32)) := D_b201 (Or.inl (hw _ (List.mem_of_getElem? (i := 42) rfl))) (ty := .int) (by decide)
      have F_elementData_b201 : Fld Z h200 b201 "java/util/ArrayList" "elementData" "[Ljava/lang/Object;" .null := D_b201 (Or.inl (hw _ (List.mem_of_getElem? (i := 45) rfl))) (ty := (.array (.object "java/lang/Object"))) (by decide)
      have F_size_b201 : Fld Z h200 b201 "java/util/ArrayList" "size" "I" (.int (0 : Int32)) := D_b201 (Or.inl (hw _ (List.mem_of_getElem? (i := 58) rfl))) (ty := .int) (by decide)
      refine own_dup X 26 at_25 rfl rfl ?_
      refine own_init X 29 [] [(.ref b201)] at_26 rfl (hw _ (List.mem_of_getElem? (i := 25) rfl)) (hw _ (List.mem_of_getElem? (i := 26) rfl)) (hw _ (List.mem_of_getElem? (i := 24) rfl)) (hw _ (List.mem_of_getElem? (i := 27) rfl)) (by decide) rfl (own_alinit l Z a0 hw b201 de h200 n0 X.sz OL z_de F_modCount_b201 F_size_b201 F_elementData_b201 A_b201 (by omega)) (fun _ _ q => q.1.1) rfl own_pd0 rfl rfl rfl (by decide) (Nat.le_of_ble_eq_true rfl) (by decide) (by decide) ?_
      rintro v26 T h202 X ⟨K_, rfl, Fm_, Fs_, Fe_⟩
      have zs_h202 : h200.size ≤ h202.size := K_.1
      have OL := OL.keep K_ (allS (by omega) all0)
      have A_b198 := A_b198.keep K_
      have A_b201 := A_b201.keep K_
      have F_modCount_b201 := Fm_
      have F_size_b201 := Fs_
      have F_elementData_b201 := Fe_
      show own_Ends p e below _ (T.setTop (mkF m 29 #[.val (.int pa), .val (.int pb), .val (.int pc), .val (.int (3 : Int32)), .val (.int (2 : Int32)), .val (.ref b198), .unset, .unset, .unset, .unset, .unset] [(.ref b201)]))
      refine own_astore X 31 #[.val (.int pa), .val (.int pb), .val (.int pc), .val (.int (3 : Int32)), .val (.int (2 : Int32)), .val (.ref b198), .val (.ref b201), .unset, .unset, .unset, .unset] at_29 rfl rfl rfl ?_
      refine own_aload X 33 (.ref b201) at_31 rfl rfl rfl ?_
      refine own_aload X 35 (.ref b198) at_33 rfl rfl rfl ?_
      refine own_iloadN X 36 (3 : Int32) at_35 rfl rfl ?_
      refine own_callS X 39 [(.ref b201), (.ref b198), (.int (3 : Int32))] [] at_36 rfl (hw _ (List.mem_of_getElem? (i := 46) rfl)) (hw _ (List.mem_of_getElem? (i := 47) rfl)) (hw _ (List.mem_of_getElem? (i := 48) rfl)) (hw _ (List.mem_of_getElem? (i := 49) rfl)) (by decide) (own_upto_0_3 l Z a0 hw b201 b198 (3 : Int32) de kd 0 h202 n0 X.sz OL z_de z_dA F_modCount_b201 F_size_b201 F_elementData_b201 A_b201 (by omega) (Ins.of_exa A_b198 (hw _ (List.mem_of_getElem? (i := 80) rfl))) (by omega) (by show @Ne Nat _ _; omega) rfl) (fun _ _ q => q.1.1) rfl own_pd18 rfl rfl rfl (by decide) (Nat.le_of_ble_eq_true rfl) (by decide) (by decide) ?_
      rintro v36 T h204 X ⟨K_, rfl, Fm_, Fs_, b203, ka_b203, Fe_, lo_b203, hi_b203, A_b203, O_b203, C_b203⟩
      have zs_h204 : h202.size ≤ h204.size := K_.1
      have OL := OL.keep K_ (allS (by omega) all0)
      have A_b198 := A_b198.keep K_
      have A_b201 := A_b201.keep K_
      have F_modCount_b201 := Fm_
      have F_size_b201 := Fs_
      have F_elementData_b201 := Fe_
      show own_Ends p e below _ (T.setTop (mkF m 39 #[.val (.int pa), .val (.int pb), .val (.int pc), .val (.int (3 : Int32)), .val (.int (2 : Int32)), .val (.ref b198), .val (.ref b201), .unset, .unset, .unset, .unset] []))
      refine own_new X 42 at_39 rfl (hw _ (List.mem_of_getElem? (i := 81) rfl)) (hw _ (List.mem_of_getElem? (i := 82) rfl)) (hw _ (List.mem_of_getElem? (i := 83) rfl)) (by decide) (by decide) ?_
      intro T h205 b206 g_b206 X E_h205 A_b206 D_b206
      have zs_h205 : h204.size ≤ h205.size := E_h205.1
      have OL := OL.ext E_h205
      have A_b198 := Exa.ext E_h205 A_b198
      have A_b201 := Exa.ext E_h205 A_b201
      have F_modCount_b201 := Fld.ext E_h205 F_modCount_b201
      have F_size_b201 := Fld.ext E_h205 F_size_b201
      have F_elementData_b201 := Fld.ext E_h205 F_elementData_b201
      have A_b203 := A_b203.ext E_h205
      have C_b203 := Exa.ext E_h205 C_b203
      have lo_b206 : h204.size ≤ b206 := Nat.le_of_eq g_b206.symm
      have hi_b206 : h205.size > b206 := A_b206.lt
      have F_converted_b206 : Fld Z h205 b206 "com/example/rosettine/rosettine/model/ConversionReport" "converted" "I" (.int (0 : Int32)) := D_b206 (Or.inr (hw _ (List.mem_of_getElem? (i := 177) rfl))) (ty := .int) (by decide)
      have F_notConverted_b206 : Fld Z h205 b206 "com/example/rosettine/rosettine/model/ConversionReport" "notConverted" "Ljava/util/List;" .null := D_b206 (Or.inr (hw _ (List.mem_of_getElem? (i := 179) rfl))) (ty := (.object "java/util/List")) (by decide)
      refine own_dup X 43 at_42 rfl rfl ?_
      refine own_iloadN X 44 pa at_43 rfl rfl ?_
      refine own_aload X 46 (.ref b201) at_44 rfl rfl rfl ?_
      refine own_init X 49 [(.int pa), (.ref b201)] [(.ref b206)] at_46 rfl (hw _ (List.mem_of_getElem? (i := 84) rfl)) (hw _ (List.mem_of_getElem? (i := 85) rfl)) (hw _ (List.mem_of_getElem? (i := 83) rfl)) (hw _ (List.mem_of_getElem? (i := 86) rfl)) (by decide) rfl (own_crini_3 l Z a0 hw b206 pa b201 de kd el ea ke em mr b198 ka_b203 b203 h205 n0 X.sz OL z_de z_dA z_el z_eE z_eF z_eA z_em z_mE hmr F_size_b201 A_b201 F_elementData_b201 A_b203 C_b203 (Ins.of_exa A_b198 (hw _ (List.mem_of_getElem? (i := 80) rfl))) (by omega) (by omega) F_converted_b206 F_notConverted_b206 A_b206 (by omega) (by show @Ne Nat _ _; omega) (by show @Ne Nat _ _; omega)) (fun _ _ q => q.1.1) rfl own_pd19 rfl rfl rfl (by decide) (Nat.le_of_ble_eq_true rfl) (by decide) (by decide) ?_
      rintro v46 T h208 X ⟨K_, rfl, Fcv_, L207, Fnc_, lo_L207, hi_L207, E_L207, c_L207, kc_L207, F_el_L207, loc_L207, hic_L207, A_L207⟩
      have zs_h208 : h205.size ≤ h208.size := K_.1
      have OL := OL.keep K_ (allS (by omega) all0)
      have A_b198 := A_b198.keep K_
      have A_b201 := A_b201.keep K_
      have F_modCount_b201 := F_modCount_b201.keep K_ (ninS (by show @Ne Nat _ _; omega) nin0)
      have F_size_b201 := F_size_b201.keep K_ (ninS (by show @Ne Nat _ _; omega) nin0)
      have F_elementData_b201 := F_elementData_b201.keep K_ (ninS (by show @Ne Nat _ _; omega) nin0)
      have A_b203 := A_b203.keep K_ (ninS (by show @Ne Nat _ _; omega) nin0)
      have C_b203 := C_b203.keep K_
      have A_b206 := A_b206.keep K_
      have F_converted_b206 := Fcv_
      have F_notConverted_b206 := Fnc_
      show own_Ends p e below _ (T.setTop (mkF m 49 #[.val (.int pa), .val (.int pb), .val (.int pc), .val (.int (3 : Int32)), .val (.int (2 : Int32)), .val (.ref b198), .val (.ref b201), .unset, .unset, .unset, .unset] [(.ref b206)]))
      refine own_astore X 51 #[.val (.int pa), .val (.int pb), .val (.int pc), .val (.int (3 : Int32)), .val (.int (2 : Int32)), .val (.ref b198), .val (.ref b201), .val (.ref b206), .unset, .unset, .unset] at_49 rfl rfl rfl ?_
      refine own_aload X 53 (.ref b206) at_51 rfl rfl rfl ?_
      refine own_callV X 56 [] [] at_53 rfl (hw _ (List.mem_of_getElem? (i := 180) rfl)) (hw _ (List.mem_of_getElem? (i := 181) rfl)) (own_nf X.2.2.2.2.1 (hw _ (List.mem_of_getElem? (i := 183) rfl))) (hw _ (List.mem_of_getElem? (i := 183) rfl)) (hw _ (List.mem_of_getElem? (i := 182) rfl)) (hw _ (List.mem_of_getElem? (i := 83) rfl)) (hw _ (List.mem_of_getElem? (i := 184) rfl)) (by decide) A_b206 (own_entries_3 l Z a0 hw b206 pa L207 em b198 c_L207 kc_L207 el ea ke h208 n0 X.sz F_converted_b206 F_notConverted_b206 OL E_L207 F_el_L207 A_L207) (fun _ _ q => Nat.le_of_eq (congrArg Array.size q.1.symm)) rfl own_pd15 rfl rfl rfl (by decide) (Nat.le_of_ble_eq_true rfl) (by decide) (by decide) ?_
      rintro v53 T h_ X ⟨eh_, rfl⟩
      rw [eh_] at X
      show own_Ends p e below _ (T.setTop (mkF m 56 #[.val (.int pa), .val (.int pb), .val (.int pc), .val (.int (3 : Int32)), .val (.int (2 : Int32)), .val (.ref b198), .val (.ref b201), .val (.ref b206), .unset, .unset, .unset] [(.int (pa + 3))]))
      refine own_istore X 58 #[.val (.int pa), .val (.int pb), .val (.int pc), .val (.int (3 : Int32)), .val (.int (2 : Int32)), .val (.ref b198), .val (.ref b201), .val (.ref b206), .val (.int (pa + 3)), .unset, .unset] at_56 rfl rfl ?_
      refine own_aload X 60 (.ref b201) at_58 rfl rfl rfl ?_
      refine own_aload X 62 (.ref b198) at_60 rfl rfl rfl ?_
      refine own_iload X 64 (2 : Int32) at_62 rfl rfl ?_
      refine own_callS X 67 [(.ref b201), (.ref b198), (.int (2 : Int32))] [] at_64 rfl (hw _ (List.mem_of_getElem? (i := 46) rfl)) (hw _ (List.mem_of_getElem? (i := 47) rfl)) (hw _ (List.mem_of_getElem? (i := 48) rfl)) (hw _ (List.mem_of_getElem? (i := 49) rfl)) (by decide) (own_upto_3_2 l Z a0 hw b201 b198 (2 : Int32) de kd (((0 + 1) + 1) + 1) b203 ka_b203 h208 n0 X.sz OL z_de z_dA F_modCount_b201 F_size_b201 F_elementData_b201 A_b201 (by omega) A_b203 O_b203 C_b203 (by omega) (by show @Ne Nat _ _; omega) (Ins.of_exa A_b198 (hw _ (List.mem_of_getElem? (i := 80) rfl))) (by omega) (by show @Ne Nat _ _; omega) (by show @Ne Nat _ _; omega) rfl) (fun _ _ q => q.1.1) rfl own_pd18 rfl rfl rfl (by decide) (Nat.le_of_ble_eq_true rfl) (by decide) (by decide) ?_
      rintro v64 T h210 X ⟨K_, rfl, Fm_, Fs_, Fe_, A2_⟩
      have zs_h210 : h208.size ≤ h210.size := K_.1
      have OL := OL.keep K_ (allS (by omega) (allS (by omega) all0))
      have A_b198 := A_b198.keep K_
      have A_b201 := A_b201.keep K_
      have C_b203 := C_b203.keep K_
      have A_b206 := A_b206.keep K_
      have F_converted_b206 := F_converted_b206.keep K_ (ninS (by show @Ne Nat _ _; omega) (ninS (by show @Ne Nat _ _; omega) nin0))
      have F_notConverted_b206 := F_notConverted_b206.keep K_ (ninS (by show @Ne Nat _ _; omega) (ninS (by show @Ne Nat _ _; omega) nin0))
      have E_L207 := E_L207.keep K_
      have F_el_L207 := F_el_L207.keep K_ (ninS (by show @Ne Nat _ _; omega) (ninS (by show @Ne Nat _ _; omega) nin0))
      have A_L207 := A_L207.keep K_ (ninS (by show @Ne Nat _ _; omega) (ninS (by show @Ne Nat _ _; omega) nin0))
      have F_modCount_b201 := Fm_
      have F_size_b201 := Fs_
      have F_elementData_b201 := Fe_
      have A_b203 := A2_
      show own_Ends p e below _ (T.setTop (mkF m 67 #[.val (.int pa), .val (.int pb), .val (.int pc), .val (.int (3 : Int32)), .val (.int (2 : Int32)), .val (.ref b198), .val (.ref b201), .val (.ref b206), .val (.int (pa + 3)), .unset, .unset] []))
      refine own_aload X 69 (.ref b206) at_67 rfl rfl rfl ?_
      refine own_callV X 72 [] [] at_69 rfl (hw _ (List.mem_of_getElem? (i := 180) rfl)) (hw _ (List.mem_of_getElem? (i := 181) rfl)) (own_nf X.2.2.2.2.1 (hw _ (List.mem_of_getElem? (i := 183) rfl))) (hw _ (List.mem_of_getElem? (i := 183) rfl)) (hw _ (List.mem_of_getElem? (i := 182) rfl)) (hw _ (List.mem_of_getElem? (i := 83) rfl)) (hw _ (List.mem_of_getElem? (i := 184) rfl)) (by decide) A_b206 (own_entries_3 l Z a0 hw b206 pa L207 em b198 c_L207 kc_L207 el ea ke h210 n0 X.sz F_converted_b206 F_notConverted_b206 OL E_L207 F_el_L207 A_L207) (fun _ _ q => Nat.le_of_eq (congrArg Array.size q.1.symm)) rfl own_pd15 rfl rfl rfl (by decide) (Nat.le_of_ble_eq_true rfl) (by decide) (by decide) ?_
      rintro v69 T h_ X ⟨eh_, rfl⟩
      rw [eh_] at X
      show own_Ends p e below _ (T.setTop (mkF m 72 #[.val (.int pa), .val (.int pb), .val (.int pc), .val (.int (3 : Int32)), .val (.int (2 : Int32)), .val (.ref b198), .val (.ref b201), .val (.ref b206), .val (.int (pa + 3)), .unset, .unset] [(.int (pa + 3))]))
      refine own_istore X 74 #[.val (.int pa), .val (.int pb), .val (.int pc), .val (.int (3 : Int32)), .val (.int (2 : Int32)), .val (.ref b198), .val (.ref b201), .val (.ref b206), .val (.int (pa + 3)), .val (.int (pa + 3)), .unset] at_72 rfl rfl ?_
      refine own_iloadN X 75 pa at_74 rfl rfl ?_
      refine own_iloadN X 76 (3 : Int32) at_75 rfl rfl ?_
      refine own_iadd X 77 at_76 rfl ?_
      refine own_istore X 79 #[.val (.int pa), .val (.int pb), .val (.int pc), .val (.int (3 : Int32)), .val (.int (2 : Int32)), .val (.ref b198), .val (.ref b201), .val (.ref b206), .val (.int (pa + 3)), .val (.int (pa + 3)), .val (.int (pa + (3 : Int32)))] at_77 rfl rfl ?_
      refine own_iload X 81 (pa + 3) at_79 rfl rfl ?_
      refine own_iload X 83 (pa + (3 : Int32)) at_81 rfl rfl ?_
      refine own_icN X 86 at_83 rfl (XT.ii_ne_f rfl) ?_
      refine own_iload X 88 (pa + 3) at_86 rfl rfl ?_
      refine own_iload X 90 (pa + (3 : Int32)) at_88 rfl rfl ?_
      refine own_icN X 93 at_90 rfl (XT.ii_ne_f rfl) ?_
      refine own_iconst X 94 (1 : Int32) at_93 rfl rfl ?_
      refine own_goto X 98 at_94 (by decide) (by decide) ?_
      exact own_retN X .boolean at_98 rfl (by simp) (by decide) (by decide) (by decide)
    · rw [hm_]
      refine own_new X 12 at_9 rfl (hw _ (List.mem_of_getElem? (i := 0) rfl)) (hw _ (List.mem_of_getElem? (i := 1) rfl)) (hw _ (List.mem_of_getElem? (i := 2) rfl)) (by decide) (by decide) ?_
      intro T h211 b212 g_b212 X E_h211 A_b212 D_b212
      have zs_h211 : h0.size ≤ h211.size := E_h211.1
      have OL := OL.ext E_h211
      have lo_b212 : h0.size ≤ b212 := Nat.le_of_eq g_b212.symm
      have hi_b212 : h211.size > b212 := A_b212.lt
      have F_section_b212 : Fld Z h211 b212 "com/example/rosettine/rosettine/model/ConversionReport$NotConverted" "section" "Ljava/util/Optional;" .null := D_b212 (Or.inr (hw _ (List.mem_of_getElem? (i := 15) rfl))) (ty := (.object "java/util/Optional")) (by decide)
      have F_template_b212 : Fld Z h211 b212 "com/example/rosettine/rosettine/model/ConversionReport$NotConverted" "template" "Ljava/util/Optional;" .null := D_b212 (Or.inr (hw _ (List.mem_of_getElem? (i := 17) rfl))) (ty := (.object "java/util/Optional")) (by decide)
      have F_id_b212 : Fld Z h211 b212 "com/example/rosettine/rosettine/model/ConversionReport$NotConverted" "id" "Ljava/util/Optional;" .null := D_b212 (Or.inr (hw _ (List.mem_of_getElem? (i := 19) rfl))) (ty := (.object "java/util/Optional")) (by decide)
      have F_reason_b212 : Fld Z h211 b212 "com/example/rosettine/rosettine/model/ConversionReport$NotConverted" "reason" "Ljava/lang/String;" .null := D_b212 (Or.inr (hw _ (List.mem_of_getElem? (i := 21) rfl))) (ty := (.object "java/lang/String")) (by decide)
      refine own_dup X 13 at_12 rfl rfl ?_
      refine own_anull X 14 at_13 rfl ?_
      refine own_anull X 15 at_14 rfl ?_
      refine own_anull X 16 at_15 rfl ?_
      refine own_anull X 17 at_16 rfl ?_
      refine own_init X 20 [.null, .null, .null, .null] [(.ref b212)] at_17 rfl (hw _ (List.mem_of_getElem? (i := 3) rfl)) (hw _ (List.mem_of_getElem? (i := 4) rfl)) (hw _ (List.mem_of_getElem? (i := 2) rfl)) (hw _ (List.mem_of_getElem? (i := 5) rfl)) (by decide) rfl (own_nc l Z a0 hw b212 h211 n0 X.sz F_section_b212 F_template_b212 F_id_b212 F_reason_b212 A_b212 (by omega)) (fun _ _ q => q.1.1) rfl own_pd17 rfl rfl rfl (by decide) (Nat.le_of_ble_eq_true rfl) (by decide) (by decide) ?_
      rintro v17 T h213 X ⟨K_, rfl⟩
      have zs_h213 : h211.size ≤ h213.size := K_.1
      have OL := OL.keep K_ (allS (by omega) all0)
      have A_b212 := A_b212.keep K_
      show own_Ends p e below _ (T.setTop (mkF m 20 #[.val (.int pa), .val (.int pb), .val (.int pc), .val (.int (3 : Int32)), .val (.int (3 : Int32)), .unset, .unset, .unset, .unset, .unset, .unset] [(.ref b212)]))
      refine own_astore X 22 #[.val (.int pa), .val (.int pb), .val (.int pc), .val (.int (3 : Int32)), .val (.int (3 : Int32)), .val (.ref b212), .unset, .unset, .unset, .unset, .unset] at_20 rfl rfl rfl ?_
      refine own_new X 25 at_22 rfl (hw _ (List.mem_of_getElem? (i := 22) rfl)) (hw _ (List.mem_of_getElem? (i := 23) rfl)) (hw _ (List.mem_of_getElem? (i := 24) rfl)) (by decide) (by decide) ?_
      intro T h214 b215 g_b215 X E_h214 A_b215 D_b215
      have zs_h214 : h213.size ≤ h214.size := E_h214.1
      have OL := OL.ext E_h214
      have A_b212 := Exa.ext E_h214 A_b212
      have lo_b215 : h213.size ≤ b215 := Nat.le_of_eq g_b215.symm
      have hi_b215 : h214.size > b215 := A_b215.lt
      have F_modCount_b215 : Fld Z h214 b215 "java/util/AbstractList" "modCount" "I" (.int (0 : Int32)) := D_b215 (Or.inl (hw _ (List.mem_of_getElem? (i := 42) rfl))) (ty := .int) (by decide)
      have F_elementData_b215 : Fld Z h214 b215 "java/util/ArrayList" "elementData" "[Ljava/lang/Object;" .null := D_b215 (Or.inl (hw _ (List.mem_of_getElem? (i := 45) rfl))) (ty := (.array (.object "java/lang/Object"))) (by decide)
      have F_size_b215 : Fld Z h214 b215 "java/util/ArrayList" "size" "I" (.int (0 : Int32)) := D_b215 (Or.inl (hw _ (List.mem_of_getElem? (i := 58) rfl))) (ty := .int) (by decide)
      refine own_dup X 26 at_25 rfl rfl ?_
      refine own_init X 29 [] [(.ref b215)] at_26 rfl (hw _ (List.mem_of_getElem? (i := 25) rfl)) (hw _ (List.mem_of_getElem? (i := 26) rfl)) (hw _ (List.mem_of_getElem? (i := 24) rfl)) (hw _ (List.mem_of_getElem? (i := 27) rfl)) (by decide) rfl (own_alinit l Z a0 hw b215 de h214 n0 X.sz OL z_de F_modCount_b215 F_size_b215 F_elementData_b215 A_b215 (by omega)) (fun _ _ q => q.1.1) rfl own_pd0 rfl rfl rfl (by decide) (Nat.le_of_ble_eq_true rfl) (by decide) (by decide) ?_
      rintro v26 T h216 X ⟨K_, rfl, Fm_, Fs_, Fe_⟩
      have zs_h216 : h214.size ≤ h216.size := K_.1
      have OL := OL.keep K_ (allS (by omega) all0)
      have A_b212 := A_b212.keep K_
      have A_b215 := A_b215.keep K_
      have F_modCount_b215 := Fm_
      have F_size_b215 := Fs_
      have F_elementData_b215 := Fe_
      show own_Ends p e below _ (T.setTop (mkF m 29 #[.val (.int pa), .val (.int pb), .val (.int pc), .val (.int (3 : Int32)), .val (.int (3 : Int32)), .val (.ref b212), .unset, .unset, .unset, .unset, .unset] [(.ref b215)]))
      refine own_astore X 31 #[.val (.int pa), .val (.int pb), .val (.int pc), .val (.int (3 : Int32)), .val (.int (3 : Int32)), .val (.ref b212), .val (.ref b215), .unset, .unset, .unset, .unset] at_29 rfl rfl rfl ?_
      refine own_aload X 33 (.ref b215) at_31 rfl rfl rfl ?_
      refine own_aload X 35 (.ref b212) at_33 rfl rfl rfl ?_
      refine own_iloadN X 36 (3 : Int32) at_35 rfl rfl ?_
      refine own_callS X 39 [(.ref b215), (.ref b212), (.int (3 : Int32))] [] at_36 rfl (hw _ (List.mem_of_getElem? (i := 46) rfl)) (hw _ (List.mem_of_getElem? (i := 47) rfl)) (hw _ (List.mem_of_getElem? (i := 48) rfl)) (hw _ (List.mem_of_getElem? (i := 49) rfl)) (by decide) (own_upto_0_3 l Z a0 hw b215 b212 (3 : Int32) de kd 0 h216 n0 X.sz OL z_de z_dA F_modCount_b215 F_size_b215 F_elementData_b215 A_b215 (by omega) (Ins.of_exa A_b212 (hw _ (List.mem_of_getElem? (i := 80) rfl))) (by omega) (by show @Ne Nat _ _; omega) rfl) (fun _ _ q => q.1.1) rfl own_pd18 rfl rfl rfl (by decide) (Nat.le_of_ble_eq_true rfl) (by decide) (by decide) ?_
      rintro v36 T h218 X ⟨K_, rfl, Fm_, Fs_, b217, ka_b217, Fe_, lo_b217, hi_b217, A_b217, O_b217, C_b217⟩
      have zs_h218 : h216.size ≤ h218.size := K_.1
      have OL := OL.keep K_ (allS (by omega) all0)
      have A_b212 := A_b212.keep K_
      have A_b215 := A_b215.keep K_
      have F_modCount_b215 := Fm_
      have F_size_b215 := Fs_
      have F_elementData_b215 := Fe_
      show own_Ends p e below _ (T.setTop (mkF m 39 #[.val (.int pa), .val (.int pb), .val (.int pc), .val (.int (3 : Int32)), .val (.int (3 : Int32)), .val (.ref b212), .val (.ref b215), .unset, .unset, .unset, .unset] []))
      refine own_new X 42 at_39 rfl (hw _ (List.mem_of_getElem? (i := 81) rfl)) (hw _ (List.mem_of_getElem? (i := 82) rfl)) (hw _ (List.mem_of_getElem? (i := 83) rfl)) (by decide) (by decide) ?_
      intro T h219 b220 g_b220 X E_h219 A_b220 D_b220
      have zs_h219 : h218.size ≤ h219.size := E_h219.1
      have OL := OL.ext E_h219
      have A_b212 := Exa.ext E_h219 A_b212
      have A_b215 := Exa.ext E_h219 A_b215
      have F_modCount_b215 := Fld.ext E_h219 F_modCount_b215
      have F_size_b215 := Fld.ext E_h219 F_size_b215
      have F_elementData_b215 := Fld.ext E_h219 F_elementData_b215
      have A_b217 := A_b217.ext E_h219
      have C_b217 := Exa.ext E_h219 C_b217
      have lo_b220 : h218.size ≤ b220 := Nat.le_of_eq g_b220.symm
      have hi_b220 : h219.size > b220 := A_b220.lt
      have F_converted_b220 : Fld Z h219 b220 "com/example/rosettine/rosettine/model/ConversionReport" "converted" "I" (.int (0 : Int32)) := D_b220 (Or.inr (hw _ (List.mem_of_getElem? (i := 177) rfl))) (ty := .int) (by decide)
      have F_notConverted_b220 : Fld Z h219 b220 "com/example/rosettine/rosettine/model/ConversionReport" "notConverted" "Ljava/util/List;" .null := D_b220 (Or.inr (hw _ (List.mem_of_getElem? (i := 179) rfl))) (ty := (.object "java/util/List")) (by decide)
      refine own_dup X 43 at_42 rfl rfl ?_
      refine own_iloadN X 44 pa at_43 rfl rfl ?_
      refine own_aload X 46 (.ref b215) at_44 rfl rfl rfl ?_
      refine own_init X 49 [(.int pa), (.ref b215)] [(.ref b220)] at_46 rfl (hw _ (List.mem_of_getElem? (i := 84) rfl)) (hw _ (List.mem_of_getElem? (i := 85) rfl)) (hw _ (List.mem_of_getElem? (i := 83) rfl)) (hw _ (List.mem_of_getElem? (i := 86) rfl)) (by decide) rfl (own_crini_3 l Z a0 hw b220 pa b215 de kd el ea ke em mr b212 ka_b217 b217 h219 n0 X.sz OL z_de z_dA z_el z_eE z_eF z_eA z_em z_mE hmr F_size_b215 A_b215 F_elementData_b215 A_b217 C_b217 (Ins.of_exa A_b212 (hw _ (List.mem_of_getElem? (i := 80) rfl))) (by omega) (by omega) F_converted_b220 F_notConverted_b220 A_b220 (by omega) (by show @Ne Nat _ _; omega) (by show @Ne Nat _ _; omega)) (fun _ _ q => q.1.1) rfl own_pd19 rfl rfl rfl (by decide) (Nat.le_of_ble_eq_true rfl) (by decide) (by decide) ?_
      rintro v46 T h222 X ⟨K_, rfl, Fcv_, L221, Fnc_, lo_L221, hi_L221, E_L221, c_L221, kc_L221, F_el_L221, loc_L221, hic_L221, A_L221⟩
      have zs_h222 : h219.size ≤ h222.size := K_.1
      have OL := OL.keep K_ (allS (by omega) all0)
      have A_b212 := A_b212.keep K_
      have A_b215 := A_b215.keep K_
      have F_modCount_b215 := F_modCount_b215.keep K_ (ninS (by show @Ne Nat _ _; omega) nin0)
      have F_size_b215 := F_size_b215.keep K_ (ninS (by show @Ne Nat _ _; omega) nin0)
      have F_elementData_b215 := F_elementData_b215.keep K_ (ninS (by show @Ne Nat _ _; omega) nin0)
      have A_b217 := A_b217.keep K_ (ninS (by show @Ne Nat _ _; omega) nin0)
      have C_b217 := C_b217.keep K_
      have A_b220 := A_b220.keep K_
      have F_converted_b220 := Fcv_
      have F_notConverted_b220 := Fnc_
      show own_Ends p e below _ (T.setTop (mkF m 49 #[.val (.int pa), .val (.int pb), .val (.int pc), .val (.int (3 : Int32)), .val (.int (3 : Int32)), .val (.ref b212), .val (.ref b215), .unset, .unset, .unset, .unset] [(.ref b220)]))
      refine own_astore X 51 #[.val (.int pa), .val (.int pb), .val (.int pc), .val (.int (3 : Int32)), .val (.int (3 : Int32)), .val (.ref b212), .val (.ref b215), .val (.ref b220), .unset, .unset, .unset] at_49 rfl rfl rfl ?_
      refine own_aload X 53 (.ref b220) at_51 rfl rfl rfl ?_
      refine own_callV X 56 [] [] at_53 rfl (hw _ (List.mem_of_getElem? (i := 180) rfl)) (hw _ (List.mem_of_getElem? (i := 181) rfl)) (own_nf X.2.2.2.2.1 (hw _ (List.mem_of_getElem? (i := 183) rfl))) (hw _ (List.mem_of_getElem? (i := 183) rfl)) (hw _ (List.mem_of_getElem? (i := 182) rfl)) (hw _ (List.mem_of_getElem? (i := 83) rfl)) (hw _ (List.mem_of_getElem? (i := 184) rfl)) (by decide) A_b220 (own_entries_3 l Z a0 hw b220 pa L221 em b212 c_L221 kc_L221 el ea ke h222 n0 X.sz F_converted_b220 F_notConverted_b220 OL E_L221 F_el_L221 A_L221) (fun _ _ q => Nat.le_of_eq (congrArg Array.size q.1.symm)) rfl own_pd15 rfl rfl rfl (by decide) (Nat.le_of_ble_eq_true rfl) (by decide) (by decide) ?_
      rintro v53 T h_ X ⟨eh_, rfl⟩
      rw [eh_] at X
      show own_Ends p e below _ (T.setTop (mkF m 56 #[.val (.int pa), .val (.int pb), .val (.int pc), .val (.int (3 : Int32)), .val (.int (3 : Int32)), .val (.ref b212), .val (.ref b215), .val (.ref b220), .unset, .unset, .unset] [(.int (pa + 3))]))
      refine own_istore X 58 #[.val (.int pa), .val (.int pb), .val (.int pc), .val (.int (3 : Int32)), .val (.int (3 : Int32)), .val (.ref b212), .val (.ref b215), .val (.ref b220), .val (.int (pa + 3)), .unset, .unset] at_56 rfl rfl ?_
      refine own_aload X 60 (.ref b215) at_58 rfl rfl rfl ?_
      refine own_aload X 62 (.ref b212) at_60 rfl rfl rfl ?_
      refine own_iload X 64 (3 : Int32) at_62 rfl rfl ?_
      refine own_callS X 67 [(.ref b215), (.ref b212), (.int (3 : Int32))] [] at_64 rfl (hw _ (List.mem_of_getElem? (i := 46) rfl)) (hw _ (List.mem_of_getElem? (i := 47) rfl)) (hw _ (List.mem_of_getElem? (i := 48) rfl)) (hw _ (List.mem_of_getElem? (i := 49) rfl)) (by decide) (own_upto_3_3 l Z a0 hw b215 b212 (3 : Int32) de kd (((0 + 1) + 1) + 1) b217 ka_b217 h222 n0 X.sz OL z_de z_dA F_modCount_b215 F_size_b215 F_elementData_b215 A_b215 (by omega) A_b217 O_b217 C_b217 (by omega) (by show @Ne Nat _ _; omega) (Ins.of_exa A_b212 (hw _ (List.mem_of_getElem? (i := 80) rfl))) (by omega) (by show @Ne Nat _ _; omega) (by show @Ne Nat _ _; omega) rfl) (fun _ _ q => q.1.1) rfl own_pd18 rfl rfl rfl (by decide) (Nat.le_of_ble_eq_true rfl) (by decide) (by decide) ?_
      rintro v64 T h224 X ⟨K_, rfl, Fm_, Fs_, Fe_, A2_⟩
      have zs_h224 : h222.size ≤ h224.size := K_.1
      have OL := OL.keep K_ (allS (by omega) (allS (by omega) all0))
      have A_b212 := A_b212.keep K_
      have A_b215 := A_b215.keep K_
      have C_b217 := C_b217.keep K_
      have A_b220 := A_b220.keep K_
      have F_converted_b220 := F_converted_b220.keep K_ (ninS (by show @Ne Nat _ _; omega) (ninS (by show @Ne Nat _ _; omega) nin0))
      have F_notConverted_b220 := F_notConverted_b220.keep K_ (ninS (by show @Ne Nat _ _; omega) (ninS (by show @Ne Nat _ _; omega) nin0))
      have E_L221 := E_L221.keep K_
      have F_el_L221 := F_el_L221.keep K_ (ninS (by show @Ne Nat _ _; omega) (ninS (by show @Ne Nat _ _; omega) nin0))
      have A_L221 := A_L221.keep K_ (ninS (by show @Ne Nat _ _; omega) (ninS (by show @Ne Nat _ _; omega) nin0))
      have F_modCount_b215 := Fm_
      have F_size_b215 := Fs_
      have F_elementData_b215 := Fe_
      have A_b217 := A2_
      show own_Ends p e below _ (T.setTop (mkF m 67 #[.val (.int pa), .val (.int pb), .val (.int pc), .val (.int (3 : Int32)), .val (.int (3 : Int32)), .val (.ref b212), .val (.ref b215), .val (.ref b220), .val (.int (pa + 3)), .unset, .unset] []))
      refine own_aload X 69 (.ref b220) at_67 rfl rfl rfl ?_
      refine own_callV X 72 [] [] at_69 rfl (hw _ (List.mem_of_getElem? (i := 180) rfl)) (hw _ (List.mem_of_getElem? (i := 181) rfl)) (own_nf X.2.2.2.2.1 (hw _ (List.mem_of_getElem? (i := 183) rfl))) (hw _ (List.mem_of_getElem? (i := 183) rfl)) (hw _ (List.mem_of_getElem? (i := 182) rfl)) (hw _ (List.mem_of_getElem? (i := 83) rfl)) (hw _ (List.mem_of_getElem? (i := 184) rfl)) (by decide) A_b220 (own_entries_3 l Z a0 hw b220 pa L221 em b212 c_L221 kc_L221 el ea ke h224 n0 X.sz F_converted_b220 F_notConverted_b220 OL E_L221 F_el_L221 A_L221) (fun _ _ q => Nat.le_of_eq (congrArg Array.size q.1.symm)) rfl own_pd15 rfl rfl rfl (by decide) (Nat.le_of_ble_eq_true rfl) (by decide) (by decide) ?_
      rintro v69 T h_ X ⟨eh_, rfl⟩
      rw [eh_] at X
      show own_Ends p e below _ (T.setTop (mkF m 72 #[.val (.int pa), .val (.int pb), .val (.int pc), .val (.int (3 : Int32)), .val (.int (3 : Int32)), .val (.ref b212), .val (.ref b215), .val (.ref b220), .val (.int (pa + 3)), .unset, .unset] [(.int (pa + 3))]))
      refine own_istore X 74 #[.val (.int pa), .val (.int pb), .val (.int pc), .val (.int (3 : Int32)), .val (.int (3 : Int32)), .val (.ref b212), .val (.ref b215), .val (.ref b220), .val (.int (pa + 3)), .val (.int (pa + 3)), .unset] at_72 rfl rfl ?_
      refine own_iloadN X 75 pa at_74 rfl rfl ?_
      refine own_iloadN X 76 (3 : Int32) at_75 rfl rfl ?_
      refine own_iadd X 77 at_76 rfl ?_
      refine own_istore X 79 #[.val (.int pa), .val (.int pb), .val (.int pc), .val (.int (3 : Int32)), .val (.int (3 : Int32)), .val (.ref b212), .val (.ref b215), .val (.ref b220), .val (.int (pa + 3)), .val (.int (pa + 3)), .val (.int (pa + (3 : Int32)))] at_77 rfl rfl ?_
      refine own_iload X 81 (pa + 3) at_79 rfl rfl ?_
      refine own_iload X 83 (pa + (3 : Int32)) at_81 rfl rfl ?_
      refine own_icN X 86 at_83 rfl (XT.ii_ne_f rfl) ?_
      refine own_iload X 88 (pa + 3) at_86 rfl rfl ?_
      refine own_iload X 90 (pa + (3 : Int32)) at_88 rfl rfl ?_
      refine own_icN X 93 at_90 rfl (XT.ii_ne_f rfl) ?_
      refine own_iconst X 94 (1 : Int32) at_93 rfl rfl ?_
      refine own_goto X 98 at_94 (by decide) (by decide) ?_
      exact own_retN X .boolean at_98 rfl (by simp) (by decide) (by decide) (by decide)
set_option maxRecDepth 65536 in
set_option maxHeartbeats 40000000 in
theorem comes_1 {Post : Tables → Env → Array Value → State → Outcome → State → Prop} (hpost : ∀ tb e args s v u, (limb_1_1.after args s (.returned v) u = true ∧ limb_1_2.after args s (.returned v) u = true ∧ True) → FrameEnd s (.returned v) u (Jvm.fieldLocs frame_1_writes args s ++ Jvm.arrayLocs frame_1_arrays args s ++ Jvm.staticLocs frame_1_statics s) 24 128 → Post tb e args s (.returned v) u) :
    ArmFor flags0 classFile x code maxLocals ret World_1 tables_1 room_1 Calls_1 rest_1 Pre_1 Post := by
  intro l hfl _ _ p e ha hc hk s m args below hf hA hF happ hP
  obtain ⟨hcalls, hrest, hpre⟩ := hP
  obtain ⟨-, -, -, hnamed, -, -, -, hat⟩ := (Spec.applies_iff hf).mp happ
  obtain ⟨hg, hn⟩ := and_e (Cond.before_iff.mp (show (Jvm.Cond.and given_1 narrow_1).before args s = true from hpre))
  obtain ⟨hcount, hg0⟩ := and_e hg
  obtain ⟨ha0, hg1⟩ := and_e hg0
  obtain ⟨ha1, hg2⟩ := and_e hg1
  have ha2 := hg2
  obtain ⟨w0, w1, w2, rfl⟩ : ∃ w0 w1 w2 : Value, args = #[w0, w1, w2] := by
    have hs : args.size = 3 := by simpa [Cond.value, given_1] using hcount
    obtain ⟨L⟩ := args
    match L, hs with
    | [w0, w1, w2], _ => exact ⟨w0, w1, w2, rfl⟩
  have hw := fun d (hd : d ∈ tables_1) => atoms_spec (ws := Jvm.Cond.code x code maxLocals ret :: tables_1) hat d (List.mem_cons_of_mem _ hd)
  have hfit : Fit s := fun {y c} hc i hi => by
    obtain ⟨ha, rfl⟩ := Array.getElem?_eq_some_iff.mp hc
    have q := List.all_eq_true.mp ((Array.all_eq_true_iff_forall_mem.mp hF) _ (Array.getElem_mem ha)) i (List.mem_range.mpr hi)
    simpa [Array.getElem?_eq_getElem hi] using q
  obtain ⟨hsets, hown0⟩ := atoms_of _ (rest_1_c_eq ▸ (show rest_1_c.before _ s = true from hrest))
  have hr0 := Cond.before_iff.mp hown0
  obtain ⟨i0, ei0⟩ := is_v ha0
  obtain rfl : w0 = (.int i0) := Option.some.inj ei0
  obtain ⟨i1, ei1⟩ := is_v ha1
  obtain rfl : w1 = (.int i1) := Option.some.inj ei1
  obtain ⟨i2, ei2⟩ := is_v ha2
  obtain rfl : w2 = (.int i2) := Option.some.inj ei2
  have c7 := (Cond.before_iff.mp (hsets _ (List.mem_of_getElem? (i := 7) rfl)))
  obtain ⟨de, ev⟩ := exa_v c7
  have S1 := Sta.start ev (Or.inr ⟨(hw _ (List.mem_of_getElem? (i := 24) rfl)), (hsets _ (List.mem_of_getElem? (i := 2) rfl))⟩)
  obtain ⟨kd, A1⟩ := own_A_start (vs := []) hfit ev (Cond.before_iff.mp (hsets _ (List.mem_of_getElem? (i := 6) rfl))) (Cond.before_iff.mp (hsets _ (List.mem_of_getElem? (i := 8) rfl))) (by decide) (by intro i v hi; simp at hi)
  have c11 := (Cond.before_iff.mp (hsets _ (List.mem_of_getElem? (i := 11) rfl)))
  obtain ⟨el, el1⟩ := exa_v c11
  have S2 := Sta.start el1 (Or.inl (hsets _ (List.mem_of_getElem? (i := 10) rfl)))
  have E2 := Exa.start el1 c11
  have c13 := (Cond.before_iff.mp (hsets _ (List.mem_of_getElem? (i := 13) rfl)))
  obtain ⟨ea, ea1⟩ := exa_v c13
  have F2 := Fld.start ((fld_at el1).symm.trans ea1)
  obtain ⟨ke, A2⟩ := own_A_start (vs := []) hfit ea1 (Cond.before_iff.mp (hsets _ (List.mem_of_getElem? (i := 12) rfl))) (Cond.before_iff.mp (hsets _ (List.mem_of_getElem? (i := 14) rfl))) (by decide) (by intro i v hi; simp at hi)
  have c18 := (Cond.before_iff.mp (hsets _ (List.mem_of_getElem? (i := 18) rfl)))
  obtain ⟨em, em1⟩ := exa_v c18
  have S3 := Sta.start em1 (Or.inl (hsets _ (List.mem_of_getElem? (i := 17) rfl)))
  have E3 := Exa.start em1 c18
  obtain ⟨mc_, mk_, mr, m1, m2, m3⟩ := hcalls.1
  have M1 : own_Mir s "[Ljava/lang/Object;" mr := ⟨mc_, mk_, m1, m2, m3.1⟩
  obtain ⟨n, o, h1, h2, h3, _, L, rfl, ⟨rfl, N⟩, hq⟩ := own_m0 l s _ hw i0 i1 i2 de kd el ea ke em mr s.heap s.heap.size (Nat.le_refl _) (Old.start s) S1 A1 S2 E2 F2 A2 S3 E3 M1 tables_1 p e ha hc hk s m _ below hf ((Spec.applies_iff_loose hf).mp happ).1 ⟨rfl, State.Warmed39.refl s, rfl⟩ trivial
  refine ⟨n, _, h1, h2, h3, hpost _ _ _ _ _ _ ⟨Cond.after_iff.mpr rfl, Cond.after_iff.mpr (eq_i res_at (Term.int_eval (1)) rfl), trivial⟩ ⟨hq.1, hq.2.1, (hq.2.2.sift fun y hy => Or.inr (N y hy)).mono (by decide) (by decide)⟩⟩
theorem main_1_1 : Claimed_1_1 := comes_1 fun _ _ _ _ _ _ h hF => ⟨h.1, hF⟩
theorem main_1_2 : Claimed_1_2 := comes_1 fun _ _ _ _ _ _ h hF => ⟨h.2.1, hF⟩
end Jvm.Pilot.@@N@@
namespace Jvm.Pilot.@@N@@
open Jvm Jvm.ClassFile Sem Op Lib Jvm.Free Jvm.Stand Jvm.Pilot.@@N@@.Jvm.D
/-! MADE BY PROGRAM (witnessworld.py) out of the Statement's table words and the real class files: 30 classes; the members and pool entries that the words name. The judged class is class 1, her method 2. -/
namespace start1
open Jvm.ClassFile
def u (s : String) : CpInfo := .utf8 (stringToUtf16 s)
/-- a pool by its gaps: so many unusable entries, then the entry; so many at the end -/
def gap : Nat → List CpInfo → List CpInfo
  | 0, r => r
  | n + 1, r => .unusable :: gap n r
def poolList (es : List (Nat × CpInfo)) (last : Nat) : List CpInfo := es.foldr (fun e r => gap e.1 (e.2 :: r)) (gap last [])
def pool (es : List (Nat × CpInfo)) (last : Nat) : Array CpInfo := ⟨poolList es last⟩
def fileOf (pool : Array CpInfo) (this : Nat) (attrs : Array Attribute := #[]) (ms : Array MethodInfo := #[]) (fl : Nat := 33) (sup : Nat := 0) (ifs : Array Nat := #[]) (fds : Array FieldInfo := #[]) : ClassFile where
  minorVersion := 0
  majorVersion := 65
  constantPool := pool
  accessFlags := fl
  thisClass := this
  superClass := sup
  interfaces := ifs
  fields := fds
  methods := ms
  attributes := attrs
def plain (name : String) (sup : Option ClassId) : Class where
  name := name
  kind := .ordinary
  loader := none
  accessFlags := 33
  super := sup
  interfaces := #[]
  cf := none
  fields := #[]
  methods := #[]
  instanceTypes := #[]
  staticTypes := #[]
  resolved := #[]
  callSites := []
  init := .initialized
  statics := none
  mirror := none

def pool0 : Array CpInfo := pool [(5, u "<init>"), (0, u "()V"), (1, .class_ 10), (1, u "java/lang/Object"), (0, u "getClass"), (0, u "()Ljava/lang/Class;")] 111

def k0c0 : Code := { maxStack := 0, maxLocals := 1, code := object_method_1_code, exceptionTable := #[], attributes := #[] }
def k0m0 : Method := { name := "<init>", desc := "()V", sig := { parameters := [], returnType := none }, accessFlags := 1, code := some k0c0 }
def k0m1 : Method := { name := "getClass", desc := "()Ljava/lang/Class;", sig := { parameters := [], returnType := some (.object "java/lang/Class") }, accessFlags := 273, code := none }
/-- java/lang/Object -/
def k0 : Class := { plain "java/lang/Object" none with
  accessFlags := 33
  interfaces := #[]
  cf := some (fileOf pool0 8 #[] #[{ accessFlags := 1, nameIndex := 5, descriptorIndex := 6, attributes := #[] }, { accessFlags := 273, nameIndex := 11, descriptorIndex := 12, attributes := #[] }] 33 0 #[] #[])
  fields := #[]
  methods := #[k0m0, k0m1]
  instanceTypes := #[]
  staticTypes := #[]
  resolved := Array.replicate 124 none
  statics := none }

def pool1 : Array CpInfo := pool [(2, .class_ 4), (0, .nameAndType 5 6), (0, u "java/lang/Object"), (0, u "<init>"), (0, u "()V"), (0, .methodref 8 9), (0, .class_ 10), (0, .nameAndType 11 12), (0, u "java/util/ArrayList"), (0, u "add"), (0, u "(Ljava/lang/Object;)Z"), (0, .class_ 14), (0, u "com/example/rosettine/rosettine/model/ConversionReport$NotConverted"), (0, .methodref 13 16), (0, .nameAndType 5 17), (0, u "(Ljava/util/Optional;Ljava/util/Optional;Ljava/util/Optional;Ljava/lang/String;)V"), (0, .methodref 8 3), (0, .methodref 20 21), (0, .class_ 22), (0, .nameAndType 23 24), (0, u "com/example/rosettine/rosettine/model/ConversionReportEntriesPinLaw"), (0, u "addUpTo"), (0, u "(Ljava/util/ArrayList;Lcom/example/rosettine/rosettine/model/ConversionReport$NotConverted;I)V"), (0, .class_ 26), (0, u "com/example/rosettine/rosettine/model/ConversionReport"), (0, .methodref 25 28), (0, .nameAndType 5 29), (0, u "(ILjava/util/List;)V"), (0, .methodref 25 31), (0, .nameAndType 32 33), (0, u "entries"), (0, u "()I"), (5, u "law"), (0, u "(III)Z")] 4

def k1m0 : Method := { name := "<init>", desc := "()V", sig := { parameters := [], returnType := none }, accessFlags := 1, code := none }
def k1c1 : Code := { maxStack := 2, maxLocals := 3, code := method_2_code, exceptionTable := #[], attributes := #[] }
def k1m1 : Method := { name := "addUpTo", desc := "(Ljava/util/ArrayList;Lcom/example/rosettine/rosettine/model/ConversionReport$NotConverted;I)V", sig := { parameters := [(.object "java/util/ArrayList"), (.object "com/example/rosettine/rosettine/model/ConversionReport$NotConverted"), .int], returnType := none }, accessFlags := 10, code := some k1c1 }
def k1c2 : Code := { maxStack := 6, maxLocals := 11, code := code, exceptionTable := #[], attributes := #[] }
def k1m2 : Method := { name := "law", desc := "(III)Z", sig := { parameters := [.int, .int, .int], returnType := some .boolean }, accessFlags := 9, code := some k1c2 }
/-- com/example/rosettine/rosettine/model/ConversionReportEntriesPinLaw -/
def k1 : Class := { plain "com/example/rosettine/rosettine/model/ConversionReportEntriesPinLaw" (some 0) with
  accessFlags := 49
  interfaces := #[]
  cf := some (fileOf pool1 20 #[] #[{ accessFlags := 1, nameIndex := 5, descriptorIndex := 6, attributes := #[] }, { accessFlags := 10, nameIndex := 23, descriptorIndex := 24, attributes := #[] }, { accessFlags := 9, nameIndex := 39, descriptorIndex := 40, attributes := #[] }] 49 2 #[] #[])
  fields := #[]
  methods := #[k1m0, k1m1, k1m2]
  instanceTypes := #[]
  staticTypes := #[]
  resolved := Array.replicate 45 none
  statics := none }

def pool2 : Array CpInfo := pool [(1, .methodref 2 3), (0, .class_ 4), (0, .nameAndType 5 6), (0, u "java/lang/Object"), (0, u "<init>"), (0, u "()V"), (0, .class_ 8), (0, u "java/lang/Record")] 13

def k2c0 : Code := { maxStack := 1, maxLocals := 1, code := jdk_30_method_1_code, exceptionTable := #[], attributes := #[] }
def k2m0 : Method := { name := "<init>", desc := "()V", sig := { parameters := [], returnType := none }, accessFlags := 4, code := some k2c0 }
/-- java/lang/Record -/
def k2 : Class := { plain "java/lang/Record" (some 0) with
  accessFlags := 1057
  interfaces := #[]
  cf := some (fileOf pool2 7 #[] #[{ accessFlags := 4, nameIndex := 5, descriptorIndex := 6, attributes := #[] }] 1057 2 #[] #[])
  fields := #[]
  methods := #[k2m0]
  instanceTypes := #[]
  staticTypes := #[]
  resolved := Array.replicate 22 none
  statics := none }

def pool3 : Array CpInfo := pool [(1, .methodref 2 3), (0, .class_ 4), (0, .nameAndType 5 6), (0, u "java/lang/Record"), (0, u "<init>"), (0, u "()V"), (0, .fieldref 8 9), (0, .class_ 10), (0, .nameAndType 11 12), (0, u "com/example/rosettine/rosettine/model/ConversionReport$NotConverted"), (0, u "section"), (0, u "Ljava/util/Optional;"), (0, .fieldref 8 14), (0, .nameAndType 15 12), (0, u "template"), (0, .fieldref 8 17), (0, .nameAndType 18 12), (0, u "id"), (0, .fieldref 8 20), (0, .nameAndType 21 22), (0, u "reason"), (0, u "Ljava/lang/String;"), (15, u "(Ljava/util/Optional;Ljava/util/Optional;Ljava/util/Optional;Ljava/lang/String;)V"), (13, .class_ 53), (0, u "com/example/rosettine/rosettine/model/ConversionReport")] 25

def k3c0 : Code := { maxStack := 2, maxLocals := 5, code := prog_12_method_1_code, exceptionTable := #[], attributes := #[] }
def k3m0 : Method := { name := "<init>", desc := "(Ljava/util/Optional;Ljava/util/Optional;Ljava/util/Optional;Ljava/lang/String;)V", sig := { parameters := [(.object "java/util/Optional"), (.object "java/util/Optional"), (.object "java/util/Optional"), (.object "java/lang/String")], returnType := none }, accessFlags := 1, code := some k3c0 }
/-- com/example/rosettine/rosettine/model/ConversionReport$NotConverted -/
def k3 : Class := { plain "com/example/rosettine/rosettine/model/ConversionReport$NotConverted" (some 2) with
  accessFlags := 49
  interfaces := #[]
  cf := some (fileOf pool3 8 #[.nestHost 52] #[{ accessFlags := 1, nameIndex := 5, descriptorIndex := 38, attributes := #[] }] 49 2 #[] #[{ accessFlags := 18, nameIndex := 11, descriptorIndex := 12, attributes := #[] }, { accessFlags := 18, nameIndex := 15, descriptorIndex := 12, attributes := #[] }, { accessFlags := 18, nameIndex := 18, descriptorIndex := 12, attributes := #[] }, { accessFlags := 18, nameIndex := 21, descriptorIndex := 22, attributes := #[] }])
  fields := #[{ name := "section", type := (.object "java/util/Optional"), accessFlags := 18, slot := 0, constantValue := 0 }, { name := "template", type := (.object "java/util/Optional"), accessFlags := 18, slot := 1, constantValue := 0 }, { name := "id", type := (.object "java/util/Optional"), accessFlags := 18, slot := 2, constantValue := 0 }, { name := "reason", type := (.object "java/lang/String"), accessFlags := 18, slot := 3, constantValue := 0 }]
  methods := #[k3m0]
  instanceTypes := #[(.object "java/util/Optional"), (.object "java/util/Optional"), (.object "java/util/Optional"), (.object "java/lang/String")]
  staticTypes := #[]
  resolved := Array.replicate 79 none
  statics := none }

def pool4 : Array CpInfo := pool [(8, .class_ 10), (1, u "java/lang/Iterable"), (24, .class_ 36), (0, u "java/lang/Object")] 25

/-- java/lang/Iterable -/
def k4 : Class := { plain "java/lang/Iterable" (some 0) with
  accessFlags := 1537
  interfaces := #[]
  cf := some (fileOf pool4 8 #[] #[] 1537 35 #[] #[])
  fields := #[]
  methods := #[]
  instanceTypes := #[]
  staticTypes := #[]
  resolved := Array.replicate 62 none
  statics := none }

def pool5 : Array CpInfo := pool [(10, .class_ 12), (1, u "java/util/Collection"), (0, u "toArray"), (16, u "()Z"), (29, .class_ 61), (0, u "java/lang/Object"), (0, .class_ 63), (0, u "java/lang/Iterable"), (2, u "isEmpty"), (3, u "()[Ljava/lang/Object;")] 44

def k5m0 : Method := { name := "isEmpty", desc := "()Z", sig := { parameters := [], returnType := some .boolean }, accessFlags := 1025, code := none }
def k5m1 : Method := { name := "toArray", desc := "()[Ljava/lang/Object;", sig := { parameters := [], returnType := some (.array (.object "java/lang/Object")) }, accessFlags := 1025, code := none }
/-- java/util/Collection -/
def k5 : Class := { plain "java/util/Collection" (some 0) with
  accessFlags := 1537
  interfaces := #[4]
  cf := some (fileOf pool5 10 #[] #[{ accessFlags := 1025, nameIndex := 66, descriptorIndex := 30, attributes := #[] }, { accessFlags := 1025, nameIndex := 13, descriptorIndex := 70, attributes := #[] }] 1537 60 #[62] #[])
  fields := #[]
  methods := #[k5m0, k5m1]
  instanceTypes := #[]
  staticTypes := #[]
  resolved := Array.replicate 115 none
  statics := none }

def pool6 : Array CpInfo := pool [(1, .methodref 2 3), (0, .class_ 4), (0, .nameAndType 5 6), (0, u "java/lang/Object"), (0, u "<init>"), (0, u "()V"), (1, .class_ 10), (1, u "java/util/AbstractCollection"), (66, .class_ 78), (0, u "java/util/Collection")] 81

def k6c0 : Code := { maxStack := 1, maxLocals := 1, code := jdk_22_method_1_code, exceptionTable := #[], attributes := #[] }
def k6m0 : Method := { name := "<init>", desc := "()V", sig := { parameters := [], returnType := none }, accessFlags := 4, code := some k6c0 }
/-- java/util/AbstractCollection -/
def k6 : Class := { plain "java/util/AbstractCollection" (some 0) with
  accessFlags := 1057
  interfaces := #[5]
  cf := some (fileOf pool6 8 #[] #[{ accessFlags := 4, nameIndex := 5, descriptorIndex := 6, attributes := #[] }] 1057 2 #[77] #[])
  fields := #[]
  methods := #[k6m0]
  instanceTypes := #[]
  staticTypes := #[]
  resolved := Array.replicate 160 none
  statics := none }

def pool7 : Array CpInfo := pool [(8, .class_ 10), (1, u "java/util/SequencedCollection"), (15, .class_ 27), (0, u "java/lang/Object"), (0, .class_ 29), (0, u "java/util/Collection")] 27

/-- java/util/SequencedCollection -/
def k7 : Class := { plain "java/util/SequencedCollection" (some 0) with
  accessFlags := 1537
  interfaces := #[5]
  cf := some (fileOf pool7 8 #[] #[] 1537 26 #[28] #[])
  fields := #[]
  methods := #[]
  instanceTypes := #[]
  staticTypes := #[]
  resolved := Array.replicate 57 none
  statics := none }

def pool8 : Array CpInfo := pool [(8, .class_ 10), (1, u "java/util/List"), (20, u "(Ljava/lang/Object;)V"), (16, u "<init>"), (30, u "size"), (0, u "()I"), (7, u "of"), (1, .fieldref 91 92), (0, .class_ 93), (0, .nameAndType 94 95), (0, u "java/util/ImmutableCollections"), (0, u "EMPTY_LIST"), (0, u "Ljava/util/ImmutableCollections$ListN;"), (0, .class_ 97), (0, u "java/util/ImmutableCollections$List12"), (0, .methodref 96 99), (0, .nameAndType 48 31), (0, .methodref 96 101), (0, .nameAndType 48 102), (0, u "(Ljava/lang/Object;Ljava/lang/Object;)V"), (0, .class_ 104), (0, u "java/lang/Object"), (3, u "([Ljava/lang/Object;)Ljava/util/List;"), (0, .methodref 91 110), (0, .nameAndType 111 108), (0, u "listFromArray"), (0, .methodref 91 113), (0, .nameAndType 114 115), (0, u "listCopy"), (0, u "(Ljava/util/Collection;)Ljava/util/List;"), (3, u "()Ljava/util/List;"), (0, .class_ 121), (0, u "java/util/SequencedCollection"), (112, u "copyOf")] 16

def k8m0 : Method := { name := "size", desc := "()I", sig := { parameters := [], returnType := some .int }, accessFlags := 1025, code := none }
def k8c1 : Code := { maxStack := 1, maxLocals := 0, code := jdk_40_method_36_code, exceptionTable := #[], attributes := #[] }
def k8m1 : Method := { name := "of", desc := "()Ljava/util/List;", sig := { parameters := [], returnType := some (.object "java/util/List") }, accessFlags := 9, code := some k8c1 }
def k8c2 : Code := { maxStack := 5, maxLocals := 2, code := jdk_40_method_47_code, exceptionTable := #[], attributes := #[] }
def k8m2 : Method := { name := "of", desc := "([Ljava/lang/Object;)Ljava/util/List;", sig := { parameters := [(.array (.object "java/lang/Object"))], returnType := some (.object "java/util/List") }, accessFlags := 137, code := some k8c2 }
def k8c3 : Code := { maxStack := 1, maxLocals := 1, code := jdk_40_method_48_code, exceptionTable := #[], attributes := #[] }
def k8m3 : Method := { name := "copyOf", desc := "(Ljava/util/Collection;)Ljava/util/List;", sig := { parameters := [(.object "java/util/Collection")], returnType := some (.object "java/util/List") }, accessFlags := 9, code := some k8c3 }
/-- java/util/List -/
def k8 : Class := { plain "java/util/List" (some 0) with
  accessFlags := 1537
  interfaces := #[7]
  cf := some (fileOf pool8 8 #[] #[{ accessFlags := 1025, nameIndex := 79, descriptorIndex := 80, attributes := #[] }, { accessFlags := 9, nameIndex := 88, descriptorIndex := 119, attributes := #[] }, { accessFlags := 137, nameIndex := 88, descriptorIndex := 108, attributes := #[] }, { accessFlags := 9, nameIndex := 234, descriptorIndex := 115, attributes := #[] }] 1537 103 #[120] #[])
  fields := #[]
  methods := #[k8m0, k8m1, k8m2, k8m3]
  instanceTypes := #[]
  staticTypes := #[]
  resolved := Array.replicate 251 none
  statics := none }

def pool9 : Array CpInfo := pool [(1, .methodref 2 3), (0, .class_ 4), (0, .nameAndType 5 6), (0, u "java/util/AbstractCollection"), (0, u "<init>"), (0, u "()V"), (0, .fieldref 8 9), (0, .class_ 10), (0, .nameAndType 11 12), (0, u "java/util/AbstractList"), (0, u "modCount"), (0, u "I"), (64, .class_ 78), (0, u "java/util/AbstractList$Itr"), (3, .class_ 83), (0, u "java/util/AbstractList$ListItr"), (9, .class_ 94), (0, u "java/util/AbstractList$RandomAccessSubList"), (3, .class_ 99), (0, u "java/util/AbstractList$SubList"), (33, .class_ 134), (0, u "java/util/List"), (73, .class_ 209), (0, u "java/util/AbstractList$SubList$1"), (0, .class_ 211), (0, u "java/util/AbstractList$RandomAccessSpliterator")] 6

def k9c0 : Code := { maxStack := 2, maxLocals := 1, code := jdk_39_method_1_code, exceptionTable := #[], attributes := #[] }
def k9m0 : Method := { name := "<init>", desc := "()V", sig := { parameters := [], returnType := none }, accessFlags := 4, code := some k9c0 }
/-- java/util/AbstractList -/
def k9 : Class := { plain "java/util/AbstractList" (some 6) with
  accessFlags := 1057
  interfaces := #[8]
  cf := some (fileOf pool9 8 #[.nestMembers #[93, 98, 208, 210, 82, 77]] #[{ accessFlags := 4, nameIndex := 5, descriptorIndex := 6, attributes := #[] }] 1057 2 #[133] #[{ accessFlags := 132, nameIndex := 11, descriptorIndex := 12, attributes := #[] }])
  fields := #[{ name := "modCount", type := .int, accessFlags := 132, slot := 0, constantValue := 0 }]
  methods := #[k9m0]
  instanceTypes := #[.int]
  staticTypes := #[]
  resolved := Array.replicate 218 none
  statics := none }

def pool10 : Array CpInfo := pool [(1, .class_ 2), (0, u "java/util/RandomAccess"), (0, .class_ 4), (0, u "java/lang/Object")] 2

/-- java/util/RandomAccess -/
def k10 : Class := { plain "java/util/RandomAccess" (some 0) with
  accessFlags := 1537
  interfaces := #[]
  cf := some (fileOf pool10 1 #[] #[] 1537 3 #[] #[])
  fields := #[]
  methods := #[]
  instanceTypes := #[]
  staticTypes := #[]
  resolved := Array.replicate 7 none
  statics := none }

def pool11 : Array CpInfo := pool [(1, .class_ 2), (0, u "java/lang/Cloneable"), (0, .class_ 4), (0, u "java/lang/Object")] 2

/-- java/lang/Cloneable -/
def k11 : Class := { plain "java/lang/Cloneable" (some 0) with
  accessFlags := 1537
  interfaces := #[]
  cf := some (fileOf pool11 1 #[] #[] 1537 3 #[] #[])
  fields := #[]
  methods := #[]
  instanceTypes := #[]
  staticTypes := #[]
  resolved := Array.replicate 7 none
  statics := none }

def pool12 : Array CpInfo := pool [(1, .class_ 2), (0, u "java/io/Serializable"), (0, .class_ 4), (0, u "java/lang/Object")] 2

/-- java/io/Serializable -/
def k12 : Class := { plain "java/io/Serializable" (some 0) with
  accessFlags := 1537
  interfaces := #[]
  cf := some (fileOf pool12 1 #[] #[] 1537 3 #[] #[])
  fields := #[]
  methods := #[]
  instanceTypes := #[]
  staticTypes := #[]
  resolved := Array.replicate 7 none
  statics := none }

def pool13 : Array CpInfo := pool [(1, .methodref 2 3), (0, .class_ 4), (0, .nameAndType 5 6), (0, u "java/util/AbstractList"), (0, u "<init>"), (0, u "()V"), (0, .class_ 8), (0, u "java/lang/Object"), (0, .fieldref 10 11), (0, .class_ 12), (0, .nameAndType 13 14), (0, u "java/util/ArrayList"), (0, u "elementData"), (0, u "[Ljava/lang/Object;"), (2, u "EMPTY_ELEMENTDATA"), (21, .fieldref 10 40), (0, .nameAndType 41 14), (0, u "DEFAULTCAPACITY_EMPTY_ELEMENTDATA"), (4, u "toArray"), (0, u "()[Ljava/lang/Object;"), (0, .fieldref 10 49), (0, .nameAndType 50 51), (0, u "size"), (0, u "I"), (6, .class_ 60), (1, u "java/util/Arrays"), (0, u "copyOf"), (1, .fieldref 10 64), (0, .nameAndType 65 51), (0, u "modCount"), (0, .methodref 58 67), (0, .nameAndType 61 68), (0, u "([Ljava/lang/Object;I)[Ljava/lang/Object;"), (0, .methodref 10 70), (0, .nameAndType 71 72), (0, u "grow"), (0, u "(I)[Ljava/lang/Object;"), (6, .methodref 80 81), (0, .class_ 82), (0, .nameAndType 83 84), (0, u "java/lang/Math"), (0, u "max"), (0, u "(II)I"), (11, u "(Ljava/lang/Object;)Z"), (32, .methodref 10 130), (0, .nameAndType 71 47), (0, .methodref 10 132), (0, .nameAndType 133 134), (0, u "add"), (0, u "(Ljava/lang/Object;[Ljava/lang/Object;I)V"), (13, .class_ 149), (0, u "java/util/List"), (23, u "()Z"), (88, .class_ 263), (0, u "java/util/ArrayList$ListItr"), (3, .class_ 268), (0, u "java/util/ArrayList$Itr"), (7, .class_ 277), (0, u "java/util/ArrayList$SubList"), (12, .class_ 291), (0, u "java/util/ArrayList$ArrayListSpliterator"), (37, .class_ 330), (0, u "java/util/RandomAccess"), (0, .class_ 332), (0, u "java/lang/Cloneable"), (0, .class_ 334), (0, u "java/io/Serializable"), (0, u "serialVersionUID"), (0, u "J"), (3, u "DEFAULT_CAPACITY"), (22, u "isEmpty"), (136, .class_ 501), (0, u "java/util/ArrayList$SubList$2"), (0, .class_ 503), (0, u "java/util/ArrayList$SubList$1")] 5

def k13c0 : Code := { maxStack := 2, maxLocals := 1, code := jdk_38_method_2_code, exceptionTable := #[], attributes := #[] }
def k13m0 : Method := { name := "<init>", desc := "()V", sig := { parameters := [], returnType := none }, accessFlags := 1, code := some k13c0 }
def k13c1 : Code := { maxStack := 4, maxLocals := 4, code := jdk_38_method_6_code, exceptionTable := #[], attributes := #[] }
def k13m1 : Method := { name := "grow", desc := "(I)[Ljava/lang/Object;", sig := { parameters := [.int], returnType := some (.array (.object "java/lang/Object")) }, accessFlags := 2, code := some k13c1 }
def k13c2 : Code := { maxStack := 3, maxLocals := 1, code := jdk_38_method_7_code, exceptionTable := #[], attributes := #[] }
def k13m2 : Method := { name := "grow", desc := "()[Ljava/lang/Object;", sig := { parameters := [], returnType := some (.array (.object "java/lang/Object")) }, accessFlags := 2, code := some k13c2 }
def k13c3 : Code := { maxStack := 1, maxLocals := 1, code := jdk_38_method_9_code, exceptionTable := #[], attributes := #[] }
def k13m3 : Method := { name := "isEmpty", desc := "()Z", sig := { parameters := [], returnType := some .boolean }, accessFlags := 1, code := some k13c3 }
def k13c4 : Code := { maxStack := 2, maxLocals := 1, code := jdk_38_method_16_code, exceptionTable := #[], attributes := #[] }
def k13m4 : Method := { name := "toArray", desc := "()[Ljava/lang/Object;", sig := { parameters := [], returnType := some (.array (.object "java/lang/Object")) }, accessFlags := 1, code := some k13c4 }
def k13c5 : Code := { maxStack := 3, maxLocals := 4, code := jdk_38_method_24_code, exceptionTable := #[], attributes := #[] }
def k13m5 : Method := { name := "add", desc := "(Ljava/lang/Object;[Ljava/lang/Object;I)V", sig := { parameters := [(.object "java/lang/Object"), (.array (.object "java/lang/Object")), .int], returnType := none }, accessFlags := 2, code := some k13c5 }
def k13c6 : Code := { maxStack := 4, maxLocals := 2, code := jdk_38_method_25_code, exceptionTable := #[], attributes := #[] }
def k13m6 : Method := { name := "add", desc := "(Ljava/lang/Object;)Z", sig := { parameters := [(.object "java/lang/Object")], returnType := some .boolean }, accessFlags := 1, code := some k13c6 }
/-- java/util/ArrayList -/
def k13 : Class := { plain "java/util/ArrayList" (some 9) with
  accessFlags := 33
  interfaces := #[8, 10, 11, 12]
  cf := some (fileOf pool13 10 #[.nestMembers #[290, 276, 500, 502, 262, 267]] #[{ accessFlags := 1, nameIndex := 5, descriptorIndex := 6, attributes := #[] }, { accessFlags := 2, nameIndex := 71, descriptorIndex := 72, attributes := #[] }, { accessFlags := 2, nameIndex := 71, descriptorIndex := 47, attributes := #[] }, { accessFlags := 1, nameIndex := 363, descriptorIndex := 173, attributes := #[] }, { accessFlags := 1, nameIndex := 46, descriptorIndex := 47, attributes := #[] }, { accessFlags := 2, nameIndex := 133, descriptorIndex := 134, attributes := #[] }, { accessFlags := 1, nameIndex := 133, descriptorIndex := 96, attributes := #[] }] 33 2 #[148, 329, 331, 333] #[{ accessFlags := 26, nameIndex := 335, descriptorIndex := 336, attributes := #[] }, { accessFlags := 26, nameIndex := 340, descriptorIndex := 51, attributes := #[] }, { accessFlags := 26, nameIndex := 17, descriptorIndex := 14, attributes := #[] }, { accessFlags := 26, nameIndex := 41, descriptorIndex := 14, attributes := #[] }, { accessFlags := 128, nameIndex := 13, descriptorIndex := 14, attributes := #[] }, { accessFlags := 2, nameIndex := 50, descriptorIndex := 51, attributes := #[] }])
  fields := #[{ name := "serialVersionUID", type := .long, accessFlags := 26, slot := 0, constantValue := 0 }, { name := "DEFAULT_CAPACITY", type := .int, accessFlags := 26, slot := 1, constantValue := 0 }, { name := "EMPTY_ELEMENTDATA", type := (.array (.object "java/lang/Object")), accessFlags := 26, slot := 2, constantValue := 0 }, { name := "DEFAULTCAPACITY_EMPTY_ELEMENTDATA", type := (.array (.object "java/lang/Object")), accessFlags := 26, slot := 3, constantValue := 0 }, { name := "elementData", type := (.array (.object "java/lang/Object")), accessFlags := 128, slot := 1, constantValue := 0 }, { name := "size", type := .int, accessFlags := 2, slot := 2, constantValue := 0 }]
  methods := #[k13m0, k13m1, k13m2, k13m3, k13m4, k13m5, k13m6]
  instanceTypes := #[.int, (.array (.object "java/lang/Object")), .int]
  staticTypes := #[.long, .int, (.array (.object "java/lang/Object")), (.array (.object "java/lang/Object"))]
  resolved := Array.replicate 509 none
  statics := some 0 }

def pool14 : Array CpInfo := pool [(1, .class_ 2), (0, u "java/lang/Math"), (1, .class_ 6), (1, u "java/lang/Object"), (0, u "<init>"), (0, u "()V"), (89, .class_ 100), (1, u "java/lang/Math$RandomNumberGeneratorHolder"), (71, u "negativeZeroFloatBits"), (0, u "J"), (2, u "negativeZeroDoubleBits"), (21, u "max"), (2, u "min"), (43, u "$assertionsDisabled"), (0, u "Z"), (88, u "(II)I"), (2, u "twoToTheDoubleScaleDown"), (0, u "D"), (4, u "twoToTheDoubleScaleUp"), (9, u "E"), (3, u "PI"), (2, u "TAU"), (2, u "DEGREES_TO_RADIANS"), (0, u "RADIANS_TO_DEGREES")] 94

def k14m0 : Method := { name := "<init>", desc := "()V", sig := { parameters := [], returnType := none }, accessFlags := 2, code := none }
def k14c1 : Code := { maxStack := 2, maxLocals := 2, code := jdk_29_method_65_code, exceptionTable := #[], attributes := #[] }
def k14m1 : Method := { name := "max", desc := "(II)I", sig := { parameters := [.int, .int], returnType := some .int }, accessFlags := 9, code := some k14c1 }
def k14c2 : Code := { maxStack := 2, maxLocals := 2, code := jdk_29_method_69_code, exceptionTable := #[], attributes := #[] }
def k14m2 : Method := { name := "min", desc := "(II)I", sig := { parameters := [.int, .int], returnType := some .int }, accessFlags := 9, code := some k14c2 }
/-- java/lang/Math -/
def k14 : Class := { plain "java/lang/Math" (some 0) with
  accessFlags := 49
  interfaces := #[]
  cf := some (fileOf pool14 1 #[.nestMembers #[98]] #[{ accessFlags := 2, nameIndex := 7, descriptorIndex := 8, attributes := #[] }, { accessFlags := 9, nameIndex := 198, descriptorIndex := 335, attributes := #[] }, { accessFlags := 9, nameIndex := 201, descriptorIndex := 335, attributes := #[] }] 49 4 #[] #[{ accessFlags := 25, nameIndex := 354, descriptorIndex := 339, attributes := #[] }, { accessFlags := 25, nameIndex := 358, descriptorIndex := 339, attributes := #[] }, { accessFlags := 25, nameIndex := 361, descriptorIndex := 339, attributes := #[] }, { accessFlags := 26, nameIndex := 364, descriptorIndex := 339, attributes := #[] }, { accessFlags := 26, nameIndex := 365, descriptorIndex := 339, attributes := #[] }, { accessFlags := 26, nameIndex := 172, descriptorIndex := 173, attributes := #[] }, { accessFlags := 26, nameIndex := 176, descriptorIndex := 173, attributes := #[] }, { accessFlags := 8, nameIndex := 344, descriptorIndex := 339, attributes := #[] }, { accessFlags := 8, nameIndex := 338, descriptorIndex := 339, attributes := #[] }, { accessFlags := 4120, nameIndex := 245, descriptorIndex := 246, attributes := #[] }])
  fields := #[{ name := "E", type := .double, accessFlags := 25, slot := 0, constantValue := 0 }, { name := "PI", type := .double, accessFlags := 25, slot := 1, constantValue := 0 }, { name := "TAU", type := .double, accessFlags := 25, slot := 2, constantValue := 0 }, { name := "DEGREES_TO_RADIANS", type := .double, accessFlags := 26, slot := 3, constantValue := 0 }, { name := "RADIANS_TO_DEGREES", type := .double, accessFlags := 26, slot := 4, constantValue := 0 }, { name := "negativeZeroFloatBits", type := .long, accessFlags := 26, slot := 5, constantValue := 0 }, { name := "negativeZeroDoubleBits", type := .long, accessFlags := 26, slot := 6, constantValue := 0 }, { name := "twoToTheDoubleScaleUp", type := .double, accessFlags := 8, slot := 7, constantValue := 0 }, { name := "twoToTheDoubleScaleDown", type := .double, accessFlags := 8, slot := 8, constantValue := 0 }, { name := "$assertionsDisabled", type := .boolean, accessFlags := 4120, slot := 9, constantValue := 0 }]
  methods := #[k14m0, k14m1, k14m2]
  instanceTypes := #[]
  staticTypes := #[.double, .double, .double, .double, .double, .long, .long, .double, .double, .boolean]
  resolved := Array.replicate 460 none
  statics := none }

def pool15 : Array CpInfo := pool [(1, .methodref 2 3), (0, .class_ 4), (0, .nameAndType 5 6), (0, u "java/lang/Record"), (0, u "<init>"), (0, u "()V"), (0, .interfaceMethodref 8 9), (0, .class_ 10), (0, .nameAndType 11 12), (0, u "java/util/List"), (0, u "copyOf"), (0, u "(Ljava/util/Collection;)Ljava/util/List;"), (0, .fieldref 14 15), (0, .class_ 16), (0, .nameAndType 17 18), (0, u "com/example/rosettine/rosettine/model/ConversionReport"), (0, u "converted"), (0, u "I"), (0, .fieldref 14 20), (0, .nameAndType 21 22), (0, u "notConverted"), (0, u "Ljava/util/List;"), (0, .interfaceMethodref 8 24), (0, .nameAndType 25 26), (0, u "size"), (0, u "()I"), (14, u "(ILjava/util/List;)V"), (4, u "entries"), (7, .class_ 55), (0, u "com/example/rosettine/rosettine/model/ConversionReport$EntryId"), (0, .class_ 57), (0, u "com/example/rosettine/rosettine/model/ConversionReport$NotConverted")] 21

def k15c0 : Code := { maxStack := 2, maxLocals := 3, code := prog_10_method_1_code, exceptionTable := #[], attributes := #[] }
def k15m0 : Method := { name := "<init>", desc := "(ILjava/util/List;)V", sig := { parameters := [.int, (.object "java/util/List")], returnType := none }, accessFlags := 1, code := some k15c0 }
def k15c1 : Code := { maxStack := 2, maxLocals := 1, code := prog_10_method_2_code, exceptionTable := #[], attributes := #[] }
def k15m1 : Method := { name := "entries", desc := "()I", sig := { parameters := [], returnType := some .int }, accessFlags := 1, code := some k15c1 }
/-- com/example/rosettine/rosettine/model/ConversionReport -/
def k15 : Class := { plain "com/example/rosettine/rosettine/model/ConversionReport" (some 2) with
  accessFlags := 49
  interfaces := #[]
  cf := some (fileOf pool15 14 #[.nestMembers #[54, 56]] #[{ accessFlags := 1, nameIndex := 5, descriptorIndex := 41, attributes := #[] }, { accessFlags := 1, nameIndex := 46, descriptorIndex := 26, attributes := #[] }] 49 2 #[] #[{ accessFlags := 18, nameIndex := 17, descriptorIndex := 18, attributes := #[] }, { accessFlags := 18, nameIndex := 21, descriptorIndex := 22, attributes := #[] }])
  fields := #[{ name := "converted", type := .int, accessFlags := 18, slot := 0, constantValue := 0 }, { name := "notConverted", type := (.object "java/util/List"), accessFlags := 18, slot := 1, constantValue := 0 }]
  methods := #[k15m0, k15m1]
  instanceTypes := #[.int, (.object "java/util/List")]
  staticTypes := #[]
  resolved := Array.replicate 79 none
  statics := none }

def pool16 : Array CpInfo := pool [(2, .class_ 4), (1, u "java/lang/Object"), (0, u "<init>"), (0, u "()V"), (3, .class_ 11), (0, u "java/util/ImmutableCollections$List12"), (0, .class_ 13), (0, u "java/util/ImmutableCollections$ListN"), (3, u "Z"), (0, .class_ 19), (0, u "java/util/List"), (0, .interfaceMethodref 21 22), (0, .class_ 23), (0, .nameAndType 24 25), (0, u "java/util/Collection"), (0, u "isEmpty"), (0, u "()Z"), (0, .interfaceMethodref 18 27), (0, .nameAndType 28 29), (0, u "of"), (0, u "()Ljava/util/List;"), (0, .interfaceMethodref 21 31), (0, .nameAndType 32 33), (0, u "toArray"), (0, u "()[Ljava/lang/Object;"), (0, .interfaceMethodref 18 35), (0, .nameAndType 28 36), (0, u "([Ljava/lang/Object;)Ljava/util/List;"), (0, .methodref 38 39), (0, .class_ 40), (0, .nameAndType 41 42), (0, u "java/util/Objects"), (0, u "requireNonNull"), (0, u "(Ljava/lang/Object;)Ljava/lang/Object;"), (0, .methodref 12 44), (0, .nameAndType 5 45), (0, u "([Ljava/lang/Object;Z)V"), (1, .class_ 49), (1, u "java/util/ImmutableCollections"), (0, u "$assertionsDisabled"), (5, u "[Ljava/lang/Object;"), (5, u "EMPTY_LIST"), (0, u "Ljava/util/ImmutableCollections$ListN;"), (8, u "EMPTY_LIST_NULLS"), (22, u "SALT32L"), (0, u "J"), (2, u "REVERSE"), (6, u "archivedObjects"), (2, u "EMPTY"), (0, u "Ljava/lang/Object;"), (0, .class_ 112), (0, u "java/util/ImmutableCollections$SetN"), (5, u "EMPTY_SET"), (0, u "Ljava/util/ImmutableCollections$SetN;"), (0, .class_ 121), (0, u "java/util/ImmutableCollections$MapN"), (3, u "EMPTY_MAP"), (0, u "Ljava/util/ImmutableCollections$MapN;"), (4, u "EXPAND_FACTOR"), (0, u "I"), (9, u "listCopy"), (0, u "(Ljava/util/Collection;)Ljava/util/List;"), (7, u "listFromArray"), (17, .class_ 170), (0, u "java/util/ImmutableCollections$MapN$MapNIterator"), (0, .class_ 172), (0, u "java/util/ImmutableCollections$MapN$1"), (0, .class_ 174), (0, u "java/util/ImmutableCollections$Map1"), (0, .class_ 176), (0, u "java/util/ImmutableCollections$AbstractImmutableMap"), (0, .class_ 178), (0, u "java/util/ImmutableCollections$SetN$SetNIterator"), (0, .class_ 180), (0, u "java/util/ImmutableCollections$Set12"), (0, .class_ 182), (0, u "java/util/ImmutableCollections$Set12$1"), (0, .class_ 184), (0, u "java/util/ImmutableCollections$AbstractImmutableSet"), (0, .class_ 186), (0, u "java/util/ImmutableCollections$SubList"), (0, .class_ 188), (0, u "java/util/ImmutableCollections$ListItr"), (0, .class_ 190), (0, u "java/util/ImmutableCollections$AbstractImmutableList"), (0, .class_ 192), (0, u "java/util/ImmutableCollections$AbstractImmutableCollection"), (0, .class_ 194), (0, u "java/util/ImmutableCollections$Access"), (0, .class_ 196), (0, u "java/util/ImmutableCollections$Access$1")] 16

def k16m0 : Method := { name := "<init>", desc := "()V", sig := { parameters := [], returnType := none }, accessFlags := 2, code := none }
def k16c1 : Code := { maxStack := 1, maxLocals := 2, code := jdk_56_method_3_code, exceptionTable := #[], attributes := #[] }
def k16m1 : Method := { name := "listCopy", desc := "(Ljava/util/Collection;)Ljava/util/List;", sig := { parameters := [(.object "java/util/Collection")], returnType := some (.object "java/util/List") }, accessFlags := 8, code := some k16c1 }
def k16c2 : Code := { maxStack := 4, maxLocals := 3, code := jdk_56_method_4_code, exceptionTable := #[], attributes := #[] }
def k16m2 : Method := { name := "listFromArray", desc := "([Ljava/lang/Object;)Ljava/util/List;", sig := { parameters := [(.array (.object "java/lang/Object"))], returnType := some (.object "java/util/List") }, accessFlags := 136, code := some k16c2 }
/-- java/util/ImmutableCollections -/
def k16 : Class := { plain "java/util/ImmutableCollections" (some 0) with
  accessFlags := 32
  interfaces := #[]
  cf := some (fileOf pool16 47 #[.nestMembers #[120, 169, 171, 173, 175, 111, 177, 179, 181, 183, 12, 10, 185, 187, 189, 191, 193, 195]] #[{ accessFlags := 2, nameIndex := 5, descriptorIndex := 6, attributes := #[] }, { accessFlags := 8, nameIndex := 142, descriptorIndex := 143, attributes := #[] }, { accessFlags := 136, nameIndex := 151, descriptorIndex := 36, attributes := #[] }] 32 2 #[] #[{ accessFlags := 26, nameIndex := 95, descriptorIndex := 96, attributes := #[] }, { accessFlags := 26, nameIndex := 99, descriptorIndex := 17, attributes := #[] }, { accessFlags := 10, nameIndex := 106, descriptorIndex := 56, attributes := #[] }, { accessFlags := 26, nameIndex := 109, descriptorIndex := 110, attributes := #[] }, { accessFlags := 24, nameIndex := 62, descriptorIndex := 63, attributes := #[] }, { accessFlags := 24, nameIndex := 72, descriptorIndex := 63, attributes := #[] }, { accessFlags := 24, nameIndex := 118, descriptorIndex := 119, attributes := #[] }, { accessFlags := 24, nameIndex := 125, descriptorIndex := 126, attributes := #[] }, { accessFlags := 24, nameIndex := 131, descriptorIndex := 132, attributes := #[] }, { accessFlags := 4120, nameIndex := 50, descriptorIndex := 17, attributes := #[] }])
  fields := #[{ name := "SALT32L", type := .long, accessFlags := 26, slot := 0, constantValue := 0 }, { name := "REVERSE", type := .boolean, accessFlags := 26, slot := 1, constantValue := 0 }, { name := "archivedObjects", type := (.array (.object "java/lang/Object")), accessFlags := 10, slot := 2, constantValue := 0 }, { name := "EMPTY", type := (.object "java/lang/Object"), accessFlags := 26, slot := 3, constantValue := 0 }, { name := "EMPTY_LIST", type := (.object "java/util/ImmutableCollections$ListN"), accessFlags := 24, slot := 4, constantValue := 0 }, { name := "EMPTY_LIST_NULLS", type := (.object "java/util/ImmutableCollections$ListN"), accessFlags := 24, slot := 5, constantValue := 0 }, { name := "EMPTY_SET", type := (.object "java/util/ImmutableCollections$SetN"), accessFlags := 24, slot := 6, constantValue := 0 }, { name := "EMPTY_MAP", type := (.object "java/util/ImmutableCollections$MapN"), accessFlags := 24, slot := 7, constantValue := 0 }, { name := "EXPAND_FACTOR", type := .int, accessFlags := 24, slot := 8, constantValue := 0 }, { name := "$assertionsDisabled", type := .boolean, accessFlags := 4120, slot := 9, constantValue := 0 }]
  methods := #[k16m0, k16m1, k16m2]
  instanceTypes := #[]
  staticTypes := #[.long, .boolean, (.array (.object "java/lang/Object")), (.object "java/lang/Object"), (.object "java/util/ImmutableCollections$ListN"), (.object "java/util/ImmutableCollections$ListN"), (.object "java/util/ImmutableCollections$SetN"), (.object "java/util/ImmutableCollections$MapN"), .int, .boolean]
  resolved := Array.replicate 213 none
  statics := some 1 }

def pool17 : Array CpInfo := pool [(1, .methodref 2 3), (0, .class_ 4), (0, .nameAndType 5 6), (0, u "java/util/AbstractCollection"), (0, u "<init>"), (0, u "()V"), (1, .class_ 10), (1, u "java/util/ImmutableCollections"), (2, .class_ 14), (0, u "java/util/ImmutableCollections$AbstractImmutableCollection")] 41

def k17c0 : Code := { maxStack := 1, maxLocals := 1, code := jdk_47_method_1_code, exceptionTable := #[], attributes := #[] }
def k17m0 : Method := { name := "<init>", desc := "()V", sig := { parameters := [], returnType := none }, accessFlags := 0, code := some k17c0 }
/-- java/util/ImmutableCollections$AbstractImmutableCollection -/
def k17 : Class := { plain "java/util/ImmutableCollections$AbstractImmutableCollection" (some 6) with
  accessFlags := 1056
  interfaces := #[]
  cf := some (fileOf pool17 13 #[.nestHost 8] #[{ accessFlags := 0, nameIndex := 5, descriptorIndex := 6, attributes := #[] }] 1056 2 #[] #[])
  fields := #[]
  methods := #[k17m0]
  instanceTypes := #[]
  staticTypes := #[]
  resolved := Array.replicate 56 none
  statics := none }

def pool18 : Array CpInfo := pool [(1, .methodref 2 3), (0, .class_ 4), (0, .nameAndType 5 6), (0, u "java/util/ImmutableCollections$AbstractImmutableCollection"), (0, u "<init>"), (0, u "()V"), (1, .class_ 10), (1, u "java/util/ImmutableCollections"), (3, .class_ 16), (1, u "java/util/ImmutableCollections$AbstractImmutableList"), (60, .class_ 78), (0, u "java/util/List"), (45, .class_ 125), (0, u "java/util/RandomAccess")] 70

def k18c0 : Code := { maxStack := 1, maxLocals := 1, code := jdk_46_method_1_code, exceptionTable := #[], attributes := #[] }
def k18m0 : Method := { name := "<init>", desc := "()V", sig := { parameters := [], returnType := none }, accessFlags := 0, code := some k18c0 }
/-- java/util/ImmutableCollections$AbstractImmutableList -/
def k18 : Class := { plain "java/util/ImmutableCollections$AbstractImmutableList" (some 17) with
  accessFlags := 1056
  interfaces := #[8, 10]
  cf := some (fileOf pool18 14 #[.nestHost 8] #[{ accessFlags := 0, nameIndex := 5, descriptorIndex := 6, attributes := #[] }] 1056 2 #[77, 124] #[])
  fields := #[]
  methods := #[k18m0]
  instanceTypes := #[]
  staticTypes := #[]
  resolved := Array.replicate 196 none
  statics := none }

def pool19 : Array CpInfo := pool [(1, .methodref 2 3), (0, .class_ 4), (0, .nameAndType 5 6), (0, u "java/util/ImmutableCollections$AbstractImmutableList"), (0, u "<init>"), (0, u "()V"), (0, .methodref 8 9), (0, .class_ 10), (0, .nameAndType 11 12), (0, u "java/util/Objects"), (0, u "requireNonNull"), (0, u "(Ljava/lang/Object;)Ljava/lang/Object;"), (0, .fieldref 14 15), (0, .class_ 16), (0, .nameAndType 17 18), (0, u "java/util/ImmutableCollections$List12"), (0, u "e0"), (0, u "Ljava/lang/Object;"), (0, .fieldref 20 21), (0, .class_ 22), (0, .nameAndType 23 18), (0, u "java/util/ImmutableCollections"), (0, u "EMPTY"), (0, .fieldref 14 25), (0, .nameAndType 26 18), (0, u "e1"), (24, u "size"), (0, u "()I"), (17, .class_ 71), (0, u "java/io/Serializable"), (4, u "(Ljava/lang/Object;)V"), (8, u "(Ljava/lang/Object;Ljava/lang/Object;)V")] 39

def k19c0 : Code := { maxStack := 2, maxLocals := 2, code := jdk_44_method_1_code, exceptionTable := #[], attributes := #[] }
def k19m0 : Method := { name := "<init>", desc := "(Ljava/lang/Object;)V", sig := { parameters := [(.object "java/lang/Object")], returnType := none }, accessFlags := 0, code := some k19c0 }
def k19c1 : Code := { maxStack := 2, maxLocals := 3, code := jdk_44_method_2_code, exceptionTable := #[], attributes := #[] }
def k19m1 : Method := { name := "<init>", desc := "(Ljava/lang/Object;Ljava/lang/Object;)V", sig := { parameters := [(.object "java/lang/Object"), (.object "java/lang/Object")], returnType := none }, accessFlags := 0, code := some k19c1 }
def k19c2 : Code := { maxStack := 2, maxLocals := 1, code := jdk_44_method_3_code, exceptionTable := #[], attributes := #[] }
def k19m2 : Method := { name := "size", desc := "()I", sig := { parameters := [], returnType := some .int }, accessFlags := 1, code := some k19c2 }
/-- java/util/ImmutableCollections$List12 -/
def k19 : Class := { plain "java/util/ImmutableCollections$List12" (some 18) with
  accessFlags := 48
  interfaces := #[12]
  cf := some (fileOf pool19 14 #[.nestHost 20] #[{ accessFlags := 0, nameIndex := 5, descriptorIndex := 76, attributes := #[] }, { accessFlags := 0, nameIndex := 5, descriptorIndex := 85, attributes := #[] }, { accessFlags := 1, nameIndex := 51, descriptorIndex := 52, attributes := #[] }] 48 2 #[70] #[{ accessFlags := 18, nameIndex := 17, descriptorIndex := 18, attributes := #[] }, { accessFlags := 18, nameIndex := 26, descriptorIndex := 18, attributes := #[] }])
  fields := #[{ name := "e0", type := (.object "java/lang/Object"), accessFlags := 18, slot := 0, constantValue := 0 }, { name := "e1", type := (.object "java/lang/Object"), accessFlags := 18, slot := 1, constantValue := 0 }]
  methods := #[k19m0, k19m1, k19m2]
  instanceTypes := #[(.object "java/lang/Object"), (.object "java/lang/Object")]
  staticTypes := #[]
  resolved := Array.replicate 125 none
  statics := none }

def pool20 : Array CpInfo := pool [(1, .methodref 2 3), (0, .class_ 4), (0, .nameAndType 5 6), (0, u "java/util/ImmutableCollections$AbstractImmutableList"), (0, u "<init>"), (0, u "()V"), (0, .fieldref 8 9), (0, .class_ 10), (0, .nameAndType 11 12), (0, u "java/util/ImmutableCollections$ListN"), (0, u "elements"), (0, u "[Ljava/lang/Object;"), (0, .fieldref 8 14), (0, .nameAndType 15 16), (0, u "allowNulls"), (0, u "Z"), (42, .class_ 60), (0, u "java/io/Serializable"), (4, u "([Ljava/lang/Object;Z)V"), (11, u "size"), (0, u "()I"), (35, .class_ 115), (0, u "java/util/ImmutableCollections")] 3

def k20c0 : Code := { maxStack := 2, maxLocals := 3, code := jdk_45_method_1_code, exceptionTable := #[], attributes := #[] }
def k20m0 : Method := { name := "<init>", desc := "([Ljava/lang/Object;Z)V", sig := { parameters := [(.array (.object "java/lang/Object")), .boolean], returnType := none }, accessFlags := 2, code := some k20c0 }
def k20c1 : Code := { maxStack := 1, maxLocals := 1, code := jdk_45_method_3_code, exceptionTable := #[], attributes := #[] }
def k20m1 : Method := { name := "size", desc := "()I", sig := { parameters := [], returnType := some .int }, accessFlags := 1, code := some k20c1 }
/-- java/util/ImmutableCollections$ListN -/
def k20 : Class := { plain "java/util/ImmutableCollections$ListN" (some 18) with
  accessFlags := 48
  interfaces := #[12]
  cf := some (fileOf pool20 8 #[.nestHost 114] #[{ accessFlags := 2, nameIndex := 5, descriptorIndex := 65, attributes := #[] }, { accessFlags := 1, nameIndex := 77, descriptorIndex := 78, attributes := #[] }] 48 2 #[59] #[{ accessFlags := 18, nameIndex := 11, descriptorIndex := 12, attributes := #[] }, { accessFlags := 18, nameIndex := 15, descriptorIndex := 16, attributes := #[] }])
  fields := #[{ name := "elements", type := (.array (.object "java/lang/Object")), accessFlags := 18, slot := 0, constantValue := 0 }, { name := "allowNulls", type := .boolean, accessFlags := 18, slot := 1, constantValue := 0 }]
  methods := #[k20m0, k20m1]
  instanceTypes := #[(.array (.object "java/lang/Object")), .boolean]
  staticTypes := #[]
  resolved := Array.replicate 119 none
  statics := none }

def pool21 : Array CpInfo := pool [(2, .class_ 4), (1, u "java/lang/Object"), (0, u "<init>"), (0, u "()V"), (7, .class_ 16), (1, u "java/util/Arrays"), (57, .class_ 76), (1, u "java/util/Arrays$NaturalOrder"), (9, .methodref 2 87), (0, .nameAndType 88 89), (0, u "getClass"), (0, u "()Ljava/lang/Class;"), (20, .class_ 111), (0, u "[Ljava/lang/Object;"), (1, .class_ 115), (1, u "java/util/Arrays$LegacyMergeSort"), (1, u "Z"), (32, .methodref 151 152), (0, .class_ 153), (0, .nameAndType 154 155), (0, u "java/lang/System"), (0, u "arraycopy"), (0, u "(Ljava/lang/Object;ILjava/lang/Object;II)V"), (144, .methodref 14 301), (0, .nameAndType 302 303), (0, u "copyOf"), (0, u "([Ljava/lang/Object;ILjava/lang/Class;)[Ljava/lang/Object;"), (0, .methodref 305 306), (0, .class_ 307), (0, .nameAndType 308 309), (0, u "java/lang/Math"), (0, u "min"), (0, u "(II)I"), (65, .class_ 376), (0, u "java/util/Arrays$ArrayList"), (68, u "$assertionsDisabled"), (269, u "MIN_ARRAY_SORT_GRAN"), (0, u "I"), (2, u "INSERTIONSORT_THRESHOLD"), (140, u "([Ljava/lang/Object;I)[Ljava/lang/Object;"), (114, .class_ 976), (0, u "java/util/Arrays$ArrayItr")] 52

def k21m0 : Method := { name := "<init>", desc := "()V", sig := { parameters := [], returnType := none }, accessFlags := 2, code := none }
def k21c1 : Code := { maxStack := 3, maxLocals := 2, code := jdk_65_method_119_code, exceptionTable := #[], attributes := #[] }
def k21m1 : Method := { name := "copyOf", desc := "([Ljava/lang/Object;I)[Ljava/lang/Object;", sig := { parameters := [(.array (.object "java/lang/Object")), .int], returnType := some (.array (.object "java/lang/Object")) }, accessFlags := 9, code := some k21c1 }
def k21c2 : Code := { maxStack := 6, maxLocals := 4, code := jdk_65_method_120_code, exceptionTable := #[], attributes := #[] }
def k21m2 : Method := { name := "copyOf", desc := "([Ljava/lang/Object;ILjava/lang/Class;)[Ljava/lang/Object;", sig := { parameters := [(.array (.object "java/lang/Object")), .int, (.object "java/lang/Class")], returnType := some (.array (.object "java/lang/Object")) }, accessFlags := 9, code := some k21c2 }
/-- java/util/Arrays -/
def k21 : Class := { plain "java/util/Arrays" (some 0) with
  accessFlags := 49
  interfaces := #[]
  cf := some (fileOf pool21 14 #[.nestMembers #[975, 375, 113, 74]] #[{ accessFlags := 2, nameIndex := 5, descriptorIndex := 6, attributes := #[] }, { accessFlags := 9, nameIndex := 302, descriptorIndex := 860, attributes := #[] }, { accessFlags := 9, nameIndex := 302, descriptorIndex := 303, attributes := #[] }] 49 2 #[] #[{ accessFlags := 26, nameIndex := 715, descriptorIndex := 716, attributes := #[] }, { accessFlags := 26, nameIndex := 719, descriptorIndex := 716, attributes := #[] }, { accessFlags := 4120, nameIndex := 445, descriptorIndex := 117, attributes := #[] }])
  fields := #[{ name := "MIN_ARRAY_SORT_GRAN", type := .int, accessFlags := 26, slot := 0, constantValue := 0 }, { name := "INSERTIONSORT_THRESHOLD", type := .int, accessFlags := 26, slot := 1, constantValue := 0 }, { name := "$assertionsDisabled", type := .boolean, accessFlags := 4120, slot := 2, constantValue := 0 }]
  methods := #[k21m0, k21m1, k21m2]
  instanceTypes := #[]
  staticTypes := #[.int, .int, .boolean]
  resolved := Array.replicate 1029 none
  statics := none }

def pool22 : Array CpInfo := pool [(2, .class_ 4), (1, u "java/lang/Object"), (0, u "<init>"), (0, u "()V"), (1, .class_ 10), (1, u "java/lang/System"), (0, u "allowSecurityManager"), (0, u "I"), (16, u "cons"), (0, u "Ljava/io/Console;"), (77, .class_ 110), (1, u "java/lang/System$CallersHolder"), (43, u "initialErrStream"), (0, u "Ljava/io/PrintStream;"), (19, u "security"), (0, u "Ljava/lang/SecurityManager;"), (31, .class_ 209), (0, u "java/lang/System$1"), (7, u "props"), (0, u "Ljava/util/Properties;"), (2, u "lineSeparator"), (0, u "Ljava/lang/String;"), (96, .class_ 321), (1, u "java/lang/System$LoggerFinder"), (5, .class_ 328), (0, u "java/lang/System$Logger"), (67, u "err"), (2, u "out"), (91, u "notSupportedJnuEncoding"), (15, u "in"), (17, u "initialIn"), (0, u "Ljava/io/InputStream;"), (35, u "bootLayer"), (0, u "Ljava/lang/ModuleLayer;"), (99, .class_ 664), (0, u "java/lang/System$2"), (9, u "NEVER"), (2, u "MAYBE"), (49, u "arraycopy"), (0, u "(Ljava/lang/Object;ILjava/lang/Object;II)V"), (72, .class_ 802), (0, u "java/lang/System$Logger$Level")] 31

def k22m0 : Method := { name := "<init>", desc := "()V", sig := { parameters := [], returnType := none }, accessFlags := 2, code := none }
def k22m1 : Method := { name := "arraycopy", desc := "(Ljava/lang/Object;ILjava/lang/Object;II)V", sig := { parameters := [(.object "java/lang/Object"), .int, (.object "java/lang/Object"), .int, .int], returnType := none }, accessFlags := 265, code := none }
/-- java/lang/System -/
def k22 : Class := { plain "java/lang/System" (some 0) with
  accessFlags := 49
  interfaces := #[]
  cf := some (fileOf pool22 8 #[.nestMembers #[319, 327, 801, 108, 663, 208]] #[{ accessFlags := 2, nameIndex := 5, descriptorIndex := 6, attributes := #[] }, { accessFlags := 265, nameIndex := 727, descriptorIndex := 728, attributes := #[] }] 49 2 #[] #[{ accessFlags := 25, nameIndex := 507, descriptorIndex := 526, attributes := #[] }, { accessFlags := 25, nameIndex := 399, descriptorIndex := 155, attributes := #[] }, { accessFlags := 25, nameIndex := 396, descriptorIndex := 155, attributes := #[] }, { accessFlags := 10, nameIndex := 525, descriptorIndex := 526, attributes := #[] }, { accessFlags := 26, nameIndex := 674, descriptorIndex := 12, attributes := #[] }, { accessFlags := 26, nameIndex := 677, descriptorIndex := 12, attributes := #[] }, { accessFlags := 10, nameIndex := 11, descriptorIndex := 12, attributes := #[] }, { accessFlags := 74, nameIndex := 175, descriptorIndex := 176, attributes := #[] }, { accessFlags := 10, nameIndex := 491, descriptorIndex := 222, attributes := #[] }, { accessFlags := 74, nameIndex := 29, descriptorIndex := 30, attributes := #[] }, { accessFlags := 74, nameIndex := 154, descriptorIndex := 155, attributes := #[] }, { accessFlags := 10, nameIndex := 217, descriptorIndex := 218, attributes := #[] }, { accessFlags := 10, nameIndex := 221, descriptorIndex := 222, attributes := #[] }, { accessFlags := 8, nameIndex := 562, descriptorIndex := 563, attributes := #[] }])
  fields := #[{ name := "in", type := (.object "java/io/InputStream"), accessFlags := 25, slot := 0, constantValue := 0 }, { name := "out", type := (.object "java/io/PrintStream"), accessFlags := 25, slot := 1, constantValue := 0 }, { name := "err", type := (.object "java/io/PrintStream"), accessFlags := 25, slot := 2, constantValue := 0 }, { name := "initialIn", type := (.object "java/io/InputStream"), accessFlags := 10, slot := 3, constantValue := 0 }, { name := "NEVER", type := .int, accessFlags := 26, slot := 4, constantValue := 0 }, { name := "MAYBE", type := .int, accessFlags := 26, slot := 5, constantValue := 0 }, { name := "allowSecurityManager", type := .int, accessFlags := 10, slot := 6, constantValue := 0 }, { name := "security", type := (.object "java/lang/SecurityManager"), accessFlags := 74, slot := 7, constantValue := 0 }, { name := "notSupportedJnuEncoding", type := (.object "java/lang/String"), accessFlags := 10, slot := 8, constantValue := 0 }, { name := "cons", type := (.object "java/io/Console"), accessFlags := 74, slot := 9, constantValue := 0 }, { name := "initialErrStream", type := (.object "java/io/PrintStream"), accessFlags := 74, slot := 10, constantValue := 0 }, { name := "props", type := (.object "java/util/Properties"), accessFlags := 10, slot := 11, constantValue := 0 }, { name := "lineSeparator", type := (.object "java/lang/String"), accessFlags := 10, slot := 12, constantValue := 0 }, { name := "bootLayer", type := (.object "java/lang/ModuleLayer"), accessFlags := 8, slot := 13, constantValue := 0 }]
  methods := #[k22m0, k22m1]
  instanceTypes := #[]
  staticTypes := #[(.object "java/io/InputStream"), (.object "java/io/PrintStream"), (.object "java/io/PrintStream"), (.object "java/io/InputStream"), .int, .int, .int, (.object "java/lang/SecurityManager"), (.object "java/lang/String"), (.object "java/io/Console"), (.object "java/io/PrintStream"), (.object "java/util/Properties"), (.object "java/lang/String"), (.object "java/lang/ModuleLayer")]
  resolved := Array.replicate 834 none
  statics := none }

def pool23 : Array CpInfo := pool [(2, .class_ 4), (1, u "java/lang/Object"), (0, u "<init>"), (0, u "()V"), (35, .class_ 44), (1, u "java/util/Objects"), (0, u "requireNonNull"), (0, u "(Ljava/lang/Object;)Ljava/lang/Object;")] 137

def k23m0 : Method := { name := "<init>", desc := "()V", sig := { parameters := [], returnType := none }, accessFlags := 2, code := none }
def k23c1 : Code := { maxStack := 2, maxLocals := 1, code := jdk_31_method_10_code, exceptionTable := #[], attributes := #[] }
def k23m1 : Method := { name := "requireNonNull", desc := "(Ljava/lang/Object;)Ljava/lang/Object;", sig := { parameters := [(.object "java/lang/Object")], returnType := some (.object "java/lang/Object") }, accessFlags := 9, code := some k23c1 }
/-- java/util/Objects -/
def k23 : Class := { plain "java/util/Objects" (some 0) with
  accessFlags := 49
  interfaces := #[]
  cf := some (fileOf pool23 42 #[] #[{ accessFlags := 2, nameIndex := 5, descriptorIndex := 6, attributes := #[] }, { accessFlags := 9, nameIndex := 45, descriptorIndex := 46, attributes := #[] }] 49 2 #[] #[])
  fields := #[]
  methods := #[k23m0, k23m1]
  instanceTypes := #[]
  staticTypes := #[]
  resolved := Array.replicate 184 none
  statics := none }

def pool24 : Array CpInfo := pool [(1, u "java/lang/Class"), (0, .class_ 1), (0, u "java/lang/Object"), (0, .class_ 3)] 0

/-- java/lang/Class -/
def k24 : Class := { plain "java/lang/Class" (some 0) with
  accessFlags := 49
  interfaces := #[]
  cf := some (fileOf pool24 2 #[] #[] 49 4 #[] #[])
  fields := #[]
  methods := #[]
  instanceTypes := #[]
  staticTypes := #[]
  resolved := Array.replicate 5 none
  statics := none }

/-- the primitive byte -/
def k25 : Class := { plain "byte" none with kind := .primitive 'B', accessFlags := 0x411 }
/-- [B -/
def k26 : Class := { plain "[B" (some 0) with kind := .array 25 .byte, interfaces := #[11, 12], accessFlags := 1041 }

/-- the primitive int -/
def k27 : Class := { plain "int" none with kind := .primitive 'I', accessFlags := 0x411 }
/-- [I -/
def k28 : Class := { plain "[I" (some 0) with kind := .array 27 .int, interfaces := #[11, 12], accessFlags := 1041 }

/-- [Ljava/lang/Object; -/
def k29 : Class := { plain "[Ljava/lang/Object;" (some 0) with mirror := some 2, kind := .array 0 (.object "java/lang/Object"), interfaces := #[11, 12], accessFlags := 1041 }

def heap : Heap := #[{ cls := 13, slots := #[.long 0, .int 0, .ref 3, .ref 4], vm := .statics 13 },
  { cls := 16, slots := #[.long 0, .int 0, .null, .ref 6, .ref 5, .null, .null, .null, .int 0, .int 1], vm := .statics 16 },
  { cls := 24, slots := #[], vm := .mirror 29 },
  { cls := 29, slots := #[], vm := .none },
  { cls := 29, slots := #[], vm := .none },
  { cls := 20, slots := #[.ref 3, .int 0], vm := .none },
  { cls := 0, slots := #[], vm := .none }]
def classes : Array Class := #[k0, k1, k2, k3, k4, k5, k6, k7, k8, k9, k10, k11, k12, k13, k14, k15, k16, k17, k18, k19, k20, k21, k22, k23, k24, k25, k26, k27, k28, k29]
def interned : List (Array UInt16 × Addr) := []
def slotsUsed : Nat := 16
def theMethod : MethodId := ⟨1, 2⟩
def args0 : Array Value := #[.int 5, .int 2, .int 1]
def aboutOver (below : List Frame) : State where
  vm := { classes := classes, interned := interned.toArray }
  heap := heap
  slotsUsed := slotsUsed
  threads := #[{ frames := .invoking theMethod args0 :: below }]
def below0 : List Frame := [.native { method := ⟨0, 0⟩, args := #[] }]
def about1 : State := aboutOver below0
def p0 : Program := .bare "" "" ""
def e0 : Env := launch0.env 0 0 0
theorem w_frames : about1.frames = Frame.invoking theMethod args0 :: below0 := rfl
set_option maxRecDepth 65536 in
theorem w_args : argsFit about1.vm theMethod args0 = true := by decide +kernel
set_option maxRecDepth 65536 in
theorem w_heap : heapFits about1 = true := by decide +kernel
set_option maxRecDepth 65536 in
theorem w_runnable : about1.curStatus? = some .runnable := by decide +kernel
set_option maxRecDepth 65536 in
theorem w_alone : about1.alone = true := by decide +kernel
set_option maxRecDepth 65536 in
theorem w_named : about1.methodNamed? x = some theMethod := by decide +kernel
set_option maxRecDepth 65536 in
theorem w_hears : about1.hears theMethod below0 = true := by decide +kernel
set_option maxRecDepth 65536 in
theorem w_ripe : about1.ripe theMethod args0 below0 = true := by decide +kernel
theorem w_running : about1.status = .running := rfl
set_option maxRecDepth 65536 in
theorem w_room : about1.hasRoom e0.platform room_1 = true :=
  launch0.hasRoom_least _ room_1 (by decide +kernel) (by decide +kernel) (by decide +kernel) (by decide +kernel) (by decide +kernel) (by decide +kernel)
theorem allAtoms_all (ts : List Jvm.Cond) (a : Array Jvm.Value) (st : Jvm.State) : (allAtoms ts).before a st = ts.all (fun c => c.before a st) := by
  induction ts with
  | nil => rfl
  | cons c t ih =>
    show (Jvm.Cond.and c (allAtoms t)).before a st = _
    rw [Jvm.Cond.before_and, ih, List.all_cons]
def words1 : List Jvm.Cond := Jvm.Cond.code x code maxLocals ret :: tables_1
/-- a 'code' word, met by the world's own term for the bytes: nothing is compared byte by byte -/
theorem code_word {y : MethodName} {bytes : ByteArray} {mx : Nat} {rt : Option FieldType} {a : Array Value} {s : State} {m : MethodId} {meth : Method} {c : Code} (h1 : s.methodNamed? y = some m) (h2 : s.vm.method? m = some meth) (h3 : meth.code = some c) (h4 : c.code = bytes)
    (h5 : (c.maxLocals == mx && c.exceptionTable.isEmpty && decide (c.maxStack ≤ mostOperands) && decide (meth.sig.returnType = rt) && !meth.locks && decide (parseMethodDescriptor y.desc = some meth.sig)) = true) : (Jvm.Cond.code y bytes mx rt).before a s = true := by
  simp only [Bool.and_eq_true, beq_iff_eq, Bool.not_eq_true', decide_eq_true_eq] at h5
  obtain ⟨⟨⟨⟨⟨g1, g2⟩, g3⟩, g4⟩, g5⟩, g6⟩ := h5
  simp [Cond.before, Cond.holds, Cond.value, h1, h2, h3, h4, g1, g2, g3, g4, g5, g6]
def isCode : Jvm.Cond → Bool
  | .code _ _ _ _ => true
  | _ => false
theorem all_split {L : List Jvm.Cond} {P : Jvm.Cond → Bool} (h1 : L.all (fun c => isCode c || P c) = true) (h2 : ∀ c ∈ L.filter isCode, P c = true) : L.all P = true := by
  refine List.all_eq_true.mpr fun c hc => ?_
  have h := List.all_eq_true.mp h1 c hc
  rcases Bool.eq_false_or_eq_true (isCode c) with hi | hi
  · exact h2 c (List.mem_filter.mpr ⟨hc, hi⟩)
  · simpa [hi] using h
set_option maxRecDepth 65536 in
theorem w_c0 : (Jvm.Cond.code x code maxLocals ret).before args0 about1 = true := code_word (m := ⟨1, 2⟩) (meth := k1m2) (c := k1c2) (by decide +kernel) rfl rfl rfl (by decide +kernel)
set_option maxRecDepth 65536 in
theorem w_c1 : (Jvm.Cond.code ({ cls := "com/example/rosettine/rosettine/model/ConversionReport$NotConverted", name := "<init>", desc := "(Ljava/util/Optional;Ljava/util/Optional;Ljava/util/Optional;Ljava/lang/String;)V" } : Jvm.MethodName) prog_12_method_1_code (5 : Nat) (Option.none : Option Jvm.ClassFile.FieldType)).before args0 about1 = true := code_word (m := ⟨3, 0⟩) (meth := k3m0) (c := k3c0) (by decide +kernel) rfl rfl rfl (by decide +kernel)
set_option maxRecDepth 65536 in
theorem w_c2 : (Jvm.Cond.code ({ cls := "java/lang/Record", name := "<init>", desc := "()V" } : Jvm.MethodName) jdk_30_method_1_code (1 : Nat) (Option.none : Option Jvm.ClassFile.FieldType)).before args0 about1 = true := code_word (m := ⟨2, 0⟩) (meth := k2m0) (c := k2c0) (by decide +kernel) rfl rfl rfl (by decide +kernel)
set_option maxRecDepth 65536 in
theorem w_c3 : (Jvm.Cond.code ({ cls := "java/lang/Object", name := "<init>", desc := "()V" } : Jvm.MethodName) object_method_1_code (1 : Nat) (Option.none : Option Jvm.ClassFile.FieldType)).before args0 about1 = true := code_word (m := ⟨0, 0⟩) (meth := k0m0) (c := k0c0) (by decide +kernel) rfl rfl rfl (by decide +kernel)
set_option maxRecDepth 65536 in
theorem w_c4 : (Jvm.Cond.code ({ cls := "java/util/ArrayList", name := "<init>", desc := "()V" } : Jvm.MethodName) jdk_38_method_2_code (1 : Nat) (Option.none : Option Jvm.ClassFile.FieldType)).before args0 about1 = true := code_word (m := ⟨13, 0⟩) (meth := k13m0) (c := k13c0) (by decide +kernel) rfl rfl rfl (by decide +kernel)
set_option maxRecDepth 65536 in
theorem w_c5 : (Jvm.Cond.code ({ cls := "java/util/AbstractList", name := "<init>", desc := "()V" } : Jvm.MethodName) jdk_39_method_1_code (1 : Nat) (Option.none : Option Jvm.ClassFile.FieldType)).before args0 about1 = true := code_word (m := ⟨9, 0⟩) (meth := k9m0) (c := k9c0) (by decide +kernel) rfl rfl rfl (by decide +kernel)
set_option maxRecDepth 65536 in
theorem w_c6 : (Jvm.Cond.code ({ cls := "java/util/AbstractCollection", name := "<init>", desc := "()V" } : Jvm.MethodName) jdk_22_method_1_code (1 : Nat) (Option.none : Option Jvm.ClassFile.FieldType)).before args0 about1 = true := code_word (m := ⟨6, 0⟩) (meth := k6m0) (c := k6c0) (by decide +kernel) rfl rfl rfl (by decide +kernel)
set_option maxRecDepth 65536 in
theorem w_c7 : (Jvm.Cond.code ({ cls := "com/example/rosettine/rosettine/model/ConversionReportEntriesPinLaw", name := "addUpTo", desc := "(Ljava/util/ArrayList;Lcom/example/rosettine/rosettine/model/ConversionReport$NotConverted;I)V" } : Jvm.MethodName) method_2_code (3 : Nat) (Option.none : Option Jvm.ClassFile.FieldType)).before args0 about1 = true := code_word (m := ⟨1, 1⟩) (meth := k1m1) (c := k1c1) (by decide +kernel) rfl rfl rfl (by decide +kernel)
set_option maxRecDepth 65536 in
theorem w_c8 : (Jvm.Cond.code ({ cls := "java/util/ArrayList", name := "add", desc := "(Ljava/lang/Object;)Z" } : Jvm.MethodName) jdk_38_method_25_code (2 : Nat) (Option.some Jvm.ClassFile.FieldType.boolean)).before args0 about1 = true := code_word (m := ⟨13, 6⟩) (meth := k13m6) (c := k13c6) (by decide +kernel) rfl rfl rfl (by decide +kernel)
set_option maxRecDepth 65536 in
theorem w_c9 : (Jvm.Cond.code ({ cls := "java/util/ArrayList", name := "add", desc := "(Ljava/lang/Object;[Ljava/lang/Object;I)V" } : Jvm.MethodName) jdk_38_method_24_code (4 : Nat) (Option.none : Option Jvm.ClassFile.FieldType)).before args0 about1 = true := code_word (m := ⟨13, 5⟩) (meth := k13m5) (c := k13c5) (by decide +kernel) rfl rfl rfl (by decide +kernel)
set_option maxRecDepth 65536 in
theorem w_c10 : (Jvm.Cond.code ({ cls := "java/util/ArrayList", name := "grow", desc := "()[Ljava/lang/Object;" } : Jvm.MethodName) jdk_38_method_7_code (1 : Nat) (Option.some (Jvm.ClassFile.FieldType.array (Jvm.ClassFile.FieldType.object "java/lang/Object")))).before args0 about1 = true := code_word (m := ⟨13, 2⟩) (meth := k13m2) (c := k13c2) (by decide +kernel) rfl rfl rfl (by decide +kernel)
set_option maxRecDepth 65536 in
theorem w_c11 : (Jvm.Cond.code ({ cls := "java/util/ArrayList", name := "grow", desc := "(I)[Ljava/lang/Object;" } : Jvm.MethodName) jdk_38_method_6_code (4 : Nat) (Option.some (Jvm.ClassFile.FieldType.array (Jvm.ClassFile.FieldType.object "java/lang/Object")))).before args0 about1 = true := code_word (m := ⟨13, 1⟩) (meth := k13m1) (c := k13c1) (by decide +kernel) rfl rfl rfl (by decide +kernel)
set_option maxRecDepth 65536 in
theorem w_c12 : (Jvm.Cond.code ({ cls := "java/lang/Math", name := "max", desc := "(II)I" } : Jvm.MethodName) jdk_29_method_65_code (2 : Nat) (Option.some Jvm.ClassFile.FieldType.int)).before args0 about1 = true := code_word (m := ⟨14, 1⟩) (meth := k14m1) (c := k14c1) (by decide +kernel) rfl rfl rfl (by decide +kernel)
set_option maxRecDepth 65536 in
theorem w_c13 : (Jvm.Cond.code ({ cls := "com/example/rosettine/rosettine/model/ConversionReport", name := "<init>", desc := "(ILjava/util/List;)V" } : Jvm.MethodName) prog_10_method_1_code (3 : Nat) (Option.none : Option Jvm.ClassFile.FieldType)).before args0 about1 = true := code_word (m := ⟨15, 0⟩) (meth := k15m0) (c := k15c0) (by decide +kernel) rfl rfl rfl (by decide +kernel)
set_option maxRecDepth 65536 in
theorem w_c14 : (Jvm.Cond.code ({ cls := "java/util/List", name := "copyOf", desc := "(Ljava/util/Collection;)Ljava/util/List;" } : Jvm.MethodName) jdk_40_method_48_code (1 : Nat) (Option.some (Jvm.ClassFile.FieldType.object "java/util/List"))).before args0 about1 = true := code_word (m := ⟨8, 3⟩) (meth := k8m3) (c := k8c3) (by decide +kernel) rfl rfl rfl (by decide +kernel)
set_option maxRecDepth 65536 in
theorem w_c15 : (Jvm.Cond.code ({ cls := "java/util/ImmutableCollections", name := "listCopy", desc := "(Ljava/util/Collection;)Ljava/util/List;" } : Jvm.MethodName) jdk_56_method_3_code (2 : Nat) (Option.some (Jvm.ClassFile.FieldType.object "java/util/List"))).before args0 about1 = true := code_word (m := ⟨16, 1⟩) (meth := k16m1) (c := k16c1) (by decide +kernel) rfl rfl rfl (by decide +kernel)
set_option maxRecDepth 65536 in
theorem w_c16 : (Jvm.Cond.code ({ cls := "java/util/ArrayList", name := "isEmpty", desc := "()Z" } : Jvm.MethodName) jdk_38_method_9_code (1 : Nat) (Option.some Jvm.ClassFile.FieldType.boolean)).before args0 about1 = true := code_word (m := ⟨13, 3⟩) (meth := k13m3) (c := k13c3) (by decide +kernel) rfl rfl rfl (by decide +kernel)
set_option maxRecDepth 65536 in
theorem w_c17 : (Jvm.Cond.code ({ cls := "java/util/ArrayList", name := "toArray", desc := "()[Ljava/lang/Object;" } : Jvm.MethodName) jdk_38_method_16_code (1 : Nat) (Option.some (Jvm.ClassFile.FieldType.array (Jvm.ClassFile.FieldType.object "java/lang/Object")))).before args0 about1 = true := code_word (m := ⟨13, 4⟩) (meth := k13m4) (c := k13c4) (by decide +kernel) rfl rfl rfl (by decide +kernel)
set_option maxRecDepth 65536 in
theorem w_c18 : (Jvm.Cond.code ({ cls := "java/util/Arrays", name := "copyOf", desc := "([Ljava/lang/Object;I)[Ljava/lang/Object;" } : Jvm.MethodName) jdk_65_method_119_code (2 : Nat) (Option.some (Jvm.ClassFile.FieldType.array (Jvm.ClassFile.FieldType.object "java/lang/Object")))).before args0 about1 = true := code_word (m := ⟨21, 1⟩) (meth := k21m1) (c := k21c1) (by decide +kernel) rfl rfl rfl (by decide +kernel)
set_option maxRecDepth 65536 in
theorem w_c19 : (Jvm.Cond.code ({ cls := "java/util/Arrays", name := "copyOf", desc := "([Ljava/lang/Object;ILjava/lang/Class;)[Ljava/lang/Object;" } : Jvm.MethodName) jdk_65_method_120_code (4 : Nat) (Option.some (Jvm.ClassFile.FieldType.array (Jvm.ClassFile.FieldType.object "java/lang/Object")))).before args0 about1 = true := code_word (m := ⟨21, 2⟩) (meth := k21m2) (c := k21c2) (by decide +kernel) rfl rfl rfl (by decide +kernel)
set_option maxRecDepth 65536 in
theorem w_c20 : (Jvm.Cond.code ({ cls := "java/lang/Math", name := "min", desc := "(II)I" } : Jvm.MethodName) jdk_29_method_69_code (2 : Nat) (Option.some Jvm.ClassFile.FieldType.int)).before args0 about1 = true := code_word (m := ⟨14, 2⟩) (meth := k14m2) (c := k14c2) (by decide +kernel) rfl rfl rfl (by decide +kernel)
set_option maxRecDepth 65536 in
theorem w_c21 : (Jvm.Cond.code ({ cls := "java/util/List", name := "of", desc := "([Ljava/lang/Object;)Ljava/util/List;" } : Jvm.MethodName) jdk_40_method_47_code (2 : Nat) (Option.some (Jvm.ClassFile.FieldType.object "java/util/List"))).before args0 about1 = true := code_word (m := ⟨8, 2⟩) (meth := k8m2) (c := k8c2) (by decide +kernel) rfl rfl rfl (by decide +kernel)
set_option maxRecDepth 65536 in
theorem w_c22 : (Jvm.Cond.code ({ cls := "java/util/ImmutableCollections", name := "listFromArray", desc := "([Ljava/lang/Object;)Ljava/util/List;" } : Jvm.MethodName) jdk_56_method_4_code (3 : Nat) (Option.some (Jvm.ClassFile.FieldType.object "java/util/List"))).before args0 about1 = true := code_word (m := ⟨16, 2⟩) (meth := k16m2) (c := k16c2) (by decide +kernel) rfl rfl rfl (by decide +kernel)
set_option maxRecDepth 65536 in
theorem w_c23 : (Jvm.Cond.code ({ cls := "java/util/Objects", name := "requireNonNull", desc := "(Ljava/lang/Object;)Ljava/lang/Object;" } : Jvm.MethodName) jdk_31_method_10_code (1 : Nat) (Option.some (Jvm.ClassFile.FieldType.object "java/lang/Object"))).before args0 about1 = true := code_word (m := ⟨23, 1⟩) (meth := k23m1) (c := k23c1) (by decide +kernel) rfl rfl rfl (by decide +kernel)
set_option maxRecDepth 65536 in
theorem w_c24 : (Jvm.Cond.code ({ cls := "java/util/ImmutableCollections$ListN", name := "<init>", desc := "([Ljava/lang/Object;Z)V" } : Jvm.MethodName) jdk_45_method_1_code (3 : Nat) (Option.none : Option Jvm.ClassFile.FieldType)).before args0 about1 = true := code_word (m := ⟨20, 0⟩) (meth := k20m0) (c := k20c0) (by decide +kernel) rfl rfl rfl (by decide +kernel)
set_option maxRecDepth 65536 in
theorem w_c25 : (Jvm.Cond.code ({ cls := "java/util/ImmutableCollections$AbstractImmutableList", name := "<init>", desc := "()V" } : Jvm.MethodName) jdk_46_method_1_code (1 : Nat) (Option.none : Option Jvm.ClassFile.FieldType)).before args0 about1 = true := code_word (m := ⟨18, 0⟩) (meth := k18m0) (c := k18c0) (by decide +kernel) rfl rfl rfl (by decide +kernel)
set_option maxRecDepth 65536 in
theorem w_c26 : (Jvm.Cond.code ({ cls := "java/util/ImmutableCollections$AbstractImmutableCollection", name := "<init>", desc := "()V" } : Jvm.MethodName) jdk_47_method_1_code (1 : Nat) (Option.none : Option Jvm.ClassFile.FieldType)).before args0 about1 = true := code_word (m := ⟨17, 0⟩) (meth := k17m0) (c := k17c0) (by decide +kernel) rfl rfl rfl (by decide +kernel)
set_option maxRecDepth 65536 in
theorem w_c27 : (Jvm.Cond.code ({ cls := "com/example/rosettine/rosettine/model/ConversionReport", name := "entries", desc := "()I" } : Jvm.MethodName) prog_10_method_2_code (1 : Nat) (Option.some Jvm.ClassFile.FieldType.int)).before args0 about1 = true := code_word (m := ⟨15, 1⟩) (meth := k15m1) (c := k15c1) (by decide +kernel) rfl rfl rfl (by decide +kernel)
set_option maxRecDepth 65536 in
theorem w_c28 : (Jvm.Cond.code ({ cls := "java/util/ImmutableCollections$ListN", name := "size", desc := "()I" } : Jvm.MethodName) jdk_45_method_3_code (1 : Nat) (Option.some Jvm.ClassFile.FieldType.int)).before args0 about1 = true := code_word (m := ⟨20, 1⟩) (meth := k20m1) (c := k20c1) (by decide +kernel) rfl rfl rfl (by decide +kernel)
set_option maxRecDepth 65536 in
theorem w_c29 : (Jvm.Cond.code ({ cls := "java/util/List", name := "of", desc := "()Ljava/util/List;" } : Jvm.MethodName) jdk_40_method_36_code (0 : Nat) (Option.some (Jvm.ClassFile.FieldType.object "java/util/List"))).before args0 about1 = true := code_word (m := ⟨8, 1⟩) (meth := k8m1) (c := k8c1) (by decide +kernel) rfl rfl rfl (by decide +kernel)
set_option maxRecDepth 65536 in
theorem w_c30 : (Jvm.Cond.code ({ cls := "java/util/ImmutableCollections$List12", name := "<init>", desc := "(Ljava/lang/Object;Ljava/lang/Object;)V" } : Jvm.MethodName) jdk_44_method_2_code (3 : Nat) (Option.none : Option Jvm.ClassFile.FieldType)).before args0 about1 = true := code_word (m := ⟨19, 1⟩) (meth := k19m1) (c := k19c1) (by decide +kernel) rfl rfl rfl (by decide +kernel)
set_option maxRecDepth 65536 in
theorem w_c31 : (Jvm.Cond.code ({ cls := "java/util/ImmutableCollections$List12", name := "size", desc := "()I" } : Jvm.MethodName) jdk_44_method_3_code (1 : Nat) (Option.some Jvm.ClassFile.FieldType.int)).before args0 about1 = true := code_word (m := ⟨19, 2⟩) (meth := k19m2) (c := k19c2) (by decide +kernel) rfl rfl rfl (by decide +kernel)
set_option maxRecDepth 65536 in
theorem w_c32 : (Jvm.Cond.code ({ cls := "java/util/ImmutableCollections$List12", name := "<init>", desc := "(Ljava/lang/Object;)V" } : Jvm.MethodName) jdk_44_method_1_code (2 : Nat) (Option.none : Option Jvm.ClassFile.FieldType)).before args0 about1 = true := code_word (m := ⟨19, 0⟩) (meth := k19m0) (c := k19c0) (by decide +kernel) rfl rfl rfl (by decide +kernel)
def codes1 : List Jvm.Cond := [Jvm.Cond.code x code maxLocals ret, Jvm.Cond.code ({ cls := "com/example/rosettine/rosettine/model/ConversionReport$NotConverted", name := "<init>", desc := "(Ljava/util/Optional;Ljava/util/Optional;Ljava/util/Optional;Ljava/lang/String;)V" } : Jvm.MethodName) prog_12_method_1_code (5 : Nat) (Option.none : Option Jvm.ClassFile.FieldType), Jvm.Cond.code ({ cls := "java/lang/Record", name := "<init>", desc := "()V" } : Jvm.MethodName) jdk_30_method_1_code (1 : Nat) (Option.none : Option Jvm.ClassFile.FieldType), Jvm.Cond.code ({ cls := "java/lang/Object", name := "<init>", desc := "()V" } : Jvm.MethodName) object_method_1_code (1 : Nat) (Option.none : Option Jvm.ClassFile.FieldType), Jvm.Cond.code ({ cls := "java/util/ArrayList", name := "<init>", desc := "()V" } : Jvm.MethodName) jdk_38_method_2_code (1 : Nat) (Option.none : Option Jvm.ClassFile.FieldType), Jvm.Cond.code ({ cls := "java/util/AbstractList", name := "<init>", desc := "()V" } : Jvm.MethodName) jdk_39_method_1_code (1 : Nat) (Option.none : Option Jvm.ClassFile.FieldType), Jvm.Cond.code ({ cls := "java/util/AbstractCollection", name := "<init>", desc := "()V" } : Jvm.MethodName) jdk_22_method_1_code (1 : Nat) (Option.none : Option Jvm.ClassFile.FieldType), Jvm.Cond.code ({ cls := "com/example/rosettine/rosettine/model/ConversionReportEntriesPinLaw", name := "addUpTo", desc := "(Ljava/util/ArrayList;Lcom/example/rosettine/rosettine/model/ConversionReport$NotConverted;I)V" } : Jvm.MethodName) method_2_code (3 : Nat) (Option.none : Option Jvm.ClassFile.FieldType), Jvm.Cond.code ({ cls := "java/util/ArrayList", name := "add", desc := "(Ljava/lang/Object;)Z" } : Jvm.MethodName) jdk_38_method_25_code (2 : Nat) (Option.some Jvm.ClassFile.FieldType.boolean), Jvm.Cond.code ({ cls := "java/util/ArrayList", name := "add", desc := "(Ljava/lang/Object;[Ljava/lang/Object;I)V" } : Jvm.MethodName) jdk_38_method_24_code (4 : Nat) (Option.none : Option Jvm.ClassFile.FieldType), Jvm.Cond.code ({ cls := "java/util/ArrayList", name := "grow", desc := "()[Ljava/lang/Object;" } : Jvm.MethodName) jdk_38_method_7_code (1 : Nat) (Option.some (Jvm.ClassFile.FieldType.array (Jvm.ClassFile.FieldType.object "java/lang/Object"))), Jvm.Cond.code ({ cls := "java/util/ArrayList", name := "grow", desc := "(I)[Ljava/lang/Object;" } : Jvm.MethodName) jdk_38_method_6_code (4 : Nat) (Option.some (Jvm.ClassFile.FieldType.array (Jvm.ClassFile.FieldType.object "java/lang/Object"))), Jvm.Cond.code ({ cls := "java/lang/Math", name := "max", desc := "(II)I" } : Jvm.MethodName) jdk_29_method_65_code (2 : Nat) (Option.some Jvm.ClassFile.FieldType.int), Jvm.Cond.code ({ cls := "com/example/rosettine/rosettine/model/ConversionReport", name := "<init>", desc := "(ILjava/util/List;)V" } : Jvm.MethodName) prog_10_method_1_code (3 : Nat) (Option.none : Option Jvm.ClassFile.FieldType), Jvm.Cond.code ({ cls := "java/util/List", name := "copyOf", desc := "(Ljava/util/Collection;)Ljava/util/List;" } : Jvm.MethodName) jdk_40_method_48_code (1 : Nat) (Option.some (Jvm.ClassFile.FieldType.object "java/util/List")), Jvm.Cond.code ({ cls := "java/util/ImmutableCollections", name := "listCopy", desc := "(Ljava/util/Collection;)Ljava/util/List;" } : Jvm.MethodName) jdk_56_method_3_code (2 : Nat) (Option.some (Jvm.ClassFile.FieldType.object "java/util/List")), Jvm.Cond.code ({ cls := "java/util/ArrayList", name := "isEmpty", desc := "()Z" } : Jvm.MethodName) jdk_38_method_9_code (1 : Nat) (Option.some Jvm.ClassFile.FieldType.boolean), Jvm.Cond.code ({ cls := "java/util/ArrayList", name := "toArray", desc := "()[Ljava/lang/Object;" } : Jvm.MethodName) jdk_38_method_16_code (1 : Nat) (Option.some (Jvm.ClassFile.FieldType.array (Jvm.ClassFile.FieldType.object "java/lang/Object"))), Jvm.Cond.code ({ cls := "java/util/Arrays", name := "copyOf", desc := "([Ljava/lang/Object;I)[Ljava/lang/Object;" } : Jvm.MethodName) jdk_65_method_119_code (2 : Nat) (Option.some (Jvm.ClassFile.FieldType.array (Jvm.ClassFile.FieldType.object "java/lang/Object"))), Jvm.Cond.code ({ cls := "java/util/Arrays", name := "copyOf", desc := "([Ljava/lang/Object;ILjava/lang/Class;)[Ljava/lang/Object;" } : Jvm.MethodName) jdk_65_method_120_code (4 : Nat) (Option.some (Jvm.ClassFile.FieldType.array (Jvm.ClassFile.FieldType.object "java/lang/Object"))), Jvm.Cond.code ({ cls := "java/lang/Math", name := "min", desc := "(II)I" } : Jvm.MethodName) jdk_29_method_69_code (2 : Nat) (Option.some Jvm.ClassFile.FieldType.int), Jvm.Cond.code ({ cls := "java/util/List", name := "of", desc := "([Ljava/lang/Object;)Ljava/util/List;" } : Jvm.MethodName) jdk_40_method_47_code (2 : Nat) (Option.some (Jvm.ClassFile.FieldType.object "java/util/List")), Jvm.Cond.code ({ cls := "java/util/ImmutableCollections", name := "listFromArray", desc := "([Ljava/lang/Object;)Ljava/util/List;" } : Jvm.MethodName) jdk_56_method_4_code (3 : Nat) (Option.some (Jvm.ClassFile.FieldType.object "java/util/List")), Jvm.Cond.code ({ cls := "java/util/Objects", name := "requireNonNull", desc := "(Ljava/lang/Object;)Ljava/lang/Object;" } : Jvm.MethodName) jdk_31_method_10_code (1 : Nat) (Option.some (Jvm.ClassFile.FieldType.object "java/lang/Object")), Jvm.Cond.code ({ cls := "java/util/ImmutableCollections$ListN", name := "<init>", desc := "([Ljava/lang/Object;Z)V" } : Jvm.MethodName) jdk_45_method_1_code (3 : Nat) (Option.none : Option Jvm.ClassFile.FieldType), Jvm.Cond.code ({ cls := "java/util/ImmutableCollections$AbstractImmutableList", name := "<init>", desc := "()V" } : Jvm.MethodName) jdk_46_method_1_code (1 : Nat) (Option.none : Option Jvm.ClassFile.FieldType), Jvm.Cond.code ({ cls := "java/util/ImmutableCollections$AbstractImmutableCollection", name := "<init>", desc := "()V" } : Jvm.MethodName) jdk_47_method_1_code (1 : Nat) (Option.none : Option Jvm.ClassFile.FieldType), Jvm.Cond.code ({ cls := "com/example/rosettine/rosettine/model/ConversionReport", name := "entries", desc := "()I" } : Jvm.MethodName) prog_10_method_2_code (1 : Nat) (Option.some Jvm.ClassFile.FieldType.int), Jvm.Cond.code ({ cls := "java/util/ImmutableCollections$ListN", name := "size", desc := "()I" } : Jvm.MethodName) jdk_45_method_3_code (1 : Nat) (Option.some Jvm.ClassFile.FieldType.int), Jvm.Cond.code ({ cls := "java/util/List", name := "of", desc := "()Ljava/util/List;" } : Jvm.MethodName) jdk_40_method_36_code (0 : Nat) (Option.some (Jvm.ClassFile.FieldType.object "java/util/List")), Jvm.Cond.code ({ cls := "java/util/ImmutableCollections$List12", name := "<init>", desc := "(Ljava/lang/Object;Ljava/lang/Object;)V" } : Jvm.MethodName) jdk_44_method_2_code (3 : Nat) (Option.none : Option Jvm.ClassFile.FieldType), Jvm.Cond.code ({ cls := "java/util/ImmutableCollections$List12", name := "size", desc := "()I" } : Jvm.MethodName) jdk_44_method_3_code (1 : Nat) (Option.some Jvm.ClassFile.FieldType.int), Jvm.Cond.code ({ cls := "java/util/ImmutableCollections$List12", name := "<init>", desc := "(Ljava/lang/Object;)V" } : Jvm.MethodName) jdk_44_method_1_code (2 : Nat) (Option.none : Option Jvm.ClassFile.FieldType)]
set_option maxRecDepth 65536 in
theorem codes_eq : words1.filter isCode = codes1 := rfl
theorem w_codes : ∀ c ∈ words1.filter isCode, c.before args0 about1 = true := by
  rw [codes_eq]
  intro c hc
  simp only [codes1, List.mem_cons, List.not_mem_nil, or_false] at hc
  rcases hc with rfl | rfl | rfl | rfl | rfl | rfl | rfl | rfl | rfl | rfl | rfl | rfl | rfl | rfl | rfl | rfl | rfl | rfl | rfl | rfl | rfl | rfl | rfl | rfl | rfl | rfl | rfl | rfl | rfl | rfl | rfl | rfl | rfl
  · exact w_c0
  · exact w_c1
  · exact w_c2
  · exact w_c3
  · exact w_c4
  · exact w_c5
  · exact w_c6
  · exact w_c7
  · exact w_c8
  · exact w_c9
  · exact w_c10
  · exact w_c11
  · exact w_c12
  · exact w_c13
  · exact w_c14
  · exact w_c15
  · exact w_c16
  · exact w_c17
  · exact w_c18
  · exact w_c19
  · exact w_c20
  · exact w_c21
  · exact w_c22
  · exact w_c23
  · exact w_c24
  · exact w_c25
  · exact w_c26
  · exact w_c27
  · exact w_c28
  · exact w_c29
  · exact w_c30
  · exact w_c31
  · exact w_c32
set_option maxRecDepth 65536 in
theorem w_t1 : (words1.take 24).all (fun c => isCode c || c.before args0 about1) = true := by decide +kernel
set_option maxRecDepth 65536 in
theorem w_t2 : ((words1.drop 24).take 24).all (fun c => isCode c || c.before args0 about1) = true := by decide +kernel
set_option maxRecDepth 65536 in
theorem w_t3 : (((words1.drop 24).drop 24).take 24).all (fun c => isCode c || c.before args0 about1) = true := by decide +kernel
set_option maxRecDepth 65536 in
theorem w_t4 : ((((words1.drop 24).drop 24).drop 24).take 24).all (fun c => isCode c || c.before args0 about1) = true := by decide +kernel
set_option maxRecDepth 65536 in
theorem w_t5 : (((((words1.drop 24).drop 24).drop 24).drop 24).take 24).all (fun c => isCode c || c.before args0 about1) = true := by decide +kernel
set_option maxRecDepth 65536 in
theorem w_t6 : ((((((words1.drop 24).drop 24).drop 24).drop 24).drop 24).take 24).all (fun c => isCode c || c.before args0 about1) = true := by decide +kernel
set_option maxRecDepth 65536 in
theorem w_t7 : (((((((words1.drop 24).drop 24).drop 24).drop 24).drop 24).drop 24).take 24).all (fun c => isCode c || c.before args0 about1) = true := by decide +kernel
set_option maxRecDepth 65536 in
theorem w_t8 : ((((((((words1.drop 24).drop 24).drop 24).drop 24).drop 24).drop 24).drop 24).take 24).all (fun c => isCode c || c.before args0 about1) = true := by decide +kernel
set_option maxRecDepth 65536 in
theorem w_t9 : (((((((((words1.drop 24).drop 24).drop 24).drop 24).drop 24).drop 24).drop 24).drop 24).take 24).all (fun c => isCode c || c.before args0 about1) = true := by decide +kernel
set_option maxRecDepth 65536 in
theorem w_t10 : (((((((((words1.drop 24).drop 24).drop 24).drop 24).drop 24).drop 24).drop 24).drop 24).drop 24).all (fun c => isCode c || c.before args0 about1) = true := by decide +kernel
theorem w_tables : (allAtoms (Jvm.Cond.code x code maxLocals ret :: tables_1)).before args0 about1 = true := by
  rw [allAtoms_all]
  show words1.all (fun c => c.before args0 about1) = true
  refine all_split ?_ w_codes
  rw [← List.take_append_drop 24 words1, List.all_append, w_t1, ← List.take_append_drop 24 (words1.drop 24), List.all_append, w_t2, ← List.take_append_drop 24 ((words1.drop 24).drop 24), List.all_append, w_t3, ← List.take_append_drop 24 (((words1.drop 24).drop 24).drop 24), List.all_append, w_t4, ← List.take_append_drop 24 ((((words1.drop 24).drop 24).drop 24).drop 24), List.all_append, w_t5, ← List.take_append_drop 24 (((((words1.drop 24).drop 24).drop 24).drop 24).drop 24), List.all_append, w_t6, ← List.take_append_drop 24 ((((((words1.drop 24).drop 24).drop 24).drop 24).drop 24).drop 24), List.all_append, w_t7, ← List.take_append_drop 24 (((((((words1.drop 24).drop 24).drop 24).drop 24).drop 24).drop 24).drop 24), List.all_append, w_t8, ← List.take_append_drop 24 ((((((((words1.drop 24).drop 24).drop 24).drop 24).drop 24).drop 24).drop 24).drop 24), List.all_append, w_t9, w_t10]
  rfl
set_option maxRecDepth 65536 in
theorem w_rest : rest_1_c.before args0 about1 = true := by decide +kernel
set_option maxRecDepth 65536 in
theorem w_case : (Jvm.Cond.and given_1 narrow_1).before args0 about1 = true := by decide +kernel
theorem w_applies : (headSpec (Jvm.Cond.code x code maxLocals ret :: tables_1) room_1).applies x e0.platform about1 = true :=
  (Spec.applies_iff w_frames).mpr ⟨w_running, w_runnable, w_alone, w_named, w_hears, w_ripe, w_room, w_tables⟩
theorem atStart : AtStart classFile x code maxLocals ret World_1 tables_1 room_1 Calls_1 rest_1 Pre_1 launch0 p0 e0 about1 theMethod args0 below0 :=
  ⟨lists_1, trivial, launch0.admits_env _ _ _, launch0.least_env, fairChoices_fair.cas, fairChoices_fair.clock, w_frames, w_args, w_heap, w_applies, ⟨⟨29, k29, 2, by decide +kernel, rfl, rfl, _, rfl, rfl⟩, trivial⟩, w_rest, w_case⟩
end start1
theorem witness_1 : WitnessClaimed_1 := ⟨start1.p0, start1.e0, start1.about1, start1.theMethod, start1.args0, start1.below0, start1.atStart⟩
end Jvm.Pilot.@@N@@
