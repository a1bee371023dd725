import JvmDerived
import JvmDerived.Pilot.@@N@@Statement
import JvmDerived.Pilot.@@N@@Code
set_option linter.unusedVariables false
set_option linter.unusedSimpArgs false
namespace Jvm.Pilot.@@N@@
open Jvm Jvm.ClassFile Sem Op Lib Jvm.Free Jvm.Stand Jvm.LawKit Jvm.RoadKit Bundle Jvm.Pilot.@@N@@.Jvm.D
section OwnRet
variable {p : Program} {l : Launch} {e : Env} {R : Room} {s : State} {m : MethodId} {args : Array Value} {below : List Frame} {meth : Method} {c : Code} {T : State} {locs : List Loc} {cells slots : Nat}
theorem own_retI0 (X : Stand p l e R s m args below meth c T locs cells slots) (hx : p.tables.exec = Jvm.exec) {pc : Nat} {Ls : Array Slot} {z : Int32} {rest : List Value} (hret : meth.sig.returnType = some .int) (hd : decode c.code pc = .ok (.ireturn, 1)) {fs : List Frame}
    (hl : ∀ (f : JFrame) (acts : List Action), f.method = m → f.locked = none → f.entered = [] → (doReturn e (T.setTop f) acts (some (.int z))).1 = T.setFrames fs) : Steps p.tables e below (T.setTop (mkF m pc Ls (.int z :: rest))) (T.setFrames fs) :=
  retOut X hx hret rfl (Or.inl ⟨rfl, Or.inl rfl, z, rfl⟩) hd hl
end OwnRet
/-- the array at a: of component type ty, its class k, and just these components -/
def own_A (Z : State) (h : Heap) (a : Addr) (kc : ClassId) (ty : FieldType) (vs : List Value) : Prop := ∃ c : Cell, Arr Z h a c ty ∧ c.cls = kc ∧ c.slots.toList = vs ∧ vs.length < 2 ^ 31 ∧ ∀ v ∈ vs, fits ty v = true
section OwnArr
variable {Z : State} {h h' : Heap} {a b : Addr} {kc : ClassId} {ty : FieldType} {vs : List Value} {sl : Nat} {v w : Value} {ws : List Addr}
theorem own_A.lt (F : own_A Z h a kc ty vs) : a < h.size := by obtain ⟨c, A, -⟩ := F; exact A.lt
theorem own_A.ext (F : own_A Z h a kc ty vs) (E : Ext h h') : own_A Z h' a kc ty vs := by obtain ⟨c, A, r⟩ := F; exact ⟨c, A.ext E, r⟩
theorem own_A.other (F : own_A Z h b kc ty vs) (W : Wr h h' a sl v) (q : b ≠ a) : own_A Z h' b kc ty vs := by obtain ⟨c, A, r⟩ := F; exact ⟨c, A.other W q, r⟩
theorem own_A.keep (F : own_A Z h a kc ty vs) (K : Keep h h' ws) (q : a ∉ ws) : own_A Z h' a kc ty vs := by obtain ⟨c, A, r⟩ := F; exact ⟨c, ⟨K.2.1 a c A.1 q, A.2⟩, r⟩
theorem own_A.same (F : own_A Z h a kc ty vs) (W : Wr h h' a sl v) (hf : fits ty v = true) : own_A Z h' a kc ty (vs.set sl v) := by
  obtain ⟨c, A, r1, r2, r3, r4⟩ := F
  refine ⟨_, A.same W, r1, by show (c.slots.setIfInBounds sl v).toList = _; rw [Array.toList_setIfInBounds, r2], by simpa using r3, fun u hu => ?_⟩
  rcases List.mem_or_eq_of_mem_set hu with q | q
  · exact r4 u q
  · exact q ▸ hf
theorem own_in {c : Cell} {j : Int32} {i : Nat} (r2 : c.slots.toList = vs) (hj : j.toNatClampNeg = i) (hj0 : ¬ j < 0) (hi : i < vs.length) : ¬ (j < 0 ∨ c.slots.size ≤ j.toNatClampNeg) := by
  rintro (q | q)
  · exact hj0 q
  · rw [hj, ← Array.length_toList, r2] at q; omega
theorem own_Ins_keep {C : String} (F : Ins Z h a C true) (K : Keep h h' ws) : Ins Z h' a C true := by
  obtain ⟨cell, cT, h1, h2, h3⟩ := F
  obtain ⟨c', q, r1, r2, -⟩ := K.2.2 a cell h1
  exact ⟨c', cT, q, h2, by rw [r1, r2]; exact h3⟩
theorem own_Sta_keep0 {C nm d : String} (F : Sta Z h C nm d v) (K : Keep h h' []) : Sta Z h' C nm d v := by
  obtain ⟨cf, i, k, f, st, cell, h1, h2, h3, h4, h5, r⟩ := F
  exact ⟨cf, i, k, f, st, cell, h1, h2, h3, h4, K.2.1 st cell h5 nin0, r⟩
theorem own_Sto {x : Addr} {C : String} (F : own_A Z h a kc ty vs) (O : Ovr Z kc C) (I : Ins Z h x C true) : Sto Z h a (.ref x) := by
  obtain ⟨c, A, r, -⟩ := F
  exact Sto.ofV A r O I
theorem own_Sto_keep (F : Sto Z h a v) (K : Keep h h' ws) : Sto Z h' a v := F.imp id fun ⟨c1, c2, k, kv, kc, cp, t, y, h1, h2, h3, h4, h5, h6, h7, h8, h9⟩ => by
  obtain ⟨c1', q1, r1, -, -⟩ := K.2.2 _ _ h1
  obtain ⟨c2', q2, r2, r3, -⟩ := K.2.2 _ _ h6
  exact ⟨c1', c2', k, kv, kc, cp, t, y, q1, by rw [r1]; exact h2, h3, h4, h5, q2, by rw [r3]; exact h7, by rw [r2]; exact h8, by rw [r2]; exact h9⟩
end OwnArr
section OwnKit
variable {p : Program} {l : Launch} {e : Env} {R : Room} {s : State} {m : MethodId} {args : Array Value} {below : List Frame} {meth : Method} {c : Code} {Z T : State} {n0 ml k n : Nat} {y : MethodName} {bytes : ByteArray} {ret : Option FieldType} {h : Heap} {a0 : Array Value} {G : State → Outcome → Prop} {Ls : Array Slot} {st : List Value} {pc : Nat}
/-- the run from this state ends, and G holds of the end -/
def own_Ends (p : Program) (e : Env) (below : List Frame) (G : State → Outcome → Prop) (S : State) : Prop := ∃ s₂ o, Steps p.tables e below S s₂ ∧ s₂.status = .running ∧ Ended s₂ below o ∧ G s₂ o
/-- what a method's end must say -/
def own_Fin (s : State) (n0 C S : Nat) (Q : Option Value → Heap → Prop) (s₂ : State) (o : Outcome) : Prop := ∃ v L, o = .returned v ∧ (Q v s₂.heap ∧ Fr n0 L) ∧ FrameEnd s o s₂ L C S
/-- where a walk stands: the state T, its heap h, k cells and n slots spent, nothing old written -/
def own_W (p : Program) (l : Launch) (e : Env) (R : Room) (s : State) (m : MethodId) (args : Array Value) (below : List Frame) (meth : Method) (c : Code) (Z : State) (n0 : Nat) (y : MethodName) (bytes : ByteArray) (ml : Nat) (ret : Option FieldType) (T : State) (h : Heap) (k n : Nat) : Prop :=
  (∃ locs, Stand p l e R s m args below meth c T locs k n ∧ Fr n0 locs) ∧ T.heap = h ∧ n0 ≤ h.size ∧ p.tables.exec = Jvm.exec ∧ Z.Warmed39 s.vm ∧ c.code = bytes ∧ c.maxLocals = ml ∧ s.vm.findClass y.cls = some m.cls ∧ meth.sig.returnType = ret ∧ meth.locks = false ∧ meth.name = y.name
/-- a body's contract: called with as' over the heap h it returns, Q holds of what it returns and of the heap that it leaves -/
def own_Met (l : Launch) (y : MethodName) (bytes : ByteArray) (ml : Nat) (ret : Option FieldType) (rm : Room) (Z : State) (as' : Array Value) (h : Heap) (n0 : Nat) (Q : Option Value → Heap → Prop) : Prop :=
  ∀ ws, MetFree l y (head1 (Jvm.Cond.code y bytes ml ret :: ws) rm) (fun a U => a = as' ∧ Z.Warmed39 U.vm ∧ U.heap = h) (fun _ _ _ _ _ => True) (fun _ U o U' => ∃ v L, o = .returned v ∧ (Q v U'.heap ∧ Fr n0 L) ∧ FrameEnd U o U' L rm.cells rm.slots)
theorem own_pre {S S' : State} (f : ∀ t, Steps p.tables e below S' t → Steps p.tables e below S t) (K : own_Ends p e below G S') : own_Ends p e below G S := by
  obtain ⟨s2, o, h1, h2⟩ := K
  exact ⟨s2, o, f _ h1, h2⟩
theorem own_W.more {k' n' : Nat} (X : own_W p l e R s m args below meth c Z n0 y bytes ml ret T h k n) (hk : k ≤ k') (hn : n ≤ n') : own_W p l e R s m args below meth c Z n0 y bytes ml ret T h k' n' := by
  obtain ⟨⟨locs, Y, N⟩, r⟩ := X
  exact ⟨⟨locs, Y.more hk hn, N⟩, r⟩
theorem own_W.sz (X : own_W p l e R s m args below meth c Z n0 y bytes ml ret T h k n) : n0 ≤ h.size := X.2.2.1
theorem own_met {rm : Room} {as' : Array Value} {Q : Option Value → Heap → Prop} (hpl : plainFor y = true) (hs0 : n0 ≤ h.size) (hef : ∀ m, entryFrame m as' ml = mkF m 0 Ls [])
    (body : ∀ (p : Program) (e : Env) (s : State) (m : MethodId) (below : List Frame) (meth : Method) (c : Code) (T : State), own_W p l e rm s m as' below meth c Z n0 y bytes ml ret T h 0 0 → own_Ends p e below (own_Fin s n0 rm.cells rm.slots Q) (T.setTop (mkF m 0 Ls []))) :
    own_Met l y bytes ml ret rm Z as' h n0 Q := by
  intro ws
  refine MetFree.of_bodySF hpl hisR ?_
  intro p e s m args below meth c s₁ Bd hml0 hP hK
  obtain ⟨rfl, hZ, hh⟩ := hP
  obtain ⟨s2, o, h1, h2, h3, h4⟩ := body p e s m below meth c s₁ ⟨⟨[], Stand.of_body Bd, Fr.nil n0⟩, by rw [← hh, Bd.state]; rfl, hs0, Bd.exec, hZ, Bd.bytes, hml0, findClass_of_methodNamed Bd.named, Bd.returns, Bd.notSynchronized, (name_of_methodNamed Bd.named Bd.method).1⟩
  exact ⟨s2, o, castTop (hef m) h1, h2, h3, h4⟩
theorem own_iloadN (X : own_W p l e R s m args below meth c Z n0 y bytes ml ret T h k n) (q : Nat) {i : Fin 4} (x : Int32) (hd : decode bytes pc = .ok (.iload_n i, 1)) (hq : pc + 1 = q) (hl : Ls[i.val]? = some (.val (.int x))) (K : own_Ends p e below G (T.setTop (mkF m q Ls (.int x :: st)))) : own_Ends p e below G (T.setTop (mkF m pc Ls st)) := by
  subst hq
  obtain ⟨⟨locs, Y, N⟩, eT, hs0, hx, hZ, hby, hml, hown, hret, hlk, hnm⟩ := X
  exact own_pre (fun t K => XS.iloadN Y.here hx rfl (hb hby hd) hl K) K
theorem own_iload (X : own_W p l e R s m args below meth c Z n0 y bytes ml ret T h k n) (q : Nat) {i : Nat} (x : Int32) (hd : decode bytes pc = .ok (.iload i, 2)) (hq : pc + 2 = q) (hl : Ls[i]? = some (.val (.int x))) (K : own_Ends p e below G (T.setTop (mkF m q Ls (.int x :: st)))) : own_Ends p e below G (T.setTop (mkF m pc Ls st)) := by
  subst hq
  obtain ⟨⟨locs, Y, N⟩, eT, hs0, hx, hZ, hby, hml, hown, hret, hlk, hnm⟩ := X
  exact own_pre (fun t K => XS.iload Y.here hx rfl (hb hby hd) hl K) K
theorem own_lloadN (X : own_W p l e R s m args below meth c Z n0 y bytes ml ret T h k n) (q : Nat) {i : Fin 4} (x : Int64) (hd : decode bytes pc = .ok (.lload_n i, 1)) (hq : pc + 1 = q) (hl : Ls[i.val]? = some (.val (.long x))) (K : own_Ends p e below G (T.setTop (mkF m q Ls (.long x :: st)))) : own_Ends p e below G (T.setTop (mkF m pc Ls st)) := by
  subst hq
  obtain ⟨⟨locs, Y, N⟩, eT, hs0, hx, hZ, hby, hml, hown, hret, hlk, hnm⟩ := X
  exact own_pre (fun t K => XS.lloadN Y.here hx rfl (hb hby hd) hl K) K
theorem own_lload (X : own_W p l e R s m args below meth c Z n0 y bytes ml ret T h k n) (q : Nat) {i : Nat} (x : Int64) (hd : decode bytes pc = .ok (.lload i, 2)) (hq : pc + 2 = q) (hl : Ls[i]? = some (.val (.long x))) (K : own_Ends p e below G (T.setTop (mkF m q Ls (.long x :: st)))) : own_Ends p e below G (T.setTop (mkF m pc Ls st)) := by
  subst hq
  obtain ⟨⟨locs, Y, N⟩, eT, hs0, hx, hZ, hby, hml, hown, hret, hlk, hnm⟩ := X
  exact own_pre (fun t K => XS.lload Y.here hx rfl (hb hby hd) hl K) K
theorem own_aloadN (X : own_W p l e R s m args below meth c Z n0 y bytes ml ret T h k n) (q : Nat) {i : Fin 4} (x : Value) (hd : decode bytes pc = .ok (.aload_n i, 1)) (hq : pc + 1 = q) (hl : Ls[i.val]? = some (.val x)) (hv : x.isRef = true) (K : own_Ends p e below G (T.setTop (mkF m q Ls (x :: st)))) : own_Ends p e below G (T.setTop (mkF m pc Ls st)) := by
  subst hq
  obtain ⟨⟨locs, Y, N⟩, eT, hs0, hx, hZ, hby, hml, hown, hret, hlk, hnm⟩ := X
  exact own_pre (fun t K => XS.aloadN Y.here hx rfl (hb hby hd) hl hv K) K
theorem own_aload (X : own_W p l e R s m args below meth c Z n0 y bytes ml ret T h k n) (q : Nat) {i : Nat} (x : Value) (hd : decode bytes pc = .ok (.aload i, 2)) (hq : pc + 2 = q) (hl : Ls[i]? = some (.val x)) (hv : x.isRef = true) (K : own_Ends p e below G (T.setTop (mkF m q Ls (x :: st)))) : own_Ends p e below G (T.setTop (mkF m pc Ls st)) := by
  subst hq
  obtain ⟨⟨locs, Y, N⟩, eT, hs0, hx, hZ, hby, hml, hown, hret, hlk, hnm⟩ := X
  exact own_pre (fun t K => XS.aload Y.here hx rfl (hb hby hd) hl hv K) K
theorem own_istoreN (X : own_W p l e R s m args below meth c Z n0 y bytes ml ret T h k n) (q : Nat) {i : Fin 4} {x : Int32} (l' : Array Slot) (hd : decode bytes pc = .ok (.istore_n i, 1)) (hq : pc + 1 = q) (hl : storeLocals Ls i.val (.int x) = some l') (K : own_Ends p e below G (T.setTop (mkF m q l' st))) : own_Ends p e below G (T.setTop (mkF m pc Ls (.int x :: st))) := by
  subst hq
  obtain ⟨⟨locs, Y, N⟩, eT, hs0, hx, hZ, hby, hml, hown, hret, hlk, hnm⟩ := X
  exact own_pre (fun t K => XS.istoreN Y.here hx rfl (hb hby hd) rfl hl K) K
theorem own_istore (X : own_W p l e R s m args below meth c Z n0 y bytes ml ret T h k n) (q : Nat) {i : Nat} {x : Int32} (l' : Array Slot) (hd : decode bytes pc = .ok (.istore i, 2)) (hq : pc + 2 = q) (hl : storeLocals Ls i (.int x) = some l') (K : own_Ends p e below G (T.setTop (mkF m q l' st))) : own_Ends p e below G (T.setTop (mkF m pc Ls (.int x :: st))) := by
  subst hq
  obtain ⟨⟨locs, Y, N⟩, eT, hs0, hx, hZ, hby, hml, hown, hret, hlk, hnm⟩ := X
  exact own_pre (fun t K => XS.istore Y.here hx rfl (hb hby hd) rfl hl K) K
theorem own_lstoreN (X : own_W p l e R s m args below meth c Z n0 y bytes ml ret T h k n) (q : Nat) {i : Fin 4} {x : Int64} (l' : Array Slot) (hd : decode bytes pc = .ok (.lstore_n i, 1)) (hq : pc + 1 = q) (hl : storeLocals Ls i.val (.long x) = some l') (K : own_Ends p e below G (T.setTop (mkF m q l' st))) : own_Ends p e below G (T.setTop (mkF m pc Ls (.long x :: st))) := by
  subst hq
  obtain ⟨⟨locs, Y, N⟩, eT, hs0, hx, hZ, hby, hml, hown, hret, hlk, hnm⟩ := X
  exact own_pre (fun t K => XS.lstoreN Y.here hx rfl (hb hby hd) rfl hl K) K
theorem own_lstore (X : own_W p l e R s m args below meth c Z n0 y bytes ml ret T h k n) (q : Nat) {i : Nat} {x : Int64} (l' : Array Slot) (hd : decode bytes pc = .ok (.lstore i, 2)) (hq : pc + 2 = q) (hl : storeLocals Ls i (.long x) = some l') (K : own_Ends p e below G (T.setTop (mkF m q l' st))) : own_Ends p e below G (T.setTop (mkF m pc Ls (.long x :: st))) := by
  subst hq
  obtain ⟨⟨locs, Y, N⟩, eT, hs0, hx, hZ, hby, hml, hown, hret, hlk, hnm⟩ := X
  exact own_pre (fun t K => XS.lstore Y.here hx rfl (hb hby hd) rfl hl K) K
theorem own_astoreN (X : own_W p l e R s m args below meth c Z n0 y bytes ml ret T h k n) (q : Nat) {i : Fin 4} {x : Value} (l' : Array Slot) (hd : decode bytes pc = .ok (.astore_n i, 1)) (hq : pc + 1 = q) (hv : x.isRef = true) (hl : storeLocals Ls i.val x = some l') (K : own_Ends p e below G (T.setTop (mkF m q l' st))) : own_Ends p e below G (T.setTop (mkF m pc Ls (x :: st))) := by
  subst hq
  obtain ⟨⟨locs, Y, N⟩, eT, hs0, hx, hZ, hby, hml, hown, hret, hlk, hnm⟩ := X
  exact own_pre (fun t K => XS.astoreN Y.here hx rfl (hb hby hd) rfl hv hl K) K
theorem own_astore (X : own_W p l e R s m args below meth c Z n0 y bytes ml ret T h k n) (q : Nat) {i : Nat} {x : Value} (l' : Array Slot) (hd : decode bytes pc = .ok (.astore i, 2)) (hq : pc + 2 = q) (hv : x.isRef = true) (hl : storeLocals Ls i x = some l') (K : own_Ends p e below G (T.setTop (mkF m q l' st))) : own_Ends p e below G (T.setTop (mkF m pc Ls (x :: st))) := by
  subst hq
  obtain ⟨⟨locs, Y, N⟩, eT, hs0, hx, hZ, hby, hml, hown, hret, hlk, hnm⟩ := X
  exact own_pre (fun t K => XS.astore Y.here hx rfl (hb hby hd) rfl hv hl K) K
theorem own_iconst (X : own_W p l e R s m args below meth c Z n0 y bytes ml ret T h k n) (q : Nat) {i : Int} (x : Int32) (hd : decode bytes pc = .ok (.iconst i, 1)) (hq : pc + 1 = q) (hv : Int32.ofInt i = x) (K : own_Ends p e below G (T.setTop (mkF m q Ls (.int x :: st)))) : own_Ends p e below G (T.setTop (mkF m pc Ls st)) := by
  subst hq
  obtain ⟨⟨locs, Y, N⟩, eT, hs0, hx, hZ, hby, hml, hown, hret, hlk, hnm⟩ := X
  exact own_pre (fun t K => XT.iconstV Y.here hx rfl x (hb hby hd) hv K) K
theorem own_bipush (X : own_W p l e R s m args below meth c Z n0 y bytes ml ret T h k n) (q : Nat) {i : Int} (x : Int32) (hd : decode bytes pc = .ok (.bipush i, 2)) (hq : pc + 2 = q) (hv : (Int8.ofInt i).toInt32 = x) (K : own_Ends p e below G (T.setTop (mkF m q Ls (.int x :: st)))) : own_Ends p e below G (T.setTop (mkF m pc Ls st)) := by
  subst hq
  obtain ⟨⟨locs, Y, N⟩, eT, hs0, hx, hZ, hby, hml, hown, hret, hlk, hnm⟩ := X
  exact own_pre (fun t K => XT.bipushV Y.here hx rfl x (hb hby hd) hv K) K
theorem own_sipush (X : own_W p l e R s m args below meth c Z n0 y bytes ml ret T h k n) (q : Nat) {i : Int} (x : Int32) (hd : decode bytes pc = .ok (.sipush i, 3)) (hq : pc + 3 = q) (hv : (Int16.ofInt i).toInt32 = x) (K : own_Ends p e below G (T.setTop (mkF m q Ls (.int x :: st)))) : own_Ends p e below G (T.setTop (mkF m pc Ls st)) := by
  subst hq
  obtain ⟨⟨locs, Y, N⟩, eT, hs0, hx, hZ, hby, hml, hown, hret, hlk, hnm⟩ := X
  exact own_pre (fun t K => XT.sipushV Y.here hx rfl x (hb hby hd) hv K) K
theorem own_lconst (X : own_W p l e R s m args below meth c Z n0 y bytes ml ret T h k n) (q : Nat) {i : Fin 2} (x : Int64) (hd : decode bytes pc = .ok (.lconst i, 1)) (hq : pc + 1 = q) (hv : Int64.ofNat i = x) (K : own_Ends p e below G (T.setTop (mkF m q Ls (.long x :: st)))) : own_Ends p e below G (T.setTop (mkF m pc Ls st)) := by
  subst hq
  obtain ⟨⟨locs, Y, N⟩, eT, hs0, hx, hZ, hby, hml, hown, hret, hlk, hnm⟩ := X
  exact own_pre (fun t K => XT.lconstV Y.here hx rfl x (hb hby hd) hv K) K
theorem own_anull (X : own_W p l e R s m args below meth c Z n0 y bytes ml ret T h k n) (q : Nat)  (hd : decode bytes pc = .ok (.aconst_null, 1)) (hq : pc + 1 = q)  (K : own_Ends p e below G (T.setTop (mkF m q Ls (.null :: st)))) : own_Ends p e below G (T.setTop (mkF m pc Ls st)) := by
  subst hq
  obtain ⟨⟨locs, Y, N⟩, eT, hs0, hx, hZ, hby, hml, hown, hret, hlk, hnm⟩ := X
  exact own_pre (fun t K => XS.aconstNull Y.here hx rfl (hb hby hd) K) K
theorem own_ldcI (X : own_W p l e R s m args below meth c Z n0 y bytes ml ret T h k n) (q : Nat) {i : Nat} {x : Int32} (hd : decode bytes pc = .ok (.ldc i, 2)) (hq : pc + 2 = q) (w : (Jvm.Cond.constant y.cls i x).before a0 Z = true) (K : own_Ends p e below G (T.setTop (mkF m q Ls (.int x :: st)))) : own_Ends p e below G (T.setTop (mkF m pc Ls st)) := by
  subst hq
  obtain ⟨⟨locs, Y, N⟩, eT, hs0, hx, hZ, hby, hml, hown, hret, hlk, hnm⟩ := X
  exact own_pre (fun t K => Y.ldcI hx hown (mvT hZ w) rfl (hb hby hd) K) K
theorem own_ldcwI (X : own_W p l e R s m args below meth c Z n0 y bytes ml ret T h k n) (q : Nat) {i : Nat} {x : Int32} (hd : decode bytes pc = .ok (.ldc_w i, 3)) (hq : pc + 3 = q) (w : (Jvm.Cond.constant y.cls i x).before a0 Z = true) (K : own_Ends p e below G (T.setTop (mkF m q Ls (.int x :: st)))) : own_Ends p e below G (T.setTop (mkF m pc Ls st)) := by
  subst hq
  obtain ⟨⟨locs, Y, N⟩, eT, hs0, hx, hZ, hby, hml, hown, hret, hlk, hnm⟩ := X
  exact own_pre (fun t K => Y.ldcWI hx hown (mvT hZ w) rfl (hb hby hd) K) K
theorem own_ldc2J (X : own_W p l e R s m args below meth c Z n0 y bytes ml ret T h k n) (q : Nat) {i : Nat} {x : Int64} (hd : decode bytes pc = .ok (.ldc2_w i, 3)) (hq : pc + 3 = q) (w : (Jvm.Cond.constantLong y.cls i x).before a0 Z = true) (K : own_Ends p e below G (T.setTop (mkF m q Ls (.long x :: st)))) : own_Ends p e below G (T.setTop (mkF m pc Ls st)) := by
  subst hq
  obtain ⟨⟨locs, Y, N⟩, eT, hs0, hx, hZ, hby, hml, hown, hret, hlk, hnm⟩ := X
  exact own_pre (fun t K => Y.ldc2J hx hown (mvT hZ w) rfl (hb hby hd) K) K
theorem own_iadd (X : own_W p l e R s m args below meth c Z n0 y bytes ml ret T h k n) (q : Nat) {x z : Int32} (hd : decode bytes pc = .ok (.iadd, 1)) (hq : pc + 1 = q)  (K : own_Ends p e below G (T.setTop (mkF m q Ls (.int (x + z) :: st)))) : own_Ends p e below G (T.setTop (mkF m pc Ls (.int z :: .int x :: st))) := by
  subst hq
  obtain ⟨⟨locs, Y, N⟩, eT, hs0, hx, hZ, hby, hml, hown, hret, hlk, hnm⟩ := X
  exact own_pre (fun t K => XS.iadd Y.here hx rfl (hb hby hd) rfl K) K
theorem own_isub (X : own_W p l e R s m args below meth c Z n0 y bytes ml ret T h k n) (q : Nat) {x z : Int32} (hd : decode bytes pc = .ok (.isub, 1)) (hq : pc + 1 = q)  (K : own_Ends p e below G (T.setTop (mkF m q Ls (.int (x - z) :: st)))) : own_Ends p e below G (T.setTop (mkF m pc Ls (.int z :: .int x :: st))) := by
  subst hq
  obtain ⟨⟨locs, Y, N⟩, eT, hs0, hx, hZ, hby, hml, hown, hret, hlk, hnm⟩ := X
  exact own_pre (fun t K => XS.isub Y.here hx rfl (hb hby hd) rfl K) K
theorem own_imul (X : own_W p l e R s m args below meth c Z n0 y bytes ml ret T h k n) (q : Nat) {x z : Int32} (hd : decode bytes pc = .ok (.imul, 1)) (hq : pc + 1 = q)  (K : own_Ends p e below G (T.setTop (mkF m q Ls (.int (x * z) :: st)))) : own_Ends p e below G (T.setTop (mkF m pc Ls (.int z :: .int x :: st))) := by
  subst hq
  obtain ⟨⟨locs, Y, N⟩, eT, hs0, hx, hZ, hby, hml, hown, hret, hlk, hnm⟩ := X
  exact own_pre (fun t K => XS.imul Y.here hx rfl (hb hby hd) rfl K) K
theorem own_iand (X : own_W p l e R s m args below meth c Z n0 y bytes ml ret T h k n) (q : Nat) {x z : Int32} (hd : decode bytes pc = .ok (.iand, 1)) (hq : pc + 1 = q)  (K : own_Ends p e below G (T.setTop (mkF m q Ls (.int (x &&& z) :: st)))) : own_Ends p e below G (T.setTop (mkF m pc Ls (.int z :: .int x :: st))) := by
  subst hq
  obtain ⟨⟨locs, Y, N⟩, eT, hs0, hx, hZ, hby, hml, hown, hret, hlk, hnm⟩ := X
  exact own_pre (fun t K => XS.iand Y.here hx rfl (hb hby hd) rfl K) K
theorem own_ior (X : own_W p l e R s m args below meth c Z n0 y bytes ml ret T h k n) (q : Nat) {x z : Int32} (hd : decode bytes pc = .ok (.ior, 1)) (hq : pc + 1 = q)  (K : own_Ends p e below G (T.setTop (mkF m q Ls (.int (x ||| z) :: st)))) : own_Ends p e below G (T.setTop (mkF m pc Ls (.int z :: .int x :: st))) := by
  subst hq
  obtain ⟨⟨locs, Y, N⟩, eT, hs0, hx, hZ, hby, hml, hown, hret, hlk, hnm⟩ := X
  exact own_pre (fun t K => XS.ior Y.here hx rfl (hb hby hd) rfl K) K
theorem own_ixor (X : own_W p l e R s m args below meth c Z n0 y bytes ml ret T h k n) (q : Nat) {x z : Int32} (hd : decode bytes pc = .ok (.ixor, 1)) (hq : pc + 1 = q)  (K : own_Ends p e below G (T.setTop (mkF m q Ls (.int (x ^^^ z) :: st)))) : own_Ends p e below G (T.setTop (mkF m pc Ls (.int z :: .int x :: st))) := by
  subst hq
  obtain ⟨⟨locs, Y, N⟩, eT, hs0, hx, hZ, hby, hml, hown, hret, hlk, hnm⟩ := X
  exact own_pre (fun t K => XS.ixor Y.here hx rfl (hb hby hd) rfl K) K
theorem own_ishl (X : own_W p l e R s m args below meth c Z n0 y bytes ml ret T h k n) (q : Nat) {x z : Int32} (hd : decode bytes pc = .ok (.ishl, 1)) (hq : pc + 1 = q)  (K : own_Ends p e below G (T.setTop (mkF m q Ls (.int (x <<< (z &&& 31)) :: st)))) : own_Ends p e below G (T.setTop (mkF m pc Ls (.int z :: .int x :: st))) := by
  subst hq
  obtain ⟨⟨locs, Y, N⟩, eT, hs0, hx, hZ, hby, hml, hown, hret, hlk, hnm⟩ := X
  exact own_pre (fun t K => XS.ishl Y.here hx rfl (hb hby hd) rfl K) K
theorem own_ishr (X : own_W p l e R s m args below meth c Z n0 y bytes ml ret T h k n) (q : Nat) {x z : Int32} (hd : decode bytes pc = .ok (.ishr, 1)) (hq : pc + 1 = q)  (K : own_Ends p e below G (T.setTop (mkF m q Ls (.int (x >>> (z &&& 31)) :: st)))) : own_Ends p e below G (T.setTop (mkF m pc Ls (.int z :: .int x :: st))) := by
  subst hq
  obtain ⟨⟨locs, Y, N⟩, eT, hs0, hx, hZ, hby, hml, hown, hret, hlk, hnm⟩ := X
  exact own_pre (fun t K => XS.ishr Y.here hx rfl (hb hby hd) rfl K) K
theorem own_iushr (X : own_W p l e R s m args below meth c Z n0 y bytes ml ret T h k n) (q : Nat) {x z : Int32} (hd : decode bytes pc = .ok (.iushr, 1)) (hq : pc + 1 = q)  (K : own_Ends p e below G (T.setTop (mkF m q Ls (.int (XT.ushr x z) :: st)))) : own_Ends p e below G (T.setTop (mkF m pc Ls (.int z :: .int x :: st))) := by
  subst hq
  obtain ⟨⟨locs, Y, N⟩, eT, hs0, hx, hZ, hby, hml, hown, hret, hlk, hnm⟩ := X
  exact own_pre (fun t K => XT.iushr Y.here hx rfl (hb hby hd) rfl K) K
theorem own_idiv (X : own_W p l e R s m args below meth c Z n0 y bytes ml ret T h k n) (q : Nat) {x z : Int32} (hd : decode bytes pc = .ok (.idiv, 1)) (hq : pc + 1 = q) (hz : z ≠ 0) (K : own_Ends p e below G (T.setTop (mkF m q Ls (.int (x / z) :: st)))) : own_Ends p e below G (T.setTop (mkF m pc Ls (.int z :: .int x :: st))) := by
  subst hq
  obtain ⟨⟨locs, Y, N⟩, eT, hs0, hx, hZ, hby, hml, hown, hret, hlk, hnm⟩ := X
  exact own_pre (fun t K => XS.idiv Y.here hx rfl (hb hby hd) rfl hz K) K
theorem own_irem (X : own_W p l e R s m args below meth c Z n0 y bytes ml ret T h k n) (q : Nat) {x z : Int32} (hd : decode bytes pc = .ok (.irem, 1)) (hq : pc + 1 = q) (hz : z ≠ 0) (K : own_Ends p e below G (T.setTop (mkF m q Ls (.int (x % z) :: st)))) : own_Ends p e below G (T.setTop (mkF m pc Ls (.int z :: .int x :: st))) := by
  subst hq
  obtain ⟨⟨locs, Y, N⟩, eT, hs0, hx, hZ, hby, hml, hown, hret, hlk, hnm⟩ := X
  exact own_pre (fun t K => iremM Y hx rfl (hb hby hd) rfl hz K) K
theorem own_ineg (X : own_W p l e R s m args below meth c Z n0 y bytes ml ret T h k n) (q : Nat) {x : Int32} (hd : decode bytes pc = .ok (.ineg, 1)) (hq : pc + 1 = q)  (K : own_Ends p e below G (T.setTop (mkF m q Ls (.int (-x) :: st)))) : own_Ends p e below G (T.setTop (mkF m pc Ls (.int x :: st))) := by
  subst hq
  obtain ⟨⟨locs, Y, N⟩, eT, hs0, hx, hZ, hby, hml, hown, hret, hlk, hnm⟩ := X
  exact own_pre (fun t K => XS.ineg Y.here hx rfl (hb hby hd) rfl K) K
theorem own_i2b (X : own_W p l e R s m args below meth c Z n0 y bytes ml ret T h k n) (q : Nat) {x : Int32} (hd : decode bytes pc = .ok (.i2b, 1)) (hq : pc + 1 = q)  (K : own_Ends p e below G (T.setTop (mkF m q Ls (.int (x.toInt8.toInt32) :: st)))) : own_Ends p e below G (T.setTop (mkF m pc Ls (.int x :: st))) := by
  subst hq
  obtain ⟨⟨locs, Y, N⟩, eT, hs0, hx, hZ, hby, hml, hown, hret, hlk, hnm⟩ := X
  exact own_pre (fun t K => XS.i2b Y.here hx rfl (hb hby hd) rfl K) K
theorem own_i2s (X : own_W p l e R s m args below meth c Z n0 y bytes ml ret T h k n) (q : Nat) {x : Int32} (hd : decode bytes pc = .ok (.i2s, 1)) (hq : pc + 1 = q)  (K : own_Ends p e below G (T.setTop (mkF m q Ls (.int (x.toInt16.toInt32) :: st)))) : own_Ends p e below G (T.setTop (mkF m pc Ls (.int x :: st))) := by
  subst hq
  obtain ⟨⟨locs, Y, N⟩, eT, hs0, hx, hZ, hby, hml, hown, hret, hlk, hnm⟩ := X
  exact own_pre (fun t K => XS.i2s Y.here hx rfl (hb hby hd) rfl K) K
theorem own_i2c (X : own_W p l e R s m args below meth c Z n0 y bytes ml ret T h k n) (q : Nat) {x : Int32} (hd : decode bytes pc = .ok (.i2c, 1)) (hq : pc + 1 = q)  (K : own_Ends p e below G (T.setTop (mkF m q Ls (.int (x.toUInt32.toUInt16.toUInt32.toInt32) :: st)))) : own_Ends p e below G (T.setTop (mkF m pc Ls (.int x :: st))) := by
  subst hq
  obtain ⟨⟨locs, Y, N⟩, eT, hs0, hx, hZ, hby, hml, hown, hret, hlk, hnm⟩ := X
  exact own_pre (fun t K => XS.i2c Y.here hx rfl (hb hby hd) rfl K) K
theorem own_i2l (X : own_W p l e R s m args below meth c Z n0 y bytes ml ret T h k n) (q : Nat) {x : Int32} (hd : decode bytes pc = .ok (.i2l, 1)) (hq : pc + 1 = q)  (K : own_Ends p e below G (T.setTop (mkF m q Ls (.long x.toInt64 :: st)))) : own_Ends p e below G (T.setTop (mkF m pc Ls (.int x :: st))) := by
  subst hq
  obtain ⟨⟨locs, Y, N⟩, eT, hs0, hx, hZ, hby, hml, hown, hret, hlk, hnm⟩ := X
  exact own_pre (fun t K => XS.i2l Y.here hx rfl (hb hby hd) rfl K) K
theorem own_l2i (X : own_W p l e R s m args below meth c Z n0 y bytes ml ret T h k n) (q : Nat) {x : Int64} (hd : decode bytes pc = .ok (.l2i, 1)) (hq : pc + 1 = q)  (K : own_Ends p e below G (T.setTop (mkF m q Ls (.int x.toInt32 :: st)))) : own_Ends p e below G (T.setTop (mkF m pc Ls (.long x :: st))) := by
  subst hq
  obtain ⟨⟨locs, Y, N⟩, eT, hs0, hx, hZ, hby, hml, hown, hret, hlk, hnm⟩ := X
  exact own_pre (fun t K => XS.l2i Y.here hx rfl (hb hby hd) rfl K) K
theorem own_ladd (X : own_W p l e R s m args below meth c Z n0 y bytes ml ret T h k n) (q : Nat) {x z : Int64} (hd : decode bytes pc = .ok (.ladd, 1)) (hq : pc + 1 = q)  (K : own_Ends p e below G (T.setTop (mkF m q Ls (.long (x + z) :: st)))) : own_Ends p e below G (T.setTop (mkF m pc Ls (.long z :: .long x :: st))) := by
  subst hq
  obtain ⟨⟨locs, Y, N⟩, eT, hs0, hx, hZ, hby, hml, hown, hret, hlk, hnm⟩ := X
  exact own_pre (fun t K => XS.ladd Y.here hx rfl (hb hby hd) rfl K) K
theorem own_lsub (X : own_W p l e R s m args below meth c Z n0 y bytes ml ret T h k n) (q : Nat) {x z : Int64} (hd : decode bytes pc = .ok (.lsub, 1)) (hq : pc + 1 = q)  (K : own_Ends p e below G (T.setTop (mkF m q Ls (.long (x - z) :: st)))) : own_Ends p e below G (T.setTop (mkF m pc Ls (.long z :: .long x :: st))) := by
  subst hq
  obtain ⟨⟨locs, Y, N⟩, eT, hs0, hx, hZ, hby, hml, hown, hret, hlk, hnm⟩ := X
  exact own_pre (fun t K => XS.lsub Y.here hx rfl (hb hby hd) rfl K) K
theorem own_lmul (X : own_W p l e R s m args below meth c Z n0 y bytes ml ret T h k n) (q : Nat) {x z : Int64} (hd : decode bytes pc = .ok (.lmul, 1)) (hq : pc + 1 = q)  (K : own_Ends p e below G (T.setTop (mkF m q Ls (.long (x * z) :: st)))) : own_Ends p e below G (T.setTop (mkF m pc Ls (.long z :: .long x :: st))) := by
  subst hq
  obtain ⟨⟨locs, Y, N⟩, eT, hs0, hx, hZ, hby, hml, hown, hret, hlk, hnm⟩ := X
  exact own_pre (fun t K => XS.lmul Y.here hx rfl (hb hby hd) rfl K) K
theorem own_land (X : own_W p l e R s m args below meth c Z n0 y bytes ml ret T h k n) (q : Nat) {x z : Int64} (hd : decode bytes pc = .ok (.land, 1)) (hq : pc + 1 = q)  (K : own_Ends p e below G (T.setTop (mkF m q Ls (.long (x &&& z) :: st)))) : own_Ends p e below G (T.setTop (mkF m pc Ls (.long z :: .long x :: st))) := by
  subst hq
  obtain ⟨⟨locs, Y, N⟩, eT, hs0, hx, hZ, hby, hml, hown, hret, hlk, hnm⟩ := X
  exact own_pre (fun t K => XS.land Y.here hx rfl (hb hby hd) rfl K) K
theorem own_lor (X : own_W p l e R s m args below meth c Z n0 y bytes ml ret T h k n) (q : Nat) {x z : Int64} (hd : decode bytes pc = .ok (.lor, 1)) (hq : pc + 1 = q)  (K : own_Ends p e below G (T.setTop (mkF m q Ls (.long (x ||| z) :: st)))) : own_Ends p e below G (T.setTop (mkF m pc Ls (.long z :: .long x :: st))) := by
  subst hq
  obtain ⟨⟨locs, Y, N⟩, eT, hs0, hx, hZ, hby, hml, hown, hret, hlk, hnm⟩ := X
  exact own_pre (fun t K => XS.lor Y.here hx rfl (hb hby hd) rfl K) K
theorem own_lxor (X : own_W p l e R s m args below meth c Z n0 y bytes ml ret T h k n) (q : Nat) {x z : Int64} (hd : decode bytes pc = .ok (.lxor, 1)) (hq : pc + 1 = q)  (K : own_Ends p e below G (T.setTop (mkF m q Ls (.long (x ^^^ z) :: st)))) : own_Ends p e below G (T.setTop (mkF m pc Ls (.long z :: .long x :: st))) := by
  subst hq
  obtain ⟨⟨locs, Y, N⟩, eT, hs0, hx, hZ, hby, hml, hown, hret, hlk, hnm⟩ := X
  exact own_pre (fun t K => XS.lxor Y.here hx rfl (hb hby hd) rfl K) K
theorem own_lushr (X : own_W p l e R s m args below meth c Z n0 y bytes ml ret T h k n) (q : Nat) {x : Int64} {z : Int32} (hd : decode bytes pc = .ok (.lushr, 1)) (hq : pc + 1 = q)  (K : own_Ends p e below G (T.setTop (mkF m q Ls (.long (XT.ushrL x z) :: st)))) : own_Ends p e below G (T.setTop (mkF m pc Ls (.int z :: .long x :: st))) := by
  subst hq
  obtain ⟨⟨locs, Y, N⟩, eT, hs0, hx, hZ, hby, hml, hown, hret, hlk, hnm⟩ := X
  exact own_pre (fun t K => XT.lushr Y.here hx rfl (hb hby hd) rfl K) K
theorem own_ldiv (X : own_W p l e R s m args below meth c Z n0 y bytes ml ret T h k n) (q : Nat) {x z : Int64} (hd : decode bytes pc = .ok (.ldiv, 1)) (hq : pc + 1 = q) (hz : z ≠ 0) (K : own_Ends p e below G (T.setTop (mkF m q Ls (.long (x / z) :: st)))) : own_Ends p e below G (T.setTop (mkF m pc Ls (.long z :: .long x :: st))) := by
  subst hq
  obtain ⟨⟨locs, Y, N⟩, eT, hs0, hx, hZ, hby, hml, hown, hret, hlk, hnm⟩ := X
  exact own_pre (fun t K => XS.ldiv Y.here hx rfl (hb hby hd) rfl hz K) K
theorem own_lrem (X : own_W p l e R s m args below meth c Z n0 y bytes ml ret T h k n) (q : Nat) {x z : Int64} (hd : decode bytes pc = .ok (.lrem, 1)) (hq : pc + 1 = q) (hz : z ≠ 0) (K : own_Ends p e below G (T.setTop (mkF m q Ls (.long (x - (x / z) * z) :: st)))) : own_Ends p e below G (T.setTop (mkF m pc Ls (.long z :: .long x :: st))) := by
  subst hq
  obtain ⟨⟨locs, Y, N⟩, eT, hs0, hx, hZ, hby, hml, hown, hret, hlk, hnm⟩ := X
  exact own_pre (fun t K => XS.lrem Y.here hx rfl (hb hby hd) rfl hz K) K
theorem own_lneg (X : own_W p l e R s m args below meth c Z n0 y bytes ml ret T h k n) (q : Nat) {x : Int64} (hd : decode bytes pc = .ok (.lneg, 1)) (hq : pc + 1 = q)  (K : own_Ends p e below G (T.setTop (mkF m q Ls (.long (-x) :: st)))) : own_Ends p e below G (T.setTop (mkF m pc Ls (.long x :: st))) := by
  subst hq
  obtain ⟨⟨locs, Y, N⟩, eT, hs0, hx, hZ, hby, hml, hown, hret, hlk, hnm⟩ := X
  exact own_pre (fun t K => XS.lneg Y.here hx rfl (hb hby hd) rfl K) K
theorem own_lcmp (X : own_W p l e R s m args below meth c Z n0 y bytes ml ret T h k n) (q : Nat) {x z : Int64} (hd : decode bytes pc = .ok (.lcmp, 1)) (hq : pc + 1 = q)  (K : own_Ends p e below G (T.setTop (mkF m q Ls (.int (XT.cmpL x z) :: st)))) : own_Ends p e below G (T.setTop (mkF m pc Ls (.long z :: .long x :: st))) := by
  subst hq
  obtain ⟨⟨locs, Y, N⟩, eT, hs0, hx, hZ, hby, hml, hown, hret, hlk, hnm⟩ := X
  exact own_pre (fun t K => XT.lcmp Y.here hx rfl (hb hby hd) rfl K) K
theorem own_iinc (X : own_W p l e R s m args below meth c Z n0 y bytes ml ret T h k n) (q : Nat) {i : Nat} {cst : Int} {x : Int32} (v : Int32) (l' : Array Slot) (hd : decode bytes pc = .ok (.iinc i cst, 3)) (hq : pc + 3 = q) (hv : Int32.ofInt cst = v) (hl : Ls[i]? = some (.val (.int x))) (hl' : storeLocals Ls i (.int (x + v)) = some l') (K : own_Ends p e below G (T.setTop (mkF m q l' st))) : own_Ends p e below G (T.setTop (mkF m pc Ls st)) := by
  subst hq
  obtain ⟨⟨locs, Y, N⟩, eT, hs0, hx, hZ, hby, hml, hown, hret, hlk, hnm⟩ := X
  exact own_pre (fun t K => XT.iincV Y.here hx rfl v (hb hby hd) hv hl hl' K) K
theorem own_dup (X : own_W p l e R s m args below meth c Z n0 y bytes ml ret T h k n) (q : Nat) {x : Value} (hd : decode bytes pc = .ok (.dup, 1)) (hq : pc + 1 = q) (hc : x.category = 1) (K : own_Ends p e below G (T.setTop (mkF m q Ls (x :: x :: st)))) : own_Ends p e below G (T.setTop (mkF m pc Ls (x :: st))) := by
  subst hq
  obtain ⟨⟨locs, Y, N⟩, eT, hs0, hx, hZ, hby, hml, hown, hret, hlk, hnm⟩ := X
  exact own_pre (fun t K => XS.dup Y.here hx rfl (hb hby hd) rfl hc K) K
theorem own_dupX1 (X : own_W p l e R s m args below meth c Z n0 y bytes ml ret T h k n) (q : Nat) {x z : Value} (hd : decode bytes pc = .ok (.dup_x1, 1)) (hq : pc + 1 = q) (hc : x.category = 1) (hc' : z.category = 1) (K : own_Ends p e below G (T.setTop (mkF m q Ls (x :: z :: x :: st)))) : own_Ends p e below G (T.setTop (mkF m pc Ls (x :: z :: st))) := by
  subst hq
  obtain ⟨⟨locs, Y, N⟩, eT, hs0, hx, hZ, hby, hml, hown, hret, hlk, hnm⟩ := X
  exact own_pre (fun t K => XS.dupX1 Y.here hx rfl (hb hby hd) rfl hc hc' K) K
theorem own_dup2 (X : own_W p l e R s m args below meth c Z n0 y bytes ml ret T h k n) (q : Nat) {x z : Value} (hd : decode bytes pc = .ok (.dup2, 1)) (hq : pc + 1 = q) (hc : x.category = 1) (hc' : z.category = 1) (K : own_Ends p e below G (T.setTop (mkF m q Ls (x :: z :: x :: z :: st)))) : own_Ends p e below G (T.setTop (mkF m pc Ls (x :: z :: st))) := by
  subst hq
  obtain ⟨⟨locs, Y, N⟩, eT, hs0, hx, hZ, hby, hml, hown, hret, hlk, hnm⟩ := X
  exact own_pre (fun t K => XT.dup2 Y.here hx rfl (hb hby hd) rfl hc hc' K) K
theorem own_dup2L (X : own_W p l e R s m args below meth c Z n0 y bytes ml ret T h k n) (q : Nat) {x : Int64} (hd : decode bytes pc = .ok (.dup2, 1)) (hq : pc + 1 = q)  (K : own_Ends p e below G (T.setTop (mkF m q Ls (.long x :: .long x :: st)))) : own_Ends p e below G (T.setTop (mkF m pc Ls (.long x :: st))) := by
  subst hq
  obtain ⟨⟨locs, Y, N⟩, eT, hs0, hx, hZ, hby, hml, hown, hret, hlk, hnm⟩ := X
  exact own_pre (fun t K => XT.dup2L Y.here hx rfl (hb hby hd) rfl K) K
theorem own_pop (X : own_W p l e R s m args below meth c Z n0 y bytes ml ret T h k n) (q : Nat) {x : Value} (hd : decode bytes pc = .ok (.pop, 1)) (hq : pc + 1 = q) (hc : x.category = 1) (K : own_Ends p e below G (T.setTop (mkF m q Ls st))) : own_Ends p e below G (T.setTop (mkF m pc Ls (x :: st))) := by
  subst hq
  obtain ⟨⟨locs, Y, N⟩, eT, hs0, hx, hZ, hby, hml, hown, hret, hlk, hnm⟩ := X
  exact own_pre (fun t K => XS.pop Y.here hx rfl (hb hby hd) rfl hc K) K
theorem own_goto (X : own_W p l e R s m args below meth c Z n0 y bytes ml ret T h k n) (q : Nat) {o : Int}  (hd : decode bytes pc = .ok (.goto o, 3)) (ho : 0 ≤ (pc : Int) + o) (hq : ((pc : Int) + o).toNat = q)  (K : own_Ends p e below G (T.setTop (mkF m q Ls st))) : own_Ends p e below G (T.setTop (mkF m pc Ls st)) := by
  obtain ⟨⟨locs, Y, N⟩, eT, hs0, hx, hZ, hby, hml, hown, hret, hlk, hnm⟩ := X
  exact own_pre (fun t K => XS.goto Y.here hx rfl rfl (hb hby hd) ho hq K) K
theorem own_ifY (X : own_W p l e R s m args below meth c Z n0 y bytes ml ret T h k n) (q : Nat) {o : Int} {cd : ClassFile.Cond} {x : Int32} (hd : decode bytes pc = .ok (.ifCond cd o, 3)) (ho : 0 ≤ (pc : Int) + o) (hq : ((pc : Int) + o).toNat = q) (hc : ifCond.holds cd x = true) (K : own_Ends p e below G (T.setTop (mkF m q Ls st))) : own_Ends p e below G (T.setTop (mkF m pc Ls (.int x :: st))) := by
  obtain ⟨⟨locs, Y, N⟩, eT, hs0, hx, hZ, hby, hml, hown, hret, hlk, hnm⟩ := X
  exact own_pre (fun t K => XS.ifYes Y.here hx rfl rfl (hb hby hd) rfl hc ho hq K) K
theorem own_ifN (X : own_W p l e R s m args below meth c Z n0 y bytes ml ret T h k n) (q : Nat) {o : Int} {cd : ClassFile.Cond} {x : Int32} (hd : decode bytes pc = .ok (.ifCond cd o, 3)) (hq : pc + 3 = q) (hc : ifCond.holds cd x = false) (K : own_Ends p e below G (T.setTop (mkF m q Ls st))) : own_Ends p e below G (T.setTop (mkF m pc Ls (.int x :: st))) := by
  subst hq
  obtain ⟨⟨locs, Y, N⟩, eT, hs0, hx, hZ, hby, hml, hown, hret, hlk, hnm⟩ := X
  exact own_pre (fun t K => XS.ifNo Y.here hx rfl (hb hby hd) rfl hc K) K
theorem own_icY (X : own_W p l e R s m args below meth c Z n0 y bytes ml ret T h k n) (q : Nat) {o : Int} {cd : ClassFile.Cond} {x z : Int32} (hd : decode bytes pc = .ok (.if_icmp cd o, 3)) (ho : 0 ≤ (pc : Int) + o) (hq : ((pc : Int) + o).toNat = q) (hc : if_icmp.holds cd x z = true) (K : own_Ends p e below G (T.setTop (mkF m q Ls st))) : own_Ends p e below G (T.setTop (mkF m pc Ls (.int z :: .int x :: st))) := by
  obtain ⟨⟨locs, Y, N⟩, eT, hs0, hx, hZ, hby, hml, hown, hret, hlk, hnm⟩ := X
  exact own_pre (fun t K => XS.icmpYes Y.here hx rfl rfl (hb hby hd) rfl hc ho hq K) K
theorem own_icN (X : own_W p l e R s m args below meth c Z n0 y bytes ml ret T h k n) (q : Nat) {o : Int} {cd : ClassFile.Cond} {x z : Int32} (hd : decode bytes pc = .ok (.if_icmp cd o, 3)) (hq : pc + 3 = q) (hc : if_icmp.holds cd x z = false) (K : own_Ends p e below G (T.setTop (mkF m q Ls st))) : own_Ends p e below G (T.setTop (mkF m pc Ls (.int z :: .int x :: st))) := by
  subst hq
  obtain ⟨⟨locs, Y, N⟩, eT, hs0, hx, hZ, hby, hml, hown, hret, hlk, hnm⟩ := X
  exact own_pre (fun t K => XS.icmpNo Y.here hx rfl (hb hby hd) rfl hc K) K
theorem own_nullY (X : own_W p l e R s m args below meth c Z n0 y bytes ml ret T h k n) (q : Nat) {o : Int}  (hd : decode bytes pc = .ok (.ifnull o, 3)) (ho : 0 ≤ (pc : Int) + o) (hq : ((pc : Int) + o).toNat = q)  (K : own_Ends p e below G (T.setTop (mkF m q Ls st))) : own_Ends p e below G (T.setTop (mkF m pc Ls (.null :: st))) := by
  obtain ⟨⟨locs, Y, N⟩, eT, hs0, hx, hZ, hby, hml, hown, hret, hlk, hnm⟩ := X
  exact own_pre (fun t K => XS.ifnullYes Y.here hx rfl rfl (hb hby hd) rfl ho hq K) K
theorem own_nullN (X : own_W p l e R s m args below meth c Z n0 y bytes ml ret T h k n) (q : Nat) {o : Int} {b : Addr} (hd : decode bytes pc = .ok (.ifnull o, 3)) (hq : pc + 3 = q)  (K : own_Ends p e below G (T.setTop (mkF m q Ls st))) : own_Ends p e below G (T.setTop (mkF m pc Ls (.ref b :: st))) := by
  subst hq
  obtain ⟨⟨locs, Y, N⟩, eT, hs0, hx, hZ, hby, hml, hown, hret, hlk, hnm⟩ := X
  exact own_pre (fun t K => XS.ifnullNo Y.here hx rfl (hb hby hd) rfl K) K
theorem own_nonnullY (X : own_W p l e R s m args below meth c Z n0 y bytes ml ret T h k n) (q : Nat) {o : Int} {b : Addr} (hd : decode bytes pc = .ok (.ifnonnull o, 3)) (ho : 0 ≤ (pc : Int) + o) (hq : ((pc : Int) + o).toNat = q)  (K : own_Ends p e below G (T.setTop (mkF m q Ls st))) : own_Ends p e below G (T.setTop (mkF m pc Ls (.ref b :: st))) := by
  obtain ⟨⟨locs, Y, N⟩, eT, hs0, hx, hZ, hby, hml, hown, hret, hlk, hnm⟩ := X
  exact own_pre (fun t K => XS.ifnonnullYes Y.here hx rfl rfl (hb hby hd) rfl ho hq K) K
theorem own_nonnullN (X : own_W p l e R s m args below meth c Z n0 y bytes ml ret T h k n) (q : Nat) {o : Int}  (hd : decode bytes pc = .ok (.ifnonnull o, 3)) (hq : pc + 3 = q)  (K : own_Ends p e below G (T.setTop (mkF m q Ls st))) : own_Ends p e below G (T.setTop (mkF m pc Ls (.null :: st))) := by
  subst hq
  obtain ⟨⟨locs, Y, N⟩, eT, hs0, hx, hZ, hby, hml, hown, hret, hlk, hnm⟩ := X
  exact own_pre (fun t K => XS.ifnonnullNo Y.here hx rfl (hb hby hd) rfl K) K
theorem own_acY (X : own_W p l e R s m args below meth c Z n0 y bytes ml ret T h k n) (q : Nat) {o : Int} {cd : ClassFile.ACond} {x z : Value} (hd : decode bytes pc = .ok (.if_acmp cd o, 3)) (ho : 0 ≤ (pc : Int) + o) (hq : ((pc : Int) + o).toNat = q) (hx' : x.isRef = true) (hz' : z.isRef = true) (hc : XT.acmp cd x z = true) (K : own_Ends p e below G (T.setTop (mkF m q Ls st))) : own_Ends p e below G (T.setTop (mkF m pc Ls (z :: x :: st))) := by
  obtain ⟨⟨locs, Y, N⟩, eT, hs0, hx, hZ, hby, hml, hown, hret, hlk, hnm⟩ := X
  exact own_pre (fun t K => XT.acmpYes Y.here hx rfl rfl (hb hby hd) rfl hx' hz' hc ho hq K) K
theorem own_acN (X : own_W p l e R s m args below meth c Z n0 y bytes ml ret T h k n) (q : Nat) {o : Int} {cd : ClassFile.ACond} {x z : Value} (hd : decode bytes pc = .ok (.if_acmp cd o, 3)) (hq : pc + 3 = q) (hx' : x.isRef = true) (hz' : z.isRef = true) (hc : XT.acmp cd x z = false) (K : own_Ends p e below G (T.setTop (mkF m q Ls st))) : own_Ends p e below G (T.setTop (mkF m pc Ls (z :: x :: st))) := by
  subst hq
  obtain ⟨⟨locs, Y, N⟩, eT, hs0, hx, hZ, hby, hml, hown, hret, hlk, hnm⟩ := X
  exact own_pre (fun t K => XT.acmpNo Y.here hx rfl (hb hby hd) rfl hx' hz' hc K) K
theorem own_getF (X : own_W p l e R s m args below meth c Z n0 y bytes ml ret T h k n) (q : Nat) {R0 O nm d : String} {i : Nat} {a : Addr} {v : Value} (hd : decode bytes pc = .ok (.getfield i, 3)) (hq : pc + 3 = q) (w : (Jvm.Cond.fieldLink y.cls i R0 nm d).before a0 Z = true) (via : Via Z R0 O nm d) (F : Fld Z h a O nm d v)
    (K : ∀ T', own_W p l e R s m args below meth c Z n0 y bytes ml ret T' h k n → own_Ends p e below G (T'.setTop (mkF m q Ls (v :: st)))) : own_Ends p e below G (T.setTop (mkF m pc Ls (.ref a :: st))) := by
  subst hq
  obtain ⟨⟨locs, Y, N⟩, eT, hs0, hx, hZ, hby, hml, hown, hret, hlk, hnm⟩ := X
  obtain ⟨T1, Y1, e1, st1⟩ := getF Y hx hZ hown (host := "") (Or.inl w) via eT F (g := mkF m pc Ls (.ref a :: st)) rfl rfl (hb hby hd)
  exact own_pre st1 (K T1 ⟨⟨locs, Y1, N⟩, e1, hs0, hx, hZ, hby, hml, hown, hret, hlk, hnm⟩)
theorem own_getFN (X : own_W p l e R s m args below meth c Z n0 y bytes ml ret T h k n) (q : Nat) {R0 O nm d host : String} {i : Nat} {a : Addr} {v : Value} (hd : decode bytes pc = .ok (.getfield i, 3)) (hq : pc + 3 = q) (w : (Jvm.Cond.fieldLinkNest y.cls i R0 nm d host).before a0 Z = true) (via : Via Z R0 O nm d) (F : Fld Z h a O nm d v)
    (K : ∀ T', own_W p l e R s m args below meth c Z n0 y bytes ml ret T' h k n → own_Ends p e below G (T'.setTop (mkF m q Ls (v :: st)))) : own_Ends p e below G (T.setTop (mkF m pc Ls (.ref a :: st))) := by
  subst hq
  obtain ⟨⟨locs, Y, N⟩, eT, hs0, hx, hZ, hby, hml, hown, hret, hlk, hnm⟩ := X
  obtain ⟨T1, Y1, e1, st1⟩ := getF Y hx hZ hown (Or.inr w) via eT F (g := mkF m pc Ls (.ref a :: st)) rfl rfl (hb hby hd)
  exact own_pre st1 (K T1 ⟨⟨locs, Y1, N⟩, e1, hs0, hx, hZ, hby, hml, hown, hret, hlk, hnm⟩)
theorem own_getS (X : own_W p l e R s m args below meth c Z n0 y bytes ml ret T h k n) (q : Nat) {R0 O nm d : String} {i : Nat} {v : Value} (hd : decode bytes pc = .ok (.getstatic i, 3)) (hq : pc + 3 = q) (w : (Jvm.Cond.fieldLink y.cls i R0 nm d).before a0 Z = true) (via : Via Z R0 O nm d) (F : Sta Z h O nm d v)
    (K : ∀ T', own_W p l e R s m args below meth c Z n0 y bytes ml ret T' h k n → own_Ends p e below G (T'.setTop (mkF m q Ls (v :: st)))) : own_Ends p e below G (T.setTop (mkF m pc Ls st)) := by
  subst hq
  obtain ⟨⟨locs, Y, N⟩, eT, hs0, hx, hZ, hby, hml, hown, hret, hlk, hnm⟩ := X
  obtain ⟨T1, Y1, e1, st1⟩ := getS2 Y hx hZ hown (host := "") (Or.inl w) via eT F (g := mkF m pc Ls st) rfl (hb hby hd)
  exact own_pre st1 (K T1 ⟨⟨locs, Y1, N⟩, e1, hs0, hx, hZ, hby, hml, hown, hret, hlk, hnm⟩)
theorem own_getSN (X : own_W p l e R s m args below meth c Z n0 y bytes ml ret T h k n) (q : Nat) {R0 O nm d host : String} {i : Nat} {v : Value} (hd : decode bytes pc = .ok (.getstatic i, 3)) (hq : pc + 3 = q) (w : (Jvm.Cond.fieldLinkNest y.cls i R0 nm d host).before a0 Z = true) (via : Via Z R0 O nm d) (F : Sta Z h O nm d v)
    (K : ∀ T', own_W p l e R s m args below meth c Z n0 y bytes ml ret T' h k n → own_Ends p e below G (T'.setTop (mkF m q Ls (v :: st)))) : own_Ends p e below G (T.setTop (mkF m pc Ls st)) := by
  subst hq
  obtain ⟨⟨locs, Y, N⟩, eT, hs0, hx, hZ, hby, hml, hown, hret, hlk, hnm⟩ := X
  obtain ⟨T1, Y1, e1, st1⟩ := getS2 Y hx hZ hown (Or.inr w) via eT F (g := mkF m pc Ls st) rfl (hb hby hd)
  exact own_pre st1 (K T1 ⟨⟨locs, Y1, N⟩, e1, hs0, hx, hZ, hby, hml, hown, hret, hlk, hnm⟩)
theorem own_putF (X : own_W p l e R s m args below meth c Z n0 y bytes ml ret T h k n) (q : Nat) {R0 O nm d C : String} {i kk : Nat} (ty : FieldType) {a : Addr} {v old : Value} (hd : decode bytes pc = .ok (.putfield i, 3)) (hq : pc + 3 = q) (w : (Jvm.Cond.fieldLink y.cls i R0 nm d).before a0 Z = true) (via : Via Z R0 O nm d) (F : Fld Z h a O nm d old) (E : Exa Z h a C)
    (L : (Jvm.Cond.lays C O nm d).before a0 Z = true ∨ ((Jvm.Cond.laysFinal C O nm d).before a0 Z = true ∧ y.cls = O ∧ y.name = "<init>")) (wi : (Jvm.Cond.instantiable C kk).before a0 Z = true) (hty : parseFieldDescriptor d = some ty) (hn : narrow ty v = v) (hf : fits ty v = true) (hnew : n0 ≤ a)
    (K : ∀ T' h', own_W p l e R s m args below meth c Z n0 y bytes ml ret T' h' k n → Wr h h' a (Jvm.RoadKit.slotOf Z O nm d) v → own_Ends p e below G (T'.setTop (mkF m q Ls st))) : own_Ends p e below G (T.setTop (mkF m pc Ls (v :: .ref a :: st))) := by
  subst hq
  obtain ⟨⟨locs, Y, N⟩, eT, hs0, hx, hZ, hby, hml, hown, hret, hlk, hnm⟩ := X
  obtain ⟨T1, h1, Y1, e1, W1, st1⟩ := putF Y hx hZ hown (host := "") (Or.inl w) via eT F E (L.imp id fun z => ⟨z.1, z.2.1, hnm.trans z.2.2⟩) wi hty hn hf (g := mkF m pc Ls (v :: .ref a :: st)) rfl rfl (hb hby hd)
  exact own_pre st1 (K T1 h1 ⟨⟨_, Y1, Fr.snoc Y1 N hnew⟩, e1, (by rw [W1.size]; exact hs0), hx, hZ, hby, hml, hown, hret, hlk, hnm⟩ W1)
theorem own_putFN (X : own_W p l e R s m args below meth c Z n0 y bytes ml ret T h k n) (q : Nat) {R0 O nm d C : String} {i kk : Nat} (ty : FieldType) {a : Addr} {v v' old : Value} (hd : decode bytes pc = .ok (.putfield i, 3)) (hq : pc + 3 = q) (w : (Jvm.Cond.fieldLink y.cls i R0 nm d).before a0 Z = true) (via : Via Z R0 O nm d) (F : Fld Z h a O nm d old) (E : Exa Z h a C)
    (L : (Jvm.Cond.lays C O nm d).before a0 Z = true ∨ ((Jvm.Cond.laysFinal C O nm d).before a0 Z = true ∧ y.cls = O ∧ y.name = "<init>")) (wi : (Jvm.Cond.instantiable C kk).before a0 Z = true) (hty : parseFieldDescriptor d = some ty) (hn : narrow ty v = v') (hf : fits ty v' = true) (hnew : n0 ≤ a)
    (K : ∀ T' h', own_W p l e R s m args below meth c Z n0 y bytes ml ret T' h' k n → Wr h h' a (Jvm.RoadKit.slotOf Z O nm d) v' → own_Ends p e below G (T'.setTop (mkF m q Ls st))) : own_Ends p e below G (T.setTop (mkF m pc Ls (v :: .ref a :: st))) := by
  subst hq
  obtain ⟨⟨locs, Y, N⟩, eT, hs0, hx, hZ, hby, hml, hown, hret, hlk, hnm⟩ := X
  obtain ⟨T1, h1, Y1, e1, W1, st1⟩ := putFN Y hx hZ hown w via eT F E (L.imp id fun z => ⟨z.1, z.2.1, hnm.trans z.2.2⟩) wi hty hn hf (g := mkF m pc Ls (v :: .ref a :: st)) rfl rfl (hb hby hd)
  exact own_pre st1 (K T1 h1 ⟨⟨_, Y1, Fr.snoc Y1 N hnew⟩, e1, (by rw [W1.size]; exact hs0), hx, hZ, hby, hml, hown, hret, hlk, hnm⟩ W1)
theorem own_new (X : own_W p l e R s m args below meth c Z n0 y bytes ml ret T h k n) (q : Nat) {C : String} {i sl : Nat} (hd : decode bytes pc = .ok (.new i, 3)) (hq : pc + 3 = q) (w : (Jvm.Cond.classLink y.cls i C).before a0 Z = true) (wi : (Jvm.Cond.instantiable C sl).before a0 Z = true) (wz : (Jvm.Cond.initialized C).before a0 Z = true) (hc : k + 1 ≤ R.cells) (hl : n + sl ≤ R.slots)
    (K : ∀ T' h' a, a = h.size → own_W p l e R s m args below meth c Z n0 y bytes ml ret T' h' (k + 1) (n + sl) → Ext h h' → Exa Z h' a C → (∀ {O nm d : String} {ty : FieldType}, Laid Z a0 C O nm d → parseFieldDescriptor d = some ty → Fld Z h' a O nm d (defaultValue ty)) → own_Ends p e below G (T'.setTop (mkF m q Ls (.ref a :: st)))) : own_Ends p e below G (T.setTop (mkF m pc Ls st)) := by
  subst hq
  obtain ⟨⟨locs, Y, N⟩, eT, hs0, hx, hZ, hby, hml, hown, hret, hlk, hnm⟩ := X
  obtain ⟨T1, h1, Y1, e1, E1, A1, D1, -, st1⟩ := newO Y hx hZ hown w wi wz eT (g := mkF m pc Ls st) rfl (hb hby hd) hc hl
  exact own_pre st1 (K T1 h1 _ rfl ⟨⟨locs, Y1, N⟩, e1, (Nat.le_trans hs0 E1.1), hx, hZ, hby, hml, hown, hret, hlk, hnm⟩ E1 A1 D1)
theorem own_castY (X : own_W p l e R s m args below meth c Z n0 y bytes ml ret T h k n) (q : Nat) {C : String} {i : Nat} {a : Addr} (hd : decode bytes pc = .ok (.checkcast i, 3)) (hq : pc + 3 = q) (w : (Jvm.Cond.classLink y.cls i C).before a0 Z = true) (F : Ins Z h a C true)
    (K : ∀ T', own_W p l e R s m args below meth c Z n0 y bytes ml ret T' h k n → own_Ends p e below G (T'.setTop (mkF m q Ls (.ref a :: st)))) : own_Ends p e below G (T.setTop (mkF m pc Ls (.ref a :: st))) := by
  subst hq
  obtain ⟨⟨locs, Y, N⟩, eT, hs0, hx, hZ, hby, hml, hown, hret, hlk, hnm⟩ := X
  obtain ⟨T1, Y1, e1, st1⟩ := castY Y hx hZ hown w eT F (g := mkF m pc Ls (.ref a :: st)) rfl rfl (hb hby hd)
  exact own_pre st1 (K T1 ⟨⟨locs, Y1, N⟩, e1, hs0, hx, hZ, hby, hml, hown, hret, hlk, hnm⟩)
theorem own_castNull (X : own_W p l e R s m args below meth c Z n0 y bytes ml ret T h k n) (q : Nat) {i : Nat} (hd : decode bytes pc = .ok (.checkcast i, 3)) (hq : pc + 3 = q) (K : own_Ends p e below G (T.setTop (mkF m q Ls (.null :: st)))) : own_Ends p e below G (T.setTop (mkF m pc Ls (.null :: st))) := by
  subst hq
  obtain ⟨⟨locs, Y, N⟩, eT, hs0, hx, hZ, hby, hml, hown, hret, hlk, hnm⟩ := X
  exact own_pre (fun t K => Y.checkcastNull hx (g := mkF m pc Ls (.null :: st)) rfl rfl (hb hby hd) t K) K
theorem own_instY (X : own_W p l e R s m args below meth c Z n0 y bytes ml ret T h k n) (q : Nat) {C : String} {i : Nat} {a : Addr} (hd : decode bytes pc = .ok (.instanceof i, 3)) (hq : pc + 3 = q) (w : (Jvm.Cond.classLink y.cls i C).before a0 Z = true) (F : Ins Z h a C true)
    (K : ∀ T', own_W p l e R s m args below meth c Z n0 y bytes ml ret T' h k n → own_Ends p e below G (T'.setTop (mkF m q Ls (.int 1 :: st)))) : own_Ends p e below G (T.setTop (mkF m pc Ls (.ref a :: st))) := by
  subst hq
  obtain ⟨⟨locs, Y, N⟩, eT, hs0, hx, hZ, hby, hml, hown, hret, hlk, hnm⟩ := X
  obtain ⟨T1, Y1, e1, st1⟩ := instY Y hx hZ hown w eT F (g := mkF m pc Ls (.ref a :: st)) rfl rfl (hb hby hd)
  exact own_pre st1 (K T1 ⟨⟨locs, Y1, N⟩, e1, hs0, hx, hZ, hby, hml, hown, hret, hlk, hnm⟩)
theorem own_instNo (X : own_W p l e R s m args below meth c Z n0 y bytes ml ret T h k n) (q : Nat) {C D : String} {i : Nat} {a : Addr} (hd : decode bytes pc = .ok (.instanceof i, 3)) (hq : pc + 3 = q) (w : (Jvm.Cond.classLink y.cls i C).before a0 Z = true) (E : Exa Z h a D) (F : ∃ c t, Z.vm.findClass D = some c ∧ Z.vm.findClass C = some t ∧ Z.vm.assignable c t = false)
    (K : ∀ T', own_W p l e R s m args below meth c Z n0 y bytes ml ret T' h k n → own_Ends p e below G (T'.setTop (mkF m q Ls (.int 0 :: st)))) : own_Ends p e below G (T.setTop (mkF m pc Ls (.ref a :: st))) := by
  subst hq
  obtain ⟨⟨locs, Y, N⟩, eT, hs0, hx, hZ, hby, hml, hown, hret, hlk, hnm⟩ := X
  obtain ⟨T1, Y1, e1, st1⟩ := instNo Y hx hZ hown w eT E F (g := mkF m pc Ls (.ref a :: st)) rfl rfl (hb hby hd)
  exact own_pre st1 (K T1 ⟨⟨locs, Y1, N⟩, e1, hs0, hx, hZ, hby, hml, hown, hret, hlk, hnm⟩)
theorem own_initO (X : own_W p l e R s m args below meth c Z n0 y bytes ml ret T h k n) (q : Nat) {i : Nat} {a : Addr} (hd : decode bytes pc = .ok (.invokespecial i, 3)) (hq : pc + 3 = q) (w1 : (Jvm.Cond.methodLink y.cls i Lib.objectInit).before a0 Z = true) (w2 : (Jvm.Cond.instanceMethod Lib.objectInit).before a0 Z = true) (w3 : (Jvm.Cond.code Lib.objectInit ⟨#[0xb1]⟩ 1 none).before a0 Z = true)
    (hsz : Ls.size = ml) (hf : 1 ≤ R.frames) (hl : (st.map fun v => v.category).sum + 12 ≤ R.locals) (K : ∀ T', own_W p l e R s m args below meth c Z n0 y bytes ml ret T' h k n → own_Ends p e below G (T'.setTop (mkF m q Ls st))) : own_Ends p e below G (T.setTop (mkF m pc Ls (.ref a :: st))) := by
  subst hq
  obtain ⟨⟨locs, Y, N⟩, eT, hs0, hx, hZ, hby, hml, hown, hret, hlk, hnm⟩ := X
  obtain ⟨T1, Y1, e1, st1⟩ := initO Y hx hZ hown w1 w2 w3 eT (g := mkF m pc Ls (.ref a :: st)) rfl (hsz.trans hml.symm) rfl (hb hby hd) hf (W := (st.map fun v => v.category).sum) (by show 2 * 0 + _ ≤ _; omega) hl
  exact own_pre st1 (K T1 ⟨⟨locs, Y1, N⟩, e1, hs0, hx, hZ, hby, hml, hown, hret, hlk, hnm⟩)
theorem own_callS (X : own_W p l e R s m args below meth c Z n0 y bytes ml ret T h k n) (q : Nat) {y' : MethodName} {bytes' : ByteArray} {ml' : Nat} {ret' : Option FieldType} {rm : Room} {as' : Array Value} {Q : Option Value → Heap → Prop} {i : Nat} {ps : List FieldType} {rr : Option FieldType} (argsL rest : List Value) (hd : decode bytes pc = .ok (.invokestatic i, 3)) (hq : pc + 3 = q) (w1 : (Jvm.Cond.methodLink y.cls i y').before a0 Z = true) (w2 : (Jvm.Cond.static y').before a0 Z = true) (w3 : (Jvm.Cond.initialized y'.cls).before a0 Z = true) (w4 : (Jvm.Cond.code y' bytes' ml' ret').before a0 Z = true) (hy : y'.cls ≠ "java/lang/invoke/MethodHandle" ∧ y'.cls ≠ "java/lang/invoke/VarHandle")
    (M : own_Met l y' bytes' ml' ret' rm Z as' h n0 Q) (hkeep : ∀ v h', Q v h' → h.size ≤ h'.size) (has : as' = argsL.toArray) (hpd : parseMethodDescriptor y'.desc = some ⟨ps, rr⟩) (hlen : argsL.length = ps.length) (hst : st = argsL.reverse ++ rest) (hsz : Ls.size = ml) (hf : rm.frames + 1 ≤ R.frames) (hl : (rest.map fun v => v.category).sum + (ml' + 11) + rm.locals ≤ R.locals) (hck : k + rm.cells ≤ R.cells) (hcn : n + rm.slots ≤ R.slots)
    (K : ∀ v T' h', own_W p l e R s m args below meth c Z n0 y bytes ml ret T' h' (k + rm.cells) (n + rm.slots) → Q v h' → own_Ends p e below G (T'.setTop (mkF m q Ls (v.toList ++ rest)))) : own_Ends p e below G (T.setTop (mkF m pc Ls st)) := by
  subst hq has hst
  obtain ⟨⟨locs, Y, N⟩, eT, hs0, hx, hZ, hby, hml, hown, hret, hlk, hnm⟩ := X
  obtain ⟨v1, _, ⟨T1, L1, k1, n1⟩, -, Y1, ⟨Lc1, hQ1, l1, c1, s1⟩, st1⟩ := Jvm.LawKit.callS Y hx hown (mvT hZ w1) (mvT hZ w2) (mvT hZ w3) (mvT hZ w4) hy (backOf (Q := fun v h L => Q v h ∧ Fr n0 L) (W := (rest.map fun v => v.category).sum) (M []) hZ w4 w3 hf (by omega)) (g := mkF m pc Ls (argsL.reverse ++ rest)) rfl (hsz.trans hml.symm) (argsL := argsL) (rest := rest) (lenOf hpd hlen) rfl (by show 2 * 0 + _ ≤ _; omega) (hb hby hd) (fun _ _ => ⟨rfl, eT, hck, hcn⟩)
  dsimp only [Pt.U, Pt.locs, Pt.cells, Pt.slots] at Y1 l1 c1 s1 st1 hQ1
  subst l1 c1 s1
  exact own_pre st1 (K _ _ _ ⟨⟨_, Y1, Fr.app N hQ1.2⟩, rfl, Nat.le_trans hs0 (hkeep _ _ hQ1.1), hx, hZ, hby, hml, hown, hret, hlk, hnm⟩ hQ1.1)
theorem own_init (X : own_W p l e R s m args below meth c Z n0 y bytes ml ret T h k n) (q : Nat) {y' : MethodName} {bytes' : ByteArray} {ml' : Nat} {rm : Room} {as' : Array Value} {Q : Option Value → Heap → Prop} {i : Nat} {ps : List FieldType} {rr : Option FieldType} {a : Addr} (argsL rest : List Value) (hd : decode bytes pc = .ok (.invokespecial i, 3)) (hq : pc + 3 = q) (w1 : (Jvm.Cond.methodLink y.cls i y').before a0 Z = true) (w2 : (Jvm.Cond.instanceMethod y').before a0 Z = true) (w3 : (Jvm.Cond.initialized y'.cls).before a0 Z = true) (w4 : (Jvm.Cond.code y' bytes' ml' none).before a0 Z = true) (hy : y'.cls ≠ "java/lang/invoke/MethodHandle" ∧ y'.cls ≠ "java/lang/invoke/VarHandle") (hy1 : y'.name = "<init>")
    (M : own_Met l y' bytes' ml' none rm Z as' h n0 Q) (hkeep : ∀ v h', Q v h' → h.size ≤ h'.size) (has : as' = (.ref a :: argsL).toArray) (hpd : parseMethodDescriptor y'.desc = some ⟨ps, rr⟩) (hlen : argsL.length = ps.length) (hst : st = argsL.reverse ++ .ref a :: rest) (hsz : Ls.size = ml) (hf : rm.frames + 1 ≤ R.frames) (hl : (rest.map fun v => v.category).sum + (ml' + 11) + rm.locals ≤ R.locals) (hck : k + rm.cells ≤ R.cells) (hcn : n + rm.slots ≤ R.slots)
    (K : ∀ v T' h', own_W p l e R s m args below meth c Z n0 y bytes ml ret T' h' (k + rm.cells) (n + rm.slots) → Q v h' → own_Ends p e below G (T'.setTop (mkF m q Ls (v.toList ++ rest)))) : own_Ends p e below G (T.setTop (mkF m pc Ls st)) := by
  subst hq has hst
  obtain ⟨⟨locs, Y, N⟩, eT, hs0, hx, hZ, hby, hml, hown, hret, hlk, hnm⟩ := X
  obtain ⟨v1, _, ⟨T1, L1, k1, n1⟩, -, Y1, ⟨Lc1, hQ1, l1, c1, s1⟩, st1⟩ := Y.specialBack hx hy1 hown (mvT hZ w1) (mvT hZ w2) (mvT hZ w4) hy (backOf (Q := fun v h L => Q v h ∧ Fr n0 L) (W := (rest.map fun v => v.category).sum) (M []) hZ w4 w3 hf (by omega)) (g := mkF m pc Ls (argsL.reverse ++ .ref a :: rest)) rfl (hsz.trans hml.symm) (Steps.refl _) (a := a) (argsL := argsL) (rest := rest) (lenOf hpd hlen) rfl (by show 2 * 0 + _ ≤ _; omega) (hb hby hd) (fun _ _ => ⟨rfl, eT, hck, hcn⟩)
  dsimp only [Pt.U, Pt.locs, Pt.cells, Pt.slots] at Y1 l1 c1 s1 st1 hQ1
  subst l1 c1 s1
  exact own_pre (fun t K => st1.trans K) (K _ _ _ ⟨⟨_, Y1, Fr.app N hQ1.2⟩, rfl, Nat.le_trans hs0 (hkeep _ _ hQ1.1), hx, hZ, hby, hml, hown, hret, hlk, hnm⟩ hQ1.1)
theorem own_callV (X : own_W p l e R s m args below meth c Z n0 y bytes ml ret T h k n) (q : Nat) {y' : MethodName} {bytes' : ByteArray} {ml' : Nat} {ret' : Option FieldType} {rm : Room} {as' : Array Value} {Q : Option Value → Heap → Prop} {i : Nat} {ps : List FieldType} {rr : Option FieldType} {z : MethodName} {C : String} {a : Addr} (argsL rest : List Value) (hd : decode bytes pc = .ok (.invokevirtual i, 3)) (hq : pc + 3 = q) (w1 : (Jvm.Cond.methodLink y.cls i z).before a0 Z = true) (w2 : (Jvm.Cond.declares z).before a0 Z = true) (nf : NotFace s z) (w5 : (Jvm.Cond.selects C z y').before a0 Z = true) (w6 : (Jvm.Cond.instanceMethod y').before a0 Z = true) (w3 : (Jvm.Cond.initialized y'.cls).before a0 Z = true) (w4 : (Jvm.Cond.code y' bytes' ml' ret').before a0 Z = true) (hy : z.cls ≠ "java/lang/invoke/MethodHandle" ∧ z.cls ≠ "java/lang/invoke/VarHandle") (E : Exa Z h a C)
    (M : own_Met l y' bytes' ml' ret' rm Z as' h n0 Q) (hkeep : ∀ v h', Q v h' → h.size ≤ h'.size) (has : as' = (.ref a :: argsL).toArray) (hpd : parseMethodDescriptor z.desc = some ⟨ps, rr⟩) (hlen : argsL.length = ps.length) (hst : st = argsL.reverse ++ .ref a :: rest) (hsz : Ls.size = ml) (hf : rm.frames + 1 ≤ R.frames) (hl : (rest.map fun v => v.category).sum + (ml' + 11) + rm.locals ≤ R.locals) (hck : k + rm.cells ≤ R.cells) (hcn : n + rm.slots ≤ R.slots)
    (K : ∀ v T' h', own_W p l e R s m args below meth c Z n0 y bytes ml ret T' h' (k + rm.cells) (n + rm.slots) → Q v h' → own_Ends p e below G (T'.setTop (mkF m q Ls (v.toList ++ rest)))) : own_Ends p e below G (T.setTop (mkF m pc Ls st)) := by
  subst hq has hst
  obtain ⟨⟨locs, Y, N⟩, eT, hs0, hx, hZ, hby, hml, hown, hret, hlk, hnm⟩ := X
  obtain ⟨cq, kq, qa, qb, qc⟩ := isOf hZ eT E
  obtain ⟨v1, _, ⟨T1, L1, k1, n1⟩, -, Y1, ⟨Lc1, hQ1, l1, c1, s1⟩, st1⟩ := Y.virtualBack hx hown (mvT hZ w1) (mvT hZ w2) nf (mvT hZ w5) (mvT hZ w6) hy (backOf (Q := fun v h L => Q v h ∧ Fr n0 L) (W := (rest.map fun v => v.category).sum) (M []) hZ w4 w3 hf (by omega)) qa qc (g := mkF m pc Ls (argsL.reverse ++ .ref a :: rest)) rfl (hsz.trans hml.symm) (Steps.refl _) (argsL := argsL) (rest := rest) (lenOf hpd hlen) rfl (by show 2 * 0 + _ ≤ _; omega) (hb hby hd) (fun _ _ => ⟨rfl, eT, hck, hcn⟩)
  dsimp only [Pt.U, Pt.locs, Pt.cells, Pt.slots] at Y1 l1 c1 s1 st1 hQ1
  subst l1 c1 s1
  exact own_pre (fun t K => st1.trans K) (K _ _ _ ⟨⟨_, Y1, Fr.app N hQ1.2⟩, rfl, Nat.le_trans hs0 (hkeep _ _ hQ1.1), hx, hZ, hby, hml, hown, hret, hlk, hnm⟩ hQ1.1)
theorem own_nf {z : MethodName} {s : State} {C : String} (hZ : Z.Warmed39 s.vm) (w : (Jvm.Cond.selects C z z).before a0 Z = true) : NotFace s z := notFace_of_selects (args := #[]) (mvT hZ w)
theorem own_callI (X : own_W p l e R s m args below meth c Z n0 y bytes ml ret T h k n) (q : Nat) {y' : MethodName} {bytes' : ByteArray} {ml' : Nat} {ret' : Option FieldType} {rm : Room} {as' : Array Value} {Q : Option Value → Heap → Prop} {i : Nat} {ps : List FieldType} {rr : Option FieldType} {z : MethodName} {C : String} {cnt : Nat} {a : Addr} (argsL rest : List Value) (hd : decode bytes pc = .ok (.invokeinterface i cnt, 5)) (hq : pc + 5 = q) (w1 : (Jvm.Cond.methodLink y.cls i z).before a0 Z = true) (w2 : (Jvm.Cond.declares z).before a0 Z = true) (w7 : (Jvm.Cond.interfaceMethod z.cls z.cls z.name z.desc).before a0 Z = true) (hfa : ((Jvm.Cond.interfaceMethod z.cls z.cls z.name z.desc).onTables && (Jvm.Cond.interfaceMethod z.cls z.cls z.name z.desc).keepsFace) = true) (w5 : (Jvm.Cond.selects C z y').before a0 Z = true) (w6 : (Jvm.Cond.instanceMethod y').before a0 Z = true) (w8 : (Jvm.Cond.publicMethod y').before a0 Z = true) (w9 : (Jvm.Cond.unhidden C z.name z.desc).before a0 Z = true) (w10 : (Jvm.Cond.castable C z.cls).before a0 Z = true) (w3 : (Jvm.Cond.initialized y'.cls).before a0 Z = true) (w4 : (Jvm.Cond.code y' bytes' ml' ret').before a0 Z = true) (hy : z.cls ≠ "java/lang/invoke/MethodHandle" ∧ z.cls ≠ "java/lang/invoke/VarHandle") (E : Exa Z h a C)
    (M : own_Met l y' bytes' ml' ret' rm Z as' h n0 Q) (hkeep : ∀ v h', Q v h' → h.size ≤ h'.size) (has : as' = (.ref a :: argsL).toArray) (hpd : parseMethodDescriptor z.desc = some ⟨ps, rr⟩) (hlen : argsL.length = ps.length) (hst : st = argsL.reverse ++ .ref a :: rest) (hsz : Ls.size = ml) (hf : rm.frames + 1 ≤ R.frames) (hl : (rest.map fun v => v.category).sum + (ml' + 11) + rm.locals ≤ R.locals) (hck : k + rm.cells ≤ R.cells) (hcn : n + rm.slots ≤ R.slots)
    (K : ∀ v T' h', own_W p l e R s m args below meth c Z n0 y bytes ml ret T' h' (k + rm.cells) (n + rm.slots) → Q v h' → own_Ends p e below G (T'.setTop (mkF m q Ls (v.toList ++ rest)))) : own_Ends p e below G (T.setTop (mkF m pc Ls st)) := by
  subst hq has hst
  obtain ⟨⟨locs, Y, N⟩, eT, hs0, hx, hZ, hby, hml, hown, hret, hlk, hnm⟩ := X
  obtain ⟨cq, kq, qa, qb, qc⟩ := isOf hZ eT E
  obtain ⟨v1, _, ⟨T1, L1, k1, n1⟩, -, Y1, ⟨Lc1, hQ1, l1, c1, s1⟩, st1⟩ := Y.interfaceBack hx hown (mvT hZ w1) (mvT hZ w2) (mvT hZ w7 hfa) (mvT hZ w5) (mvT hZ w6) (mvT hZ w8) (mvT hZ w9) (mvT hZ w10) hy (backOf (Q := fun v h L => Q v h ∧ Fr n0 L) (W := (rest.map fun v => v.category).sum) (M []) hZ w4 w3 hf (by omega)) qa qb qc (g := mkF m pc Ls (argsL.reverse ++ .ref a :: rest)) rfl (hsz.trans hml.symm) (Steps.refl _) (argsL := argsL) (rest := rest) (lenOf hpd hlen) rfl (by show 2 * 0 + _ ≤ _; omega) (hb hby hd) (fun _ _ => ⟨rfl, eT, hck, hcn⟩)
  dsimp only [Pt.U, Pt.locs, Pt.cells, Pt.slots] at Y1 l1 c1 s1 st1 hQ1
  subst l1 c1 s1
  exact own_pre (fun t K => st1.trans K) (K _ _ _ ⟨⟨_, Y1, Fr.app N hQ1.2⟩, rfl, Nat.le_trans hs0 (hkeep _ _ hQ1.1), hx, hZ, hby, hml, hown, hret, hlk, hnm⟩ hQ1.1)
theorem own_ni_inst {Z : State} {C : String} {kk : Nat} {a0 : Array Value} (w : (Jvm.Cond.instantiable C kk).before a0 Z = true) : ∃ c k, Z.vm.findClass C = some c ∧ Z.vm.classes[c]? = some k ∧ k.isInterface = false := by
  obtain ⟨c, k, h1, h2, -, h4, -⟩ := Cond.instantiable_spec w
  exact ⟨c, k, h1, h2, (Bool.or_eq_false_iff.mp h4).1⟩
theorem own_ni_sel {Z : State} {C : String} {x y : MethodName} {a0 : Array Value} (w : (Jvm.Cond.selects C x y).before a0 Z = true) : ∃ c k, Z.vm.findClass y.cls = some c ∧ Z.vm.classes[c]? = some k ∧ k.isInterface = false := by
  obtain ⟨c, r, m, -, -, h3, -, k, h5, h6⟩ := Cond.selects_spec w
  exact ⟨_, k, findClass_of_methodNamed h3, h5, h6⟩
theorem own_selP {Z s : State} {y : MethodName} {a0 args : Array Value} (hZ : Z.Warmed39 s.vm) (hni : ∃ c k, Z.vm.findClass y.cls = some c ∧ Z.vm.classes[c]? = some k ∧ k.isInterface = false) (w6 : (Jvm.Cond.privateMethod y).before a0 Z = true) (w2 : (Jvm.Cond.instanceMethod y).before a0 Z = true) (hy : y.cls ≠ "java/lang/invoke/MethodHandle" ∧ y.cls ≠ "java/lang/invoke/VarHandle") : (Jvm.Cond.selects y.cls y y).before args s = true := by
  obtain ⟨c, k, h1, h2, h3⟩ := hni
  obtain ⟨k', q, z⟩ := hZ.alike.2.2 _ _ h2
  exact selects_self_of_private (by rw [hZ.alike.findClass]; exact h1) q (by rw [z]; exact h3) (Cond.privateMethod_at (mvP hZ w6 (args := #[]))) (mvT hZ w2) hy
theorem own_callP (X : own_W p l e R s m args below meth c Z n0 y bytes ml ret T h k n) (q : Nat) {y' : MethodName} {bytes' : ByteArray} {ml' : Nat} {ret' : Option FieldType} {rm : Room} {as' : Array Value} {Q : Option Value → Heap → Prop} {i : Nat} {ps : List FieldType} {rr : Option FieldType} {C : String} {a : Addr} (argsL rest : List Value) (hd : decode bytes pc = .ok (.invokevirtual i, 3)) (hq : pc + 3 = q) (w1 : (Jvm.Cond.methodLink y.cls i y').before a0 Z = true) (w2 : (Jvm.Cond.instanceMethod y').before a0 Z = true) (hni : ∃ c k, Z.vm.findClass y'.cls = some c ∧ Z.vm.classes[c]? = some k ∧ k.isInterface = false) (w6 : (Jvm.Cond.privateMethod y').before a0 Z = true) (w3 : (Jvm.Cond.initialized y'.cls).before a0 Z = true) (w4 : (Jvm.Cond.code y' bytes' ml' ret').before a0 Z = true) (hy : y'.cls ≠ "java/lang/invoke/MethodHandle" ∧ y'.cls ≠ "java/lang/invoke/VarHandle") (E : Exa Z h a C)
    (M : own_Met l y' bytes' ml' ret' rm Z as' h n0 Q) (hkeep : ∀ v h', Q v h' → h.size ≤ h'.size) (has : as' = (.ref a :: argsL).toArray) (hpd : parseMethodDescriptor y'.desc = some ⟨ps, rr⟩) (hlen : argsL.length = ps.length) (hst : st = argsL.reverse ++ .ref a :: rest) (hsz : Ls.size = ml) (hf : rm.frames + 1 ≤ R.frames) (hl : (rest.map fun v => v.category).sum + (ml' + 11) + rm.locals ≤ R.locals) (hck : k + rm.cells ≤ R.cells) (hcn : n + rm.slots ≤ R.slots)
    (K : ∀ v T' h', own_W p l e R s m args below meth c Z n0 y bytes ml ret T' h' (k + rm.cells) (n + rm.slots) → Q v h' → own_Ends p e below G (T'.setTop (mkF m q Ls (v.toList ++ rest)))) : own_Ends p e below G (T.setTop (mkF m pc Ls st)) := by
  subst hq has hst
  obtain ⟨⟨locs, Y, N⟩, eT, hs0, hx, hZ, hby, hml, hown, hret, hlk, hnm⟩ := X
  obtain ⟨cq, q1, q2⟩ := E.cell
  obtain ⟨v1, _, ⟨T1, L1, k1, n1⟩, -, Y1, ⟨Lc1, hQ1, l1, c1, s1⟩, st1⟩ := Y.privateBack hx hown (mvT hZ w1) (mvT hZ w2) (own_selP hZ hni w6 w2 hy) (Cond.privateMethod_at (mvP hZ w6 (args := #[]))) (mvT hZ w4) hy (backOf (Q := fun v h L => Q v h ∧ Fr n0 L) (W := (rest.map fun v => v.category).sum) (M []) hZ w4 w3 hf (by omega)) (g := mkF m pc Ls (argsL.reverse ++ .ref a :: rest)) rfl (hsz.trans hml.symm) (Steps.refl _) (a := a) (by rw [eT]; exact q1) q2 (argsL := argsL) (rest := rest) (lenOf hpd hlen) rfl (by show 2 * 0 + _ ≤ _; omega) (hb hby hd) (fun _ _ => ⟨rfl, eT, hck, hcn⟩)
  dsimp only [Pt.U, Pt.locs, Pt.cells, Pt.slots] at Y1 l1 c1 s1 st1 hQ1
  subst l1 c1 s1
  exact own_pre (fun t K => st1.trans K) (K _ _ _ ⟨⟨_, Y1, Fr.app N hQ1.2⟩, rfl, Nat.le_trans hs0 (hkeep _ _ hQ1.1), hx, hZ, hby, hml, hown, hret, hlk, hnm⟩ hQ1.1)
theorem own_retI (X : own_W p l e R s m args below meth c Z n0 y bytes ml ret T h k n) {C S : Nat} {Q : Option Value → Heap → Prop} {z : Int32} (hd : decode bytes pc = .ok (.ireturn, 1)) (hr0 : ret = some .int) (hk : k ≤ C) (hn : n ≤ S) (hQ : Q (some (.int z)) h) : own_Ends p e below (own_Fin s n0 C S Q) (T.setTop (mkF m pc Ls (.int z :: st))) := by
  obtain ⟨⟨locs, Y, N⟩, eT, hs0, hx, hZ, hby, hml, hown, hret, hlk, hnm⟩ := X
  obtain ⟨fs, hr, hrun, hended, hW, hsame⟩ := Y.leave (v := some (.int z)) (fun q => by rw [hret, hr0] at q; cases q) hlk
  exact ⟨_, _, own_retI0 Y hx (hret.trans hr0) (hb hby hd) hr, hrun, hended, _, _, rfl, ⟨by show Q _ T.heap; rw [eT]; exact hQ, N⟩, ⟨_, rfl⟩, hW, hsame.mono hk hn⟩
theorem own_retN (X : own_W p l e R s m args below meth c Z n0 y bytes ml ret T h k n) {C S : Nat} {Q : Option Value → Heap → Prop} {z : Int32} (t : FieldType) (hd : decode bytes pc = .ok (.ireturn, 1)) (hr0 : ret = some t) (ht : t = .boolean ∨ t = .byte ∨ t = .char ∨ t = .short) (hk : k ≤ C) (hn : n ≤ S) (hQ : Q (some (.int (nar t z))) h) : own_Ends p e below (own_Fin s n0 C S Q) (T.setTop (mkF m pc Ls (.int z :: st))) := by
  obtain ⟨⟨locs, Y, N⟩, eT, hs0, hx, hZ, hby, hml, hown, hret, hlk, hnm⟩ := X
  obtain ⟨fs, hr, hrun, hended, hW, hsame⟩ := Y.leave (v := some (.int (nar t z))) (fun q => by rw [hret, hr0] at q; cases q) hlk
  exact ⟨_, _, retN Y hx (hret.trans hr0) ht (hb hby hd) hr, hrun, hended, _, _, rfl, ⟨by show Q _ T.heap; rw [eT]; exact hQ, N⟩, ⟨_, rfl⟩, hW, hsame.mono hk hn⟩
theorem own_retJ (X : own_W p l e R s m args below meth c Z n0 y bytes ml ret T h k n) {C S : Nat} {Q : Option Value → Heap → Prop} {z : Int64} (hd : decode bytes pc = .ok (.lreturn, 1)) (hr0 : ret = some .long) (hk : k ≤ C) (hn : n ≤ S) (hQ : Q (some (.long z)) h) : own_Ends p e below (own_Fin s n0 C S Q) (T.setTop (mkF m pc Ls (.long z :: st))) := by
  obtain ⟨⟨locs, Y, N⟩, eT, hs0, hx, hZ, hby, hml, hown, hret, hlk, hnm⟩ := X
  obtain ⟨fs, hr, hrun, hended, hW, hsame⟩ := Y.leave (v := some (.long z)) (fun q => by rw [hret, hr0] at q; cases q) hlk
  exact ⟨_, _, retOut Y hx (hret.trans hr0) rfl (Or.inr (Or.inl ⟨rfl, rfl, z, rfl⟩)) (hb hby hd) hr, hrun, hended, _, _, rfl, ⟨by show Q _ T.heap; rw [eT]; exact hQ, N⟩, ⟨_, rfl⟩, hW, hsame.mono hk hn⟩
theorem own_retA (X : own_W p l e R s m args below meth c Z n0 y bytes ml ret T h k n) {C S : Nat} {Q : Option Value → Heap → Prop} {z : Value} (t : FieldType) (hd : decode bytes pc = .ok (.areturn, 1)) (hr0 : ret = some t) (ht : t.isReference = true) (hz : z.isRef = true) (hnz : narrow t z = z) (hk : k ≤ C) (hn : n ≤ S) (hQ : Q (some z) h) : own_Ends p e below (own_Fin s n0 C S Q) (T.setTop (mkF m pc Ls (z :: st))) := by
  obtain ⟨⟨locs, Y, N⟩, eT, hs0, hx, hZ, hby, hml, hown, hret, hlk, hnm⟩ := X
  obtain ⟨fs, hr, hrun, hended, hW, hsame⟩ := Y.leave (v := some z) (fun q => by rw [hret, hr0] at q; cases q) hlk
  exact ⟨_, _, retOut Y hx (hret.trans hr0) hnz (Or.inr (Or.inr (Or.inr (Or.inr ⟨rfl, ht, hz⟩)))) (hb hby hd) hr, hrun, hended, _, _, rfl, ⟨by show Q _ T.heap; rw [eT]; exact hQ, N⟩, ⟨_, rfl⟩, hW, hsame.mono hk hn⟩
theorem own_retV (X : own_W p l e R s m args below meth c Z n0 y bytes ml ret T h k n) {C S : Nat} {Q : Option Value → Heap → Prop} (hd : decode bytes pc = .ok (.return_, 1)) (hr0 : ret = none) (hk : k ≤ C) (hn : n ≤ S) (hQ : Q none h) : own_Ends p e below (own_Fin s n0 C S Q) (T.setTop (mkF m pc Ls [])) := by
  obtain ⟨⟨locs, Y, N⟩, eT, hs0, hx, hZ, hby, hml, hown, hret, hlk, hnm⟩ := X
  obtain ⟨fs, hr, hrun, hended, hW, hsame⟩ := Y.leave (v := none) (fun _ => rfl) hlk
  exact ⟨_, _, Y.returnOut hx (hret.trans hr0) (hb hby hd) hr, hrun, hended, _, _, rfl, ⟨by show Q _ T.heap; rw [eT]; exact hQ, N⟩, ⟨_, rfl⟩, hW, hsame.mono hk hn⟩
theorem own_iaload (X : own_W p l e R s m args below meth c Z n0 y bytes ml ret T h k n) (q : Nat) {a : Addr} {kc : ClassId} {vs : List Value} {j : Int32} (i : Nat) (v : Value) (hd : decode bytes pc = .ok (.iaload, 1)) (hq : pc + 1 = q) (F : own_A Z h a kc .int vs) (hj : j.toNatClampNeg = i) (hj0 : ¬ j < 0) (hv : vs[i]? = some v)
    (K : own_Ends p e below G (T.setTop (mkF m q Ls (v :: st)))) : own_Ends p e below G (T.setTop (mkF m pc Ls (.int j :: .ref a :: st))) := by
  subst hq
  obtain ⟨⟨locs, Y, N⟩, eT, hs0, hx, hZ, hby, hml, hown, hret, hlk, hnm⟩ := X
  obtain ⟨cl, A, r1, r2, r3, r4⟩ := F
  have hi : i < vs.length := (List.getElem?_eq_some_iff.mp hv).1
  exact own_pre (fun t K => Y.iaload hx (j := j) (v := v) (by rw [eT]; exact A.1) (State.isArrayOf_alike hZ.alike A.2.1) A.2.2 (own_in r2 hj hj0 hi) (by rw [hj, ← Array.getElem?_toList, r2]; exact hv) (g := mkF m pc Ls (.int j :: .ref a :: st)) rfl rfl (hb hby hd) t K) K
theorem own_caload (X : own_W p l e R s m args below meth c Z n0 y bytes ml ret T h k n) (q : Nat) {a : Addr} {kc : ClassId} {vs : List Value} {j : Int32} (i : Nat) (v : Value) (hd : decode bytes pc = .ok (.caload, 1)) (hq : pc + 1 = q) (F : own_A Z h a kc .char vs) (hj : j.toNatClampNeg = i) (hj0 : ¬ j < 0) (hv : vs[i]? = some v)
    (K : own_Ends p e below G (T.setTop (mkF m q Ls (v :: st)))) : own_Ends p e below G (T.setTop (mkF m pc Ls (.int j :: .ref a :: st))) := by
  subst hq
  obtain ⟨⟨locs, Y, N⟩, eT, hs0, hx, hZ, hby, hml, hown, hret, hlk, hnm⟩ := X
  obtain ⟨cl, A, r1, r2, r3, r4⟩ := F
  have hi : i < vs.length := (List.getElem?_eq_some_iff.mp hv).1
  exact own_pre (fun t K => Y.caload hx (j := j) (v := v) (by rw [eT]; exact A.1) (State.isArrayOf_alike hZ.alike A.2.1) A.2.2 (own_in r2 hj hj0 hi) (by rw [hj, ← Array.getElem?_toList, r2]; exact hv) (g := mkF m pc Ls (.int j :: .ref a :: st)) rfl rfl (hb hby hd) t K) K
theorem own_baload (X : own_W p l e R s m args below meth c Z n0 y bytes ml ret T h k n) (q : Nat) {a : Addr} {kc : ClassId} {vs : List Value} {j : Int32} (i : Nat) (v : Value) (hd : decode bytes pc = .ok (.baload, 1)) (hq : pc + 1 = q) (F : own_A Z h a kc .byte vs) (hj : j.toNatClampNeg = i) (hj0 : ¬ j < 0) (hv : vs[i]? = some v)
    (K : own_Ends p e below G (T.setTop (mkF m q Ls (v :: st)))) : own_Ends p e below G (T.setTop (mkF m pc Ls (.int j :: .ref a :: st))) := by
  subst hq
  obtain ⟨⟨locs, Y, N⟩, eT, hs0, hx, hZ, hby, hml, hown, hret, hlk, hnm⟩ := X
  obtain ⟨cl, A, r1, r2, r3, r4⟩ := F
  have hi : i < vs.length := (List.getElem?_eq_some_iff.mp hv).1
  exact own_pre (fun t K => Y.baloadBytes hx (j := j) (v := v) (by rw [eT]; exact A.1) (State.isArrayOf_alike hZ.alike A.2.1) A.2.2 (own_in r2 hj hj0 hi) (by rw [hj, ← Array.getElem?_toList, r2]; exact hv) (g := mkF m pc Ls (.int j :: .ref a :: st)) rfl rfl (hb hby hd) t K) K
theorem own_aaload (X : own_W p l e R s m args below meth c Z n0 y bytes ml ret T h k n) (q : Nat) {a : Addr} {kc : ClassId} {ty : FieldType} {vs : List Value} {j : Int32} (i : Nat) (v : Value) (hd : decode bytes pc = .ok (.aaload, 1)) (hq : pc + 1 = q) (F : own_A Z h a kc ty vs) (hj : j.toNatClampNeg = i) (hj0 : ¬ j < 0) (hv : vs[i]? = some v) (hty : ty.isReference = true)
    (K : own_Ends p e below G (T.setTop (mkF m q Ls (v :: st)))) : own_Ends p e below G (T.setTop (mkF m pc Ls (.int j :: .ref a :: st))) := by
  subst hq
  obtain ⟨⟨locs, Y, N⟩, eT, hs0, hx, hZ, hby, hml, hown, hret, hlk, hnm⟩ := X
  obtain ⟨cl, A, r1, r2, r3, r4⟩ := F
  have hi : i < vs.length := (List.getElem?_eq_some_iff.mp hv).1
  exact own_pre (fun t K => Y.aaload hx (j := j) (v := v) (by rw [eT]; exact A.1) (State.isArrayOf_alike hZ.alike A.2.1) hty A.2.2 (own_in r2 hj hj0 hi) (by rw [hj, ← Array.getElem?_toList, r2]; exact hv) (g := mkF m pc Ls (.int j :: .ref a :: st)) rfl rfl (hb hby hd) t K) K
theorem own_laload (X : own_W p l e R s m args below meth c Z n0 y bytes ml ret T h k n) (q : Nat) {a : Addr} {kc : ClassId} {vs : List Value} {j : Int32} (i : Nat) (v : Value) (hd : decode bytes pc = .ok (.laload, 1)) (hq : pc + 1 = q) (F : own_A Z h a kc .long vs) (hj : j.toNatClampNeg = i) (hj0 : ¬ j < 0) (hv : vs[i]? = some v)
    (K : own_Ends p e below G (T.setTop (mkF m q Ls (v :: st)))) : own_Ends p e below G (T.setTop (mkF m pc Ls (.int j :: .ref a :: st))) := by
  subst hq
  obtain ⟨⟨locs, Y, N⟩, eT, hs0, hx, hZ, hby, hml, hown, hret, hlk, hnm⟩ := X
  obtain ⟨cl, A, r1, r2, r3, r4⟩ := F
  have hi : i < vs.length := (List.getElem?_eq_some_iff.mp hv).1
  exact own_pre (fun t K => Y.laload hx (j := j) (v := v) (by rw [eT]; exact A.1) (State.isArrayOf_alike hZ.alike A.2.1) A.2.2 (own_in r2 hj hj0 hi) (by rw [hj, ← Array.getElem?_toList, r2]; exact hv) (g := mkF m pc Ls (.int j :: .ref a :: st)) rfl rfl (hb hby hd) t K) K
theorem own_len (X : own_W p l e R s m args below meth c Z n0 y bytes ml ret T h k n) (q : Nat) {a : Addr} {kc : ClassId} {ty : FieldType} {vs : List Value} (x : Int32) (hd : decode bytes pc = .ok (.arraylength, 1)) (hq : pc + 1 = q) (F : own_A Z h a kc ty vs) (hx' : vs.length.toInt32 = x)
    (K : own_Ends p e below G (T.setTop (mkF m q Ls (.int x :: st)))) : own_Ends p e below G (T.setTop (mkF m pc Ls (.ref a :: st))) := by
  subst hq hx'
  obtain ⟨⟨locs, Y, N⟩, eT, hs0, hx, hZ, hby, hml, hown, hret, hlk, hnm⟩ := X
  obtain ⟨cl, A, r1, r2, r3, r4⟩ := F
  have hl : vs.length = cl.slots.size := by rw [← r2, Array.length_toList]
  rw [hl] at K
  exact own_pre (fun t K => Y.arraylength hx (by rw [eT]; exact A.1) (State.isArrayOf_alike hZ.alike A.2.1) (g := mkF m pc Ls (.ref a :: st)) rfl rfl (hb hby hd) t K) K
theorem own_iastore (X : own_W p l e R s m args below meth c Z n0 y bytes ml ret T h k n) (q : Nat) {a : Addr} {kc : ClassId} {vs : List Value} {j : Int32} {x : Int32} (i : Nat) (hd : decode bytes pc = .ok (.iastore, 1)) (hq : pc + 1 = q) (F : own_A Z h a kc .int vs) (hj : j.toNatClampNeg = i) (hj0 : ¬ j < 0) (hi : i < vs.length) (hnew : n0 ≤ a)
    (K : ∀ T' h', own_W p l e R s m args below meth c Z n0 y bytes ml ret T' h' k n → Wr h h' a i (.int x) → own_Ends p e below G (T'.setTop (mkF m q Ls st))) : own_Ends p e below G (T.setTop (mkF m pc Ls (.int x :: .int j :: .ref a :: st))) := by
  subst hq
  obtain ⟨⟨locs, Y, N⟩, eT, hs0, hx, hZ, hby, hml, hown, hret, hlk, hnm⟩ := X
  obtain ⟨cl, A, r1, r2, r3, r4⟩ := F
  obtain ⟨T1, h1, Y1, e1, W1, st1⟩ := stI Y hx hZ eT A (j := j) (own_in r2 hj hj0 hi) (g := mkF m pc Ls (.int x :: .int j :: .ref a :: st)) rfl rfl (hb hby hd)
  exact own_pre st1 (K T1 h1 ⟨⟨_, Y1, Fr.snoc Y1 N hnew⟩, e1, (by rw [W1.size]; exact hs0), hx, hZ, hby, hml, hown, hret, hlk, hnm⟩ (hj ▸ W1))
theorem own_castore (X : own_W p l e R s m args below meth c Z n0 y bytes ml ret T h k n) (q : Nat) {a : Addr} {kc : ClassId} {vs : List Value} {j : Int32} {x : Int32} (i : Nat) (hd : decode bytes pc = .ok (.castore, 1)) (hq : pc + 1 = q) (F : own_A Z h a kc .char vs) (hj : j.toNatClampNeg = i) (hj0 : ¬ j < 0) (hi : i < vs.length) (hnew : n0 ≤ a)
    (K : ∀ T' h', own_W p l e R s m args below meth c Z n0 y bytes ml ret T' h' k n → Wr h h' a i (.int (nar .char x)) → own_Ends p e below G (T'.setTop (mkF m q Ls st))) : own_Ends p e below G (T.setTop (mkF m pc Ls (.int x :: .int j :: .ref a :: st))) := by
  subst hq
  obtain ⟨⟨locs, Y, N⟩, eT, hs0, hx, hZ, hby, hml, hown, hret, hlk, hnm⟩ := X
  obtain ⟨cl, A, r1, r2, r3, r4⟩ := F
  obtain ⟨T1, h1, Y1, e1, W1, st1⟩ := stC Y hx hZ eT A (j := j) (own_in r2 hj hj0 hi) (g := mkF m pc Ls (.int x :: .int j :: .ref a :: st)) rfl rfl (hb hby hd)
  exact own_pre st1 (K T1 h1 ⟨⟨_, Y1, Fr.snoc Y1 N hnew⟩, e1, (by rw [W1.size]; exact hs0), hx, hZ, hby, hml, hown, hret, hlk, hnm⟩ (hj ▸ W1))
theorem own_bastore (X : own_W p l e R s m args below meth c Z n0 y bytes ml ret T h k n) (q : Nat) {a : Addr} {kc : ClassId} {vs : List Value} {j : Int32} {x : Int32} (i : Nat) (hd : decode bytes pc = .ok (.bastore, 1)) (hq : pc + 1 = q) (F : own_A Z h a kc .byte vs) (hj : j.toNatClampNeg = i) (hj0 : ¬ j < 0) (hi : i < vs.length) (hnew : n0 ≤ a)
    (K : ∀ T' h', own_W p l e R s m args below meth c Z n0 y bytes ml ret T' h' k n → Wr h h' a i (.int (nar .byte x)) → own_Ends p e below G (T'.setTop (mkF m q Ls st))) : own_Ends p e below G (T.setTop (mkF m pc Ls (.int x :: .int j :: .ref a :: st))) := by
  subst hq
  obtain ⟨⟨locs, Y, N⟩, eT, hs0, hx, hZ, hby, hml, hown, hret, hlk, hnm⟩ := X
  obtain ⟨cl, A, r1, r2, r3, r4⟩ := F
  obtain ⟨T1, h1, Y1, e1, W1, st1⟩ := stB Y hx hZ eT A (j := j) (own_in r2 hj hj0 hi) (g := mkF m pc Ls (.int x :: .int j :: .ref a :: st)) rfl rfl (hb hby hd)
  exact own_pre st1 (K T1 h1 ⟨⟨_, Y1, Fr.snoc Y1 N hnew⟩, e1, (by rw [W1.size]; exact hs0), hx, hZ, hby, hml, hown, hret, hlk, hnm⟩ (hj ▸ W1))
theorem own_zastore (X : own_W p l e R s m args below meth c Z n0 y bytes ml ret T h k n) (q : Nat) {a : Addr} {kc : ClassId} {vs : List Value} {j : Int32} {x : Int32} (i : Nat) (hd : decode bytes pc = .ok (.bastore, 1)) (hq : pc + 1 = q) (F : own_A Z h a kc .boolean vs) (hj : j.toNatClampNeg = i) (hj0 : ¬ j < 0) (hi : i < vs.length) (hnew : n0 ≤ a)
    (K : ∀ T' h', own_W p l e R s m args below meth c Z n0 y bytes ml ret T' h' k n → Wr h h' a i (.int (nar .boolean x)) → own_Ends p e below G (T'.setTop (mkF m q Ls st))) : own_Ends p e below G (T.setTop (mkF m pc Ls (.int x :: .int j :: .ref a :: st))) := by
  subst hq
  obtain ⟨⟨locs, Y, N⟩, eT, hs0, hx, hZ, hby, hml, hown, hret, hlk, hnm⟩ := X
  obtain ⟨cl, A, r1, r2, r3, r4⟩ := F
  obtain ⟨T1, h1, Y1, e1, W1, st1⟩ := stZ Y hx hZ eT A (j := j) (own_in r2 hj hj0 hi) (g := mkF m pc Ls (.int x :: .int j :: .ref a :: st)) rfl rfl (hb hby hd)
  exact own_pre st1 (K T1 h1 ⟨⟨_, Y1, Fr.snoc Y1 N hnew⟩, e1, (by rw [W1.size]; exact hs0), hx, hZ, hby, hml, hown, hret, hlk, hnm⟩ (hj ▸ W1))
theorem own_lastore (X : own_W p l e R s m args below meth c Z n0 y bytes ml ret T h k n) (q : Nat) {a : Addr} {kc : ClassId} {vs : List Value} {j : Int32} {x : Int64} (i : Nat) (hd : decode bytes pc = .ok (.lastore, 1)) (hq : pc + 1 = q) (F : own_A Z h a kc .long vs) (hj : j.toNatClampNeg = i) (hj0 : ¬ j < 0) (hi : i < vs.length) (hnew : n0 ≤ a)
    (K : ∀ T' h', own_W p l e R s m args below meth c Z n0 y bytes ml ret T' h' k n → Wr h h' a i (.long x) → own_Ends p e below G (T'.setTop (mkF m q Ls st))) : own_Ends p e below G (T.setTop (mkF m pc Ls (.long x :: .int j :: .ref a :: st))) := by
  subst hq
  obtain ⟨⟨locs, Y, N⟩, eT, hs0, hx, hZ, hby, hml, hown, hret, hlk, hnm⟩ := X
  obtain ⟨cl, A, r1, r2, r3, r4⟩ := F
  obtain ⟨T1, h1, Y1, e1, W1, st1⟩ := stJ Y hx hZ eT A (j := j) (own_in r2 hj hj0 hi) (g := mkF m pc Ls (.long x :: .int j :: .ref a :: st)) rfl rfl (hb hby hd)
  exact own_pre st1 (K T1 h1 ⟨⟨_, Y1, Fr.snoc Y1 N hnew⟩, e1, (by rw [W1.size]; exact hs0), hx, hZ, hby, hml, hown, hret, hlk, hnm⟩ (hj ▸ W1))
theorem own_aastore (X : own_W p l e R s m args below meth c Z n0 y bytes ml ret T h k n) (q : Nat) {a : Addr} {kc : ClassId} {ty : FieldType} {vs : List Value} {j : Int32} {x : Value} (i : Nat) (hd : decode bytes pc = .ok (.aastore, 1)) (hq : pc + 1 = q) (F : own_A Z h a kc ty vs) (hj : j.toNatClampNeg = i) (hj0 : ¬ j < 0) (hi : i < vs.length) (hty : ty.isReference = true) (hS : Sto Z h a x) (hnew : n0 ≤ a)
    (K : ∀ T' h', own_W p l e R s m args below meth c Z n0 y bytes ml ret T' h' k n → Wr h h' a i x → own_Ends p e below G (T'.setTop (mkF m q Ls st))) : own_Ends p e below G (T.setTop (mkF m pc Ls (x :: .int j :: .ref a :: st))) := by
  subst hq
  obtain ⟨⟨locs, Y, N⟩, eT, hs0, hx, hZ, hby, hml, hown, hret, hlk, hnm⟩ := X
  obtain ⟨cl, A, r1, r2, r3, r4⟩ := F
  obtain ⟨T1, h1, Y1, e1, W1, st1⟩ := stR Y hx hZ eT A (j := j) (own_in r2 hj hj0 hi) hty hS (g := mkF m pc Ls (x :: .int j :: .ref a :: st)) rfl rfl (hb hby hd)
  exact own_pre st1 (K T1 h1 ⟨⟨_, Y1, Fr.snoc Y1 N hnew⟩, e1, (by rw [W1.size]; exact hs0), hx, hZ, hby, hml, hown, hret, hlk, hnm⟩ (hj ▸ W1))
theorem own_A_new {Z : State} {h : Heap} {a : Addr} {kc : ClassId} {ty : FieldType} {z : Int32} {N : Nat} (A : Arr Z h a (newA kc ty z) ty) (hz : ¬ z < 0) (hN : z.toNatClampNeg = N) (hf : fits ty (defaultValue ty) = true) : own_A Z h a kc ty (List.replicate N (defaultValue ty)) := by
  refine ⟨_, A, rfl, by simp [newA, hN], by rw [List.length_replicate, ← hN]; exact (back32 hz).2, fun v hv => ?_⟩
  rw [(List.mem_replicate.mp hv).2]; exact hf
theorem own_newP (X : own_W p l e R s m args below meth c Z n0 y bytes ml ret T h k n) (q : Nat) {aty : ArrayType} {z : Int32} (len cap : Nat) (hd : decode bytes pc = .ok (.newarray aty, 2)) (hq : pc + 2 = q) (w : (Jvm.Cond.arrayClass (newarray.typeOf aty)).before a0 Z = true) (hz : ¬ z < 0) (hN : z.toNatClampNeg = len) (hcap : len ≤ cap) (hb8 : cap * 8 ≤ 536870912) (hc : k + 1 ≤ R.cells) (hl : n + cap ≤ R.slots)
    (K : ∀ T' h' a kc, a = h.size → own_W p l e R s m args below meth c Z n0 y bytes ml ret T' h' (k + 1) (n + cap) → Ext h h' → own_A Z h' a kc (newarray.typeOf aty) (List.replicate len (defaultValue (newarray.typeOf aty))) → own_Ends p e below G (T'.setTop (mkF m q Ls (.ref a :: st)))) : own_Ends p e below G (T.setTop (mkF m pc Ls (.int z :: st))) := by
  subst hq
  obtain ⟨⟨locs, Y, N⟩, eT, hs0, hx, hZ, hby, hml, hown, hret, hlk, hnm⟩ := X
  obtain ⟨T1, h1, kc, Y1, e1, E1, A1, st1⟩ := newP Y hx hZ w eT (g := mkF m pc Ls (.int z :: st)) rfl (hb hby hd) rfl hz (cap := cap) (by omega) hb8 hc hl
  exact own_pre st1 (K T1 h1 _ kc rfl ⟨⟨locs, Y1, N⟩, e1, (Nat.le_trans hs0 E1.1), hx, hZ, hby, hml, hown, hret, hlk, hnm⟩ E1 (own_A_new A1 hz hN (by cases aty <;> rfl)))
theorem own_newR (X : own_W p l e R s m args below meth c Z n0 y bytes ml ret T h k n) (q : Nat) {C : String} {i : Nat} {z : Int32} (len cap : Nat) (hd : decode bytes pc = .ok (.anewarray i, 3)) (hq : pc + 3 = q) (w1 : (Jvm.Cond.classLink y.cls i C).before a0 Z = true) (w2 : (Jvm.Cond.arrayOver (.object C)).before a0 Z = true) (hz : ¬ z < 0) (hN : z.toNatClampNeg = len) (hcap : len ≤ cap) (hb8 : cap * 8 ≤ 536870912) (hc : k + 1 ≤ R.cells) (hl : n + cap ≤ R.slots)
    (K : ∀ T' h' a kc, a = h.size → own_W p l e R s m args below meth c Z n0 y bytes ml ret T' h' (k + 1) (n + cap) → Ext h h' → own_A Z h' a kc (.object C) (List.replicate len .null) → Ovr Z kc C → own_Ends p e below G (T'.setTop (mkF m q Ls (.ref a :: st)))) : own_Ends p e below G (T.setTop (mkF m pc Ls (.int z :: st))) := by
  subst hq
  obtain ⟨⟨locs, Y, N⟩, eT, hs0, hx, hZ, hby, hml, hown, hret, hlk, hnm⟩ := X
  obtain ⟨T1, h1, kc, Y1, e1, E1, A1, O1, st1⟩ := newR Y hx hZ hown w1 w2 eT (g := mkF m pc Ls (.int z :: st)) rfl (hb hby hd) rfl hz (cap := cap) (by omega) hb8 hc hl
  exact own_pre st1 (K T1 h1 _ kc rfl ⟨⟨locs, Y1, N⟩, e1, (Nat.le_trans hs0 E1.1), hx, hZ, hby, hml, hown, hret, hlk, hnm⟩ E1 (own_A_new A1 hz hN rfl) O1)
theorem own_clone (X : own_W p l e R s m args below meth c Z n0 y bytes ml ret T h k n) (q : Nat) {i : Nat} {ad : String} {a : Addr} {kc : ClassId} {ty : FieldType} {vs : List Value} (cap : Nat) (hd : decode bytes pc = .ok (.invokevirtual i, 3)) (hq : pc + 3 = q) (w1 : (Jvm.Cond.methodLink y.cls i ⟨ad, "clone", "()Ljava/lang/Object;"⟩).before a0 Z = true) (w2 : (Jvm.Cond.sameMethod ad "java/lang/Object" "clone" "()Ljava/lang/Object;").before a0 Z = true) (w3 : (Jvm.Cond.native ⟨"java/lang/Object", "clone", "()Ljava/lang/Object;"⟩).before a0 Z = true)
    (w4 : (Jvm.Cond.instanceMethod ⟨"java/lang/Object", "clone", "()Ljava/lang/Object;"⟩).before a0 Z = true) (w5 : (Jvm.Cond.selects ad ⟨ad, "clone", "()Ljava/lang/Object;"⟩ ⟨"java/lang/Object", "clone", "()Ljava/lang/Object;"⟩).before a0 Z = true) (w6 : (Jvm.Cond.castable ad "java/lang/Cloneable").before a0 Z = true)
    (F : own_A Z h a kc ty vs) (E : Exa Z h a ad) (hsz : Ls.size = ml) (hf : 1 ≤ R.frames) (hl : (st.map fun v => v.category).sum + 14 ≤ R.locals) (hcap : vs.length ≤ cap) (hc : k + 1 ≤ R.cells) (hsl : n + cap ≤ R.slots)
    (K : ∀ T' h' b, b = h.size → own_W p l e R s m args below meth c Z n0 y bytes ml ret T' h' (k + 1) (n + cap) → Ext h h' → own_A Z h' b kc ty vs → Exa Z h' b ad → own_Ends p e below G (T'.setTop (mkF m q Ls (.ref b :: st)))) : own_Ends p e below G (T.setTop (mkF m pc Ls (.ref a :: st))) := by
  subst hq
  obtain ⟨⟨locs, Y, N⟩, eT, hs0, hx, hZ, hby, hml, hown, hret, hlk, hnm⟩ := X
  obtain ⟨cl, A, r1, r2, r3, r4⟩ := F
  have hF : FitC Z cl := fitC_of A fun j hj v hv => r4 v (by rw [← r2]; exact List.mem_of_getElem? (by rw [Array.getElem?_toList]; exact hv))
  obtain ⟨T1, h1, Y1, e1, E1, A1, X1, st1⟩ := cloneA Y hx hZ hown w1 w2 w3 w4 w5 w6 eT A E hF (g := mkF m pc Ls (.ref a :: st)) rfl (hsz.trans hml.symm) rfl (hb hby hd) hf (W := (st.map fun v => v.category).sum) (cap := cap) (by show 2 * 0 + _ ≤ _; omega) hl (by rw [← Array.length_toList, r2]; exact hcap) hc hsl
  exact own_pre st1 (K T1 h1 _ rfl ⟨⟨locs, Y1, N⟩, e1, (Nat.le_trans hs0 E1.1), hx, hZ, hby, hml, hown, hret, hlk, hnm⟩ E1 ⟨_, A1, r1, r2, r3, r4⟩ X1)
theorem own_eqInt {args : Array Value} {first s : State} {o : Option Outcome} {idx : List Nat} {a : Term} {n : Int32} (h : (Jvm.Cond.eq a (Jvm.Term.int n)).value args first o s idx = some true) : a.eval args first o idx s = some (.int n) := by
  obtain ⟨x, y, h1, h2, h3, -⟩ := cmp_v (Or.inl h)
  rw [Term.int_eval] at h2
  cases h2
  cases x <;> simp [Kin, Value.isRef] at h3
  rename_i z
  have := gotT (P := z = n) (by simp [Cond.value, h1, Term.int_eval]) h
  rw [h1, this]
theorem own_eqRef {args : Array Value} {first s : State} {o : Option Outcome} {idx : List Nat} {a b : Term} {x : Addr} (h : (Jvm.Cond.eq a b).value args first o s idx = some true) (hb' : b.eval args first o idx s = some (.ref x)) : a.eval args first o idx s = some (.ref x) := by
  obtain ⟨u, v, h1, h2, h3, h4⟩ := cmp_v (Or.inl h)
  cases hb'.symm.trans h2
  have hu : u.isRef = true := by cases u <;> simp [Kin, Value.isRef] at h3 ⊢
  have := gotT (eq_R h1 h2 hu rfl) h
  rw [h1, this]
theorem own_len_size {args : Array Value} {s : State} {t : Term} {a : Addr} {n : Int32} {cell : Cell} {ty : FieldType} (h : (Jvm.Cond.eq (Jvm.Term.length t) (Jvm.Term.int n)).value args s none s [] = some true) (ev : t.eval args s none [] s = some (.ref a)) (A : Arr s s.heap a cell ty) : cell.slots.size < 2 ^ 31 ∧ cell.slots.size.toInt32 = n :=
  IntBox.length_fwd (Cond.before_iff.mpr h) ev A.1 A.2.1 A.2.2
theorem own_A_start {args : Array Value} {s : State} {t : Term} {a : Addr} {ty : FieldType} {n : Int32} {vs : List Value} (hf : Fit s) (ev : t.eval args s none [] s = some (.ref a)) (hA : (Jvm.Cond.arrayOf t ty).value args s none s [] = some true) (hL : (Jvm.Cond.eq (Jvm.Term.length t) (Jvm.Term.int n)).value args s none s [] = some true) (hn : n.toNatClampNeg = vs.length)
    (he : ∀ (i : Nat) (v : Value), vs[i]? = some v → (Jvm.Term.elem t (Jvm.Term.int (Int32.ofNat i))).eval args s none [] s = some v) : ∃ kc, own_A s s.heap a kc ty vs := by
  obtain ⟨c, A⟩ := Arr.start ev hA
  obtain ⟨q1, q2⟩ := own_len_size hL ev A
  have hsz : c.slots.size = vs.length := by
    rw [← hn, ← q2]; show _ = (c.slots.size.toInt32.toInt).toNat; rw [len_toInt q1]; rfl
  refine ⟨c.cls, c, A, rfl, ?_, by omega, ?_⟩
  · apply List.ext_getElem?
    intro i
    by_cases hi : i < vs.length
    · have h1 := elem_in (he i _ (List.getElem?_eq_getElem hi)) ev (Term.int_eval _) A.1
      have hj : (Int32.ofNat i).toNatClampNeg = i := by show (Int32.ofNat i).toInt.toNat = i; rw [Int32.toInt_ofNat_small (by omega)]; rfl
      rw [Array.getElem?_toList, List.getElem?_eq_getElem hi]
      rw [hj] at h1; exact h1.2
    · rw [List.getElem?_eq_none (l := c.slots.toList) (by rw [Array.length_toList]; omega), List.getElem?_eq_none (l := vs) (by omega)]
  · intro v hv
    obtain ⟨i, hi, rfl⟩ := List.getElem_of_mem hv
    have h1 := elem_in (he i _ (List.getElem?_eq_getElem hi)) ev (Term.int_eval _) A.1
    exact elem_fits hf A h1.1 h1.2
end OwnKit
def own_cmp (x y : Int32) : Int32 := if x < y then -1 else if x = y then 0 else 1
def own_sgn (v : Int32) : Int32 := if v < 0 then -1 else if 0 < v then 1 else 0
def own_eqv (x y : Int32) : Int32 := if x = y then 1 else 0
theorem own_cmp_lt {x y : Int32} (h : x < y) : own_cmp x y = -1 := by simp [own_cmp, h]
theorem own_cmp_eq {x y : Int32} (h : x = y) : own_cmp x y = 0 := by subst h; simp [own_cmp, Int32.lt_irrefl]
theorem own_cmp_gt {x y : Int32} (h : y < x) : own_cmp x y = 1 := by
  have h1 : ¬ x < y := fun q => Int32.lt_irrefl (Int32.lt_trans h q)
  have h2 : ¬ x = y := fun q => by subst q; exact Int32.lt_irrefl h
  simp [own_cmp, h1, h2]
theorem own_sgn_lt {x y : Int32} (h : x < y) : own_sgn (own_cmp x y) = -1 := by rw [own_cmp_lt h]; decide
theorem own_sgn_eq {x y : Int32} (h : x = y) : own_sgn (own_cmp x y) = 0 := by rw [own_cmp_eq h]; decide
theorem own_sgn_gt {x y : Int32} (h : y < x) : own_sgn (own_cmp x y) = 1 := by rw [own_cmp_gt h]; decide
theorem own_gt_of {x y : Int32} (h1 : ¬ x < y) (h2 : ¬ x = y) : y < x := by
  rw [Int32.lt_iff_toInt_lt] at *; rw [← Int32.toInt_inj] at h2; omega
theorem own_rng (a : Int32) : 0 ≤ ((a &&& (2147483647 : Int32)) % (2147483647 : Int32)).toInt ∧ ((a &&& (2147483647 : Int32)) % (2147483647 : Int32)).toInt < 2147483647 := by
  have e : (2147483647 : Int32).toInt = 2147483647 := by decide
  have h0 : 0 ≤ (a &&& (2147483647 : Int32)).toInt := by
    have q : ¬ (a &&& (2147483647 : Int32)) < 0 := fun q => by
      have := (XT.and_neg32 _ _).mp q
      exact absurd this.2 (by decide)
    rw [Int32.lt_iff_toInt_lt] at q
    have : (0 : Int32).toInt = 0 := by decide
    omega
  rw [Int32.toInt_mod, e, Int.tmod_eq_emod_of_nonneg h0]
  exact ⟨Int.emod_nonneg _ (by decide), Int.emod_lt_of_pos _ (by decide)⟩
theorem own_nn {x : Int32} (h : 0 ≤ x.toInt) : ¬ x < 0 := by
  rw [Int32.lt_iff_toInt_lt]; have : (0 : Int32).toInt = 0 := by decide
  omega
theorem own_nmax {x : Int32} (h : x.toInt < 2147483647) : ¬ x = (2147483647 : Int32) := fun q => by
  subst q; exact absurd h (by decide)
theorem own_ltmax {x : Int32} (h : x.toInt < 2147483647) : x < (2147483647 : Int32) := by
  rw [Int32.lt_iff_toInt_lt]; have : (2147483647 : Int32).toInt = 2147483647 := by decide
  omega
theorem own_inc {x : Int32} (h : 0 ≤ x.toInt ∧ x.toInt < 2147483647) (q : x < (2147483646 : Int32)) : 0 ≤ (x + 1).toInt ∧ (x + 1).toInt < 2147483647 := by
  rw [Int32.lt_iff_toInt_lt] at q
  have e1 : (2147483646 : Int32).toInt = 2147483646 := by decide
  have e2 : (1 : Int32).toInt = 1 := by decide
  have := c_iadd x 1; have := rng32 (x + 1); omega
theorem own_dec {x : Int32} (h : 0 ≤ x.toInt ∧ x.toInt < 2147483647) (q : ¬ x < (2147483646 : Int32)) : 0 ≤ (x - 1).toInt ∧ (x - 1).toInt < 2147483647 := by
  rw [Int32.lt_iff_toInt_lt] at q
  have e1 : (2147483646 : Int32).toInt = 2147483646 := by decide
  have e2 : (1 : Int32).toInt = 1 := by decide
  have := c_isub x 1; have := rng32 (x - 1); omega
theorem own_d5_0 : decode jdk_33_method_40_code 0 = .ok (.iload_n 0, 1) := by decide +kernel
theorem own_d5_1 : decode jdk_33_method_40_code 1 = .ok (.iload_n 1, 1) := by decide +kernel
theorem own_d5_2 : decode jdk_33_method_40_code 2 = .ok (.if_icmp .ge 7, 3) := by decide +kernel
theorem own_d5_5 : decode jdk_33_method_40_code 5 = .ok (.iconst (-1), 1) := by decide +kernel
theorem own_d5_6 : decode jdk_33_method_40_code 6 = .ok (.goto 13, 3) := by decide +kernel
theorem own_d5_19 : decode jdk_33_method_40_code 19 = .ok (.ireturn, 1) := by decide +kernel
theorem own_d5_9 : decode jdk_33_method_40_code 9 = .ok (.iload_n 0, 1) := by decide +kernel
theorem own_d5_10 : decode jdk_33_method_40_code 10 = .ok (.iload_n 1, 1) := by decide +kernel
theorem own_d5_11 : decode jdk_33_method_40_code 11 = .ok (.if_icmp .ne 7, 3) := by decide +kernel
theorem own_d5_14 : decode jdk_33_method_40_code 14 = .ok (.iconst 0, 1) := by decide +kernel
theorem own_d5_15 : decode jdk_33_method_40_code 15 = .ok (.goto 4, 3) := by decide +kernel
theorem own_d5_18 : decode jdk_33_method_40_code 18 = .ok (.iconst 1, 1) := by decide +kernel
theorem own_pn5 : plainFor (⟨"java/lang/Integer", "compare", "(II)I"⟩ : MethodName) = true := plainFor_of_name (by first | (simp [plainName, overriddenIn]; done) | decide +kernel)
set_option maxRecDepth 65536 in
set_option maxHeartbeats 40000000 in
theorem own_mcmp (l : Launch) (Z : State) (a0 : Array Value) (hw : ∀ d ∈ tables_1, d.before a0 Z = true) (x : Int32) (y : Int32) (h0 : Heap) (n0 : Nat) (hs0 : n0 ≤ h0.size) :
    own_Met l (⟨"java/lang/Integer", "compare", "(II)I"⟩ : MethodName) jdk_33_method_40_code 2 (some .int) ({ frames := 0, cells := 0, slots := 0, locals := 0 } : Room) Z #[(.int x), (.int y)] h0 n0 (fun v h' => h' = h0 ∧ v = some (.int (own_cmp x y))) := by
  refine own_met (Ls := #[.val (.int x), .val (.int y)]) own_pn5 hs0 (fun m => by first | (simp [entryFrame, mkF, argsToLocals, Value.category]; done) | rfl) ?_
  intro p e s m below meth c T X
  refine own_iloadN X 1 x own_d5_0 rfl rfl ?_
  refine own_iloadN X 2 y own_d5_1 rfl rfl ?_
  by_cases hc2 : x < y
  · refine own_icN X 5 own_d5_2 rfl (XT.ii_ge_f hc2) ?_
    refine own_iconst X 6 (-1 : Int32) own_d5_5 rfl rfl ?_
    refine own_goto X 19 own_d5_6 (by decide) (by decide) ?_
    exact own_retI X own_d5_19 rfl (by decide) (by decide) (⟨rfl, by simp [own_cmp, *]⟩)
  · refine own_icY X 9 own_d5_2 (by decide) (by decide) (XT.ii_ge_t hc2) ?_
    refine own_iloadN X 10 x own_d5_9 rfl rfl ?_
    refine own_iloadN X 11 y own_d5_10 rfl rfl ?_
    by_cases hc11 : x = y
    · refine own_icN X 14 own_d5_11 rfl (XT.ii_ne_f hc11) ?_
      refine own_iconst X 15 (0 : Int32) own_d5_14 rfl rfl ?_
      refine own_goto X 19 own_d5_15 (by decide) (by decide) ?_
      exact own_retI X own_d5_19 rfl (by decide) (by decide) (⟨rfl, by simp [own_cmp, *]⟩)
    · refine own_icY X 18 own_d5_11 (by decide) (by decide) (XT.ii_ne_t hc11) ?_
      refine own_iconst X 19 (1 : Int32) own_d5_18 rfl rfl ?_
      exact own_retI X own_d5_19 rfl (by decide) (by decide) (⟨rfl, by simp [own_cmp, *]⟩)
theorem own_d6_0 : decode method_2_code 0 = .ok (.iload_n 0, 1) := by decide +kernel
theorem own_d6_1 : decode method_2_code 1 = .ok (.ifCond .ge 5, 3) := by decide +kernel
theorem own_d6_4 : decode method_2_code 4 = .ok (.iconst (-1), 1) := by decide +kernel
theorem own_d6_5 : decode method_2_code 5 = .ok (.ireturn, 1) := by decide +kernel
theorem own_d6_6 : decode method_2_code 6 = .ok (.iload_n 0, 1) := by decide +kernel
theorem own_d6_7 : decode method_2_code 7 = .ok (.ifCond .le 5, 3) := by decide +kernel
theorem own_d6_10 : decode method_2_code 10 = .ok (.iconst 1, 1) := by decide +kernel
theorem own_d6_11 : decode method_2_code 11 = .ok (.ireturn, 1) := by decide +kernel
theorem own_d6_12 : decode method_2_code 12 = .ok (.iconst 0, 1) := by decide +kernel
theorem own_d6_13 : decode method_2_code 13 = .ok (.ireturn, 1) := by decide +kernel
theorem own_pn6 : plainFor (⟨"com/example/typicality/typicality/reasoning/RankOfPinLaw", "sign", "(I)I"⟩ : MethodName) = true := plainFor_of_name (by first | (simp [plainName, overriddenIn]; done) | decide +kernel)
set_option maxRecDepth 65536 in
set_option maxHeartbeats 40000000 in
theorem own_msgn (l : Launch) (Z : State) (a0 : Array Value) (hw : ∀ d ∈ tables_1, d.before a0 Z = true) (x : Int32) (h0 : Heap) (n0 : Nat) (hs0 : n0 ≤ h0.size) :
    own_Met l (⟨"com/example/typicality/typicality/reasoning/RankOfPinLaw", "sign", "(I)I"⟩ : MethodName) method_2_code 1 (some .int) ({ frames := 0, cells := 0, slots := 0, locals := 0 } : Room) Z #[(.int x)] h0 n0 (fun v h' => h' = h0 ∧ v = some (.int (own_sgn x))) := by
  refine own_met (Ls := #[.val (.int x)]) own_pn6 hs0 (fun m => by first | (simp [entryFrame, mkF, argsToLocals, Value.category]; done) | rfl) ?_
  intro p e s m below meth c T X
  refine own_iloadN X 1 x own_d6_0 rfl rfl ?_
  by_cases hc1 : x < (0 : Int32)
  · refine own_ifN X 4 own_d6_1 rfl (XT.i0_ge_f hc1) ?_
    refine own_iconst X 5 (-1 : Int32) own_d6_4 rfl rfl ?_
    exact own_retI X own_d6_5 rfl (by decide) (by decide) (⟨rfl, by simp [own_sgn, *]⟩)
  · refine own_ifY X 6 own_d6_1 (by decide) (by decide) (XT.i0_ge_t hc1) ?_
    refine own_iloadN X 7 x own_d6_6 rfl rfl ?_
    by_cases hc7 : (0 : Int32) < x
    · refine own_ifN X 10 own_d6_7 rfl (XT.i0_le_f hc7) ?_
      refine own_iconst X 11 (1 : Int32) own_d6_10 rfl rfl ?_
      exact own_retI X own_d6_11 rfl (by decide) (by decide) (⟨rfl, by simp [own_sgn, *]⟩)
    · refine own_ifY X 12 own_d6_7 (by decide) (by decide) (XT.i0_le_t hc7) ?_
      refine own_iconst X 13 (0 : Int32) own_d6_12 rfl rfl ?_
      exact own_retI X own_d6_13 rfl (by decide) (by decide) (⟨rfl, by simp [own_sgn, *]⟩)
theorem own_d9_0 : decode jdk_33_method_33_code 0 = .ok (.iload_n 0, 1) := by decide +kernel
theorem own_d9_1 : decode jdk_33_method_33_code 1 = .ok (.ireturn, 1) := by decide +kernel
theorem own_pn9 : plainFor (⟨"java/lang/Integer", "hashCode", "(I)I"⟩ : MethodName) = true := plainFor_of_name (by first | (simp [plainName, overriddenIn]; done) | decide +kernel)
set_option maxRecDepth 65536 in
set_option maxHeartbeats 40000000 in
theorem own_mhci (l : Launch) (Z : State) (a0 : Array Value) (hw : ∀ d ∈ tables_1, d.before a0 Z = true) (x : Int32) (h0 : Heap) (n0 : Nat) (hs0 : n0 ≤ h0.size) :
    own_Met l (⟨"java/lang/Integer", "hashCode", "(I)I"⟩ : MethodName) jdk_33_method_33_code 1 (some .int) ({ frames := 0, cells := 0, slots := 0, locals := 0 } : Room) Z #[(.int x)] h0 n0 (fun v h' => h' = h0 ∧ v = some (.int x)) := by
  refine own_met (Ls := #[.val (.int x)]) own_pn9 hs0 (fun m => by first | (simp [entryFrame, mkF, argsToLocals, Value.category]; done) | rfl) ?_
  intro p e s m below meth c T X
  refine own_iloadN X 1 x own_d9_0 rfl rfl ?_
  exact own_retI X own_d9_1 rfl (by decide) (by decide) (⟨rfl, rfl⟩)
theorem own_d4_0 : decode prog_8_method_3_code 0 = .ok (.aload_n 0, 1) := by decide +kernel
theorem own_d4_1 : decode prog_8_method_3_code 1 = .ok (.getfield 9, 3) := by decide +kernel
theorem own_d4_4 : decode prog_8_method_3_code 4 = .ok (.aload_n 1, 1) := by decide +kernel
theorem own_d4_5 : decode prog_8_method_3_code 5 = .ok (.getfield 9, 3) := by decide +kernel
theorem own_d4_8 : decode prog_8_method_3_code 8 = .ok (.invokestatic 28, 3) := by decide +kernel
theorem own_pd0 : parseMethodDescriptor "(II)I" = some ⟨[.int, .int], some .int⟩ := by decide +kernel
theorem own_d4_11 : decode prog_8_method_3_code 11 = .ok (.ireturn, 1) := by decide +kernel
theorem own_pn4 : plainFor (⟨"com/example/typicality/typicality/reasoning/Rank", "compareTo", "(Lcom/example/typicality/typicality/reasoning/Rank;)I"⟩ : MethodName) = true := plainFor_of_name (by first | (simp [plainName, overriddenIn]; done) | decide +kernel)
set_option maxRecDepth 65536 in
set_option maxHeartbeats 40000000 in
theorem own_mcto (l : Launch) (Z : State) (a0 : Array Value) (hw : ∀ d ∈ tables_1, d.before a0 Z = true) (a : Addr) (b : Addr) (x : Int32) (y : Int32) (h0 : Heap) (n0 : Nat) (hs0 : n0 ≤ h0.size) (Fa : Fld Z h0 a "com/example/typicality/typicality/reasoning/Rank" "level" "I" (.int x)) (Fb : Fld Z h0 b "com/example/typicality/typicality/reasoning/Rank" "level" "I" (.int y)) :
    own_Met l (⟨"com/example/typicality/typicality/reasoning/Rank", "compareTo", "(Lcom/example/typicality/typicality/reasoning/Rank;)I"⟩ : MethodName) prog_8_method_3_code 2 (some .int) ({ frames := 1, cells := 0, slots := 0, locals := 13 } : Room) Z #[(.ref a), (.ref b)] h0 n0 (fun v h' => h' = h0 ∧ v = some (.int (own_cmp x y))) := by
  refine own_met (Ls := #[.val (.ref a), .val (.ref b)]) own_pn4 hs0 (fun m => by first | (simp [entryFrame, mkF, argsToLocals, Value.category]; done) | rfl) ?_
  intro p e s m below meth c T X
  refine own_aloadN X 1 (.ref a) own_d4_0 rfl rfl rfl ?_
  refine own_getF X 4 own_d4_1 rfl (hw _ (List.mem_of_getElem? (i := 15) rfl)) Via.refl Fa ?_
  intro T X
  refine own_aloadN X 5 (.ref b) own_d4_4 rfl rfl rfl ?_
  refine own_getF X 8 own_d4_5 rfl (hw _ (List.mem_of_getElem? (i := 15) rfl)) Via.refl Fb ?_
  intro T X
  refine own_callS X 11 [(.int x), (.int y)] [] own_d4_8 rfl (hw _ (List.mem_of_getElem? (i := 22) rfl)) (hw _ (List.mem_of_getElem? (i := 23) rfl)) (hw _ (List.mem_of_getElem? (i := 24) rfl)) (hw _ (List.mem_of_getElem? (i := 25) rfl)) (by decide) (own_mcmp l Z a0 hw x y h0 n0 X.sz) (fun _ _ q => Nat.le_of_eq (congrArg Array.size q.1.symm)) rfl own_pd0 rfl rfl rfl (by decide) (Nat.le_of_ble_eq_true rfl) (by decide) (by decide) ?_
  rintro v8 T h_ X ⟨eh_, rfl⟩
  rw [eh_] at X
  show own_Ends p e below _ (T.setTop (mkF m 11 #[.val (.ref a), .val (.ref b)] [(.int (own_cmp x y))]))
  exact own_retI X own_d4_11 rfl (by decide) (by decide) (⟨rfl, rfl⟩)
theorem own_d7_0 : decode prog_8_method_4_code 0 = .ok (.aload_n 1, 1) := by decide +kernel
theorem own_d7_1 : decode prog_8_method_4_code 1 = .ok (.instanceof 10, 3) := by decide +kernel
theorem own_d7_4 : decode prog_8_method_4_code 4 = .ok (.ifCond .eq 21, 3) := by decide +kernel
theorem own_d7_7 : decode prog_8_method_4_code 7 = .ok (.aload_n 1, 1) := by decide +kernel
theorem own_d7_8 : decode prog_8_method_4_code 8 = .ok (.checkcast 10, 3) := by decide +kernel
theorem own_d7_11 : decode prog_8_method_4_code 11 = .ok (.getfield 9, 3) := by decide +kernel
theorem own_d7_14 : decode prog_8_method_4_code 14 = .ok (.aload_n 0, 1) := by decide +kernel
theorem own_d7_15 : decode prog_8_method_4_code 15 = .ok (.getfield 9, 3) := by decide +kernel
theorem own_d7_18 : decode prog_8_method_4_code 18 = .ok (.if_icmp .ne 7, 3) := by decide +kernel
theorem own_d7_21 : decode prog_8_method_4_code 21 = .ok (.iconst 1, 1) := by decide +kernel
theorem own_d7_22 : decode prog_8_method_4_code 22 = .ok (.goto 4, 3) := by decide +kernel
theorem own_d7_26 : decode prog_8_method_4_code 26 = .ok (.ireturn, 1) := by decide +kernel
theorem own_d7_25 : decode prog_8_method_4_code 25 = .ok (.iconst 0, 1) := by decide +kernel
theorem own_pn7 : plainFor (⟨"com/example/typicality/typicality/reasoning/Rank", "equals", "(Ljava/lang/Object;)Z"⟩ : MethodName) = true := plainFor_of_name (by first | (simp [plainName, overriddenIn]; done) | decide +kernel)
set_option maxRecDepth 65536 in
set_option maxHeartbeats 40000000 in
theorem own_mequ (l : Launch) (Z : State) (a0 : Array Value) (hw : ∀ d ∈ tables_1, d.before a0 Z = true) (a : Addr) (b : Addr) (x : Int32) (y : Int32) (h0 : Heap) (n0 : Nat) (hs0 : n0 ≤ h0.size) (Fa : Fld Z h0 a "com/example/typicality/typicality/reasoning/Rank" "level" "I" (.int x)) (Fb : Fld Z h0 b "com/example/typicality/typicality/reasoning/Rank" "level" "I" (.int y)) (Eb : Exa Z h0 b "com/example/typicality/typicality/reasoning/Rank") :
    own_Met l (⟨"com/example/typicality/typicality/reasoning/Rank", "equals", "(Ljava/lang/Object;)Z"⟩ : MethodName) prog_8_method_4_code 2 (some .boolean) ({ frames := 0, cells := 0, slots := 0, locals := 0 } : Room) Z #[(.ref a), (.ref b)] h0 n0 (fun v h' => h' = h0 ∧ v = some (.int (own_eqv y x))) := by
  refine own_met (Ls := #[.val (.ref a), .val (.ref b)]) own_pn7 hs0 (fun m => by first | (simp [entryFrame, mkF, argsToLocals, Value.category]; done) | rfl) ?_
  intro p e s m below meth c T X
  refine own_aloadN X 1 (.ref b) own_d7_0 rfl rfl rfl ?_
  refine own_instY X 4 own_d7_1 rfl (hw _ (List.mem_of_getElem? (i := 7) rfl)) (Ins.self Eb) ?_
  intro T X
  refine own_ifN X 7 own_d7_4 rfl (XT.i0_eq_f (by decide)) ?_
  refine own_aloadN X 8 (.ref b) own_d7_7 rfl rfl rfl ?_
  refine own_castY X 11 own_d7_8 rfl (hw _ (List.mem_of_getElem? (i := 7) rfl)) (Ins.self Eb) ?_
  intro T X
  refine own_getF X 14 own_d7_11 rfl (hw _ (List.mem_of_getElem? (i := 15) rfl)) Via.refl Fb ?_
  intro T X
  refine own_aloadN X 15 (.ref a) own_d7_14 rfl rfl rfl ?_
  refine own_getF X 18 own_d7_15 rfl (hw _ (List.mem_of_getElem? (i := 15) rfl)) Via.refl Fa ?_
  intro T X
  by_cases hc18 : y = x
  · refine own_icN X 21 own_d7_18 rfl (XT.ii_ne_f hc18) ?_
    refine own_iconst X 22 (1 : Int32) own_d7_21 rfl rfl ?_
    refine own_goto X 26 own_d7_22 (by decide) (by decide) ?_
    exact own_retN X .boolean own_d7_26 rfl (by simp) (by decide) (by decide) (⟨rfl, by simp [own_eqv, nar, *]⟩)
  · refine own_icY X 25 own_d7_18 (by decide) (by decide) (XT.ii_ne_t hc18) ?_
    refine own_iconst X 26 (0 : Int32) own_d7_25 rfl rfl ?_
    exact own_retN X .boolean own_d7_26 rfl (by simp) (by decide) (by decide) (⟨rfl, by simp [own_eqv, nar, *]⟩)
theorem own_d8_0 : decode prog_8_method_5_code 0 = .ok (.aload_n 0, 1) := by decide +kernel
theorem own_d8_1 : decode prog_8_method_5_code 1 = .ok (.getfield 9, 3) := by decide +kernel
theorem own_d8_4 : decode prog_8_method_5_code 4 = .ok (.invokestatic 32, 3) := by decide +kernel
theorem own_pd1 : parseMethodDescriptor "(I)I" = some ⟨[.int], some .int⟩ := by decide +kernel
theorem own_d8_7 : decode prog_8_method_5_code 7 = .ok (.ireturn, 1) := by decide +kernel
theorem own_pn8 : plainFor (⟨"com/example/typicality/typicality/reasoning/Rank", "hashCode", "()I"⟩ : MethodName) = true := plainFor_of_name (by first | (simp [plainName, overriddenIn]; done) | decide +kernel)
set_option maxRecDepth 65536 in
set_option maxHeartbeats 40000000 in
theorem own_mhco (l : Launch) (Z : State) (a0 : Array Value) (hw : ∀ d ∈ tables_1, d.before a0 Z = true) (a : Addr) (x : Int32) (h0 : Heap) (n0 : Nat) (hs0 : n0 ≤ h0.size) (Fa : Fld Z h0 a "com/example/typicality/typicality/reasoning/Rank" "level" "I" (.int x)) :
    own_Met l (⟨"com/example/typicality/typicality/reasoning/Rank", "hashCode", "()I"⟩ : MethodName) prog_8_method_5_code 1 (some .int) ({ frames := 1, cells := 0, slots := 0, locals := 12 } : Room) Z #[(.ref a)] h0 n0 (fun v h' => h' = h0 ∧ v = some (.int x)) := by
  refine own_met (Ls := #[.val (.ref a)]) own_pn8 hs0 (fun m => by first | (simp [entryFrame, mkF, argsToLocals, Value.category]; done) | rfl) ?_
  intro p e s m below meth c T X
  refine own_aloadN X 1 (.ref a) own_d8_0 rfl rfl rfl ?_
  refine own_getF X 4 own_d8_1 rfl (hw _ (List.mem_of_getElem? (i := 15) rfl)) Via.refl Fa ?_
  intro T X
  refine own_callS X 7 [(.int x)] [] own_d8_4 rfl (hw _ (List.mem_of_getElem? (i := 43) rfl)) (hw _ (List.mem_of_getElem? (i := 44) rfl)) (hw _ (List.mem_of_getElem? (i := 24) rfl)) (hw _ (List.mem_of_getElem? (i := 45) rfl)) (by decide) (own_mhci l Z a0 hw x h0 n0 X.sz) (fun _ _ q => Nat.le_of_eq (congrArg Array.size q.1.symm)) rfl own_pd1 rfl rfl rfl (by decide) (Nat.le_of_ble_eq_true rfl) (by decide) (by decide) ?_
  rintro v4 T h_ X ⟨eh_, rfl⟩
  rw [eh_] at X
  show own_Ends p e below _ (T.setTop (mkF m 7 #[.val (.ref a)] [(.int x)]))
  exact own_retI X own_d8_7 rfl (by decide) (by decide) (⟨rfl, rfl⟩)
theorem own_d2_0 : decode prog_8_method_1_code 0 = .ok (.aload_n 0, 1) := by decide +kernel
theorem own_d2_1 : decode prog_8_method_1_code 1 = .ok (.invokespecial 3, 3) := by decide +kernel
theorem own_d2_4 : decode prog_8_method_1_code 4 = .ok (.aload_n 0, 1) := by decide +kernel
theorem own_d2_5 : decode prog_8_method_1_code 5 = .ok (.iload_n 1, 1) := by decide +kernel
theorem own_d2_6 : decode prog_8_method_1_code 6 = .ok (.putfield 9, 3) := by decide +kernel
theorem own_d2_9 : decode prog_8_method_1_code 9 = .ok (.return_, 1) := by decide +kernel
theorem own_pn2 : plainFor (⟨"com/example/typicality/typicality/reasoning/Rank", "<init>", "(I)V"⟩ : MethodName) = true := plainFor_of_name (by first | (simp [plainName, overriddenIn]; done) | decide +kernel)
set_option maxRecDepth 65536 in
set_option maxHeartbeats 40000000 in
theorem own_mini (l : Launch) (Z : State) (a0 : Array Value) (hw : ∀ d ∈ tables_1, d.before a0 Z = true) (a : Addr) (p1 : Int32) (h0 : Heap) (n0 : Nat) (hs0 : n0 ≤ h0.size) (Fa : Fld Z h0 a "com/example/typicality/typicality/reasoning/Rank" "level" "I" (.int 0)) (Ea : Exa Z h0 a "com/example/typicality/typicality/reasoning/Rank") (ga : n0 ≤ a) :
    own_Met l (⟨"com/example/typicality/typicality/reasoning/Rank", "<init>", "(I)V"⟩ : MethodName) prog_8_method_1_code 2 none ({ frames := 1, cells := 0, slots := 0, locals := 12 } : Room) Z #[(.ref a), (.int p1)] h0 n0 (fun v h' => Keep h0 h' [a] ∧ v = none ∧ Exa Z h' a "com/example/typicality/typicality/reasoning/Rank" ∧ Fld Z h' a "com/example/typicality/typicality/reasoning/Rank" "level" "I" (.int p1)) := by
  refine own_met (Ls := #[.val (.ref a), .val (.int p1)]) own_pn2 hs0 (fun m => by first | (simp [entryFrame, mkF, argsToLocals, Value.category]; done) | rfl) ?_
  intro p e s m below meth c T X
  have K0 := Keep.refl h0 [a]
  refine own_aloadN X 1 (.ref a) own_d2_0 rfl rfl rfl ?_
  refine own_initO X 4 own_d2_1 rfl (hw _ (List.mem_of_getElem? (i := 12) rfl)) (hw _ (List.mem_of_getElem? (i := 13) rfl)) (hw _ (List.mem_of_getElem? (i := 14) rfl)) rfl (by decide) (Nat.le_of_ble_eq_true rfl) ?_
  intro T X
  refine own_aloadN X 5 (.ref a) own_d2_4 rfl rfl rfl ?_
  refine own_iloadN X 6 p1 own_d2_5 rfl rfl ?_
  refine own_putF X 9 .int own_d2_6 rfl (hw _ (List.mem_of_getElem? (i := 15) rfl)) Via.refl Fa Ea (Or.inr ⟨(hw _ (List.mem_of_getElem? (i := 16) rfl)), rfl, rfl⟩) (hw _ (List.mem_of_getElem? (i := 8) rfl)) (by decide) rfl rfl (by omega) ?_
  intro T h1 X W_h1
  have nw_h1 := Fld.same W_h1 Fa
  have zs_h1 : h0.size ≤ h1.size := (Nat.le_of_eq W_h1.size.symm)
  have Ea := Exa.wr W_h1 Ea
  have K0 := K0.wr W_h1 (Or.inl (by simp))
  have Fa := nw_h1
  exact own_retV X own_d2_9 rfl (by decide) (by decide) (⟨K0, rfl, Ea, Fa⟩)
theorem own_d1_0 : decode prog_8_method_2_code 0 = .ok (.iload_n 0, 1) := by decide +kernel
theorem own_d1_1 : decode prog_8_method_2_code 1 = .ok (.ifCond .lt 9, 3) := by decide +kernel
theorem own_d1_4 : decode prog_8_method_2_code 4 = .ok (.iload_n 0, 1) := by decide +kernel
theorem own_d1_5 : decode prog_8_method_2_code 5 = .ok (.ldc 15, 2) := by decide +kernel
theorem own_d1_7 : decode prog_8_method_2_code 7 = .ok (.if_icmp .ne 17, 3) := by decide +kernel
theorem own_d1_24 : decode prog_8_method_2_code 24 = .ok (.new 10, 3) := by decide +kernel
theorem own_d1_27 : decode prog_8_method_2_code 27 = .ok (.dup, 1) := by decide +kernel
theorem own_d1_28 : decode prog_8_method_2_code 28 = .ok (.iload_n 0, 1) := by decide +kernel
theorem own_d1_29 : decode prog_8_method_2_code 29 = .ok (.invokespecial 25, 3) := by decide +kernel
theorem own_pd2 : parseMethodDescriptor "(I)V" = some ⟨[.int], none⟩ := by decide +kernel
theorem own_d1_32 : decode prog_8_method_2_code 32 = .ok (.areturn, 1) := by decide +kernel
theorem own_pn1 : plainFor (⟨"com/example/typicality/typicality/reasoning/Rank", "of", "(I)Lcom/example/typicality/typicality/reasoning/Rank;"⟩ : MethodName) = true := plainFor_of_name (by first | (simp [plainName, overriddenIn]; done) | decide +kernel)
set_option maxRecDepth 65536 in
set_option maxHeartbeats 40000000 in
theorem own_mof (l : Launch) (Z : State) (a0 : Array Value) (hw : ∀ d ∈ tables_1, d.before a0 Z = true) (p1 : Int32) (h0 : Heap) (n0 : Nat) (hs0 : n0 ≤ h0.size) (hp0 : ¬ p1 < 0) (hp1 : ¬ p1 = (2147483647 : Int32)) :
    own_Met l (⟨"com/example/typicality/typicality/reasoning/Rank", "of", "(I)Lcom/example/typicality/typicality/reasoning/Rank;"⟩ : MethodName) prog_8_method_2_code 1 (some (.object "com/example/typicality/typicality/reasoning/Rank")) ({ frames := 2, cells := 1, slots := 1, locals := 26 } : Room) Z #[(.int p1)] h0 n0 (fun v h' => Keep h0 h' [] ∧ ∃ b, v = some (.ref b) ∧ h0.size ≤ b ∧ b < h'.size ∧ Exa Z h' b "com/example/typicality/typicality/reasoning/Rank" ∧ Fld Z h' b "com/example/typicality/typicality/reasoning/Rank" "level" "I" (.int p1)) := by
  refine own_met (Ls := #[.val (.int p1)]) own_pn1 hs0 (fun m => by first | (simp [entryFrame, mkF, argsToLocals, Value.category]; done) | rfl) ?_
  intro p e s m below meth c T X
  have K0 := Keep.refl h0 []
  refine own_iloadN X 1 p1 own_d1_0 rfl rfl ?_
  refine own_ifN X 4 own_d1_1 rfl (XT.i0_lt_f hp0) ?_
  refine own_iloadN X 5 p1 own_d1_4 rfl rfl ?_
  refine own_ldcI X 7 own_d1_5 rfl (hw _ (List.mem_of_getElem? (i := 6) rfl)) ?_
  refine own_icY X 24 own_d1_7 (by decide) (by decide) (XT.ii_ne_t hp1) ?_
  refine own_new X 27 own_d1_24 rfl (hw _ (List.mem_of_getElem? (i := 7) rfl)) (hw _ (List.mem_of_getElem? (i := 8) rfl)) (hw _ (List.mem_of_getElem? (i := 4) rfl)) (by decide) (by decide) ?_
  intro T h1 b2 g_b2 X E_h1 A_b2 D_b2
  have zs_h1 : h0.size ≤ h1.size := E_h1.1
  have K0 := K0.ext E_h1
  have lo_b2 : h0.size ≤ b2 := Nat.le_of_eq g_b2.symm
  have hi_b2 : b2 < h1.size := A_b2.lt
  have F_level_b2 : Fld Z h1 b2 "com/example/typicality/typicality/reasoning/Rank" "level" "I" (.int (0 : Int32)) := D_b2 (Or.inr (hw _ (List.mem_of_getElem? (i := 16) rfl))) (ty := .int) (by decide)
  refine own_dup X 28 own_d1_27 rfl rfl ?_
  refine own_iloadN X 29 p1 own_d1_28 rfl rfl ?_
  refine own_init X 32 [(.int p1)] [(.ref b2)] own_d1_29 rfl (hw _ (List.mem_of_getElem? (i := 9) rfl)) (hw _ (List.mem_of_getElem? (i := 10) rfl)) (hw _ (List.mem_of_getElem? (i := 4) rfl)) (hw _ (List.mem_of_getElem? (i := 11) rfl)) (by decide) rfl (own_mini l Z a0 hw b2 p1 h1 n0 X.sz F_level_b2 A_b2 (by omega)) (fun _ _ q => q.1.1) rfl own_pd2 rfl rfl rfl (by decide) (Nat.le_of_ble_eq_true rfl) (by decide) (by decide) ?_
  rintro v29 T h3 X ⟨K_, rfl, Ei_, Fi_⟩
  have zs_h3 : h1.size ≤ h3.size := K_.1
  have K0 := K0.trans K_ (by simp only [List.mem_cons, List.not_mem_nil, or_false]; rintro x rfl <;> first | exact Or.inl (by simp) | exact Or.inr (by omega))
  have A_b2 := A_b2.keep K_
  have F_level_b2 := Fi_
  show own_Ends p e below _ (T.setTop (mkF m 32 #[.val (.int p1)] [(.ref b2)]))
  exact own_retA X (.object "com/example/typicality/typicality/reasoning/Rank") own_d1_32 rfl rfl rfl rfl (by decide) (by decide) (⟨K0, b2, rfl, by omega, A_b2.lt, A_b2, F_level_b2⟩)
theorem own_pd3 : parseMethodDescriptor "(I)Lcom/example/typicality/typicality/reasoning/Rank;" = some ⟨[.int], some (.object "com/example/typicality/typicality/reasoning/Rank")⟩ := by decide +kernel
theorem own_pd4 : parseMethodDescriptor "(Lcom/example/typicality/typicality/reasoning/Rank;)I" = some ⟨[(.object "com/example/typicality/typicality/reasoning/Rank")], some .int⟩ := by decide +kernel
theorem own_pd5 : parseMethodDescriptor "(Ljava/lang/Object;)Z" = some ⟨[(.object "java/lang/Object")], some .boolean⟩ := by decide +kernel
theorem own_pd6 : parseMethodDescriptor "()I" = some ⟨[], some .int⟩ := by decide +kernel
theorem own_pn0 : plainFor x = true := plainFor_of_name (by first | (simp [plainName, overriddenIn]; done) | decide +kernel)
set_option maxRecDepth 65536 in
set_option maxHeartbeats 40000000 in
theorem own_m0 (l : Launch) (Z : State) (a0 : Array Value) (hw : ∀ d ∈ tables_1, d.before a0 Z = true) (pa : Int32) (pb : Int32) (pc : Int32) (ai : Addr) (h0 : Heap) (n0 : Nat) (hs0 : n0 ≤ h0.size) (OL : Old Z n0 h0) (z_inf : Sta Z Z.heap "com/example/typicality/typicality/reasoning/Rank" "INFINITE" "Lcom/example/typicality/typicality/reasoning/Rank;" (.ref ai)) (z_Ei : Exa Z Z.heap ai "com/example/typicality/typicality/reasoning/Rank") (z_Fi : Fld Z Z.heap ai "com/example/typicality/typicality/reasoning/Rank" "level" "I" (.int (2147483647 : Int32))) :
    own_Met l x code maxLocals ret room_1 Z #[(.int pa), (.int pb), (.int pc)] h0 n0 (fun v h' => v = some (.int 1)) := by
  refine own_met (Ls := #[.val (.int pa), .val (.int pb), .val (.int pc), .unset, .unset, .unset, .unset, .unset, .unset, .unset, .unset, .unset, .unset]) own_pn0 hs0 (fun m => by first | (simp [entryFrame, mkF, argsToLocals, Value.category, maxLocals]; done) | rfl) ?_
  intro p e s m below meth c T X
  refine own_iloadN X 1 pa at_0 rfl rfl ?_
  refine own_ldcI X 3 at_1 rfl (hw _ (List.mem_of_getElem? (i := 0) rfl)) ?_
  refine own_iand X 4 at_3 rfl ?_
  refine own_ldcI X 6 at_4 rfl (hw _ (List.mem_of_getElem? (i := 0) rfl)) ?_
  refine own_irem X 7 at_6 rfl (by decide) ?_
  refine own_istoreN X 8 #[.val (.int pa), .val (.int pb), .val (.int pc), .val (.int ((pa &&& (2147483647 : Int32)) % (2147483647 : Int32))), .unset, .unset, .unset, .unset, .unset, .unset, .unset, .unset, .unset] at_7 rfl rfl ?_
  obtain ⟨xv, hxv⟩ : ∃ z, z = ((pa &&& (2147483647 : Int32)) % (2147483647 : Int32)) := ⟨_, rfl⟩
  rw [← hxv]
  have rx : 0 ≤ xv.toInt ∧ xv.toInt < 2147483647 := by rw [hxv]; exact own_rng _
  suffices J : ∀ mv yv : Int32, (0 ≤ yv.toInt ∧ yv.toInt < 2147483647) → own_Ends p e below (own_Fin s n0 room_1.cells room_1.slots (fun v h' => v = some (.int 1))) (T.setTop (mkF m 60 #[.val (.int pa), .val (.int pb), .val (.int pc), .val (.int xv), .val (.int mv), .val (.int yv), .unset, .unset, .unset, .unset, .unset, .unset, .unset] [])) by
    refine own_iloadN X 9 pc at_8 rfl rfl ?_
    refine own_iconst X 10 (3 : Int32) at_9 rfl rfl ?_
    refine own_iand X 11 at_10 rfl ?_
    refine own_istore X 13 #[.val (.int pa), .val (.int pb), .val (.int pc), .val (.int xv), .val (.int (pc &&& (3 : Int32))), .unset, .unset, .unset, .unset, .unset, .unset, .unset, .unset] at_11 rfl rfl ?_
    refine own_iload X 15 (pc &&& (3 : Int32)) at_13 rfl rfl ?_
    refine own_iconst X 16 (1 : Int32) at_15 rfl rfl ?_
    by_cases hc16 : (pc &&& (3 : Int32)) = (1 : Int32)
    · refine own_icN X 19 at_16 rfl (XT.ii_ne_f hc16) ?_
      refine own_iloadN X 20 xv at_19 rfl rfl ?_
      refine own_istore X 22 #[.val (.int pa), .val (.int pb), .val (.int pc), .val (.int xv), .val (.int (pc &&& (3 : Int32))), .val (.int xv), .unset, .unset, .unset, .unset, .unset, .unset, .unset] at_20 rfl rfl ?_
      refine own_goto X 60 at_22 (by decide) (by decide) ?_
      exact J _ _ rx
    · refine own_icY X 25 at_16 (by decide) (by decide) (XT.ii_ne_t hc16) ?_
      refine own_iload X 27 (pc &&& (3 : Int32)) at_25 rfl rfl ?_
      refine own_iconst X 28 (2 : Int32) at_27 rfl rfl ?_
      by_cases hc28 : (pc &&& (3 : Int32)) = (2 : Int32)
      · refine own_icN X 31 at_28 rfl (XT.ii_ne_f hc28) ?_
        refine own_iloadN X 32 xv at_31 rfl rfl ?_
        refine own_ldcI X 34 at_32 rfl (hw _ (List.mem_of_getElem? (i := 1) rfl)) ?_
        by_cases hc34 : xv < (2147483646 : Int32)
        · refine own_icN X 37 at_34 rfl (XT.ii_ge_f hc34) ?_
          refine own_iloadN X 38 xv at_37 rfl rfl ?_
          refine own_iconst X 39 (1 : Int32) at_38 rfl rfl ?_
          refine own_iadd X 40 at_39 rfl ?_
          refine own_goto X 46 at_40 (by decide) (by decide) ?_
          refine own_istore X 48 #[.val (.int pa), .val (.int pb), .val (.int pc), .val (.int xv), .val (.int (pc &&& (3 : Int32))), .val (.int (xv + (1 : Int32))), .unset, .unset, .unset, .unset, .unset, .unset, .unset] at_46 rfl rfl ?_
          refine own_goto X 60 at_48 (by decide) (by decide) ?_
          exact J _ _ (own_inc rx hc34)
        · refine own_icY X 43 at_34 (by decide) (by decide) (XT.ii_ge_t hc34) ?_
          refine own_iloadN X 44 xv at_43 rfl rfl ?_
          refine own_iconst X 45 (1 : Int32) at_44 rfl rfl ?_
          refine own_isub X 46 at_45 rfl ?_
          refine own_istore X 48 #[.val (.int pa), .val (.int pb), .val (.int pc), .val (.int xv), .val (.int (pc &&& (3 : Int32))), .val (.int (xv - (1 : Int32))), .unset, .unset, .unset, .unset, .unset, .unset, .unset] at_46 rfl rfl ?_
          refine own_goto X 60 at_48 (by decide) (by decide) ?_
          exact J _ _ (own_dec rx hc34)
      · refine own_icY X 51 at_28 (by decide) (by decide) (XT.ii_ne_t hc28) ?_
        refine own_iloadN X 52 pb at_51 rfl rfl ?_
        refine own_ldcI X 54 at_52 rfl (hw _ (List.mem_of_getElem? (i := 0) rfl)) ?_
        refine own_iand X 55 at_54 rfl ?_
        refine own_ldcI X 57 at_55 rfl (hw _ (List.mem_of_getElem? (i := 0) rfl)) ?_
        refine own_irem X 58 at_57 rfl (by decide) ?_
        refine own_istore X 60 #[.val (.int pa), .val (.int pb), .val (.int pc), .val (.int xv), .val (.int (pc &&& (3 : Int32))), .val (.int ((pb &&& (2147483647 : Int32)) % (2147483647 : Int32))), .unset, .unset, .unset, .unset, .unset, .unset, .unset] at_58 rfl rfl ?_
        exact J _ _ (own_rng _)
  intro mv yv ry
  refine own_iloadN X 61 xv at_60 rfl rfl ?_
  refine own_callS X 64 [(.int xv)] [] at_61 rfl (hw _ (List.mem_of_getElem? (i := 2) rfl)) (hw _ (List.mem_of_getElem? (i := 3) rfl)) (hw _ (List.mem_of_getElem? (i := 4) rfl)) (hw _ (List.mem_of_getElem? (i := 5) rfl)) (by decide) (own_mof l Z a0 hw xv h0 n0 X.sz (own_nn rx.1) (own_nmax rx.2)) (fun _ _ q => q.1.1) rfl own_pd3 rfl rfl rfl (by decide) (Nat.le_of_ble_eq_true rfl) (by decide) (by decide) ?_
  rintro v61 T h2 X ⟨K_, r1, rfl, lo_r1, hi_r1, E_r1, F_level_r1⟩
  have zs_h2 : h0.size ≤ h2.size := K_.1
  have OL := OL.keep K_ all0
  show own_Ends p e below _ (T.setTop (mkF m 64 #[.val (.int pa), .val (.int pb), .val (.int pc), .val (.int xv), .val (.int mv), .val (.int yv), .unset, .unset, .unset, .unset, .unset, .unset, .unset] [(.ref r1)]))
  refine own_astore X 66 #[.val (.int pa), .val (.int pb), .val (.int pc), .val (.int xv), .val (.int mv), .val (.int yv), .val (.ref r1), .unset, .unset, .unset, .unset, .unset, .unset] at_64 rfl rfl rfl ?_
  refine own_iload X 68 yv at_66 rfl rfl ?_
  refine own_callS X 71 [(.int yv)] [] at_68 rfl (hw _ (List.mem_of_getElem? (i := 2) rfl)) (hw _ (List.mem_of_getElem? (i := 3) rfl)) (hw _ (List.mem_of_getElem? (i := 4) rfl)) (hw _ (List.mem_of_getElem? (i := 5) rfl)) (by decide) (own_mof l Z a0 hw yv h2 n0 X.sz (own_nn ry.1) (own_nmax ry.2)) (fun _ _ q => q.1.1) rfl own_pd3 rfl rfl rfl (by decide) (Nat.le_of_ble_eq_true rfl) (by decide) (by decide) ?_
  rintro v68 T h4 X ⟨K_, r3, rfl, lo_r3, hi_r3, E_r3, F_level_r3⟩
  have zs_h4 : h2.size ≤ h4.size := K_.1
  have OL := OL.keep K_ all0
  have E_r1 := E_r1.keep K_
  have F_level_r1 := F_level_r1.keep K_ nin0
  show own_Ends p e below _ (T.setTop (mkF m 71 #[.val (.int pa), .val (.int pb), .val (.int pc), .val (.int xv), .val (.int mv), .val (.int yv), .val (.ref r1), .unset, .unset, .unset, .unset, .unset, .unset] [(.ref r3)]))
  refine own_astore X 73 #[.val (.int pa), .val (.int pb), .val (.int pc), .val (.int xv), .val (.int mv), .val (.int yv), .val (.ref r1), .val (.ref r3), .unset, .unset, .unset, .unset, .unset] at_71 rfl rfl rfl ?_
  refine own_iloadN X 74 xv at_73 rfl rfl ?_
  refine own_iload X 76 yv at_74 rfl rfl ?_
  by_cases hc76 : xv < yv
  · refine own_icN X 79 at_76 rfl (XT.ii_ge_f hc76) ?_
    refine own_iconst X 80 (-1 : Int32) at_79 rfl rfl ?_
    refine own_goto X 94 at_80 (by decide) (by decide) ?_
    refine own_istore X 96 #[.val (.int pa), .val (.int pb), .val (.int pc), .val (.int xv), .val (.int mv), .val (.int yv), .val (.ref r1), .val (.ref r3), .val (.int (-1 : Int32)), .unset, .unset, .unset, .unset] at_94 rfl rfl ?_
    refine own_aload X 98 (.ref r1) at_96 rfl rfl rfl ?_
    refine own_aload X 100 (.ref r3) at_98 rfl rfl rfl ?_
    refine own_callV X 103 [(.ref r3)] [] at_100 rfl (hw _ (List.mem_of_getElem? (i := 17) rfl)) (hw _ (List.mem_of_getElem? (i := 18) rfl)) (own_nf X.2.2.2.2.1 (hw _ (List.mem_of_getElem? (i := 20) rfl))) (hw _ (List.mem_of_getElem? (i := 20) rfl)) (hw _ (List.mem_of_getElem? (i := 19) rfl)) (hw _ (List.mem_of_getElem? (i := 4) rfl)) (hw _ (List.mem_of_getElem? (i := 21) rfl)) (by decide) E_r1 (own_mcto l Z a0 hw r1 r3 xv yv h4 n0 X.sz F_level_r1 F_level_r3) (fun _ _ q => Nat.le_of_eq (congrArg Array.size q.1.symm)) rfl own_pd4 rfl rfl rfl (by decide) (Nat.le_of_ble_eq_true rfl) (by decide) (by decide) ?_
    rintro v100 T h_ X ⟨eh_, rfl⟩
    rw [eh_] at X
    show own_Ends p e below _ (T.setTop (mkF m 103 #[.val (.int pa), .val (.int pb), .val (.int pc), .val (.int xv), .val (.int mv), .val (.int yv), .val (.ref r1), .val (.ref r3), .val (.int (-1 : Int32)), .unset, .unset, .unset, .unset] [(.int (own_cmp xv yv))]))
    refine own_callS X 106 [(.int (own_cmp xv yv))] [] at_103 rfl (hw _ (List.mem_of_getElem? (i := 26) rfl)) (hw _ (List.mem_of_getElem? (i := 27) rfl)) (hw _ (List.mem_of_getElem? (i := 28) rfl)) (hw _ (List.mem_of_getElem? (i := 29) rfl)) (by decide) (own_msgn l Z a0 hw (own_cmp xv yv) h4 n0 X.sz) (fun _ _ q => Nat.le_of_eq (congrArg Array.size q.1.symm)) rfl own_pd1 rfl rfl rfl (by decide) (Nat.le_of_ble_eq_true rfl) (by decide) (by decide) ?_
    rintro v103 T h_ X ⟨eh_, rfl⟩
    rw [eh_] at X
    show own_Ends p e below _ (T.setTop (mkF m 106 #[.val (.int pa), .val (.int pb), .val (.int pc), .val (.int xv), .val (.int mv), .val (.int yv), .val (.ref r1), .val (.ref r3), .val (.int (-1 : Int32)), .unset, .unset, .unset, .unset] [(.int (own_sgn (own_cmp xv yv)))]))
    rw [show (own_sgn (own_cmp xv yv)) = (-1 : Int32) from own_sgn_lt hc76]
    refine own_istore X 108 #[.val (.int pa), .val (.int pb), .val (.int pc), .val (.int xv), .val (.int mv), .val (.int yv), .val (.ref r1), .val (.ref r3), .val (.int (-1 : Int32)), .val (.int (-1 : Int32)), .unset, .unset, .unset] at_106 rfl rfl ?_
    refine own_aload X 110 (.ref r3) at_108 rfl rfl rfl ?_
    refine own_aload X 112 (.ref r1) at_110 rfl rfl rfl ?_
    refine own_callV X 115 [(.ref r1)] [] at_112 rfl (hw _ (List.mem_of_getElem? (i := 17) rfl)) (hw _ (List.mem_of_getElem? (i := 18) rfl)) (own_nf X.2.2.2.2.1 (hw _ (List.mem_of_getElem? (i := 20) rfl))) (hw _ (List.mem_of_getElem? (i := 20) rfl)) (hw _ (List.mem_of_getElem? (i := 19) rfl)) (hw _ (List.mem_of_getElem? (i := 4) rfl)) (hw _ (List.mem_of_getElem? (i := 21) rfl)) (by decide) E_r3 (own_mcto l Z a0 hw r3 r1 yv xv h4 n0 X.sz F_level_r3 F_level_r1) (fun _ _ q => Nat.le_of_eq (congrArg Array.size q.1.symm)) rfl own_pd4 rfl rfl rfl (by decide) (Nat.le_of_ble_eq_true rfl) (by decide) (by decide) ?_
    rintro v112 T h_ X ⟨eh_, rfl⟩
    rw [eh_] at X
    show own_Ends p e below _ (T.setTop (mkF m 115 #[.val (.int pa), .val (.int pb), .val (.int pc), .val (.int xv), .val (.int mv), .val (.int yv), .val (.ref r1), .val (.ref r3), .val (.int (-1 : Int32)), .val (.int (-1 : Int32)), .unset, .unset, .unset] [(.int (own_cmp yv xv))]))
    refine own_callS X 118 [(.int (own_cmp yv xv))] [] at_115 rfl (hw _ (List.mem_of_getElem? (i := 26) rfl)) (hw _ (List.mem_of_getElem? (i := 27) rfl)) (hw _ (List.mem_of_getElem? (i := 28) rfl)) (hw _ (List.mem_of_getElem? (i := 29) rfl)) (by decide) (own_msgn l Z a0 hw (own_cmp yv xv) h4 n0 X.sz) (fun _ _ q => Nat.le_of_eq (congrArg Array.size q.1.symm)) rfl own_pd1 rfl rfl rfl (by decide) (Nat.le_of_ble_eq_true rfl) (by decide) (by decide) ?_
    rintro v115 T h_ X ⟨eh_, rfl⟩
    rw [eh_] at X
    show own_Ends p e below _ (T.setTop (mkF m 118 #[.val (.int pa), .val (.int pb), .val (.int pc), .val (.int xv), .val (.int mv), .val (.int yv), .val (.ref r1), .val (.ref r3), .val (.int (-1 : Int32)), .val (.int (-1 : Int32)), .unset, .unset, .unset] [(.int (own_sgn (own_cmp yv xv)))]))
    rw [show (own_sgn (own_cmp yv xv)) = (1 : Int32) from own_sgn_gt hc76]
    refine own_istore X 120 #[.val (.int pa), .val (.int pb), .val (.int pc), .val (.int xv), .val (.int mv), .val (.int yv), .val (.ref r1), .val (.ref r3), .val (.int (-1 : Int32)), .val (.int (-1 : Int32)), .val (.int (1 : Int32)), .unset, .unset] at_118 rfl rfl ?_
    refine own_aload X 122 (.ref r1) at_120 rfl rfl rfl ?_
    refine own_aload X 124 (.ref r3) at_122 rfl rfl rfl ?_
    refine own_callV X 127 [(.ref r3)] [] at_124 rfl (hw _ (List.mem_of_getElem? (i := 30) rfl)) (hw _ (List.mem_of_getElem? (i := 31) rfl)) (own_nf X.2.2.2.2.1 (hw _ (List.mem_of_getElem? (i := 33) rfl))) (hw _ (List.mem_of_getElem? (i := 33) rfl)) (hw _ (List.mem_of_getElem? (i := 32) rfl)) (hw _ (List.mem_of_getElem? (i := 4) rfl)) (hw _ (List.mem_of_getElem? (i := 34) rfl)) (by decide) E_r1 (own_mequ l Z a0 hw r1 r3 xv yv h4 n0 X.sz F_level_r1 F_level_r3 E_r3) (fun _ _ q => Nat.le_of_eq (congrArg Array.size q.1.symm)) rfl own_pd5 rfl rfl rfl (by decide) (Nat.le_of_ble_eq_true rfl) (by decide) (by decide) ?_
    rintro v124 T h_ X ⟨eh_, rfl⟩
    rw [eh_] at X
    show own_Ends p e below _ (T.setTop (mkF m 127 #[.val (.int pa), .val (.int pb), .val (.int pc), .val (.int xv), .val (.int mv), .val (.int yv), .val (.ref r1), .val (.ref r3), .val (.int (-1 : Int32)), .val (.int (-1 : Int32)), .val (.int (1 : Int32)), .unset, .unset] [(.int (own_eqv yv xv))]))
    rw [show (own_eqv yv xv) = (0 : Int32) from by simp only [own_eqv]; rw [if_neg]; rintro rfl; exact Int32.lt_irrefl hc76]
    refine own_istore X 129 #[.val (.int pa), .val (.int pb), .val (.int pc), .val (.int xv), .val (.int mv), .val (.int yv), .val (.ref r1), .val (.ref r3), .val (.int (-1 : Int32)), .val (.int (-1 : Int32)), .val (.int (1 : Int32)), .val (.int (0 : Int32)), .unset] at_127 rfl rfl ?_
    refine own_iload X 131 (0 : Int32) at_129 rfl rfl ?_
    refine own_ifY X 147 at_131 (by decide) (by decide) (XT.i0_eq_t rfl) ?_
    refine own_iconst X 148 (1 : Int32) at_147 rfl rfl ?_
    refine own_goto X 152 at_148 (by decide) (by decide) ?_
    refine own_istore X 154 #[.val (.int pa), .val (.int pb), .val (.int pc), .val (.int xv), .val (.int mv), .val (.int yv), .val (.ref r1), .val (.ref r3), .val (.int (-1 : Int32)), .val (.int (-1 : Int32)), .val (.int (1 : Int32)), .val (.int (0 : Int32)), .val (.int (1 : Int32))] at_152 rfl rfl ?_
    refine own_iload X 156 (-1 : Int32) at_154 rfl rfl ?_
    refine own_iload X 158 (-1 : Int32) at_156 rfl rfl ?_
    refine own_icN X 161 at_158 rfl (XT.ii_ne_f rfl) ?_
    refine own_iload X 163 (1 : Int32) at_161 rfl rfl ?_
    refine own_iload X 165 (-1 : Int32) at_163 rfl rfl ?_
    refine own_ineg X 166 at_165 rfl ?_
    refine own_icN X 169 at_166 rfl (XT.ii_ne_f (by decide)) ?_
    refine own_iload X 171 (0 : Int32) at_169 rfl rfl ?_
    refine own_iloadN X 172 xv at_171 rfl rfl ?_
    refine own_iload X 174 yv at_172 rfl rfl ?_
    refine own_icY X 181 at_174 (by decide) (by decide) (XT.ii_ne_t (fun q => by rw [q] at hc76; exact Int32.lt_irrefl hc76)) ?_
    refine own_iconst X 182 (0 : Int32) at_181 rfl rfl ?_
    refine own_icN X 185 at_182 rfl (XT.ii_ne_f rfl) ?_
    refine own_iload X 187 (1 : Int32) at_185 rfl rfl ?_
    refine own_ifN X 190 at_187 rfl (XT.i0_eq_f (by decide)) ?_
    refine own_aload X 192 (.ref r1) at_190 rfl rfl rfl ?_
    refine own_aload X 194 (.ref r1) at_192 rfl rfl rfl ?_
    refine own_callV X 197 [(.ref r1)] [] at_194 rfl (hw _ (List.mem_of_getElem? (i := 17) rfl)) (hw _ (List.mem_of_getElem? (i := 18) rfl)) (own_nf X.2.2.2.2.1 (hw _ (List.mem_of_getElem? (i := 20) rfl))) (hw _ (List.mem_of_getElem? (i := 20) rfl)) (hw _ (List.mem_of_getElem? (i := 19) rfl)) (hw _ (List.mem_of_getElem? (i := 4) rfl)) (hw _ (List.mem_of_getElem? (i := 21) rfl)) (by decide) E_r1 (own_mcto l Z a0 hw r1 r1 xv xv h4 n0 X.sz F_level_r1 F_level_r1) (fun _ _ q => Nat.le_of_eq (congrArg Array.size q.1.symm)) rfl own_pd4 rfl rfl rfl (by decide) (Nat.le_of_ble_eq_true rfl) (by decide) (by decide) ?_
    rintro v194 T h_ X ⟨eh_, rfl⟩
    rw [eh_] at X
    show own_Ends p e below _ (T.setTop (mkF m 197 #[.val (.int pa), .val (.int pb), .val (.int pc), .val (.int xv), .val (.int mv), .val (.int yv), .val (.ref r1), .val (.ref r3), .val (.int (-1 : Int32)), .val (.int (-1 : Int32)), .val (.int (1 : Int32)), .val (.int (0 : Int32)), .val (.int (1 : Int32))] [(.int (own_cmp xv xv))]))
    refine own_ifN X 200 at_197 rfl (XT.i0_ne_f (own_cmp_eq rfl)) ?_
    refine own_aload X 202 (.ref r1) at_200 rfl rfl rfl ?_
    refine own_getS X 205 at_202 rfl (hw _ (List.mem_of_getElem? (i := 36) rfl)) Via.refl (Sta.ext OL.2 z_inf) ?_
    intro T X
    refine own_callV X 208 [(.ref ai)] [] at_205 rfl (hw _ (List.mem_of_getElem? (i := 17) rfl)) (hw _ (List.mem_of_getElem? (i := 18) rfl)) (own_nf X.2.2.2.2.1 (hw _ (List.mem_of_getElem? (i := 20) rfl))) (hw _ (List.mem_of_getElem? (i := 20) rfl)) (hw _ (List.mem_of_getElem? (i := 19) rfl)) (hw _ (List.mem_of_getElem? (i := 4) rfl)) (hw _ (List.mem_of_getElem? (i := 21) rfl)) (by decide) E_r1 (own_mcto l Z a0 hw r1 ai xv (2147483647 : Int32) h4 n0 X.sz F_level_r1 (Fld.ext OL.2 z_Fi)) (fun _ _ q => Nat.le_of_eq (congrArg Array.size q.1.symm)) rfl own_pd4 rfl rfl rfl (by decide) (Nat.le_of_ble_eq_true rfl) (by decide) (by decide) ?_
    rintro v205 T h_ X ⟨eh_, rfl⟩
    rw [eh_] at X
    show own_Ends p e below _ (T.setTop (mkF m 208 #[.val (.int pa), .val (.int pb), .val (.int pc), .val (.int xv), .val (.int mv), .val (.int yv), .val (.ref r1), .val (.ref r3), .val (.int (-1 : Int32)), .val (.int (-1 : Int32)), .val (.int (1 : Int32)), .val (.int (0 : Int32)), .val (.int (1 : Int32))] [(.int (own_cmp xv (2147483647 : Int32)))]))
    refine own_ifN X 211 at_208 rfl (XT.i0_ge_f (by rw [own_cmp_lt (own_ltmax rx.2)]; decide)) ?_
    refine own_getS X 214 at_211 rfl (hw _ (List.mem_of_getElem? (i := 36) rfl)) Via.refl (Sta.ext OL.2 z_inf) ?_
    intro T X
    refine own_aload X 216 (.ref r1) at_214 rfl rfl rfl ?_
    refine own_callV X 219 [(.ref r1)] [] at_216 rfl (hw _ (List.mem_of_getElem? (i := 17) rfl)) (hw _ (List.mem_of_getElem? (i := 18) rfl)) (own_nf X.2.2.2.2.1 (hw _ (List.mem_of_getElem? (i := 20) rfl))) (hw _ (List.mem_of_getElem? (i := 20) rfl)) (hw _ (List.mem_of_getElem? (i := 19) rfl)) (hw _ (List.mem_of_getElem? (i := 4) rfl)) (hw _ (List.mem_of_getElem? (i := 21) rfl)) (by decide) (Exa.ext OL.2 z_Ei) (own_mcto l Z a0 hw ai r1 (2147483647 : Int32) xv h4 n0 X.sz (Fld.ext OL.2 z_Fi) F_level_r1) (fun _ _ q => Nat.le_of_eq (congrArg Array.size q.1.symm)) rfl own_pd4 rfl rfl rfl (by decide) (Nat.le_of_ble_eq_true rfl) (by decide) (by decide) ?_
    rintro v216 T h_ X ⟨eh_, rfl⟩
    rw [eh_] at X
    show own_Ends p e below _ (T.setTop (mkF m 219 #[.val (.int pa), .val (.int pb), .val (.int pc), .val (.int xv), .val (.int mv), .val (.int yv), .val (.ref r1), .val (.ref r3), .val (.int (-1 : Int32)), .val (.int (-1 : Int32)), .val (.int (1 : Int32)), .val (.int (0 : Int32)), .val (.int (1 : Int32))] [(.int (own_cmp (2147483647 : Int32) xv))]))
    refine own_ifN X 222 at_219 rfl (XT.i0_le_f (by rw [own_cmp_gt (own_ltmax rx.2)]; decide)) ?_
    refine own_aload X 224 (.ref r1) at_222 rfl rfl rfl ?_
    refine own_getS X 227 at_224 rfl (hw _ (List.mem_of_getElem? (i := 36) rfl)) Via.refl (Sta.ext OL.2 z_inf) ?_
    intro T X
    refine own_callV X 230 [(.ref ai)] [] at_227 rfl (hw _ (List.mem_of_getElem? (i := 30) rfl)) (hw _ (List.mem_of_getElem? (i := 31) rfl)) (own_nf X.2.2.2.2.1 (hw _ (List.mem_of_getElem? (i := 33) rfl))) (hw _ (List.mem_of_getElem? (i := 33) rfl)) (hw _ (List.mem_of_getElem? (i := 32) rfl)) (hw _ (List.mem_of_getElem? (i := 4) rfl)) (hw _ (List.mem_of_getElem? (i := 34) rfl)) (by decide) E_r1 (own_mequ l Z a0 hw r1 ai xv (2147483647 : Int32) h4 n0 X.sz F_level_r1 (Fld.ext OL.2 z_Fi) (Exa.ext OL.2 z_Ei)) (fun _ _ q => Nat.le_of_eq (congrArg Array.size q.1.symm)) rfl own_pd5 rfl rfl rfl (by decide) (Nat.le_of_ble_eq_true rfl) (by decide) (by decide) ?_
    rintro v227 T h_ X ⟨eh_, rfl⟩
    rw [eh_] at X
    show own_Ends p e below _ (T.setTop (mkF m 230 #[.val (.int pa), .val (.int pb), .val (.int pc), .val (.int xv), .val (.int mv), .val (.int yv), .val (.ref r1), .val (.ref r3), .val (.int (-1 : Int32)), .val (.int (-1 : Int32)), .val (.int (1 : Int32)), .val (.int (0 : Int32)), .val (.int (1 : Int32))] [(.int (own_eqv (2147483647 : Int32) xv))]))
    refine own_ifN X 233 at_230 rfl (XT.i0_ne_f (by simp only [own_eqv]; rw [if_neg]; exact fun q => own_nmax rx.2 q.symm)) ?_
    refine own_iconst X 234 (1 : Int32) at_233 rfl rfl ?_
    refine own_goto X 238 at_234 (by decide) (by decide) ?_
    exact own_retN X .boolean at_238 rfl (by simp) (by decide) (by decide) (by rfl)
  · refine own_icY X 83 at_76 (by decide) (by decide) (XT.ii_ge_t hc76) ?_
    refine own_iloadN X 84 xv at_83 rfl rfl ?_
    refine own_iload X 86 yv at_84 rfl rfl ?_
    by_cases hc86 : xv = yv
    · refine own_icN X 89 at_86 rfl (XT.ii_ne_f hc86) ?_
      refine own_iconst X 90 (0 : Int32) at_89 rfl rfl ?_
      refine own_goto X 94 at_90 (by decide) (by decide) ?_
      refine own_istore X 96 #[.val (.int pa), .val (.int pb), .val (.int pc), .val (.int xv), .val (.int mv), .val (.int yv), .val (.ref r1), .val (.ref r3), .val (.int (0 : Int32)), .unset, .unset, .unset, .unset] at_94 rfl rfl ?_
      refine own_aload X 98 (.ref r1) at_96 rfl rfl rfl ?_
      refine own_aload X 100 (.ref r3) at_98 rfl rfl rfl ?_
      refine own_callV X 103 [(.ref r3)] [] at_100 rfl (hw _ (List.mem_of_getElem? (i := 17) rfl)) (hw _ (List.mem_of_getElem? (i := 18) rfl)) (own_nf X.2.2.2.2.1 (hw _ (List.mem_of_getElem? (i := 20) rfl))) (hw _ (List.mem_of_getElem? (i := 20) rfl)) (hw _ (List.mem_of_getElem? (i := 19) rfl)) (hw _ (List.mem_of_getElem? (i := 4) rfl)) (hw _ (List.mem_of_getElem? (i := 21) rfl)) (by decide) E_r1 (own_mcto l Z a0 hw r1 r3 xv yv h4 n0 X.sz F_level_r1 F_level_r3) (fun _ _ q => Nat.le_of_eq (congrArg Array.size q.1.symm)) rfl own_pd4 rfl rfl rfl (by decide) (Nat.le_of_ble_eq_true rfl) (by decide) (by decide) ?_
      rintro v100 T h_ X ⟨eh_, rfl⟩
      rw [eh_] at X
      show own_Ends p e below _ (T.setTop (mkF m 103 #[.val (.int pa), .val (.int pb), .val (.int pc), .val (.int xv), .val (.int mv), .val (.int yv), .val (.ref r1), .val (.ref r3), .val (.int (0 : Int32)), .unset, .unset, .unset, .unset] [(.int (own_cmp xv yv))]))
      refine own_callS X 106 [(.int (own_cmp xv yv))] [] at_103 rfl (hw _ (List.mem_of_getElem? (i := 26) rfl)) (hw _ (List.mem_of_getElem? (i := 27) rfl)) (hw _ (List.mem_of_getElem? (i := 28) rfl)) (hw _ (List.mem_of_getElem? (i := 29) rfl)) (by decide) (own_msgn l Z a0 hw (own_cmp xv yv) h4 n0 X.sz) (fun _ _ q => Nat.le_of_eq (congrArg Array.size q.1.symm)) rfl own_pd1 rfl rfl rfl (by decide) (Nat.le_of_ble_eq_true rfl) (by decide) (by decide) ?_
      rintro v103 T h_ X ⟨eh_, rfl⟩
      rw [eh_] at X
      show own_Ends p e below _ (T.setTop (mkF m 106 #[.val (.int pa), .val (.int pb), .val (.int pc), .val (.int xv), .val (.int mv), .val (.int yv), .val (.ref r1), .val (.ref r3), .val (.int (0 : Int32)), .unset, .unset, .unset, .unset] [(.int (own_sgn (own_cmp xv yv)))]))
      rw [show (own_sgn (own_cmp xv yv)) = (0 : Int32) from own_sgn_eq hc86]
      refine own_istore X 108 #[.val (.int pa), .val (.int pb), .val (.int pc), .val (.int xv), .val (.int mv), .val (.int yv), .val (.ref r1), .val (.ref r3), .val (.int (0 : Int32)), .val (.int (0 : Int32)), .unset, .unset, .unset] at_106 rfl rfl ?_
      refine own_aload X 110 (.ref r3) at_108 rfl rfl rfl ?_
      refine own_aload X 112 (.ref r1) at_110 rfl rfl rfl ?_
      refine own_callV X 115 [(.ref r1)] [] at_112 rfl (hw _ (List.mem_of_getElem? (i := 17) rfl)) (hw _ (List.mem_of_getElem? (i := 18) rfl)) (own_nf X.2.2.2.2.1 (hw _ (List.mem_of_getElem? (i := 20) rfl))) (hw _ (List.mem_of_getElem? (i := 20) rfl)) (hw _ (List.mem_of_getElem? (i := 19) rfl)) (hw _ (List.mem_of_getElem? (i := 4) rfl)) (hw _ (List.mem_of_getElem? (i := 21) rfl)) (by decide) E_r3 (own_mcto l Z a0 hw r3 r1 yv xv h4 n0 X.sz F_level_r3 F_level_r1) (fun _ _ q => Nat.le_of_eq (congrArg Array.size q.1.symm)) rfl own_pd4 rfl rfl rfl (by decide) (Nat.le_of_ble_eq_true rfl) (by decide) (by decide) ?_
      rintro v112 T h_ X ⟨eh_, rfl⟩
      rw [eh_] at X
      show own_Ends p e below _ (T.setTop (mkF m 115 #[.val (.int pa), .val (.int pb), .val (.int pc), .val (.int xv), .val (.int mv), .val (.int yv), .val (.ref r1), .val (.ref r3), .val (.int (0 : Int32)), .val (.int (0 : Int32)), .unset, .unset, .unset] [(.int (own_cmp yv xv))]))
      refine own_callS X 118 [(.int (own_cmp yv xv))] [] at_115 rfl (hw _ (List.mem_of_getElem? (i := 26) rfl)) (hw _ (List.mem_of_getElem? (i := 27) rfl)) (hw _ (List.mem_of_getElem? (i := 28) rfl)) (hw _ (List.mem_of_getElem? (i := 29) rfl)) (by decide) (own_msgn l Z a0 hw (own_cmp yv xv) h4 n0 X.sz) (fun _ _ q => Nat.le_of_eq (congrArg Array.size q.1.symm)) rfl own_pd1 rfl rfl rfl (by decide) (Nat.le_of_ble_eq_true rfl) (by decide) (by decide) ?_
      rintro v115 T h_ X ⟨eh_, rfl⟩
      rw [eh_] at X
      show own_Ends p e below _ (T.setTop (mkF m 118 #[.val (.int pa), .val (.int pb), .val (.int pc), .val (.int xv), .val (.int mv), .val (.int yv), .val (.ref r1), .val (.ref r3), .val (.int (0 : Int32)), .val (.int (0 : Int32)), .unset, .unset, .unset] [(.int (own_sgn (own_cmp yv xv)))]))
      rw [show (own_sgn (own_cmp yv xv)) = (0 : Int32) from own_sgn_eq hc86.symm]
      refine own_istore X 120 #[.val (.int pa), .val (.int pb), .val (.int pc), .val (.int xv), .val (.int mv), .val (.int yv), .val (.ref r1), .val (.ref r3), .val (.int (0 : Int32)), .val (.int (0 : Int32)), .val (.int (0 : Int32)), .unset, .unset] at_118 rfl rfl ?_
      refine own_aload X 122 (.ref r1) at_120 rfl rfl rfl ?_
      refine own_aload X 124 (.ref r3) at_122 rfl rfl rfl ?_
      refine own_callV X 127 [(.ref r3)] [] at_124 rfl (hw _ (List.mem_of_getElem? (i := 30) rfl)) (hw _ (List.mem_of_getElem? (i := 31) rfl)) (own_nf X.2.2.2.2.1 (hw _ (List.mem_of_getElem? (i := 33) rfl))) (hw _ (List.mem_of_getElem? (i := 33) rfl)) (hw _ (List.mem_of_getElem? (i := 32) rfl)) (hw _ (List.mem_of_getElem? (i := 4) rfl)) (hw _ (List.mem_of_getElem? (i := 34) rfl)) (by decide) E_r1 (own_mequ l Z a0 hw r1 r3 xv yv h4 n0 X.sz F_level_r1 F_level_r3 E_r3) (fun _ _ q => Nat.le_of_eq (congrArg Array.size q.1.symm)) rfl own_pd5 rfl rfl rfl (by decide) (Nat.le_of_ble_eq_true rfl) (by decide) (by decide) ?_
      rintro v124 T h_ X ⟨eh_, rfl⟩
      rw [eh_] at X
      show own_Ends p e below _ (T.setTop (mkF m 127 #[.val (.int pa), .val (.int pb), .val (.int pc), .val (.int xv), .val (.int mv), .val (.int yv), .val (.ref r1), .val (.ref r3), .val (.int (0 : Int32)), .val (.int (0 : Int32)), .val (.int (0 : Int32)), .unset, .unset] [(.int (own_eqv yv xv))]))
      rw [show (own_eqv yv xv) = (1 : Int32) from by simp [own_eqv, hc86]]
      refine own_istore X 129 #[.val (.int pa), .val (.int pb), .val (.int pc), .val (.int xv), .val (.int mv), .val (.int yv), .val (.ref r1), .val (.ref r3), .val (.int (0 : Int32)), .val (.int (0 : Int32)), .val (.int (0 : Int32)), .val (.int (1 : Int32)), .unset] at_127 rfl rfl ?_
      refine own_iload X 131 (1 : Int32) at_129 rfl rfl ?_
      refine own_ifN X 134 at_131 rfl (XT.i0_eq_f (by decide)) ?_
      refine own_aload X 136 (.ref r1) at_134 rfl rfl rfl ?_
      refine own_callV X 139 [] [] at_136 rfl (hw _ (List.mem_of_getElem? (i := 38) rfl)) (hw _ (List.mem_of_getElem? (i := 39) rfl)) (own_nf X.2.2.2.2.1 (hw _ (List.mem_of_getElem? (i := 41) rfl))) (hw _ (List.mem_of_getElem? (i := 41) rfl)) (hw _ (List.mem_of_getElem? (i := 40) rfl)) (hw _ (List.mem_of_getElem? (i := 4) rfl)) (hw _ (List.mem_of_getElem? (i := 42) rfl)) (by decide) E_r1 (own_mhco l Z a0 hw r1 xv h4 n0 X.sz F_level_r1) (fun _ _ q => Nat.le_of_eq (congrArg Array.size q.1.symm)) rfl own_pd6 rfl rfl rfl (by decide) (Nat.le_of_ble_eq_true rfl) (by decide) (by decide) ?_
      rintro v136 T h_ X ⟨eh_, rfl⟩
      rw [eh_] at X
      show own_Ends p e below _ (T.setTop (mkF m 139 #[.val (.int pa), .val (.int pb), .val (.int pc), .val (.int xv), .val (.int mv), .val (.int yv), .val (.ref r1), .val (.ref r3), .val (.int (0 : Int32)), .val (.int (0 : Int32)), .val (.int (0 : Int32)), .val (.int (1 : Int32)), .unset] [(.int xv)]))
      refine own_aload X 141 (.ref r3) at_139 rfl rfl rfl ?_
      refine own_callV X 144 [] [(.int xv)] at_141 rfl (hw _ (List.mem_of_getElem? (i := 38) rfl)) (hw _ (List.mem_of_getElem? (i := 39) rfl)) (own_nf X.2.2.2.2.1 (hw _ (List.mem_of_getElem? (i := 41) rfl))) (hw _ (List.mem_of_getElem? (i := 41) rfl)) (hw _ (List.mem_of_getElem? (i := 40) rfl)) (hw _ (List.mem_of_getElem? (i := 4) rfl)) (hw _ (List.mem_of_getElem? (i := 42) rfl)) (by decide) E_r3 (own_mhco l Z a0 hw r3 yv h4 n0 X.sz F_level_r3) (fun _ _ q => Nat.le_of_eq (congrArg Array.size q.1.symm)) rfl own_pd6 rfl rfl rfl (by decide) (Nat.le_of_ble_eq_true rfl) (by decide) (by decide) ?_
      rintro v141 T h_ X ⟨eh_, rfl⟩
      rw [eh_] at X
      show own_Ends p e below _ (T.setTop (mkF m 144 #[.val (.int pa), .val (.int pb), .val (.int pc), .val (.int xv), .val (.int mv), .val (.int yv), .val (.ref r1), .val (.ref r3), .val (.int (0 : Int32)), .val (.int (0 : Int32)), .val (.int (0 : Int32)), .val (.int (1 : Int32)), .unset] [(.int yv), (.int xv)]))
      refine own_icN X 147 at_144 rfl (XT.ii_ne_f hc86) ?_
      refine own_iconst X 148 (1 : Int32) at_147 rfl rfl ?_
      refine own_goto X 152 at_148 (by decide) (by decide) ?_
      refine own_istore X 154 #[.val (.int pa), .val (.int pb), .val (.int pc), .val (.int xv), .val (.int mv), .val (.int yv), .val (.ref r1), .val (.ref r3), .val (.int (0 : Int32)), .val (.int (0 : Int32)), .val (.int (0 : Int32)), .val (.int (1 : Int32)), .val (.int (1 : Int32))] at_152 rfl rfl ?_
      refine own_iload X 156 (0 : Int32) at_154 rfl rfl ?_
      refine own_iload X 158 (0 : Int32) at_156 rfl rfl ?_
      refine own_icN X 161 at_158 rfl (XT.ii_ne_f rfl) ?_
      refine own_iload X 163 (0 : Int32) at_161 rfl rfl ?_
      refine own_iload X 165 (0 : Int32) at_163 rfl rfl ?_
      refine own_ineg X 166 at_165 rfl ?_
      refine own_icN X 169 at_166 rfl (XT.ii_ne_f (by decide)) ?_
      refine own_iload X 171 (1 : Int32) at_169 rfl rfl ?_
      refine own_iloadN X 172 xv at_171 rfl rfl ?_
      refine own_iload X 174 yv at_172 rfl rfl ?_
      refine own_icN X 177 at_174 rfl (XT.ii_ne_f hc86) ?_
      refine own_iconst X 178 (1 : Int32) at_177 rfl rfl ?_
      refine own_goto X 182 at_178 (by decide) (by decide) ?_
      refine own_icN X 185 at_182 rfl (XT.ii_ne_f rfl) ?_
      refine own_iload X 187 (1 : Int32) at_185 rfl rfl ?_
      refine own_ifN X 190 at_187 rfl (XT.i0_eq_f (by decide)) ?_
      refine own_aload X 192 (.ref r1) at_190 rfl rfl rfl ?_
      refine own_aload X 194 (.ref r1) at_192 rfl rfl rfl ?_
      refine own_callV X 197 [(.ref r1)] [] at_194 rfl (hw _ (List.mem_of_getElem? (i := 17) rfl)) (hw _ (List.mem_of_getElem? (i := 18) rfl)) (own_nf X.2.2.2.2.1 (hw _ (List.mem_of_getElem? (i := 20) rfl))) (hw _ (List.mem_of_getElem? (i := 20) rfl)) (hw _ (List.mem_of_getElem? (i := 19) rfl)) (hw _ (List.mem_of_getElem? (i := 4) rfl)) (hw _ (List.mem_of_getElem? (i := 21) rfl)) (by decide) E_r1 (own_mcto l Z a0 hw r1 r1 xv xv h4 n0 X.sz F_level_r1 F_level_r1) (fun _ _ q => Nat.le_of_eq (congrArg Array.size q.1.symm)) rfl own_pd4 rfl rfl rfl (by decide) (Nat.le_of_ble_eq_true rfl) (by decide) (by decide) ?_
      rintro v194 T h_ X ⟨eh_, rfl⟩
      rw [eh_] at X
      show own_Ends p e below _ (T.setTop (mkF m 197 #[.val (.int pa), .val (.int pb), .val (.int pc), .val (.int xv), .val (.int mv), .val (.int yv), .val (.ref r1), .val (.ref r3), .val (.int (0 : Int32)), .val (.int (0 : Int32)), .val (.int (0 : Int32)), .val (.int (1 : Int32)), .val (.int (1 : Int32))] [(.int (own_cmp xv xv))]))
      refine own_ifN X 200 at_197 rfl (XT.i0_ne_f (own_cmp_eq rfl)) ?_
      refine own_aload X 202 (.ref r1) at_200 rfl rfl rfl ?_
      refine own_getS X 205 at_202 rfl (hw _ (List.mem_of_getElem? (i := 36) rfl)) Via.refl (Sta.ext OL.2 z_inf) ?_
      intro T X
      refine own_callV X 208 [(.ref ai)] [] at_205 rfl (hw _ (List.mem_of_getElem? (i := 17) rfl)) (hw _ (List.mem_of_getElem? (i := 18) rfl)) (own_nf X.2.2.2.2.1 (hw _ (List.mem_of_getElem? (i := 20) rfl))) (hw _ (List.mem_of_getElem? (i := 20) rfl)) (hw _ (List.mem_of_getElem? (i := 19) rfl)) (hw _ (List.mem_of_getElem? (i := 4) rfl)) (hw _ (List.mem_of_getElem? (i := 21) rfl)) (by decide) E_r1 (own_mcto l Z a0 hw r1 ai xv (2147483647 : Int32) h4 n0 X.sz F_level_r1 (Fld.ext OL.2 z_Fi)) (fun _ _ q => Nat.le_of_eq (congrArg Array.size q.1.symm)) rfl own_pd4 rfl rfl rfl (by decide) (Nat.le_of_ble_eq_true rfl) (by decide) (by decide) ?_
      rintro v205 T h_ X ⟨eh_, rfl⟩
      rw [eh_] at X
      show own_Ends p e below _ (T.setTop (mkF m 208 #[.val (.int pa), .val (.int pb), .val (.int pc), .val (.int xv), .val (.int mv), .val (.int yv), .val (.ref r1), .val (.ref r3), .val (.int (0 : Int32)), .val (.int (0 : Int32)), .val (.int (0 : Int32)), .val (.int (1 : Int32)), .val (.int (1 : Int32))] [(.int (own_cmp xv (2147483647 : Int32)))]))
      refine own_ifN X 211 at_208 rfl (XT.i0_ge_f (by rw [own_cmp_lt (own_ltmax rx.2)]; decide)) ?_
      refine own_getS X 214 at_211 rfl (hw _ (List.mem_of_getElem? (i := 36) rfl)) Via.refl (Sta.ext OL.2 z_inf) ?_
      intro T X
      refine own_aload X 216 (.ref r1) at_214 rfl rfl rfl ?_
      refine own_callV X 219 [(.ref r1)] [] at_216 rfl (hw _ (List.mem_of_getElem? (i := 17) rfl)) (hw _ (List.mem_of_getElem? (i := 18) rfl)) (own_nf X.2.2.2.2.1 (hw _ (List.mem_of_getElem? (i := 20) rfl))) (hw _ (List.mem_of_getElem? (i := 20) rfl)) (hw _ (List.mem_of_getElem? (i := 19) rfl)) (hw _ (List.mem_of_getElem? (i := 4) rfl)) (hw _ (List.mem_of_getElem? (i := 21) rfl)) (by decide) (Exa.ext OL.2 z_Ei) (own_mcto l Z a0 hw ai r1 (2147483647 : Int32) xv h4 n0 X.sz (Fld.ext OL.2 z_Fi) F_level_r1) (fun _ _ q => Nat.le_of_eq (congrArg Array.size q.1.symm)) rfl own_pd4 rfl rfl rfl (by decide) (Nat.le_of_ble_eq_true rfl) (by decide) (by decide) ?_
      rintro v216 T h_ X ⟨eh_, rfl⟩
      rw [eh_] at X
      show own_Ends p e below _ (T.setTop (mkF m 219 #[.val (.int pa), .val (.int pb), .val (.int pc), .val (.int xv), .val (.int mv), .val (.int yv), .val (.ref r1), .val (.ref r3), .val (.int (0 : Int32)), .val (.int (0 : Int32)), .val (.int (0 : Int32)), .val (.int (1 : Int32)), .val (.int (1 : Int32))] [(.int (own_cmp (2147483647 : Int32) xv))]))
      refine own_ifN X 222 at_219 rfl (XT.i0_le_f (by rw [own_cmp_gt (own_ltmax rx.2)]; decide)) ?_
      refine own_aload X 224 (.ref r1) at_222 rfl rfl rfl ?_
      refine own_getS X 227 at_224 rfl (hw _ (List.mem_of_getElem? (i := 36) rfl)) Via.refl (Sta.ext OL.2 z_inf) ?_
      intro T X
      refine own_callV X 230 [(.ref ai)] [] at_227 rfl (hw _ (List.mem_of_getElem? (i := 30) rfl)) (hw _ (List.mem_of_getElem? (i := 31) rfl)) (own_nf X.2.2.2.2.1 (hw _ (List.mem_of_getElem? (i := 33) rfl))) (hw _ (List.mem_of_getElem? (i := 33) rfl)) (hw _ (List.mem_of_getElem? (i := 32) rfl)) (hw _ (List.mem_of_getElem? (i := 4) rfl)) (hw _ (List.mem_of_getElem? (i := 34) rfl)) (by decide) E_r1 (own_mequ l Z a0 hw r1 ai xv (2147483647 : Int32) h4 n0 X.sz F_level_r1 (Fld.ext OL.2 z_Fi) (Exa.ext OL.2 z_Ei)) (fun _ _ q => Nat.le_of_eq (congrArg Array.size q.1.symm)) rfl own_pd5 rfl rfl rfl (by decide) (Nat.le_of_ble_eq_true rfl) (by decide) (by decide) ?_
      rintro v227 T h_ X ⟨eh_, rfl⟩
      rw [eh_] at X
      show own_Ends p e below _ (T.setTop (mkF m 230 #[.val (.int pa), .val (.int pb), .val (.int pc), .val (.int xv), .val (.int mv), .val (.int yv), .val (.ref r1), .val (.ref r3), .val (.int (0 : Int32)), .val (.int (0 : Int32)), .val (.int (0 : Int32)), .val (.int (1 : Int32)), .val (.int (1 : Int32))] [(.int (own_eqv (2147483647 : Int32) xv))]))
      refine own_ifN X 233 at_230 rfl (XT.i0_ne_f (by simp only [own_eqv]; rw [if_neg]; exact fun q => own_nmax rx.2 q.symm)) ?_
      refine own_iconst X 234 (1 : Int32) at_233 rfl rfl ?_
      refine own_goto X 238 at_234 (by decide) (by decide) ?_
      exact own_retN X .boolean at_238 rfl (by simp) (by decide) (by decide) (by rfl)
    · refine own_icY X 93 at_86 (by decide) (by decide) (XT.ii_ne_t hc86) ?_
      refine own_iconst X 94 (1 : Int32) at_93 rfl rfl ?_
      refine own_istore X 96 #[.val (.int pa), .val (.int pb), .val (.int pc), .val (.int xv), .val (.int mv), .val (.int yv), .val (.ref r1), .val (.ref r3), .val (.int (1 : Int32)), .unset, .unset, .unset, .unset] at_94 rfl rfl ?_
      refine own_aload X 98 (.ref r1) at_96 rfl rfl rfl ?_
      refine own_aload X 100 (.ref r3) at_98 rfl rfl rfl ?_
      refine own_callV X 103 [(.ref r3)] [] at_100 rfl (hw _ (List.mem_of_getElem? (i := 17) rfl)) (hw _ (List.mem_of_getElem? (i := 18) rfl)) (own_nf X.2.2.2.2.1 (hw _ (List.mem_of_getElem? (i := 20) rfl))) (hw _ (List.mem_of_getElem? (i := 20) rfl)) (hw _ (List.mem_of_getElem? (i := 19) rfl)) (hw _ (List.mem_of_getElem? (i := 4) rfl)) (hw _ (List.mem_of_getElem? (i := 21) rfl)) (by decide) E_r1 (own_mcto l Z a0 hw r1 r3 xv yv h4 n0 X.sz F_level_r1 F_level_r3) (fun _ _ q => Nat.le_of_eq (congrArg Array.size q.1.symm)) rfl own_pd4 rfl rfl rfl (by decide) (Nat.le_of_ble_eq_true rfl) (by decide) (by decide) ?_
      rintro v100 T h_ X ⟨eh_, rfl⟩
      rw [eh_] at X
      show own_Ends p e below _ (T.setTop (mkF m 103 #[.val (.int pa), .val (.int pb), .val (.int pc), .val (.int xv), .val (.int mv), .val (.int yv), .val (.ref r1), .val (.ref r3), .val (.int (1 : Int32)), .unset, .unset, .unset, .unset] [(.int (own_cmp xv yv))]))
      refine own_callS X 106 [(.int (own_cmp xv yv))] [] at_103 rfl (hw _ (List.mem_of_getElem? (i := 26) rfl)) (hw _ (List.mem_of_getElem? (i := 27) rfl)) (hw _ (List.mem_of_getElem? (i := 28) rfl)) (hw _ (List.mem_of_getElem? (i := 29) rfl)) (by decide) (own_msgn l Z a0 hw (own_cmp xv yv) h4 n0 X.sz) (fun _ _ q => Nat.le_of_eq (congrArg Array.size q.1.symm)) rfl own_pd1 rfl rfl rfl (by decide) (Nat.le_of_ble_eq_true rfl) (by decide) (by decide) ?_
      rintro v103 T h_ X ⟨eh_, rfl⟩
      rw [eh_] at X
      show own_Ends p e below _ (T.setTop (mkF m 106 #[.val (.int pa), .val (.int pb), .val (.int pc), .val (.int xv), .val (.int mv), .val (.int yv), .val (.ref r1), .val (.ref r3), .val (.int (1 : Int32)), .unset, .unset, .unset, .unset] [(.int (own_sgn (own_cmp xv yv)))]))
      rw [show (own_sgn (own_cmp xv yv)) = (1 : Int32) from own_sgn_gt (own_gt_of hc76 hc86)]
      refine own_istore X 108 #[.val (.int pa), .val (.int pb), .val (.int pc), .val (.int xv), .val (.int mv), .val (.int yv), .val (.ref r1), .val (.ref r3), .val (.int (1 : Int32)), .val (.int (1 : Int32)), .unset, .unset, .unset] at_106 rfl rfl ?_
      refine own_aload X 110 (.ref r3) at_108 rfl rfl rfl ?_
      refine own_aload X 112 (.ref r1) at_110 rfl rfl rfl ?_
      refine own_callV X 115 [(.ref r1)] [] at_112 rfl (hw _ (List.mem_of_getElem? (i := 17) rfl)) (hw _ (List.mem_of_getElem? (i := 18) rfl)) (own_nf X.2.2.2.2.1 (hw _ (List.mem_of_getElem? (i := 20) rfl))) (hw _ (List.mem_of_getElem? (i := 20) rfl)) (hw _ (List.mem_of_getElem? (i := 19) rfl)) (hw _ (List.mem_of_getElem? (i := 4) rfl)) (hw _ (List.mem_of_getElem? (i := 21) rfl)) (by decide) E_r3 (own_mcto l Z a0 hw r3 r1 yv xv h4 n0 X.sz F_level_r3 F_level_r1) (fun _ _ q => Nat.le_of_eq (congrArg Array.size q.1.symm)) rfl own_pd4 rfl rfl rfl (by decide) (Nat.le_of_ble_eq_true rfl) (by decide) (by decide) ?_
      rintro v112 T h_ X ⟨eh_, rfl⟩
      rw [eh_] at X
      show own_Ends p e below _ (T.setTop (mkF m 115 #[.val (.int pa), .val (.int pb), .val (.int pc), .val (.int xv), .val (.int mv), .val (.int yv), .val (.ref r1), .val (.ref r3), .val (.int (1 : Int32)), .val (.int (1 : Int32)), .unset, .unset, .unset] [(.int (own_cmp yv xv))]))
      refine own_callS X 118 [(.int (own_cmp yv xv))] [] at_115 rfl (hw _ (List.mem_of_getElem? (i := 26) rfl)) (hw _ (List.mem_of_getElem? (i := 27) rfl)) (hw _ (List.mem_of_getElem? (i := 28) rfl)) (hw _ (List.mem_of_getElem? (i := 29) rfl)) (by decide) (own_msgn l Z a0 hw (own_cmp yv xv) h4 n0 X.sz) (fun _ _ q => Nat.le_of_eq (congrArg Array.size q.1.symm)) rfl own_pd1 rfl rfl rfl (by decide) (Nat.le_of_ble_eq_true rfl) (by decide) (by decide) ?_
      rintro v115 T h_ X ⟨eh_, rfl⟩
      rw [eh_] at X
      show own_Ends p e below _ (T.setTop (mkF m 118 #[.val (.int pa), .val (.int pb), .val (.int pc), .val (.int xv), .val (.int mv), .val (.int yv), .val (.ref r1), .val (.ref r3), .val (.int (1 : Int32)), .val (.int (1 : Int32)), .unset, .unset, .unset] [(.int (own_sgn (own_cmp yv xv)))]))
      rw [show (own_sgn (own_cmp yv xv)) = (-1 : Int32) from own_sgn_lt (own_gt_of hc76 hc86)]
      refine own_istore X 120 #[.val (.int pa), .val (.int pb), .val (.int pc), .val (.int xv), .val (.int mv), .val (.int yv), .val (.ref r1), .val (.ref r3), .val (.int (1 : Int32)), .val (.int (1 : Int32)), .val (.int (-1 : Int32)), .unset, .unset] at_118 rfl rfl ?_
      refine own_aload X 122 (.ref r1) at_120 rfl rfl rfl ?_
      refine own_aload X 124 (.ref r3) at_122 rfl rfl rfl ?_
      refine own_callV X 127 [(.ref r3)] [] at_124 rfl (hw _ (List.mem_of_getElem? (i := 30) rfl)) (hw _ (List.mem_of_getElem? (i := 31) rfl)) (own_nf X.2.2.2.2.1 (hw _ (List.mem_of_getElem? (i := 33) rfl))) (hw _ (List.mem_of_getElem? (i := 33) rfl)) (hw _ (List.mem_of_getElem? (i := 32) rfl)) (hw _ (List.mem_of_getElem? (i := 4) rfl)) (hw _ (List.mem_of_getElem? (i := 34) rfl)) (by decide) E_r1 (own_mequ l Z a0 hw r1 r3 xv yv h4 n0 X.sz F_level_r1 F_level_r3 E_r3) (fun _ _ q => Nat.le_of_eq (congrArg Array.size q.1.symm)) rfl own_pd5 rfl rfl rfl (by decide) (Nat.le_of_ble_eq_true rfl) (by decide) (by decide) ?_
      rintro v124 T h_ X ⟨eh_, rfl⟩
      rw [eh_] at X
      show own_Ends p e below _ (T.setTop (mkF m 127 #[.val (.int pa), .val (.int pb), .val (.int pc), .val (.int xv), .val (.int mv), .val (.int yv), .val (.ref r1), .val (.ref r3), .val (.int (1 : Int32)), .val (.int (1 : Int32)), .val (.int (-1 : Int32)), .unset, .unset] [(.int (own_eqv yv xv))]))
      rw [show (own_eqv yv xv) = (0 : Int32) from by simp only [own_eqv]; rw [if_neg]; exact fun q => hc86 q.symm]
      refine own_istore X 129 #[.val (.int pa), .val (.int pb), .val (.int pc), .val (.int xv), .val (.int mv), .val (.int yv), .val (.ref r1), .val (.ref r3), .val (.int (1 : Int32)), .val (.int (1 : Int32)), .val (.int (-1 : Int32)), .val (.int (0 : Int32)), .unset] at_127 rfl rfl ?_
      refine own_iload X 131 (0 : Int32) at_129 rfl rfl ?_
      refine own_ifY X 147 at_131 (by decide) (by decide) (XT.i0_eq_t rfl) ?_
      refine own_iconst X 148 (1 : Int32) at_147 rfl rfl ?_
      refine own_goto X 152 at_148 (by decide) (by decide) ?_
      refine own_istore X 154 #[.val (.int pa), .val (.int pb), .val (.int pc), .val (.int xv), .val (.int mv), .val (.int yv), .val (.ref r1), .val (.ref r3), .val (.int (1 : Int32)), .val (.int (1 : Int32)), .val (.int (-1 : Int32)), .val (.int (0 : Int32)), .val (.int (1 : Int32))] at_152 rfl rfl ?_
      refine own_iload X 156 (1 : Int32) at_154 rfl rfl ?_
      refine own_iload X 158 (1 : Int32) at_156 rfl rfl ?_
      refine own_icN X 161 at_158 rfl (XT.ii_ne_f rfl) ?_
      refine own_iload X 163 (-1 : Int32) at_161 rfl rfl ?_
      refine own_iload X 165 (1 : Int32) at_163 rfl rfl ?_
      refine own_ineg X 166 at_165 rfl ?_
      refine own_icN X 169 at_166 rfl (XT.ii_ne_f (by decide)) ?_
      refine own_iload X 171 (0 : Int32) at_169 rfl rfl ?_
      refine own_iloadN X 172 xv at_171 rfl rfl ?_
      refine own_iload X 174 yv at_172 rfl rfl ?_
      refine own_icY X 181 at_174 (by decide) (by decide) (XT.ii_ne_t hc86) ?_
      refine own_iconst X 182 (0 : Int32) at_181 rfl rfl ?_
      refine own_icN X 185 at_182 rfl (XT.ii_ne_f rfl) ?_
      refine own_iload X 187 (1 : Int32) at_185 rfl rfl ?_
      refine own_ifN X 190 at_187 rfl (XT.i0_eq_f (by decide)) ?_
      refine own_aload X 192 (.ref r1) at_190 rfl rfl rfl ?_
      refine own_aload X 194 (.ref r1) at_192 rfl rfl rfl ?_
      refine own_callV X 197 [(.ref r1)] [] at_194 rfl (hw _ (List.mem_of_getElem? (i := 17) rfl)) (hw _ (List.mem_of_getElem? (i := 18) rfl)) (own_nf X.2.2.2.2.1 (hw _ (List.mem_of_getElem? (i := 20) rfl))) (hw _ (List.mem_of_getElem? (i := 20) rfl)) (hw _ (List.mem_of_getElem? (i := 19) rfl)) (hw _ (List.mem_of_getElem? (i := 4) rfl)) (hw _ (List.mem_of_getElem? (i := 21) rfl)) (by decide) E_r1 (own_mcto l Z a0 hw r1 r1 xv xv h4 n0 X.sz F_level_r1 F_level_r1) (fun _ _ q => Nat.le_of_eq (congrArg Array.size q.1.symm)) rfl own_pd4 rfl rfl rfl (by decide) (Nat.le_of_ble_eq_true rfl) (by decide) (by decide) ?_
      rintro v194 T h_ X ⟨eh_, rfl⟩
      rw [eh_] at X
      show own_Ends p e below _ (T.setTop (mkF m 197 #[.val (.int pa), .val (.int pb), .val (.int pc), .val (.int xv), .val (.int mv), .val (.int yv), .val (.ref r1), .val (.ref r3), .val (.int (1 : Int32)), .val (.int (1 : Int32)), .val (.int (-1 : Int32)), .val (.int (0 : Int32)), .val (.int (1 : Int32))] [(.int (own_cmp xv xv))]))
      refine own_ifN X 200 at_197 rfl (XT.i0_ne_f (own_cmp_eq rfl)) ?_
      refine own_aload X 202 (.ref r1) at_200 rfl rfl rfl ?_
      refine own_getS X 205 at_202 rfl (hw _ (List.mem_of_getElem? (i := 36) rfl)) Via.refl (Sta.ext OL.2 z_inf) ?_
      intro T X
      refine own_callV X 208 [(.ref ai)] [] at_205 rfl (hw _ (List.mem_of_getElem? (i := 17) rfl)) (hw _ (List.mem_of_getElem? (i := 18) rfl)) (own_nf X.2.2.2.2.1 (hw _ (List.mem_of_getElem? (i := 20) rfl))) (hw _ (List.mem_of_getElem? (i := 20) rfl)) (hw _ (List.mem_of_getElem? (i := 19) rfl)) (hw _ (List.mem_of_getElem? (i := 4) rfl)) (hw _ (List.mem_of_getElem? (i := 21) rfl)) (by decide) E_r1 (own_mcto l Z a0 hw r1 ai xv (2147483647 : Int32) h4 n0 X.sz F_level_r1 (Fld.ext OL.2 z_Fi)) (fun _ _ q => Nat.le_of_eq (congrArg Array.size q.1.symm)) rfl own_pd4 rfl rfl rfl (by decide) (Nat.le_of_ble_eq_true rfl) (by decide) (by decide) ?_
      rintro v205 T h_ X ⟨eh_, rfl⟩
      rw [eh_] at X
      show own_Ends p e below _ (T.setTop (mkF m 208 #[.val (.int pa), .val (.int pb), .val (.int pc), .val (.int xv), .val (.int mv), .val (.int yv), .val (.ref r1), .val (.ref r3), .val (.int (1 : Int32)), .val (.int (1 : Int32)), .val (.int (-1 : Int32)), .val (.int (0 : Int32)), .val (.int (1 : Int32))] [(.int (own_cmp xv (2147483647 : Int32)))]))
      refine own_ifN X 211 at_208 rfl (XT.i0_ge_f (by rw [own_cmp_lt (own_ltmax rx.2)]; decide)) ?_
      refine own_getS X 214 at_211 rfl (hw _ (List.mem_of_getElem? (i := 36) rfl)) Via.refl (Sta.ext OL.2 z_inf) ?_
      intro T X
      refine own_aload X 216 (.ref r1) at_214 rfl rfl rfl ?_
      refine own_callV X 219 [(.ref r1)] [] at_216 rfl (hw _ (List.mem_of_getElem? (i := 17) rfl)) (hw _ (List.mem_of_getElem? (i := 18) rfl)) (own_nf X.2.2.2.2.1 (hw _ (List.mem_of_getElem? (i := 20) rfl))) (hw _ (List.mem_of_getElem? (i := 20) rfl)) (hw _ (List.mem_of_getElem? (i := 19) rfl)) (hw _ (List.mem_of_getElem? (i := 4) rfl)) (hw _ (List.mem_of_getElem? (i := 21) rfl)) (by decide) (Exa.ext OL.2 z_Ei) (own_mcto l Z a0 hw ai r1 (2147483647 : Int32) xv h4 n0 X.sz (Fld.ext OL.2 z_Fi) F_level_r1) (fun _ _ q => Nat.le_of_eq (congrArg Array.size q.1.symm)) rfl own_pd4 rfl rfl rfl (by decide) (Nat.le_of_ble_eq_true rfl) (by decide) (by decide) ?_
      rintro v216 T h_ X ⟨eh_, rfl⟩
      rw [eh_] at X
      show own_Ends p e below _ (T.setTop (mkF m 219 #[.val (.int pa), .val (.int pb), .val (.int pc), .val (.int xv), .val (.int mv), .val (.int yv), .val (.ref r1), .val (.ref r3), .val (.int (1 : Int32)), .val (.int (1 : Int32)), .val (.int (-1 : Int32)), .val (.int (0 : Int32)), .val (.int (1 : Int32))] [(.int (own_cmp (2147483647 : Int32) xv))]))
      refine own_ifN X 222 at_219 rfl (XT.i0_le_f (by rw [own_cmp_gt (own_ltmax rx.2)]; decide)) ?_
      refine own_aload X 224 (.ref r1) at_222 rfl rfl rfl ?_
      refine own_getS X 227 at_224 rfl (hw _ (List.mem_of_getElem? (i := 36) rfl)) Via.refl (Sta.ext OL.2 z_inf) ?_
      intro T X
      refine own_callV X 230 [(.ref ai)] [] at_227 rfl (hw _ (List.mem_of_getElem? (i := 30) rfl)) (hw _ (List.mem_of_getElem? (i := 31) rfl)) (own_nf X.2.2.2.2.1 (hw _ (List.mem_of_getElem? (i := 33) rfl))) (hw _ (List.mem_of_getElem? (i := 33) rfl)) (hw _ (List.mem_of_getElem? (i := 32) rfl)) (hw _ (List.mem_of_getElem? (i := 4) rfl)) (hw _ (List.mem_of_getElem? (i := 34) rfl)) (by decide) E_r1 (own_mequ l Z a0 hw r1 ai xv (2147483647 : Int32) h4 n0 X.sz F_level_r1 (Fld.ext OL.2 z_Fi) (Exa.ext OL.2 z_Ei)) (fun _ _ q => Nat.le_of_eq (congrArg Array.size q.1.symm)) rfl own_pd5 rfl rfl rfl (by decide) (Nat.le_of_ble_eq_true rfl) (by decide) (by decide) ?_
      rintro v227 T h_ X ⟨eh_, rfl⟩
      rw [eh_] at X
      show own_Ends p e below _ (T.setTop (mkF m 230 #[.val (.int pa), .val (.int pb), .val (.int pc), .val (.int xv), .val (.int mv), .val (.int yv), .val (.ref r1), .val (.ref r3), .val (.int (1 : Int32)), .val (.int (1 : Int32)), .val (.int (-1 : Int32)), .val (.int (0 : Int32)), .val (.int (1 : Int32))] [(.int (own_eqv (2147483647 : Int32) xv))]))
      refine own_ifN X 233 at_230 rfl (XT.i0_ne_f (by simp only [own_eqv]; rw [if_neg]; exact fun q => own_nmax rx.2 q.symm)) ?_
      refine own_iconst X 234 (1 : Int32) at_233 rfl rfl ?_
      refine own_goto X 238 at_234 (by decide) (by decide) ?_
      exact own_retN X .boolean at_238 rfl (by simp) (by decide) (by decide) (by rfl)
set_option maxRecDepth 65536 in
set_option maxHeartbeats 40000000 in
theorem comes_1 {Post : Tables → Env → Array Value → State → Outcome → State → Prop} (hpost : ∀ tb e args s v u, (limb_1_1.after args s (.returned v) u = true ∧ limb_1_2.after args s (.returned v) u = true ∧ True) → FrameEnd s (.returned v) u (Jvm.fieldLocs frame_1_writes args s ++ Jvm.arrayLocs frame_1_arrays args s ++ Jvm.staticLocs frame_1_statics s) 16 128 → Post tb e args s (.returned v) u) :
    ArmFor flags0 classFile x code maxLocals ret World_1 tables_1 room_1 Calls_1 rest_1 Pre_1 Post := by
  intro l hfl _ _ p e ha hc hk s m args below hf hA hF happ hP
  obtain ⟨hcalls, hrest, hpre⟩ := hP
  obtain ⟨-, -, -, hnamed, -, -, -, hat⟩ := (Spec.applies_iff hf).mp happ
  obtain ⟨hg, hn⟩ := and_e (Cond.before_iff.mp (show (Jvm.Cond.and given_1 narrow_1).before args s = true from hpre))
  obtain ⟨hcount, hg0⟩ := and_e hg
  obtain ⟨ha0, hg1⟩ := and_e hg0
  obtain ⟨ha1, hg2⟩ := and_e hg1
  have ha2 := hg2
  obtain ⟨w0, w1, w2, rfl⟩ : ∃ w0 w1 w2 : Value, args = #[w0, w1, w2] := by
    have hs : args.size = 3 := by simpa [Cond.value, given_1] using hcount
    obtain ⟨L⟩ := args
    match L, hs with
    | [w0, w1, w2], _ => exact ⟨w0, w1, w2, rfl⟩
  have hw := fun d (hd : d ∈ tables_1) => atoms_spec (ws := Jvm.Cond.code x code maxLocals ret :: tables_1) hat d (List.mem_cons_of_mem _ hd)
  have hfit : Fit s := fun {y c} hc i hi => by
    obtain ⟨ha, rfl⟩ := Array.getElem?_eq_some_iff.mp hc
    have q := List.all_eq_true.mp ((Array.all_eq_true_iff_forall_mem.mp hF) _ (Array.getElem_mem ha)) i (List.mem_range.mpr hi)
    simpa [Array.getElem?_eq_getElem hi] using q
  obtain ⟨i0, ei0⟩ := is_v ha0
  obtain rfl : w0 = (.int i0) := Option.some.inj ei0
  obtain ⟨i1, ei1⟩ := is_v ha1
  obtain rfl : w1 = (.int i1) := Option.some.inj ei1
  obtain ⟨i2, ei2⟩ := is_v ha2
  obtain rfl : w2 = (.int i2) := Option.some.inj ei2
  obtain ⟨hn1, hn2⟩ := and_e hn
  obtain ⟨ai, ev⟩ := exa_v hn1
  have E1 := Exa.start ev hn1
  have S1 := Sta.start ev (Or.inr ⟨(hw _ (List.mem_of_getElem? (i := 4) rfl)), (hw _ (List.mem_of_getElem? (i := 37) rfl))⟩)
  have F1 := Fld.start ((fld_at ev).symm.trans (own_eqInt hn2))
  obtain ⟨n, o, h1, h2, h3, _, L, rfl, ⟨rfl, N⟩, hq⟩ := own_m0 l s _ hw i0 i1 i2 ai s.heap s.heap.size (Nat.le_refl _) (Old.start s) S1 E1 F1 tables_1 p e ha hc hk s m _ below hf ((Spec.applies_iff_loose hf).mp happ).1 ⟨rfl, State.Warmed39.refl s, rfl⟩ trivial
  refine ⟨n, _, h1, h2, h3, hpost _ _ _ _ _ _ ⟨Cond.after_iff.mpr rfl, Cond.after_iff.mpr (eq_i res_at (Term.int_eval (1)) rfl), trivial⟩ ⟨hq.1, hq.2.1, (hq.2.2.sift fun y hy => Or.inr (N y hy)).mono (by decide) (by decide)⟩⟩
theorem main_1_1 : Claimed_1_1 := comes_1 fun _ _ _ _ _ _ h hF => ⟨h.1, hF⟩
theorem main_1_2 : Claimed_1_2 := comes_1 fun _ _ _ _ _ _ h hF => ⟨h.2.1, hF⟩
end Jvm.Pilot.@@N@@
namespace Jvm.Pilot.@@N@@
open Jvm Jvm.ClassFile Sem Op Lib Jvm.Free Jvm.Stand Jvm.Pilot.@@N@@.Jvm.D
/-! MADE BY PROGRAM (witnessworld.py) out of the Statement's table words and the real class files: 14 classes; the members and pool entries that the words name. The judged class is class 1, her method 2. -/
namespace start1
open Jvm.ClassFile
def u (s : String) : CpInfo := .utf8 (stringToUtf16 s)
/-- a pool by its gaps: so many unusable entries, then the entry; so many at the end -/
def gap : Nat → List CpInfo → List CpInfo
  | 0, r => r
  | n + 1, r => .unusable :: gap n r
def poolList (es : List (Nat × CpInfo)) (last : Nat) : List CpInfo := es.foldr (fun e r => gap e.1 (e.2 :: r)) (gap last [])
def pool (es : List (Nat × CpInfo)) (last : Nat) : Array CpInfo := ⟨poolList es last⟩
def fileOf (pool : Array CpInfo) (this : Nat) (attrs : Array Attribute := #[]) (ms : Array MethodInfo := #[]) (fl : Nat := 33) (sup : Nat := 0) (ifs : Array Nat := #[]) (fds : Array FieldInfo := #[]) : ClassFile where
  minorVersion := 0
  majorVersion := 65
  constantPool := pool
  accessFlags := fl
  thisClass := this
  superClass := sup
  interfaces := ifs
  fields := fds
  methods := ms
  attributes := attrs
def plain (name : String) (sup : Option ClassId) : Class where
  name := name
  kind := .ordinary
  loader := none
  accessFlags := 33
  super := sup
  interfaces := #[]
  cf := none
  fields := #[]
  methods := #[]
  instanceTypes := #[]
  staticTypes := #[]
  resolved := #[]
  callSites := []
  init := .initialized
  statics := none
  mirror := none

def pool0 : Array CpInfo := pool [(5, u "<init>"), (0, u "()V"), (1, .class_ 10), (1, u "java/lang/Object")] 113

def k0c0 : Code := { maxStack := 0, maxLocals := 1, code := object_method_1_code, exceptionTable := #[], attributes := #[] }
def k0m0 : Method := { name := "<init>", desc := "()V", sig := { parameters := [], returnType := none }, accessFlags := 1, code := some k0c0 }
/-- java/lang/Object -/
def k0 : Class := { plain "java/lang/Object" none with
  accessFlags := 33
  interfaces := #[]
  cf := some (fileOf pool0 8 #[] #[{ accessFlags := 1, nameIndex := 5, descriptorIndex := 6, attributes := #[] }] 33 0 #[] #[])
  fields := #[]
  methods := #[k0m0]
  instanceTypes := #[]
  staticTypes := #[]
  resolved := Array.replicate 124 none
  statics := none }

def pool1 : Array CpInfo := pool [(2, .class_ 4), (1, u "java/lang/Object"), (0, u "<init>"), (0, u "()V"), (0, .integer 2147483647), (0, .integer 2147483646), (0, .methodref 10 11), (0, .class_ 12), (0, .nameAndType 13 14), (0, u "com/example/typicality/typicality/reasoning/Rank"), (0, u "of"), (0, u "(I)Lcom/example/typicality/typicality/reasoning/Rank;"), (0, .methodref 10 16), (0, .nameAndType 17 18), (0, u "compareTo"), (0, u "(Lcom/example/typicality/typicality/reasoning/Rank;)I"), (0, .methodref 20 21), (0, .class_ 22), (0, .nameAndType 23 24), (0, u "com/example/typicality/typicality/reasoning/RankOfPinLaw"), (0, u "sign"), (0, u "(I)I"), (0, .methodref 10 26), (0, .nameAndType 27 28), (0, u "equals"), (0, u "(Ljava/lang/Object;)Z"), (0, .methodref 10 30), (0, .nameAndType 31 32), (0, u "hashCode"), (0, u "()I"), (0, .fieldref 10 34), (0, .nameAndType 35 36), (0, u "INFINITE"), (0, u "Lcom/example/typicality/typicality/reasoning/Rank;"), (3, u "law"), (0, u "(III)Z")] 2

def k1m0 : Method := { name := "<init>", desc := "()V", sig := { parameters := [], returnType := none }, accessFlags := 1, code := none }
def k1c1 : Code := { maxStack := 1, maxLocals := 1, code := method_2_code, exceptionTable := #[], attributes := #[] }
def k1m1 : Method := { name := "sign", desc := "(I)I", sig := { parameters := [.int], returnType := some .int }, accessFlags := 10, code := some k1c1 }
def k1c2 : Code := { maxStack := 3, maxLocals := 13, code := code, exceptionTable := #[], attributes := #[] }
def k1m2 : Method := { name := "law", desc := "(III)Z", sig := { parameters := [.int, .int, .int], returnType := some .boolean }, accessFlags := 9, code := some k1c2 }
/-- com/example/typicality/typicality/reasoning/RankOfPinLaw -/
def k1 : Class := { plain "com/example/typicality/typicality/reasoning/RankOfPinLaw" (some 0) with
  accessFlags := 49
  interfaces := #[]
  cf := some (fileOf pool1 20 #[] #[{ accessFlags := 1, nameIndex := 5, descriptorIndex := 6, attributes := #[] }, { accessFlags := 10, nameIndex := 23, descriptorIndex := 24, attributes := #[] }, { accessFlags := 9, nameIndex := 40, descriptorIndex := 41, attributes := #[] }] 49 2 #[] #[])
  fields := #[]
  methods := #[k1m0, k1m1, k1m2]
  instanceTypes := #[]
  staticTypes := #[]
  resolved := Array.replicate 44 none
  statics := none }

def pool2 : Array CpInfo := pool [(1, .class_ 2), (0, u "java/lang/Comparable"), (0, .class_ 4), (0, u "java/lang/Object")] 7

/-- java/lang/Comparable -/
def k2 : Class := { plain "java/lang/Comparable" (some 0) with
  accessFlags := 1537
  interfaces := #[]
  cf := some (fileOf pool2 1 #[] #[] 1537 3 #[] #[])
  fields := #[]
  methods := #[]
  instanceTypes := #[]
  staticTypes := #[]
  resolved := Array.replicate 12 none
  statics := none }

def pool3 : Array CpInfo := pool [(1, .class_ 2), (0, u "java/lang/Integer"), (0, .methodref 4 5), (0, .class_ 6), (0, .nameAndType 7 8), (0, u "java/lang/Object"), (0, u "<init>"), (0, u "()V"), (0, .fieldref 10 11), (0, .class_ 12), (0, .nameAndType 13 14), (0, u "com/example/typicality/typicality/reasoning/Rank"), (0, u "level"), (0, u "I"), (0, .integer 2147483647), (9, .methodref 10 26), (0, .nameAndType 7 27), (0, u "(I)V"), (0, .methodref 1 29), (0, .nameAndType 30 31), (0, u "compare"), (0, u "(II)I"), (0, .methodref 1 33), (0, .nameAndType 34 35), (0, u "hashCode"), (0, u "(I)I"), (7, u "compareTo"), (0, u "(Lcom/example/typicality/typicality/reasoning/Rank;)I"), (2, u "INFINITE"), (0, u "Lcom/example/typicality/typicality/reasoning/Rank;"), (0, .class_ 50), (0, u "java/lang/Comparable"), (0, u "INFINITE_LEVEL"), (3, u "of"), (0, u "(I)Lcom/example/typicality/typicality/reasoning/Rank;"), (1, u "equals"), (0, u "(Ljava/lang/Object;)Z"), (0, u "()I")] 25

def k3c0 : Code := { maxStack := 2, maxLocals := 2, code := prog_8_method_1_code, exceptionTable := #[], attributes := #[] }
def k3m0 : Method := { name := "<init>", desc := "(I)V", sig := { parameters := [.int], returnType := none }, accessFlags := 2, code := some k3c0 }
def k3c1 : Code := { maxStack := 3, maxLocals := 1, code := prog_8_method_2_code, exceptionTable := #[], attributes := #[] }
def k3m1 : Method := { name := "of", desc := "(I)Lcom/example/typicality/typicality/reasoning/Rank;", sig := { parameters := [.int], returnType := some (.object "com/example/typicality/typicality/reasoning/Rank") }, accessFlags := 9, code := some k3c1 }
def k3c2 : Code := { maxStack := 2, maxLocals := 2, code := prog_8_method_3_code, exceptionTable := #[], attributes := #[] }
def k3m2 : Method := { name := "compareTo", desc := "(Lcom/example/typicality/typicality/reasoning/Rank;)I", sig := { parameters := [(.object "com/example/typicality/typicality/reasoning/Rank")], returnType := some .int }, accessFlags := 1, code := some k3c2 }
def k3c3 : Code := { maxStack := 2, maxLocals := 2, code := prog_8_method_4_code, exceptionTable := #[], attributes := #[] }
def k3m3 : Method := { name := "equals", desc := "(Ljava/lang/Object;)Z", sig := { parameters := [(.object "java/lang/Object")], returnType := some .boolean }, accessFlags := 1, code := some k3c3 }
def k3c4 : Code := { maxStack := 1, maxLocals := 1, code := prog_8_method_5_code, exceptionTable := #[], attributes := #[] }
def k3m4 : Method := { name := "hashCode", desc := "()I", sig := { parameters := [], returnType := some .int }, accessFlags := 1, code := some k3c4 }
/-- com/example/typicality/typicality/reasoning/Rank -/
def k3 : Class := { plain "com/example/typicality/typicality/reasoning/Rank" (some 0) with
  accessFlags := 49
  interfaces := #[2]
  cf := some (fileOf pool3 10 #[] #[{ accessFlags := 2, nameIndex := 7, descriptorIndex := 27, attributes := #[] }, { accessFlags := 9, nameIndex := 55, descriptorIndex := 56, attributes := #[] }, { accessFlags := 1, nameIndex := 43, descriptorIndex := 44, attributes := #[] }, { accessFlags := 1, nameIndex := 58, descriptorIndex := 59, attributes := #[] }, { accessFlags := 1, nameIndex := 34, descriptorIndex := 60, attributes := #[] }] 49 4 #[49] #[{ accessFlags := 26, nameIndex := 51, descriptorIndex := 14, attributes := #[] }, { accessFlags := 25, nameIndex := 47, descriptorIndex := 48, attributes := #[] }, { accessFlags := 18, nameIndex := 13, descriptorIndex := 14, attributes := #[] }])
  fields := #[{ name := "INFINITE_LEVEL", type := .int, accessFlags := 26, slot := 0, constantValue := 0 }, { name := "INFINITE", type := (.object "com/example/typicality/typicality/reasoning/Rank"), accessFlags := 25, slot := 1, constantValue := 0 }, { name := "level", type := .int, accessFlags := 18, slot := 0, constantValue := 0 }]
  methods := #[k3m0, k3m1, k3m2, k3m3, k3m4]
  instanceTypes := #[.int]
  staticTypes := #[.int, (.object "com/example/typicality/typicality/reasoning/Rank")]
  resolved := Array.replicate 86 none
  statics := some 0 }

def pool4 : Array CpInfo := pool [(1, .class_ 2), (0, u "java/io/Serializable"), (0, .class_ 4), (0, u "java/lang/Object")] 2

/-- java/io/Serializable -/
def k4 : Class := { plain "java/io/Serializable" (some 0) with
  accessFlags := 1537
  interfaces := #[]
  cf := some (fileOf pool4 1 #[] #[] 1537 3 #[] #[])
  fields := #[]
  methods := #[]
  instanceTypes := #[]
  staticTypes := #[]
  resolved := Array.replicate 7 none
  statics := none }

def pool5 : Array CpInfo := pool [(2, .class_ 4), (1, u "java/lang/Object"), (0, u "<init>"), (0, u "()V"), (1, .class_ 10), (1, u "java/lang/Number"), (2, .class_ 14), (0, u "java/io/Serializable"), (0, u "serialVersionUID"), (0, u "J")] 20

def k5m0 : Method := { name := "<init>", desc := "()V", sig := { parameters := [], returnType := none }, accessFlags := 1, code := none }
/-- java/lang/Number -/
def k5 : Class := { plain "java/lang/Number" (some 0) with
  accessFlags := 1057
  interfaces := #[4]
  cf := some (fileOf pool5 8 #[] #[{ accessFlags := 1, nameIndex := 5, descriptorIndex := 6, attributes := #[] }] 1057 2 #[13] #[{ accessFlags := 26, nameIndex := 15, descriptorIndex := 16, attributes := #[] }])
  fields := #[{ name := "serialVersionUID", type := .long, accessFlags := 26, slot := 0, constantValue := 0 }]
  methods := #[k5m0]
  instanceTypes := #[]
  staticTypes := #[.long]
  resolved := Array.replicate 37 none
  statics := none }

def pool6 : Array CpInfo := pool [(1, .class_ 2), (0, u "java/lang/constant/Constable"), (0, .class_ 4), (0, u "java/lang/Object")] 6

/-- java/lang/constant/Constable -/
def k6 : Class := { plain "java/lang/constant/Constable" (some 0) with
  accessFlags := 1537
  interfaces := #[]
  cf := some (fileOf pool6 1 #[] #[] 1537 3 #[] #[])
  fields := #[]
  methods := #[]
  instanceTypes := #[]
  staticTypes := #[]
  resolved := Array.replicate 11 none
  statics := none }

def pool7 : Array CpInfo := pool [(1, .class_ 2), (0, u "java/lang/constant/ConstantDesc"), (0, .class_ 4), (0, u "java/lang/Object")] 32

/-- java/lang/constant/ConstantDesc -/
def k7 : Class := { plain "java/lang/constant/ConstantDesc" (some 0) with
  accessFlags := 1537
  interfaces := #[]
  cf := some (fileOf pool7 1 #[] #[] 1537 3 #[] #[])
  fields := #[]
  methods := #[]
  instanceTypes := #[]
  staticTypes := #[]
  resolved := Array.replicate 37 none
  statics := none }

def pool8 : Array CpInfo := pool [(1, .class_ 2), (0, u "java/lang/Integer"), (16, u "digits"), (0, u "[C"), (33, u "(I)I"), (5, u "(II)I"), (24, u "DigitOnes"), (0, u "[B"), (2, u "DigitTens"), (99, .class_ 190), (0, u "java/lang/Integer$IntegerCache"), (3, u "I"), (8, .class_ 204), (0, u "java/lang/Number"), (2, u "value"), (2, u "hashCode"), (50, u "compare"), (40, u "TYPE"), (0, u "Ljava/lang/Class;"), (0, .class_ 305), (0, u "java/lang/Comparable"), (0, .class_ 307), (0, u "java/lang/constant/Constable"), (0, .class_ 309), (0, u "java/lang/constant/ConstantDesc"), (0, u "MIN_VALUE"), (1, u "MAX_VALUE"), (3, u "SIZE"), (1, u "BYTES"), (1, u "serialVersionUID"), (0, u "J")] 131

def k8c0 : Code := { maxStack := 1, maxLocals := 1, code := jdk_33_method_33_code, exceptionTable := #[], attributes := #[] }
def k8m0 : Method := { name := "hashCode", desc := "(I)I", sig := { parameters := [.int], returnType := some .int }, accessFlags := 9, code := some k8c0 }
def k8c1 : Code := { maxStack := 2, maxLocals := 2, code := jdk_33_method_40_code, exceptionTable := #[], attributes := #[] }
def k8m1 : Method := { name := "compare", desc := "(II)I", sig := { parameters := [.int, .int], returnType := some .int }, accessFlags := 9, code := some k8c1 }
/-- java/lang/Integer -/
def k8 : Class := { plain "java/lang/Integer" (some 5) with
  accessFlags := 49
  interfaces := #[2, 6, 7]
  cf := some (fileOf pool8 1 #[.nestMembers #[189]] #[{ accessFlags := 9, nameIndex := 210, descriptorIndex := 54, attributes := #[] }, { accessFlags := 9, nameIndex := 261, descriptorIndex := 60, attributes := #[] }] 49 203 #[304, 306, 308] #[{ accessFlags := 25, nameIndex := 310, descriptorIndex := 194, attributes := #[] }, { accessFlags := 25, nameIndex := 312, descriptorIndex := 194, attributes := #[] }, { accessFlags := 25, nameIndex := 302, descriptorIndex := 303, attributes := #[] }, { accessFlags := 24, nameIndex := 19, descriptorIndex := 20, attributes := #[] }, { accessFlags := 24, nameIndex := 89, descriptorIndex := 86, attributes := #[] }, { accessFlags := 24, nameIndex := 85, descriptorIndex := 86, attributes := #[] }, { accessFlags := 18, nameIndex := 207, descriptorIndex := 194, attributes := #[] }, { accessFlags := 25, nameIndex := 316, descriptorIndex := 194, attributes := #[] }, { accessFlags := 25, nameIndex := 318, descriptorIndex := 194, attributes := #[] }, { accessFlags := 26, nameIndex := 320, descriptorIndex := 321, attributes := #[] }])
  fields := #[{ name := "MIN_VALUE", type := .int, accessFlags := 25, slot := 0, constantValue := 0 }, { name := "MAX_VALUE", type := .int, accessFlags := 25, slot := 1, constantValue := 0 }, { name := "TYPE", type := (.object "java/lang/Class"), accessFlags := 25, slot := 2, constantValue := 0 }, { name := "digits", type := (.array .char), accessFlags := 24, slot := 3, constantValue := 0 }, { name := "DigitTens", type := (.array .byte), accessFlags := 24, slot := 4, constantValue := 0 }, { name := "DigitOnes", type := (.array .byte), accessFlags := 24, slot := 5, constantValue := 0 }, { name := "value", type := .int, accessFlags := 18, slot := 0, constantValue := 0 }, { name := "SIZE", type := .int, accessFlags := 25, slot := 6, constantValue := 0 }, { name := "BYTES", type := .int, accessFlags := 25, slot := 7, constantValue := 0 }, { name := "serialVersionUID", type := .long, accessFlags := 26, slot := 8, constantValue := 0 }]
  methods := #[k8m0, k8m1]
  instanceTypes := #[.int]
  staticTypes := #[.int, .int, (.object "java/lang/Class"), (.array .char), (.array .byte), (.array .byte), .int, .int, .long]
  resolved := Array.replicate 453 none
  statics := none }

def pool9 : Array CpInfo := pool [(1, u "java/lang/Cloneable"), (0, .class_ 1), (0, u "java/lang/Object"), (0, .class_ 3)] 3

/-- java/lang/Cloneable -/
def k9 : Class := { plain "java/lang/Cloneable" (some 0) with
  accessFlags := 1537
  interfaces := #[]
  cf := some (fileOf pool9 2 #[] #[] 1537 4 #[] #[])
  fields := #[]
  methods := #[]
  instanceTypes := #[]
  staticTypes := #[]
  resolved := Array.replicate 8 none
  statics := none }

/-- the primitive byte -/
def k10 : Class := { plain "byte" none with kind := .primitive 'B', accessFlags := 0x411 }
/-- [B -/
def k11 : Class := { plain "[B" (some 0) with kind := .array 10 .byte, interfaces := #[9, 4], accessFlags := 1041 }

/-- the primitive int -/
def k12 : Class := { plain "int" none with kind := .primitive 'I', accessFlags := 0x411 }
/-- [I -/
def k13 : Class := { plain "[I" (some 0) with kind := .array 12 .int, interfaces := #[9, 4], accessFlags := 1041 }

def heap : Heap := #[{ cls := 3, slots := #[.int 0, .ref 1], vm := .statics 3 },
  { cls := 3, slots := #[.int 2147483647], vm := .none }]
def classes : Array Class := #[k0, k1, k2, k3, k4, k5, k6, k7, k8, k9, k10, k11, k12, k13]
def interned : List (Array UInt16 × Addr) := []
def slotsUsed : Nat := 3
def theMethod : MethodId := ⟨1, 2⟩
def args0 : Array Value := #[.int 5, .int 7, .int 2]
def aboutOver (below : List Frame) : State where
  vm := { classes := classes, interned := interned.toArray }
  heap := heap
  slotsUsed := slotsUsed
  threads := #[{ frames := .invoking theMethod args0 :: below }]
def below0 : List Frame := [.native { method := ⟨0, 0⟩, args := #[] }]
def about1 : State := aboutOver below0
def p0 : Program := .bare "" "" ""
def e0 : Env := launch0.env 0 0 0
theorem w_frames : about1.frames = Frame.invoking theMethod args0 :: below0 := rfl
set_option maxRecDepth 65536 in
theorem w_args : argsFit about1.vm theMethod args0 = true := by decide +kernel
set_option maxRecDepth 65536 in
theorem w_heap : heapFits about1 = true := by decide +kernel
set_option maxRecDepth 65536 in
theorem w_runnable : about1.curStatus? = some .runnable := by decide +kernel
set_option maxRecDepth 65536 in
theorem w_alone : about1.alone = true := by decide +kernel
set_option maxRecDepth 65536 in
theorem w_named : about1.methodNamed? x = some theMethod := by decide +kernel
set_option maxRecDepth 65536 in
theorem w_hears : about1.hears theMethod below0 = true := by decide +kernel
set_option maxRecDepth 65536 in
theorem w_ripe : about1.ripe theMethod args0 below0 = true := by decide +kernel
theorem w_running : about1.status = .running := rfl
set_option maxRecDepth 65536 in
theorem w_room : about1.hasRoom e0.platform room_1 = true :=
  launch0.hasRoom_least _ room_1 (by decide +kernel) (by decide +kernel) (by decide +kernel) (by decide +kernel) (by decide +kernel) (by decide +kernel)
theorem allAtoms_all (ts : List Jvm.Cond) (a : Array Jvm.Value) (st : Jvm.State) : (allAtoms ts).before a st = ts.all (fun c => c.before a st) := by
  induction ts with
  | nil => rfl
  | cons c t ih =>
    show (Jvm.Cond.and c (allAtoms t)).before a st = _
    rw [Jvm.Cond.before_and, ih, List.all_cons]
def words1 : List Jvm.Cond := Jvm.Cond.code x code maxLocals ret :: tables_1
/-- a 'code' word, met by the world's own term for the bytes: nothing is compared byte by byte -/
theorem code_word {y : MethodName} {bytes : ByteArray} {mx : Nat} {rt : Option FieldType} {a : Array Value} {s : State} {m : MethodId} {meth : Method} {c : Code} (h1 : s.methodNamed? y = some m) (h2 : s.vm.method? m = some meth) (h3 : meth.code = some c) (h4 : c.code = bytes)
    (h5 : (c.maxLocals == mx && c.exceptionTable.isEmpty && decide (c.maxStack ≤ mostOperands) && decide (meth.sig.returnType = rt) && !meth.locks && decide (parseMethodDescriptor y.desc = some meth.sig)) = true) : (Jvm.Cond.code y bytes mx rt).before a s = true := by
  simp only [Bool.and_eq_true, beq_iff_eq, Bool.not_eq_true', decide_eq_true_eq] at h5
  obtain ⟨⟨⟨⟨⟨g1, g2⟩, g3⟩, g4⟩, g5⟩, g6⟩ := h5
  simp [Cond.before, Cond.holds, Cond.value, h1, h2, h3, h4, g1, g2, g3, g4, g5, g6]
def isCode : Jvm.Cond → Bool
  | .code _ _ _ _ => true
  | _ => false
theorem all_split {L : List Jvm.Cond} {P : Jvm.Cond → Bool} (h1 : L.all (fun c => isCode c || P c) = true) (h2 : ∀ c ∈ L.filter isCode, P c = true) : L.all P = true := by
  refine List.all_eq_true.mpr fun c hc => ?_
  have h := List.all_eq_true.mp h1 c hc
  rcases Bool.eq_false_or_eq_true (isCode c) with hi | hi
  · exact h2 c (List.mem_filter.mpr ⟨hc, hi⟩)
  · simpa [hi] using h
set_option maxRecDepth 65536 in
theorem w_c0 : (Jvm.Cond.code x code maxLocals ret).before args0 about1 = true := code_word (m := ⟨1, 2⟩) (meth := k1m2) (c := k1c2) (by decide +kernel) rfl rfl rfl (by decide +kernel)
set_option maxRecDepth 65536 in
theorem w_c1 : (Jvm.Cond.code ({ cls := "com/example/typicality/typicality/reasoning/Rank", name := "of", desc := "(I)Lcom/example/typicality/typicality/reasoning/Rank;" } : Jvm.MethodName) prog_8_method_2_code (1 : Nat) (Option.some (Jvm.ClassFile.FieldType.object "com/example/typicality/typicality/reasoning/Rank"))).before args0 about1 = true := code_word (m := ⟨3, 1⟩) (meth := k3m1) (c := k3c1) (by decide +kernel) rfl rfl rfl (by decide +kernel)
set_option maxRecDepth 65536 in
theorem w_c2 : (Jvm.Cond.code ({ cls := "com/example/typicality/typicality/reasoning/Rank", name := "<init>", desc := "(I)V" } : Jvm.MethodName) prog_8_method_1_code (2 : Nat) (Option.none : Option Jvm.ClassFile.FieldType)).before args0 about1 = true := code_word (m := ⟨3, 0⟩) (meth := k3m0) (c := k3c0) (by decide +kernel) rfl rfl rfl (by decide +kernel)
set_option maxRecDepth 65536 in
theorem w_c3 : (Jvm.Cond.code ({ cls := "java/lang/Object", name := "<init>", desc := "()V" } : Jvm.MethodName) object_method_1_code (1 : Nat) (Option.none : Option Jvm.ClassFile.FieldType)).before args0 about1 = true := code_word (m := ⟨0, 0⟩) (meth := k0m0) (c := k0c0) (by decide +kernel) rfl rfl rfl (by decide +kernel)
set_option maxRecDepth 65536 in
theorem w_c4 : (Jvm.Cond.code ({ cls := "com/example/typicality/typicality/reasoning/Rank", name := "compareTo", desc := "(Lcom/example/typicality/typicality/reasoning/Rank;)I" } : Jvm.MethodName) prog_8_method_3_code (2 : Nat) (Option.some Jvm.ClassFile.FieldType.int)).before args0 about1 = true := code_word (m := ⟨3, 2⟩) (meth := k3m2) (c := k3c2) (by decide +kernel) rfl rfl rfl (by decide +kernel)
set_option maxRecDepth 65536 in
theorem w_c5 : (Jvm.Cond.code ({ cls := "java/lang/Integer", name := "compare", desc := "(II)I" } : Jvm.MethodName) jdk_33_method_40_code (2 : Nat) (Option.some Jvm.ClassFile.FieldType.int)).before args0 about1 = true := code_word (m := ⟨8, 1⟩) (meth := k8m1) (c := k8c1) (by decide +kernel) rfl rfl rfl (by decide +kernel)
set_option maxRecDepth 65536 in
theorem w_c6 : (Jvm.Cond.code ({ cls := "com/example/typicality/typicality/reasoning/RankOfPinLaw", name := "sign", desc := "(I)I" } : Jvm.MethodName) method_2_code (1 : Nat) (Option.some Jvm.ClassFile.FieldType.int)).before args0 about1 = true := code_word (m := ⟨1, 1⟩) (meth := k1m1) (c := k1c1) (by decide +kernel) rfl rfl rfl (by decide +kernel)
set_option maxRecDepth 65536 in
theorem w_c7 : (Jvm.Cond.code ({ cls := "com/example/typicality/typicality/reasoning/Rank", name := "equals", desc := "(Ljava/lang/Object;)Z" } : Jvm.MethodName) prog_8_method_4_code (2 : Nat) (Option.some Jvm.ClassFile.FieldType.boolean)).before args0 about1 = true := code_word (m := ⟨3, 3⟩) (meth := k3m3) (c := k3c3) (by decide +kernel) rfl rfl rfl (by decide +kernel)
set_option maxRecDepth 65536 in
theorem w_c8 : (Jvm.Cond.code ({ cls := "com/example/typicality/typicality/reasoning/Rank", name := "hashCode", desc := "()I" } : Jvm.MethodName) prog_8_method_5_code (1 : Nat) (Option.some Jvm.ClassFile.FieldType.int)).before args0 about1 = true := code_word (m := ⟨3, 4⟩) (meth := k3m4) (c := k3c4) (by decide +kernel) rfl rfl rfl (by decide +kernel)
set_option maxRecDepth 65536 in
theorem w_c9 : (Jvm.Cond.code ({ cls := "java/lang/Integer", name := "hashCode", desc := "(I)I" } : Jvm.MethodName) jdk_33_method_33_code (1 : Nat) (Option.some Jvm.ClassFile.FieldType.int)).before args0 about1 = true := code_word (m := ⟨8, 0⟩) (meth := k8m0) (c := k8c0) (by decide +kernel) rfl rfl rfl (by decide +kernel)
def codes1 : List Jvm.Cond := [Jvm.Cond.code x code maxLocals ret, Jvm.Cond.code ({ cls := "com/example/typicality/typicality/reasoning/Rank", name := "of", desc := "(I)Lcom/example/typicality/typicality/reasoning/Rank;" } : Jvm.MethodName) prog_8_method_2_code (1 : Nat) (Option.some (Jvm.ClassFile.FieldType.object "com/example/typicality/typicality/reasoning/Rank")), Jvm.Cond.code ({ cls := "com/example/typicality/typicality/reasoning/Rank", name := "<init>", desc := "(I)V" } : Jvm.MethodName) prog_8_method_1_code (2 : Nat) (Option.none : Option Jvm.ClassFile.FieldType), Jvm.Cond.code ({ cls := "java/lang/Object", name := "<init>", desc := "()V" } : Jvm.MethodName) object_method_1_code (1 : Nat) (Option.none : Option Jvm.ClassFile.FieldType), Jvm.Cond.code ({ cls := "com/example/typicality/typicality/reasoning/Rank", name := "compareTo", desc := "(Lcom/example/typicality/typicality/reasoning/Rank;)I" } : Jvm.MethodName) prog_8_method_3_code (2 : Nat) (Option.some Jvm.ClassFile.FieldType.int), Jvm.Cond.code ({ cls := "java/lang/Integer", name := "compare", desc := "(II)I" } : Jvm.MethodName) jdk_33_method_40_code (2 : Nat) (Option.some Jvm.ClassFile.FieldType.int), Jvm.Cond.code ({ cls := "com/example/typicality/typicality/reasoning/RankOfPinLaw", name := "sign", desc := "(I)I" } : Jvm.MethodName) method_2_code (1 : Nat) (Option.some Jvm.ClassFile.FieldType.int), Jvm.Cond.code ({ cls := "com/example/typicality/typicality/reasoning/Rank", name := "equals", desc := "(Ljava/lang/Object;)Z" } : Jvm.MethodName) prog_8_method_4_code (2 : Nat) (Option.some Jvm.ClassFile.FieldType.boolean), Jvm.Cond.code ({ cls := "com/example/typicality/typicality/reasoning/Rank", name := "hashCode", desc := "()I" } : Jvm.MethodName) prog_8_method_5_code (1 : Nat) (Option.some Jvm.ClassFile.FieldType.int), Jvm.Cond.code ({ cls := "java/lang/Integer", name := "hashCode", desc := "(I)I" } : Jvm.MethodName) jdk_33_method_33_code (1 : Nat) (Option.some Jvm.ClassFile.FieldType.int)]
set_option maxRecDepth 65536 in
theorem codes_eq : words1.filter isCode = codes1 := rfl
theorem w_codes : ∀ c ∈ words1.filter isCode, c.before args0 about1 = true := by
  rw [codes_eq]
  intro c hc
  simp only [codes1, List.mem_cons, List.not_mem_nil, or_false] at hc
  rcases hc with rfl | rfl | rfl | rfl | rfl | rfl | rfl | rfl | rfl | rfl
  · exact w_c0
  · exact w_c1
  · exact w_c2
  · exact w_c3
  · exact w_c4
  · exact w_c5
  · exact w_c6
  · exact w_c7
  · exact w_c8
  · exact w_c9
set_option maxRecDepth 65536 in
theorem w_t1 : (words1.take 24).all (fun c => isCode c || c.before args0 about1) = true := by decide +kernel
set_option maxRecDepth 65536 in
theorem w_t2 : (words1.drop 24).all (fun c => isCode c || c.before args0 about1) = true := by decide +kernel
theorem w_tables : (allAtoms (Jvm.Cond.code x code maxLocals ret :: tables_1)).before args0 about1 = true := by
  rw [allAtoms_all]
  show words1.all (fun c => c.before args0 about1) = true
  refine all_split ?_ w_codes
  rw [← List.take_append_drop 24 words1, List.all_append, w_t1, w_t2]
  rfl
set_option maxRecDepth 65536 in
theorem w_case : (Jvm.Cond.and given_1 narrow_1).before args0 about1 = true := by decide +kernel
theorem w_applies : (headSpec (Jvm.Cond.code x code maxLocals ret :: tables_1) room_1).applies x e0.platform about1 = true :=
  (Spec.applies_iff w_frames).mpr ⟨w_running, w_runnable, w_alone, w_named, w_hears, w_ripe, w_room, w_tables⟩
theorem atStart : AtStart classFile x code maxLocals ret World_1 tables_1 room_1 Calls_1 rest_1 Pre_1 launch0 p0 e0 about1 theMethod args0 below0 :=
  ⟨lists_1, trivial, launch0.admits_env _ _ _, launch0.least_env, fairChoices_fair.cas, fairChoices_fair.clock, w_frames, w_args, w_heap, w_applies, trivial, trivial, w_case⟩
end start1
theorem witness_1 : WitnessClaimed_1 := ⟨start1.p0, start1.e0, start1.about1, start1.theMethod, start1.args0, start1.below0, start1.atStart⟩
end Jvm.Pilot.@@N@@
