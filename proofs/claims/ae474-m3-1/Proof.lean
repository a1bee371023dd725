import JvmDerived
import JvmDerived.Pilot.@@N@@Statement
import JvmDerived.Pilot.@@N@@Code
set_option linter.unusedVariables false
set_option linter.unusedSimpArgs false
namespace Jvm.Pilot.@@N@@
open Jvm Jvm.ClassFile Sem Op Lib Jvm.Free Jvm.Stand Jvm.LawKit Jvm.RoadKit Bundle Jvm.Pilot.@@N@@.Jvm.D
section OwnRet
variable {p : Program} {l : Launch} {e : Env} {R : Room} {s : State} {m : MethodId} {args : Array Value} {below : List Frame} {meth : Method} {c : Code} {T : State} {locs : List Loc} {cells slots : Nat}
theorem own_retI0 (X : Stand p l e R s m args below meth c T locs cells slots) (hx : p.tables.exec = Jvm.exec) {pc : Nat} {Ls : Array Slot} {z : Int32} {rest : List Value} (hret : meth.sig.returnType = some .int) (hd : decode c.code pc = .ok (.ireturn, 1)) {fs : List Frame}
    (hl : ∀ (f : JFrame) (acts : List Action), f.method = m → f.locked = none → f.entered = [] → (doReturn e (T.setTop f) acts (some (.int z))).1 = T.setFrames fs) : Steps p.tables e below (T.setTop (mkF m pc Ls (.int z :: rest))) (T.setFrames fs) :=
  retOut X hx hret rfl (Or.inl ⟨rfl, Or.inl rfl, z, rfl⟩) hd hl
end OwnRet
/-- the array at a: of component type ty, its class k, and just these components -/
def own_A (Z : State) (h : Heap) (a : Addr) (kc : ClassId) (ty : FieldType) (vs : List Value) : Prop := ∃ c : Cell, Arr Z h a c ty ∧ c.cls = kc ∧ c.slots.toList = vs ∧ vs.length < 2 ^ 31 ∧ ∀ v ∈ vs, fits ty v = true
section OwnArr
variable {Z : State} {h h' : Heap} {a b : Addr} {kc : ClassId} {ty : FieldType} {vs : List Value} {sl : Nat} {v w : Value} {ws : List Addr}
theorem own_A.lt (F : own_A Z h a kc ty vs) : a < h.size := by obtain ⟨c, A, -⟩ := F; exact A.lt
theorem own_A.ext (F : own_A Z h a kc ty vs) (E : Ext h h') : own_A Z h' a kc ty vs := by obtain ⟨c, A, r⟩ := F; exact ⟨c, A.ext E, r⟩
theorem own_A.other (F : own_A Z h b kc ty vs) (W : Wr h h' a sl v) (q : b ≠ a) : own_A Z h' b kc ty vs := by obtain ⟨c, A, r⟩ := F; exact ⟨c, A.other W q, r⟩
theorem own_A.keep (F : own_A Z h a kc ty vs) (K : Keep h h' ws) (q : a ∉ ws) : own_A Z h' a kc ty vs := by obtain ⟨c, A, r⟩ := F; exact ⟨c, ⟨K.2.1 a c A.1 q, A.2⟩, r⟩
theorem own_A.same (F : own_A Z h a kc ty vs) (W : Wr h h' a sl v) (hf : fits ty v = true) : own_A Z h' a kc ty (vs.set sl v) := by
  obtain ⟨c, A, r1, r2, r3, r4⟩ := F
  refine ⟨_, A.same W, r1, by show (c.slots.setIfInBounds sl v).toList = _; rw [Array.toList_setIfInBounds, r2], by simpa using r3, fun u hu => ?_⟩
  rcases List.mem_or_eq_of_mem_set hu with q | q
  · exact r4 u q
  · exact q ▸ hf
theorem own_in {c : Cell} {j : Int32} {i : Nat} (r2 : c.slots.toList = vs) (hj : j.toNatClampNeg = i) (hj0 : ¬ j < 0) (hi : i < vs.length) : ¬ (j < 0 ∨ c.slots.size ≤ j.toNatClampNeg) := by
  rintro (q | q)
  · exact hj0 q
  · rw [hj, ← Array.length_toList, r2] at q; omega
theorem own_Ins_keep {C : String} (F : Ins Z h a C true) (K : Keep h h' ws) : Ins Z h' a C true := by
  obtain ⟨cell, cT, h1, h2, h3⟩ := F
  obtain ⟨c', q, r1, r2, -⟩ := K.2.2 a cell h1
  exact ⟨c', cT, q, h2, by rw [r1, r2]; exact h3⟩
theorem own_Sta_keep0 {C nm d : String} (F : Sta Z h C nm d v) (K : Keep h h' []) : Sta Z h' C nm d v := by
  obtain ⟨cf, i, k, f, st, cell, h1, h2, h3, h4, h5, r⟩ := F
  exact ⟨cf, i, k, f, st, cell, h1, h2, h3, h4, K.2.1 st cell h5 nin0, r⟩
theorem own_Sto {x : Addr} {C : String} (F : own_A Z h a kc ty vs) (O : Ovr Z kc C) (I : Ins Z h x C true) : Sto Z h a (.ref x) := by
  obtain ⟨c, A, r, -⟩ := F
  exact Sto.ofV A r O I
theorem own_Sto_keep (F : Sto Z h a v) (K : Keep h h' ws) : Sto Z h' a v := F.imp id fun ⟨c1, c2, k, kv, kc, cp, t, y, h1, h2, h3, h4, h5, h6, h7, h8, h9⟩ => by
  obtain ⟨c1', q1, r1, -, -⟩ := K.2.2 _ _ h1
  obtain ⟨c2', q2, r2, r3, -⟩ := K.2.2 _ _ h6
  exact ⟨c1', c2', k, kv, kc, cp, t, y, q1, by rw [r1]; exact h2, h3, h4, h5, q2, by rw [r3]; exact h7, by rw [r2]; exact h8, by rw [r2]; exact h9⟩
end OwnArr
section OwnKit
variable {p : Program} {l : Launch} {e : Env} {R : Room} {s : State} {m : MethodId} {args : Array Value} {below : List Frame} {meth : Method} {c : Code} {Z T : State} {n0 ml k n : Nat} {y : MethodName} {bytes : ByteArray} {ret : Option FieldType} {h : Heap} {a0 : Array Value} {G : State → Outcome → Prop} {Ls : Array Slot} {st : List Value} {pc : Nat}
/-- the run from this state ends, and G holds of the end -/
def own_Ends (p : Program) (e : Env) (below : List Frame) (G : State → Outcome → Prop) (S : State) : Prop := ∃ s₂ o, Steps p.tables e below S s₂ ∧ s₂.status = .running ∧ Ended s₂ below o ∧ G s₂ o
/-- what a method's end must say -/
def own_Fin (s : State) (n0 C S : Nat) (Q : Option Value → Heap → Prop) (s₂ : State) (o : Outcome) : Prop := ∃ v L, o = .returned v ∧ (Q v s₂.heap ∧ Fr n0 L) ∧ FrameEnd s o s₂ L C S
/-- where a walk stands: the state T, its heap h, k cells and n slots spent, nothing old written -/
def own_W (p : Program) (l : Launch) (e : Env) (R : Room) (s : State) (m : MethodId) (args : Array Value) (below : List Frame) (meth : Method) (c : Code) (Z : State) (n0 : Nat) (y : MethodName) (bytes : ByteArray) (ml : Nat) (ret : Option FieldType) (T : State) (h : Heap) (k n : Nat) : Prop :=
  (∃ locs, Stand p l e R s m args below meth c T locs k n ∧ Fr n0 locs) ∧ T.heap = h ∧ n0 ≤ h.size ∧ p.tables.exec = Jvm.exec ∧ Z.Warmed39 s.vm ∧ c.code = bytes ∧ c.maxLocals = ml ∧ s.vm.findClass y.cls = some m.cls ∧ meth.sig.returnType = ret ∧ meth.locks = false ∧ meth.name = y.name
/-- a body's contract: called with as' over the heap h it returns, Q holds of what it returns and of the heap that it leaves -/
def own_Met (l : Launch) (y : MethodName) (bytes : ByteArray) (ml : Nat) (ret : Option FieldType) (rm : Room) (Z : State) (as' : Array Value) (h : Heap) (n0 : Nat) (Q : Option Value → Heap → Prop) : Prop :=
  ∀ ws, MetFree l y (head1 (Jvm.Cond.code y bytes ml ret :: ws) rm) (fun a U => a = as' ∧ Z.Warmed39 U.vm ∧ U.heap = h) (fun _ _ _ _ _ => True) (fun _ U o U' => ∃ v L, o = .returned v ∧ (Q v U'.heap ∧ Fr n0 L) ∧ FrameEnd U o U' L rm.cells rm.slots)
theorem own_pre {S S' : State} (f : ∀ t, Steps p.tables e below S' t → Steps p.tables e below S t) (K : own_Ends p e below G S') : own_Ends p e below G S := by
  obtain ⟨s2, o, h1, h2⟩ := K
  exact ⟨s2, o, f _ h1, h2⟩
theorem own_W.more {k' n' : Nat} (X : own_W p l e R s m args below meth c Z n0 y bytes ml ret T h k n) (hk : k ≤ k') (hn : n ≤ n') : own_W p l e R s m args below meth c Z n0 y bytes ml ret T h k' n' := by
  obtain ⟨⟨locs, Y, N⟩, r⟩ := X
  exact ⟨⟨locs, Y.more hk hn, N⟩, r⟩
theorem own_W.sz (X : own_W p l e R s m args below meth c Z n0 y bytes ml ret T h k n) : n0 ≤ h.size := X.2.2.1
theorem own_met {rm : Room} {as' : Array Value} {Q : Option Value → Heap → Prop} (hpl : plainFor y = true) (hs0 : n0 ≤ h.size) (hef : ∀ m, entryFrame m as' ml = mkF m 0 Ls [])
    (body : ∀ (p : Program) (e : Env) (s : State) (m : MethodId) (below : List Frame) (meth : Method) (c : Code) (T : State), own_W p l e rm s m as' below meth c Z n0 y bytes ml ret T h 0 0 → own_Ends p e below (own_Fin s n0 rm.cells rm.slots Q) (T.setTop (mkF m 0 Ls []))) :
    own_Met l y bytes ml ret rm Z as' h n0 Q := by
  intro ws
  refine MetFree.of_bodySF hpl hisR ?_
  intro p e s m args below meth c s₁ Bd hml0 hP hK
  obtain ⟨rfl, hZ, hh⟩ := hP
  obtain ⟨s2, o, h1, h2, h3, h4⟩ := body p e s m below meth c s₁ ⟨⟨[], Stand.of_body Bd, Fr.nil n0⟩, by rw [← hh, Bd.state]; rfl, hs0, Bd.exec, hZ, Bd.bytes, hml0, findClass_of_methodNamed Bd.named, Bd.returns, Bd.notSynchronized, (name_of_methodNamed Bd.named Bd.method).1⟩
  exact ⟨s2, o, castTop (hef m) h1, h2, h3, h4⟩
theorem own_iloadN (X : own_W p l e R s m args below meth c Z n0 y bytes ml ret T h k n) (q : Nat) {i : Fin 4} (x : Int32) (hd : decode bytes pc = .ok (.iload_n i, 1)) (hq : pc + 1 = q) (hl : Ls[i.val]? = some (.val (.int x))) (K : own_Ends p e below G (T.setTop (mkF m q Ls (.int x :: st)))) : own_Ends p e below G (T.setTop (mkF m pc Ls st)) := by
  subst hq
  obtain ⟨⟨locs, Y, N⟩, eT, hs0, hx, hZ, hby, hml, hown, hret, hlk, hnm⟩ := X
  exact own_pre (fun t K => XS.iloadN Y.here hx rfl (hb hby hd) hl K) K
theorem own_iload (X : own_W p l e R s m args below meth c Z n0 y bytes ml ret T h k n) (q : Nat) {i : Nat} (x : Int32) (hd : decode bytes pc = .ok (.iload i, 2)) (hq : pc + 2 = q) (hl : Ls[i]? = some (.val (.int x))) (K : own_Ends p e below G (T.setTop (mkF m q Ls (.int x :: st)))) : own_Ends p e below G (T.setTop (mkF m pc Ls st)) := by
  subst hq
  obtain ⟨⟨locs, Y, N⟩, eT, hs0, hx, hZ, hby, hml, hown, hret, hlk, hnm⟩ := X
  exact own_pre (fun t K => XS.iload Y.here hx rfl (hb hby hd) hl K) K
theorem own_lloadN (X : own_W p l e R s m args below meth c Z n0 y bytes ml ret T h k n) (q : Nat) {i : Fin 4} (x : Int64) (hd : decode bytes pc = .ok (.lload_n i, 1)) (hq : pc + 1 = q) (hl : Ls[i.val]? = some (.val (.long x))) (K : own_Ends p e below G (T.setTop (mkF m q Ls (.long x :: st)))) : own_Ends p e below G (T.setTop (mkF m pc Ls st)) := by
  subst hq
  obtain ⟨⟨locs, Y, N⟩, eT, hs0, hx, hZ, hby, hml, hown, hret, hlk, hnm⟩ := X
  exact own_pre (fun t K => XS.lloadN Y.here hx rfl (hb hby hd) hl K) K
theorem own_lload (X : own_W p l e R s m args below meth c Z n0 y bytes ml ret T h k n) (q : Nat) {i : Nat} (x : Int64) (hd : decode bytes pc = .ok (.lload i, 2)) (hq : pc + 2 = q) (hl : Ls[i]? = some (.val (.long x))) (K : own_Ends p e below G (T.setTop (mkF m q Ls (.long x :: st)))) : own_Ends p e below G (T.setTop (mkF m pc Ls st)) := by
  subst hq
  obtain ⟨⟨locs, Y, N⟩, eT, hs0, hx, hZ, hby, hml, hown, hret, hlk, hnm⟩ := X
  exact own_pre (fun t K => XS.lload Y.here hx rfl (hb hby hd) hl K) K
theorem own_aloadN (X : own_W p l e R s m args below meth c Z n0 y bytes ml ret T h k n) (q : Nat) {i : Fin 4} (x : Value) (hd : decode bytes pc = .ok (.aload_n i, 1)) (hq : pc + 1 = q) (hl : Ls[i.val]? = some (.val x)) (hv : x.isRef = true) (K : own_Ends p e below G (T.setTop (mkF m q Ls (x :: st)))) : own_Ends p e below G (T.setTop (mkF m pc Ls st)) := by
  subst hq
  obtain ⟨⟨locs, Y, N⟩, eT, hs0, hx, hZ, hby, hml, hown, hret, hlk, hnm⟩ := X
  exact own_pre (fun t K => XS.aloadN Y.here hx rfl (hb hby hd) hl hv K) K
theorem own_aload (X : own_W p l e R s m args below meth c Z n0 y bytes ml ret T h k n) (q : Nat) {i : Nat} (x : Value) (hd : decode bytes pc = .ok (.aload i, 2)) (hq : pc + 2 = q) (hl : Ls[i]? = some (.val x)) (hv : x.isRef = true) (K : own_Ends p e below G (T.setTop (mkF m q Ls (x :: st)))) : own_Ends p e below G (T.setTop (mkF m pc Ls st)) := by
  subst hq
  obtain ⟨⟨locs, Y, N⟩, eT, hs0, hx, hZ, hby, hml, hown, hret, hlk, hnm⟩ := X
  exact own_pre (fun t K => XS.aload Y.here hx rfl (hb hby hd) hl hv K) K
theorem own_istoreN (X : own_W p l e R s m args below meth c Z n0 y bytes ml ret T h k n) (q : Nat) {i : Fin 4} {x : Int32} (l' : Array Slot) (hd : decode bytes pc = .ok (.istore_n i, 1)) (hq : pc + 1 = q) (hl : storeLocals Ls i.val (.int x) = some l') (K : own_Ends p e below G (T.setTop (mkF m q l' st))) : own_Ends p e below G (T.setTop (mkF m pc Ls (.int x :: st))) := by
  subst hq
  obtain ⟨⟨locs, Y, N⟩, eT, hs0, hx, hZ, hby, hml, hown, hret, hlk, hnm⟩ := X
  exact own_pre (fun t K => XS.istoreN Y.here hx rfl (hb hby hd) rfl hl K) K
theorem own_istore (X : own_W p l e R s m args below meth c Z n0 y bytes ml ret T h k n) (q : Nat) {i : Nat} {x : Int32} (l' : Array Slot) (hd : decode bytes pc = .ok (.istore i, 2)) (hq : pc + 2 = q) (hl : storeLocals Ls i (.int x) = some l') (K : own_Ends p e below G (T.setTop (mkF m q l' st))) : own_Ends p e below G (T.setTop (mkF m pc Ls (.int x :: st))) := by
  subst hq
  obtain ⟨⟨locs, Y, N⟩, eT, hs0, hx, hZ, hby, hml, hown, hret, hlk, hnm⟩ := X
  exact own_pre (fun t K => XS.istore Y.here hx rfl (hb hby hd) rfl hl K) K
theorem own_lstoreN (X : own_W p l e R s m args below meth c Z n0 y bytes ml ret T h k n) (q : Nat) {i : Fin 4} {x : Int64} (l' : Array Slot) (hd : decode bytes pc = .ok (.lstore_n i, 1)) (hq : pc + 1 = q) (hl : storeLocals Ls i.val (.long x) = some l') (K : own_Ends p e below G (T.setTop (mkF m q l' st))) : own_Ends p e below G (T.setTop (mkF m pc Ls (.long x :: st))) := by
  subst hq
  obtain ⟨⟨locs, Y, N⟩, eT, hs0, hx, hZ, hby, hml, hown, hret, hlk, hnm⟩ := X
  exact own_pre (fun t K => XS.lstoreN Y.here hx rfl (hb hby hd) rfl hl K) K
theorem own_lstore (X : own_W p l e R s m args below meth c Z n0 y bytes ml ret T h k n) (q : Nat) {i : Nat} {x : Int64} (l' : Array Slot) (hd : decode bytes pc = .ok (.lstore i, 2)) (hq : pc + 2 = q) (hl : storeLocals Ls i (.long x) = some l') (K : own_Ends p e below G (T.setTop (mkF m q l' st))) : own_Ends p e below G (T.setTop (mkF m pc Ls (.long x :: st))) := by
  subst hq
  obtain ⟨⟨locs, Y, N⟩, eT, hs0, hx, hZ, hby, hml, hown, hret, hlk, hnm⟩ := X
  exact own_pre (fun t K => XS.lstore Y.here hx rfl (hb hby hd) rfl hl K) K
theorem own_astoreN (X : own_W p l e R s m args below meth c Z n0 y bytes ml ret T h k n) (q : Nat) {i : Fin 4} {x : Value} (l' : Array Slot) (hd : decode bytes pc = .ok (.astore_n i, 1)) (hq : pc + 1 = q) (hv : x.isRef = true) (hl : storeLocals Ls i.val x = some l') (K : own_Ends p e below G (T.setTop (mkF m q l' st))) : own_Ends p e below G (T.setTop (mkF m pc Ls (x :: st))) := by
  subst hq
  obtain ⟨⟨locs, Y, N⟩, eT, hs0, hx, hZ, hby, hml, hown, hret, hlk, hnm⟩ := X
  exact own_pre (fun t K => XS.astoreN Y.here hx rfl (hb hby hd) rfl hv hl K) K
theorem own_astore (X : own_W p l e R s m args below meth c Z n0 y bytes ml ret T h k n) (q : Nat) {i : Nat} {x : Value} (l' : Array Slot) (hd : decode bytes pc = .ok (.astore i, 2)) (hq : pc + 2 = q) (hv : x.isRef = true) (hl : storeLocals Ls i x = some l') (K : own_Ends p e below G (T.setTop (mkF m q l' st))) : own_Ends p e below G (T.setTop (mkF m pc Ls (x :: st))) := by
  subst hq
  obtain ⟨⟨locs, Y, N⟩, eT, hs0, hx, hZ, hby, hml, hown, hret, hlk, hnm⟩ := X
  exact own_pre (fun t K => XS.astore Y.here hx rfl (hb hby hd) rfl hv hl K) K
theorem own_iconst (X : own_W p l e R s m args below meth c Z n0 y bytes ml ret T h k n) (q : Nat) {i : Int} (x : Int32) (hd : decode bytes pc = .ok (.iconst i, 1)) (hq : pc + 1 = q) (hv : Int32.ofInt i = x) (K : own_Ends p e below G (T.setTop (mkF m q Ls (.int x :: st)))) : own_Ends p e below G (T.setTop (mkF m pc Ls st)) := by
  subst hq
  obtain ⟨⟨locs, Y, N⟩, eT, hs0, hx, hZ, hby, hml, hown, hret, hlk, hnm⟩ := X
  exact own_pre (fun t K => XT.iconstV Y.here hx rfl x (hb hby hd) hv K) K
theorem own_bipush (X : own_W p l e R s m args below meth c Z n0 y bytes ml ret T h k n) (q : Nat) {i : Int} (x : Int32) (hd : decode bytes pc = .ok (.bipush i, 2)) (hq : pc + 2 = q) (hv : (Int8.ofInt i).toInt32 = x) (K : own_Ends p e below G (T.setTop (mkF m q Ls (.int x :: st)))) : own_Ends p e below G (T.setTop (mkF m pc Ls st)) := by
  subst hq
  obtain ⟨⟨locs, Y, N⟩, eT, hs0, hx, hZ, hby, hml, hown, hret, hlk, hnm⟩ := X
  exact own_pre (fun t K => XT.bipushV Y.here hx rfl x (hb hby hd) hv K) K
theorem own_sipush (X : own_W p l e R s m args below meth c Z n0 y bytes ml ret T h k n) (q : Nat) {i : Int} (x : Int32) (hd : decode bytes pc = .ok (.sipush i, 3)) (hq : pc + 3 = q) (hv : (Int16.ofInt i).toInt32 = x) (K : own_Ends p e below G (T.setTop (mkF m q Ls (.int x :: st)))) : own_Ends p e below G (T.setTop (mkF m pc Ls st)) := by
  subst hq
  obtain ⟨⟨locs, Y, N⟩, eT, hs0, hx, hZ, hby, hml, hown, hret, hlk, hnm⟩ := X
  exact own_pre (fun t K => XT.sipushV Y.here hx rfl x (hb hby hd) hv K) K
theorem own_lconst (X : own_W p l e R s m args below meth c Z n0 y bytes ml ret T h k n) (q : Nat) {i : Fin 2} (x : Int64) (hd : decode bytes pc = .ok (.lconst i, 1)) (hq : pc + 1 = q) (hv : Int64.ofNat i = x) (K : own_Ends p e below G (T.setTop (mkF m q Ls (.long x :: st)))) : own_Ends p e below G (T.setTop (mkF m pc Ls st)) := by
  subst hq
  obtain ⟨⟨locs, Y, N⟩, eT, hs0, hx, hZ, hby, hml, hown, hret, hlk, hnm⟩ := X
  exact own_pre (fun t K => XT.lconstV Y.here hx rfl x (hb hby hd) hv K) K
theorem own_anull (X : own_W p l e R s m args below meth c Z n0 y bytes ml ret T h k n) (q : Nat)  (hd : decode bytes pc = .ok (.aconst_null, 1)) (hq : pc + 1 = q)  (K : own_Ends p e below G (T.setTop (mkF m q Ls (.null :: st)))) : own_Ends p e below G (T.setTop (mkF m pc Ls st)) := by
  subst hq
  obtain ⟨⟨locs, Y, N⟩, eT, hs0, hx, hZ, hby, hml, hown, hret, hlk, hnm⟩ := X
  exact own_pre (fun t K => XS.aconstNull Y.here hx rfl (hb hby hd) K) K
theorem own_ldcI (X : own_W p l e R s m args below meth c Z n0 y bytes ml ret T h k n) (q : Nat) {i : Nat} {x : Int32} (hd : decode bytes pc = .ok (.ldc i, 2)) (hq : pc + 2 = q) (w : (Jvm.Cond.constant y.cls i x).before a0 Z = true) (K : own_Ends p e below G (T.setTop (mkF m q Ls (.int x :: st)))) : own_Ends p e below G (T.setTop (mkF m pc Ls st)) := by
  subst hq
  obtain ⟨⟨locs, Y, N⟩, eT, hs0, hx, hZ, hby, hml, hown, hret, hlk, hnm⟩ := X
  exact own_pre (fun t K => Y.ldcI hx hown (mvT hZ w) rfl (hb hby hd) K) K
theorem own_ldcwI (X : own_W p l e R s m args below meth c Z n0 y bytes ml ret T h k n) (q : Nat) {i : Nat} {x : Int32} (hd : decode bytes pc = .ok (.ldc_w i, 3)) (hq : pc + 3 = q) (w : (Jvm.Cond.constant y.cls i x).before a0 Z = true) (K : own_Ends p e below G (T.setTop (mkF m q Ls (.int x :: st)))) : own_Ends p e below G (T.setTop (mkF m pc Ls st)) := by
  subst hq
  obtain ⟨⟨locs, Y, N⟩, eT, hs0, hx, hZ, hby, hml, hown, hret, hlk, hnm⟩ := X
  exact own_pre (fun t K => Y.ldcWI hx hown (mvT hZ w) rfl (hb hby hd) K) K
theorem own_ldc2J (X : own_W p l e R s m args below meth c Z n0 y bytes ml ret T h k n) (q : Nat) {i : Nat} {x : Int64} (hd : decode bytes pc = .ok (.ldc2_w i, 3)) (hq : pc + 3 = q) (w : (Jvm.Cond.constantLong y.cls i x).before a0 Z = true) (K : own_Ends p e below G (T.setTop (mkF m q Ls (.long x :: st)))) : own_Ends p e below G (T.setTop (mkF m pc Ls st)) := by
  subst hq
  obtain ⟨⟨locs, Y, N⟩, eT, hs0, hx, hZ, hby, hml, hown, hret, hlk, hnm⟩ := X
  exact own_pre (fun t K => Y.ldc2J hx hown (mvT hZ w) rfl (hb hby hd) K) K
theorem own_iadd (X : own_W p l e R s m args below meth c Z n0 y bytes ml ret T h k n) (q : Nat) {x z : Int32} (hd : decode bytes pc = .ok (.iadd, 1)) (hq : pc + 1 = q)  (K : own_Ends p e below G (T.setTop (mkF m q Ls (.int (x + z) :: st)))) : own_Ends p e below G (T.setTop (mkF m pc Ls (.int z :: .int x :: st))) := by
  subst hq
  obtain ⟨⟨locs, Y, N⟩, eT, hs0, hx, hZ, hby, hml, hown, hret, hlk, hnm⟩ := X
  exact own_pre (fun t K => XS.iadd Y.here hx rfl (hb hby hd) rfl K) K
theorem own_isub (X : own_W p l e R s m args below meth c Z n0 y bytes ml ret T h k n) (q : Nat) {x z : Int32} (hd : decode bytes pc = .ok (.isub, 1)) (hq : pc + 1 = q)  (K : own_Ends p e below G (T.setTop (mkF m q Ls (.int (x - z) :: st)))) : own_Ends p e below G (T.setTop (mkF m pc Ls (.int z :: .int x :: st))) := by
  subst hq
  obtain ⟨⟨locs, Y, N⟩, eT, hs0, hx, hZ, hby, hml, hown, hret, hlk, hnm⟩ := X
  exact own_pre (fun t K => XS.isub Y.here hx rfl (hb hby hd) rfl K) K
theorem own_imul (X : own_W p l e R s m args below meth c Z n0 y bytes ml ret T h k n) (q : Nat) {x z : Int32} (hd : decode bytes pc = .ok (.imul, 1)) (hq : pc + 1 = q)  (K : own_Ends p e below G (T.setTop (mkF m q Ls (.int (x * z) :: st)))) : own_Ends p e below G (T.setTop (mkF m pc Ls (.int z :: .int x :: st))) := by
  subst hq
  obtain ⟨⟨locs, Y, N⟩, eT, hs0, hx, hZ, hby, hml, hown, hret, hlk, hnm⟩ := X
  exact own_pre (fun t K => XS.imul Y.here hx rfl (hb hby hd) rfl K) K
theorem own_iand (X : own_W p l e R s m args below meth c Z n0 y bytes ml ret T h k n) (q : Nat) {x z : Int32} (hd : decode bytes pc = .ok (.iand, 1)) (hq : pc + 1 = q)  (K : own_Ends p e below G (T.setTop (mkF m q Ls (.int (x &&& z) :: st)))) : own_Ends p e below G (T.setTop (mkF m pc Ls (.int z :: .int x :: st))) := by
  subst hq
  obtain ⟨⟨locs, Y, N⟩, eT, hs0, hx, hZ, hby, hml, hown, hret, hlk, hnm⟩ := X
  exact own_pre (fun t K => XS.iand Y.here hx rfl (hb hby hd) rfl K) K
theorem own_ior (X : own_W p l e R s m args below meth c Z n0 y bytes ml ret T h k n) (q : Nat) {x z : Int32} (hd : decode bytes pc = .ok (.ior, 1)) (hq : pc + 1 = q)  (K : own_Ends p e below G (T.setTop (mkF m q Ls (.int (x ||| z) :: st)))) : own_Ends p e below G (T.setTop (mkF m pc Ls (.int z :: .int x :: st))) := by
  subst hq
  obtain ⟨⟨locs, Y, N⟩, eT, hs0, hx, hZ, hby, hml, hown, hret, hlk, hnm⟩ := X
  exact own_pre (fun t K => XS.ior Y.here hx rfl (hb hby hd) rfl K) K
theorem own_ixor (X : own_W p l e R s m args below meth c Z n0 y bytes ml ret T h k n) (q : Nat) {x z : Int32} (hd : decode bytes pc = .ok (.ixor, 1)) (hq : pc + 1 = q)  (K : own_Ends p e below G (T.setTop (mkF m q Ls (.int (x ^^^ z) :: st)))) : own_Ends p e below G (T.setTop (mkF m pc Ls (.int z :: .int x :: st))) := by
  subst hq
  obtain ⟨⟨locs, Y, N⟩, eT, hs0, hx, hZ, hby, hml, hown, hret, hlk, hnm⟩ := X
  exact own_pre (fun t K => XS.ixor Y.here hx rfl (hb hby hd) rfl K) K
theorem own_ishl (X : own_W p l e R s m args below meth c Z n0 y bytes ml ret T h k n) (q : Nat) {x z : Int32} (hd : decode bytes pc = .ok (.ishl, 1)) (hq : pc + 1 = q)  (K : own_Ends p e below G (T.setTop (mkF m q Ls (.int (x <<< (z &&& 31)) :: st)))) : own_Ends p e below G (T.setTop (mkF m pc Ls (.int z :: .int x :: st))) := by
  subst hq
  obtain ⟨⟨locs, Y, N⟩, eT, hs0, hx, hZ, hby, hml, hown, hret, hlk, hnm⟩ := X
  exact own_pre (fun t K => XS.ishl Y.here hx rfl (hb hby hd) rfl K) K
theorem own_ishr (X : own_W p l e R s m args below meth c Z n0 y bytes ml ret T h k n) (q : Nat) {x z : Int32} (hd : decode bytes pc = .ok (.ishr, 1)) (hq : pc + 1 = q)  (K : own_Ends p e below G (T.setTop (mkF m q Ls (.int (x >>> (z &&& 31)) :: st)))) : own_Ends p e below G (T.setTop (mkF m pc Ls (.int z :: .int x :: st))) := by
  subst hq
  obtain ⟨⟨locs, Y, N⟩, eT, hs0, hx, hZ, hby, hml, hown, hret, hlk, hnm⟩ := X
  exact own_pre (fun t K => XS.ishr Y.here hx rfl (hb hby hd) rfl K) K
theorem own_iushr (X : own_W p l e R s m args below meth c Z n0 y bytes ml ret T h k n) (q : Nat) {x z : Int32} (hd : decode bytes pc = .ok (.iushr, 1)) (hq : pc + 1 = q)  (K : own_Ends p e below G (T.setTop (mkF m q Ls (.int (XT.ushr x z) :: st)))) : own_Ends p e below G (T.setTop (mkF m pc Ls (.int z :: .int x :: st))) := by
  subst hq
  obtain ⟨⟨locs, Y, N⟩, eT, hs0, hx, hZ, hby, hml, hown, hret, hlk, hnm⟩ := X
  exact own_pre (fun t K => XT.iushr Y.here hx rfl (hb hby hd) rfl K) K
theorem own_idiv (X : own_W p l e R s m args below meth c Z n0 y bytes ml ret T h k n) (q : Nat) {x z : Int32} (hd : decode bytes pc = .ok (.idiv, 1)) (hq : pc + 1 = q) (hz : z ≠ 0) (K : own_Ends p e below G (T.setTop (mkF m q Ls (.int (x / z) :: st)))) : own_Ends p e below G (T.setTop (mkF m pc Ls (.int z :: .int x :: st))) := by
  subst hq
  obtain ⟨⟨locs, Y, N⟩, eT, hs0, hx, hZ, hby, hml, hown, hret, hlk, hnm⟩ := X
  exact own_pre (fun t K => XS.idiv Y.here hx rfl (hb hby hd) rfl hz K) K
theorem own_irem (X : own_W p l e R s m args below meth c Z n0 y bytes ml ret T h k n) (q : Nat) {x z : Int32} (hd : decode bytes pc = .ok (.irem, 1)) (hq : pc + 1 = q) (hz : z ≠ 0) (K : own_Ends p e below G (T.setTop (mkF m q Ls (.int (x % z) :: st)))) : own_Ends p e below G (T.setTop (mkF m pc Ls (.int z :: .int x :: st))) := by
  subst hq
  obtain ⟨⟨locs, Y, N⟩, eT, hs0, hx, hZ, hby, hml, hown, hret, hlk, hnm⟩ := X
  exact own_pre (fun t K => iremM Y hx rfl (hb hby hd) rfl hz K) K
theorem own_ineg (X : own_W p l e R s m args below meth c Z n0 y bytes ml ret T h k n) (q : Nat) {x : Int32} (hd : decode bytes pc = .ok (.ineg, 1)) (hq : pc + 1 = q)  (K : own_Ends p e below G (T.setTop (mkF m q Ls (.int (-x) :: st)))) : own_Ends p e below G (T.setTop (mkF m pc Ls (.int x :: st))) := by
  subst hq
  obtain ⟨⟨locs, Y, N⟩, eT, hs0, hx, hZ, hby, hml, hown, hret, hlk, hnm⟩ := X
  exact own_pre (fun t K => XS.ineg Y.here hx rfl (hb hby hd) rfl K) K
theorem own_i2b (X : own_W p l e R s m args below meth c Z n0 y bytes ml ret T h k n) (q : Nat) {x : Int32} (hd : decode bytes pc = .ok (.i2b, 1)) (hq : pc + 1 = q)  (K : own_Ends p e below G (T.setTop (mkF m q Ls (.int (x.toInt8.toInt32) :: st)))) : own_Ends p e below G (T.setTop (mkF m pc Ls (.int x :: st))) := by
  subst hq
  obtain ⟨⟨locs, Y, N⟩, eT, hs0, hx, hZ, hby, hml, hown, hret, hlk, hnm⟩ := X
  exact own_pre (fun t K => XS.i2b Y.here hx rfl (hb hby hd) rfl K) K
theorem own_i2s (X : own_W p l e R s m args below meth c Z n0 y bytes ml ret T h k n) (q : Nat) {x : Int32} (hd : decode bytes pc = .ok (.i2s, 1)) (hq : pc + 1 = q)  (K : own_Ends p e below G (T.setTop (mkF m q Ls (.int (x.toInt16.toInt32) :: st)))) : own_Ends p e below G (T.setTop (mkF m pc Ls (.int x :: st))) := by
  subst hq
  obtain ⟨⟨locs, Y, N⟩, eT, hs0, hx, hZ, hby, hml, hown, hret, hlk, hnm⟩ := X
  exact own_pre (fun t K => XS.i2s Y.here hx rfl (hb hby hd) rfl K) K
theorem own_i2c (X : own_W p l e R s m args below meth c Z n0 y bytes ml ret T h k n) (q : Nat) {x : Int32} (hd : decode bytes pc = .ok (.i2c, 1)) (hq : pc + 1 = q)  (K : own_Ends p e below G (T.setTop (mkF m q Ls (.int (x.toUInt32.toUInt16.toUInt32.toInt32) :: st)))) : own_Ends p e below G (T.setTop (mkF m pc Ls (.int x :: st))) := by
  subst hq
  obtain ⟨⟨locs, Y, N⟩, eT, hs0, hx, hZ, hby, hml, hown, hret, hlk, hnm⟩ := X
  exact own_pre (fun t K => XS.i2c Y.here hx rfl (hb hby hd) rfl K) K
theorem own_i2l (X : own_W p l e R s m args below meth c Z n0 y bytes ml ret T h k n) (q : Nat) {x : Int32} (hd : decode bytes pc = .ok (.i2l, 1)) (hq : pc + 1 = q)  (K : own_Ends p e below G (T.setTop (mkF m q Ls (.long x.toInt64 :: st)))) : own_Ends p e below G (T.setTop (mkF m pc Ls (.int x :: st))) := by
  subst hq
  obtain ⟨⟨locs, Y, N⟩, eT, hs0, hx, hZ, hby, hml, hown, hret, hlk, hnm⟩ := X
  exact own_pre (fun t K => XS.i2l Y.here hx rfl (hb hby hd) rfl K) K
theorem own_l2i (X : own_W p l e R s m args below meth c Z n0 y bytes ml ret T h k n) (q : Nat) {x : Int64} (hd : decode bytes pc = .ok (.l2i, 1)) (hq : pc + 1 = q)  (K : own_Ends p e below G (T.setTop (mkF m q Ls (.int x.toInt32 :: st)))) : own_Ends p e below G (T.setTop (mkF m pc Ls (.long x :: st))) := by
  subst hq
  obtain ⟨⟨locs, Y, N⟩, eT, hs0, hx, hZ, hby, hml, hown, hret, hlk, hnm⟩ := X
  exact own_pre (fun t K => XS.l2i Y.here hx rfl (hb hby hd) rfl K) K
theorem own_ladd (X : own_W p l e R s m args below meth c Z n0 y bytes ml ret T h k n) (q : Nat) {x z : Int64} (hd : decode bytes pc = .ok (.ladd, 1)) (hq : pc + 1 = q)  (K : own_Ends p e below G (T.setTop (mkF m q Ls (.long (x + z) :: st)))) : own_Ends p e below G (T.setTop (mkF m pc Ls (.long z :: .long x :: st))) := by
  subst hq
  obtain ⟨⟨locs, Y, N⟩, eT, hs0, hx, hZ, hby, hml, hown, hret, hlk, hnm⟩ := X
  exact own_pre (fun t K => XS.ladd Y.here hx rfl (hb hby hd) rfl K) K
theorem own_lsub (X : own_W p l e R s m args below meth c Z n0 y bytes ml ret T h k n) (q : Nat) {x z : Int64} (hd : decode bytes pc = .ok (.lsub, 1)) (hq : pc + 1 = q)  (K : own_Ends p e below G (T.setTop (mkF m q Ls (.long (x - z) :: st)))) : own_Ends p e below G (T.setTop (mkF m pc Ls (.long z :: .long x :: st))) := by
  subst hq
  obtain ⟨⟨locs, Y, N⟩, eT, hs0, hx, hZ, hby, hml, hown, hret, hlk, hnm⟩ := X
  exact own_pre (fun t K => XS.lsub Y.here hx rfl (hb hby hd) rfl K) K
theorem own_lmul (X : own_W p l e R s m args below meth c Z n0 y bytes ml ret T h k n) (q : Nat) {x z : Int64} (hd : decode bytes pc = .ok (.lmul, 1)) (hq : pc + 1 = q)  (K : own_Ends p e below G (T.setTop (mkF m q Ls (.long (x * z) :: st)))) : own_Ends p e below G (T.setTop (mkF m pc Ls (.long z :: .long x :: st))) := by
  subst hq
  obtain ⟨⟨locs, Y, N⟩, eT, hs0, hx, hZ, hby, hml, hown, hret, hlk, hnm⟩ := X
  exact own_pre (fun t K => XS.lmul Y.here hx rfl (hb hby hd) rfl K) K
theorem own_land (X : own_W p l e R s m args below meth c Z n0 y bytes ml ret T h k n) (q : Nat) {x z : Int64} (hd : decode bytes pc = .ok (.land, 1)) (hq : pc + 1 = q)  (K : own_Ends p e below G (T.setTop (mkF m q Ls (.long (x &&& z) :: st)))) : own_Ends p e below G (T.setTop (mkF m pc Ls (.long z :: .long x :: st))) := by
  subst hq
  obtain ⟨⟨locs, Y, N⟩, eT, hs0, hx, hZ, hby, hml, hown, hret, hlk, hnm⟩ := X
  exact own_pre (fun t K => XS.land Y.here hx rfl (hb hby hd) rfl K) K
theorem own_lor (X : own_W p l e R s m args below meth c Z n0 y bytes ml ret T h k n) (q : Nat) {x z : Int64} (hd : decode bytes pc = .ok (.lor, 1)) (hq : pc + 1 = q)  (K : own_Ends p e below G (T.setTop (mkF m q Ls (.long (x ||| z) :: st)))) : own_Ends p e below G (T.setTop (mkF m pc Ls (.long z :: .long x :: st))) := by
  subst hq
  obtain ⟨⟨locs, Y, N⟩, eT, hs0, hx, hZ, hby, hml, hown, hret, hlk, hnm⟩ := X
  exact own_pre (fun t K => XS.lor Y.here hx rfl (hb hby hd) rfl K) K
theorem own_lxor (X : own_W p l e R s m args below meth c Z n0 y bytes ml ret T h k n) (q : Nat) {x z : Int64} (hd : decode bytes pc = .ok (.lxor, 1)) (hq : pc + 1 = q)  (K : own_Ends p e below G (T.setTop (mkF m q Ls (.long (x ^^^ z) :: st)))) : own_Ends p e below G (T.setTop (mkF m pc Ls (.long z :: .long x :: st))) := by
  subst hq
  obtain ⟨⟨locs, Y, N⟩, eT, hs0, hx, hZ, hby, hml, hown, hret, hlk, hnm⟩ := X
  exact own_pre (fun t K => XS.lxor Y.here hx rfl (hb hby hd) rfl K) K
theorem own_lushr (X : own_W p l e R s m args below meth c Z n0 y bytes ml ret T h k n) (q : Nat) {x : Int64} {z : Int32} (hd : decode bytes pc = .ok (.lushr, 1)) (hq : pc + 1 = q)  (K : own_Ends p e below G (T.setTop (mkF m q Ls (.long (XT.ushrL x z) :: st)))) : own_Ends p e below G (T.setTop (mkF m pc Ls (.int z :: .long x :: st))) := by
  subst hq
  obtain ⟨⟨locs, Y, N⟩, eT, hs0, hx, hZ, hby, hml, hown, hret, hlk, hnm⟩ := X
  exact own_pre (fun t K => XT.lushr Y.here hx rfl (hb hby hd) rfl K) K
theorem own_ldiv (X : own_W p l e R s m args below meth c Z n0 y bytes ml ret T h k n) (q : Nat) {x z : Int64} (hd : decode bytes pc = .ok (.ldiv, 1)) (hq : pc + 1 = q) (hz : z ≠ 0) (K : own_Ends p e below G (T.setTop (mkF m q Ls (.long (x / z) :: st)))) : own_Ends p e below G (T.setTop (mkF m pc Ls (.long z :: .long x :: st))) := by
  subst hq
  obtain ⟨⟨locs, Y, N⟩, eT, hs0, hx, hZ, hby, hml, hown, hret, hlk, hnm⟩ := X
  exact own_pre (fun t K => XS.ldiv Y.here hx rfl (hb hby hd) rfl hz K) K
theorem own_lrem (X : own_W p l e R s m args below meth c Z n0 y bytes ml ret T h k n) (q : Nat) {x z : Int64} (hd : decode bytes pc = .ok (.lrem, 1)) (hq : pc + 1 = q) (hz : z ≠ 0) (K : own_Ends p e below G (T.setTop (mkF m q Ls (.long (x - (x / z) * z) :: st)))) : own_Ends p e below G (T.setTop (mkF m pc Ls (.long z :: .long x :: st))) := by
  subst hq
  obtain ⟨⟨locs, Y, N⟩, eT, hs0, hx, hZ, hby, hml, hown, hret, hlk, hnm⟩ := X
  exact own_pre (fun t K => XS.lrem Y.here hx rfl (hb hby hd) rfl hz K) K
theorem own_lneg (X : own_W p l e R s m args below meth c Z n0 y bytes ml ret T h k n) (q : Nat) {x : Int64} (hd : decode bytes pc = .ok (.lneg, 1)) (hq : pc + 1 = q)  (K : own_Ends p e below G (T.setTop (mkF m q Ls (.long (-x) :: st)))) : own_Ends p e below G (T.setTop (mkF m pc Ls (.long x :: st))) := by
  subst hq
  obtain ⟨⟨locs, Y, N⟩, eT, hs0, hx, hZ, hby, hml, hown, hret, hlk, hnm⟩ := X
  exact own_pre (fun t K => XS.lneg Y.here hx rfl (hb hby hd) rfl K) K
theorem own_lcmp (X : own_W p l e R s m args below meth c Z n0 y bytes ml ret T h k n) (q : Nat) {x z : Int64} (hd : decode bytes pc = .ok (.lcmp, 1)) (hq : pc + 1 = q)  (K : own_Ends p e below G (T.setTop (mkF m q Ls (.int (XT.cmpL x z) :: st)))) : own_Ends p e below G (T.setTop (mkF m pc Ls (.long z :: .long x :: st))) := by
  subst hq
  obtain ⟨⟨locs, Y, N⟩, eT, hs0, hx, hZ, hby, hml, hown, hret, hlk, hnm⟩ := X
  exact own_pre (fun t K => XT.lcmp Y.here hx rfl (hb hby hd) rfl K) K
theorem own_iinc (X : own_W p l e R s m args below meth c Z n0 y bytes ml ret T h k n) (q : Nat) {i : Nat} {cst : Int} {x : Int32} (v : Int32) (l' : Array Slot) (hd : decode bytes pc = .ok (.iinc i cst, 3)) (hq : pc + 3 = q) (hv : Int32.ofInt cst = v) (hl : Ls[i]? = some (.val (.int x))) (hl' : storeLocals Ls i (.int (x + v)) = some l') (K : own_Ends p e below G (T.setTop (mkF m q l' st))) : own_Ends p e below G (T.setTop (mkF m pc Ls st)) := by
  subst hq
  obtain ⟨⟨locs, Y, N⟩, eT, hs0, hx, hZ, hby, hml, hown, hret, hlk, hnm⟩ := X
  exact own_pre (fun t K => XT.iincV Y.here hx rfl v (hb hby hd) hv hl hl' K) K
theorem own_dup (X : own_W p l e R s m args below meth c Z n0 y bytes ml ret T h k n) (q : Nat) {x : Value} (hd : decode bytes pc = .ok (.dup, 1)) (hq : pc + 1 = q) (hc : x.category = 1) (K : own_Ends p e below G (T.setTop (mkF m q Ls (x :: x :: st)))) : own_Ends p e below G (T.setTop (mkF m pc Ls (x :: st))) := by
  subst hq
  obtain ⟨⟨locs, Y, N⟩, eT, hs0, hx, hZ, hby, hml, hown, hret, hlk, hnm⟩ := X
  exact own_pre (fun t K => XS.dup Y.here hx rfl (hb hby hd) rfl hc K) K
theorem own_dupX1 (X : own_W p l e R s m args below meth c Z n0 y bytes ml ret T h k n) (q : Nat) {x z : Value} (hd : decode bytes pc = .ok (.dup_x1, 1)) (hq : pc + 1 = q) (hc : x.category = 1) (hc' : z.category = 1) (K : own_Ends p e below G (T.setTop (mkF m q Ls (x :: z :: x :: st)))) : own_Ends p e below G (T.setTop (mkF m pc Ls (x :: z :: st))) := by
  subst hq
  obtain ⟨⟨locs, Y, N⟩, eT, hs0, hx, hZ, hby, hml, hown, hret, hlk, hnm⟩ := X
  exact own_pre (fun t K => XS.dupX1 Y.here hx rfl (hb hby hd) rfl hc hc' K) K
theorem own_dup2 (X : own_W p l e R s m args below meth c Z n0 y bytes ml ret T h k n) (q : Nat) {x z : Value} (hd : decode bytes pc = .ok (.dup2, 1)) (hq : pc + 1 = q) (hc : x.category = 1) (hc' : z.category = 1) (K : own_Ends p e below G (T.setTop (mkF m q Ls (x :: z :: x :: z :: st)))) : own_Ends p e below G (T.setTop (mkF m pc Ls (x :: z :: st))) := by
  subst hq
  obtain ⟨⟨locs, Y, N⟩, eT, hs0, hx, hZ, hby, hml, hown, hret, hlk, hnm⟩ := X
  exact own_pre (fun t K => XT.dup2 Y.here hx rfl (hb hby hd) rfl hc hc' K) K
theorem own_dup2L (X : own_W p l e R s m args below meth c Z n0 y bytes ml ret T h k n) (q : Nat) {x : Int64} (hd : decode bytes pc = .ok (.dup2, 1)) (hq : pc + 1 = q)  (K : own_Ends p e below G (T.setTop (mkF m q Ls (.long x :: .long x :: st)))) : own_Ends p e below G (T.setTop (mkF m pc Ls (.long x :: st))) := by
  subst hq
  obtain ⟨⟨locs, Y, N⟩, eT, hs0, hx, hZ, hby, hml, hown, hret, hlk, hnm⟩ := X
  exact own_pre (fun t K => XT.dup2L Y.here hx rfl (hb hby hd) rfl K) K
theorem own_pop (X : own_W p l e R s m args below meth c Z n0 y bytes ml ret T h k n) (q : Nat) {x : Value} (hd : decode bytes pc = .ok (.pop, 1)) (hq : pc + 1 = q) (hc : x.category = 1) (K : own_Ends p e below G (T.setTop (mkF m q Ls st))) : own_Ends p e below G (T.setTop (mkF m pc Ls (x :: st))) := by
  subst hq
  obtain ⟨⟨locs, Y, N⟩, eT, hs0, hx, hZ, hby, hml, hown, hret, hlk, hnm⟩ := X
  exact own_pre (fun t K => XS.pop Y.here hx rfl (hb hby hd) rfl hc K) K
theorem own_goto (X : own_W p l e R s m args below meth c Z n0 y bytes ml ret T h k n) (q : Nat) {o : Int}  (hd : decode bytes pc = .ok (.goto o, 3)) (ho : 0 ≤ (pc : Int) + o) (hq : ((pc : Int) + o).toNat = q)  (K : own_Ends p e below G (T.setTop (mkF m q Ls st))) : own_Ends p e below G (T.setTop (mkF m pc Ls st)) := by
  obtain ⟨⟨locs, Y, N⟩, eT, hs0, hx, hZ, hby, hml, hown, hret, hlk, hnm⟩ := X
  exact own_pre (fun t K => XS.goto Y.here hx rfl rfl (hb hby hd) ho hq K) K
theorem own_ifY (X : own_W p l e R s m args below meth c Z n0 y bytes ml ret T h k n) (q : Nat) {o : Int} {cd : ClassFile.Cond} {x : Int32} (hd : decode bytes pc = .ok (.ifCond cd o, 3)) (ho : 0 ≤ (pc : Int) + o) (hq : ((pc : Int) + o).toNat = q) (hc : ifCond.holds cd x = true) (K : own_Ends p e below G (T.setTop (mkF m q Ls st))) : own_Ends p e below G (T.setTop (mkF m pc Ls (.int x :: st))) := by
  obtain ⟨⟨locs, Y, N⟩, eT, hs0, hx, hZ, hby, hml, hown, hret, hlk, hnm⟩ := X
  exact own_pre (fun t K => XS.ifYes Y.here hx rfl rfl (hb hby hd) rfl hc ho hq K) K
theorem own_ifN (X : own_W p l e R s m args below meth c Z n0 y bytes ml ret T h k n) (q : Nat) {o : Int} {cd : ClassFile.Cond} {x : Int32} (hd : decode bytes pc = .ok (.ifCond cd o, 3)) (hq : pc + 3 = q) (hc : ifCond.holds cd x = false) (K : own_Ends p e below G (T.setTop (mkF m q Ls st))) : own_Ends p e below G (T.setTop (mkF m pc Ls (.int x :: st))) := by
  subst hq
  obtain ⟨⟨locs, Y, N⟩, eT, hs0, hx, hZ, hby, hml, hown, hret, hlk, hnm⟩ := X
  exact own_pre (fun t K => XS.ifNo Y.here hx rfl (hb hby hd) rfl hc K) K
theorem own_icY (X : own_W p l e R s m args below meth c Z n0 y bytes ml ret T h k n) (q : Nat) {o : Int} {cd : ClassFile.Cond} {x z : Int32} (hd : decode bytes pc = .ok (.if_icmp cd o, 3)) (ho : 0 ≤ (pc : Int) + o) (hq : ((pc : Int) + o).toNat = q) (hc : if_icmp.holds cd x z = true) (K : own_Ends p e below G (T.setTop (mkF m q Ls st))) : own_Ends p e below G (T.setTop (mkF m pc Ls (.int z :: .int x :: st))) := by
  obtain ⟨⟨locs, Y, N⟩, eT, hs0, hx, hZ, hby, hml, hown, hret, hlk, hnm⟩ := X
  exact own_pre (fun t K => XS.icmpYes Y.here hx rfl rfl (hb hby hd) rfl hc ho hq K) K
theorem own_icN (X : own_W p l e R s m args below meth c Z n0 y bytes ml ret T h k n) (q : Nat) {o : Int} {cd : ClassFile.Cond} {x z : Int32} (hd : decode bytes pc = .ok (.if_icmp cd o, 3)) (hq : pc + 3 = q) (hc : if_icmp.holds cd x z = false) (K : own_Ends p e below G (T.setTop (mkF m q Ls st))) : own_Ends p e below G (T.setTop (mkF m pc Ls (.int z :: .int x :: st))) := by
  subst hq
  obtain ⟨⟨locs, Y, N⟩, eT, hs0, hx, hZ, hby, hml, hown, hret, hlk, hnm⟩ := X
  exact own_pre (fun t K => XS.icmpNo Y.here hx rfl (hb hby hd) rfl hc K) K
theorem own_nullY (X : own_W p l e R s m args below meth c Z n0 y bytes ml ret T h k n) (q : Nat) {o : Int}  (hd : decode bytes pc = .ok (.ifnull o, 3)) (ho : 0 ≤ (pc : Int) + o) (hq : ((pc : Int) + o).toNat = q)  (K : own_Ends p e below G (T.setTop (mkF m q Ls st))) : own_Ends p e below G (T.setTop (mkF m pc Ls (.null :: st))) := by
  obtain ⟨⟨locs, Y, N⟩, eT, hs0, hx, hZ, hby, hml, hown, hret, hlk, hnm⟩ := X
  exact own_pre (fun t K => XS.ifnullYes Y.here hx rfl rfl (hb hby hd) rfl ho hq K) K
theorem own_nullN (X : own_W p l e R s m args below meth c Z n0 y bytes ml ret T h k n) (q : Nat) {o : Int} {b : Addr} (hd : decode bytes pc = .ok (.ifnull o, 3)) (hq : pc + 3 = q)  (K : own_Ends p e below G (T.setTop (mkF m q Ls st))) : own_Ends p e below G (T.setTop (mkF m pc Ls (.ref b :: st))) := by
  subst hq
  obtain ⟨⟨locs, Y, N⟩, eT, hs0, hx, hZ, hby, hml, hown, hret, hlk, hnm⟩ := X
  exact own_pre (fun t K => XS.ifnullNo Y.here hx rfl (hb hby hd) rfl K) K
theorem own_nonnullY (X : own_W p l e R s m args below meth c Z n0 y bytes ml ret T h k n) (q : Nat) {o : Int} {b : Addr} (hd : decode bytes pc = .ok (.ifnonnull o, 3)) (ho : 0 ≤ (pc : Int) + o) (hq : ((pc : Int) + o).toNat = q)  (K : own_Ends p e below G (T.setTop (mkF m q Ls st))) : own_Ends p e below G (T.setTop (mkF m pc Ls (.ref b :: st))) := by
  obtain ⟨⟨locs, Y, N⟩, eT, hs0, hx, hZ, hby, hml, hown, hret, hlk, hnm⟩ := X
  exact own_pre (fun t K => XS.ifnonnullYes Y.here hx rfl rfl (hb hby hd) rfl ho hq K) K
theorem own_nonnullN (X : own_W p l e R s m args below meth c Z n0 y bytes ml ret T h k n) (q : Nat) {o : Int}  (hd : decode bytes pc = .ok (.ifnonnull o, 3)) (hq : pc + 3 = q)  (K : own_Ends p e below G (T.setTop (mkF m q Ls st))) : own_Ends p e below G (T.setTop (mkF m pc Ls (.null :: st))) := by
  subst hq
  obtain ⟨⟨locs, Y, N⟩, eT, hs0, hx, hZ, hby, hml, hown, hret, hlk, hnm⟩ := X
  exact own_pre (fun t K => XS.ifnonnullNo Y.here hx rfl (hb hby hd) rfl K) K
theorem own_acY (X : own_W p l e R s m args below meth c Z n0 y bytes ml ret T h k n) (q : Nat) {o : Int} {cd : ClassFile.ACond} {x z : Value} (hd : decode bytes pc = .ok (.if_acmp cd o, 3)) (ho : 0 ≤ (pc : Int) + o) (hq : ((pc : Int) + o).toNat = q) (hx' : x.isRef = true) (hz' : z.isRef = true) (hc : XT.acmp cd x z = true) (K : own_Ends p e below G (T.setTop (mkF m q Ls st))) : own_Ends p e below G (T.setTop (mkF m pc Ls (z :: x :: st))) := by
  obtain ⟨⟨locs, Y, N⟩, eT, hs0, hx, hZ, hby, hml, hown, hret, hlk, hnm⟩ := X
  exact own_pre (fun t K => XT.acmpYes Y.here hx rfl rfl (hb hby hd) rfl hx' hz' hc ho hq K) K
theorem own_acN (X : own_W p l e R s m args below meth c Z n0 y bytes ml ret T h k n) (q : Nat) {o : Int} {cd : ClassFile.ACond} {x z : Value} (hd : decode bytes pc = .ok (.if_acmp cd o, 3)) (hq : pc + 3 = q) (hx' : x.isRef = true) (hz' : z.isRef = true) (hc : XT.acmp cd x z = false) (K : own_Ends p e below G (T.setTop (mkF m q Ls st))) : own_Ends p e below G (T.setTop (mkF m pc Ls (z :: x :: st))) := by
  subst hq
  obtain ⟨⟨locs, Y, N⟩, eT, hs0, hx, hZ, hby, hml, hown, hret, hlk, hnm⟩ := X
  exact own_pre (fun t K => XT.acmpNo Y.here hx rfl (hb hby hd) rfl hx' hz' hc K) K
theorem own_getF (X : own_W p l e R s m args below meth c Z n0 y bytes ml ret T h k n) (q : Nat) {R0 O nm d : String} {i : Nat} {a : Addr} {v : Value} (hd : decode bytes pc = .ok (.getfield i, 3)) (hq : pc + 3 = q) (w : (Jvm.Cond.fieldLink y.cls i R0 nm d).before a0 Z = true) (via : Via Z R0 O nm d) (F : Fld Z h a O nm d v)
    (K : ∀ T', own_W p l e R s m args below meth c Z n0 y bytes ml ret T' h k n → own_Ends p e below G (T'.setTop (mkF m q Ls (v :: st)))) : own_Ends p e below G (T.setTop (mkF m pc Ls (.ref a :: st))) := by
  subst hq
  obtain ⟨⟨locs, Y, N⟩, eT, hs0, hx, hZ, hby, hml, hown, hret, hlk, hnm⟩ := X
  obtain ⟨T1, Y1, e1, st1⟩ := getF Y hx hZ hown (host := "") (Or.inl w) via eT F (g := mkF m pc Ls (.ref a :: st)) rfl rfl (hb hby hd)
  exact own_pre st1 (K T1 ⟨⟨locs, Y1, N⟩, e1, hs0, hx, hZ, hby, hml, hown, hret, hlk, hnm⟩)
theorem own_getFN (X : own_W p l e R s m args below meth c Z n0 y bytes ml ret T h k n) (q : Nat) {R0 O nm d host : String} {i : Nat} {a : Addr} {v : Value} (hd : decode bytes pc = .ok (.getfield i, 3)) (hq : pc + 3 = q) (w : (Jvm.Cond.fieldLinkNest y.cls i R0 nm d host).before a0 Z = true) (via : Via Z R0 O nm d) (F : Fld Z h a O nm d v)
    (K : ∀ T', own_W p l e R s m args below meth c Z n0 y bytes ml ret T' h k n → own_Ends p e below G (T'.setTop (mkF m q Ls (v :: st)))) : own_Ends p e below G (T.setTop (mkF m pc Ls (.ref a :: st))) := by
  subst hq
  obtain ⟨⟨locs, Y, N⟩, eT, hs0, hx, hZ, hby, hml, hown, hret, hlk, hnm⟩ := X
  obtain ⟨T1, Y1, e1, st1⟩ := getF Y hx hZ hown (Or.inr w) via eT F (g := mkF m pc Ls (.ref a :: st)) rfl rfl (hb hby hd)
  exact own_pre st1 (K T1 ⟨⟨locs, Y1, N⟩, e1, hs0, hx, hZ, hby, hml, hown, hret, hlk, hnm⟩)
theorem own_getS (X : own_W p l e R s m args below meth c Z n0 y bytes ml ret T h k n) (q : Nat) {R0 O nm d : String} {i : Nat} {v : Value} (hd : decode bytes pc = .ok (.getstatic i, 3)) (hq : pc + 3 = q) (w : (Jvm.Cond.fieldLink y.cls i R0 nm d).before a0 Z = true) (via : Via Z R0 O nm d) (F : Sta Z h O nm d v)
    (K : ∀ T', own_W p l e R s m args below meth c Z n0 y bytes ml ret T' h k n → own_Ends p e below G (T'.setTop (mkF m q Ls (v :: st)))) : own_Ends p e below G (T.setTop (mkF m pc Ls st)) := by
  subst hq
  obtain ⟨⟨locs, Y, N⟩, eT, hs0, hx, hZ, hby, hml, hown, hret, hlk, hnm⟩ := X
  obtain ⟨T1, Y1, e1, st1⟩ := getS2 Y hx hZ hown (host := "") (Or.inl w) via eT F (g := mkF m pc Ls st) rfl (hb hby hd)
  exact own_pre st1 (K T1 ⟨⟨locs, Y1, N⟩, e1, hs0, hx, hZ, hby, hml, hown, hret, hlk, hnm⟩)
theorem own_getSN (X : own_W p l e R s m args below meth c Z n0 y bytes ml ret T h k n) (q : Nat) {R0 O nm d host : String} {i : Nat} {v : Value} (hd : decode bytes pc = .ok (.getstatic i, 3)) (hq : pc + 3 = q) (w : (Jvm.Cond.fieldLinkNest y.cls i R0 nm d host).before a0 Z = true) (via : Via Z R0 O nm d) (F : Sta Z h O nm d v)
    (K : ∀ T', own_W p l e R s m args below meth c Z n0 y bytes ml ret T' h k n → own_Ends p e below G (T'.setTop (mkF m q Ls (v :: st)))) : own_Ends p e below G (T.setTop (mkF m pc Ls st)) := by
  subst hq
  obtain ⟨⟨locs, Y, N⟩, eT, hs0, hx, hZ, hby, hml, hown, hret, hlk, hnm⟩ := X
  obtain ⟨T1, Y1, e1, st1⟩ := getS2 Y hx hZ hown (Or.inr w) via eT F (g := mkF m pc Ls st) rfl (hb hby hd)
  exact own_pre st1 (K T1 ⟨⟨locs, Y1, N⟩, e1, hs0, hx, hZ, hby, hml, hown, hret, hlk, hnm⟩)
theorem own_putF (X : own_W p l e R s m args below meth c Z n0 y bytes ml ret T h k n) (q : Nat) {R0 O nm d C : String} {i kk : Nat} (ty : FieldType) {a : Addr} {v old : Value} (hd : decode bytes pc = .ok (.putfield i, 3)) (hq : pc + 3 = q) (w : (Jvm.Cond.fieldLink y.cls i R0 nm d).before a0 Z = true) (via : Via Z R0 O nm d) (F : Fld Z h a O nm d old) (E : Exa Z h a C)
    (L : (Jvm.Cond.lays C O nm d).before a0 Z = true ∨ ((Jvm.Cond.laysFinal C O nm d).before a0 Z = true ∧ y.cls = O ∧ y.name = "<init>")) (wi : (Jvm.Cond.instantiable C kk).before a0 Z = true) (hty : parseFieldDescriptor d = some ty) (hn : narrow ty v = v) (hf : fits ty v = true) (hnew : n0 ≤ a)
    (K : ∀ T' h', own_W p l e R s m args below meth c Z n0 y bytes ml ret T' h' k n → Wr h h' a (Jvm.RoadKit.slotOf Z O nm d) v → own_Ends p e below G (T'.setTop (mkF m q Ls st))) : own_Ends p e below G (T.setTop (mkF m pc Ls (v :: .ref a :: st))) := by
  subst hq
  obtain ⟨⟨locs, Y, N⟩, eT, hs0, hx, hZ, hby, hml, hown, hret, hlk, hnm⟩ := X
  obtain ⟨T1, h1, Y1, e1, W1, st1⟩ := putF Y hx hZ hown (host := "") (Or.inl w) via eT F E (L.imp id fun z => ⟨z.1, z.2.1, hnm.trans z.2.2⟩) wi hty hn hf (g := mkF m pc Ls (v :: .ref a :: st)) rfl rfl (hb hby hd)
  exact own_pre st1 (K T1 h1 ⟨⟨_, Y1, Fr.snoc Y1 N hnew⟩, e1, (by rw [W1.size]; exact hs0), hx, hZ, hby, hml, hown, hret, hlk, hnm⟩ W1)
theorem own_putFN (X : own_W p l e R s m args below meth c Z n0 y bytes ml ret T h k n) (q : Nat) {R0 O nm d C : String} {i kk : Nat} (ty : FieldType) {a : Addr} {v v' old : Value} (hd : decode bytes pc = .ok (.putfield i, 3)) (hq : pc + 3 = q) (w : (Jvm.Cond.fieldLink y.cls i R0 nm d).before a0 Z = true) (via : Via Z R0 O nm d) (F : Fld Z h a O nm d old) (E : Exa Z h a C)
    (L : (Jvm.Cond.lays C O nm d).before a0 Z = true ∨ ((Jvm.Cond.laysFinal C O nm d).before a0 Z = true ∧ y.cls = O ∧ y.name = "<init>")) (wi : (Jvm.Cond.instantiable C kk).before a0 Z = true) (hty : parseFieldDescriptor d = some ty) (hn : narrow ty v = v') (hf : fits ty v' = true) (hnew : n0 ≤ a)
    (K : ∀ T' h', own_W p l e R s m args below meth c Z n0 y bytes ml ret T' h' k n → Wr h h' a (Jvm.RoadKit.slotOf Z O nm d) v' → own_Ends p e below G (T'.setTop (mkF m q Ls st))) : own_Ends p e below G (T.setTop (mkF m pc Ls (v :: .ref a :: st))) := by
  subst hq
  obtain ⟨⟨locs, Y, N⟩, eT, hs0, hx, hZ, hby, hml, hown, hret, hlk, hnm⟩ := X
  obtain ⟨T1, h1, Y1, e1, W1, st1⟩ := putFN Y hx hZ hown w via eT F E (L.imp id fun z => ⟨z.1, z.2.1, hnm.trans z.2.2⟩) wi hty hn hf (g := mkF m pc Ls (v :: .ref a :: st)) rfl rfl (hb hby hd)
  exact own_pre st1 (K T1 h1 ⟨⟨_, Y1, Fr.snoc Y1 N hnew⟩, e1, (by rw [W1.size]; exact hs0), hx, hZ, hby, hml, hown, hret, hlk, hnm⟩ W1)
theorem own_new (X : own_W p l e R s m args below meth c Z n0 y bytes ml ret T h k n) (q : Nat) {C : String} {i sl : Nat} (hd : decode bytes pc = .ok (.new i, 3)) (hq : pc + 3 = q) (w : (Jvm.Cond.classLink y.cls i C).before a0 Z = true) (wi : (Jvm.Cond.instantiable C sl).before a0 Z = true) (wz : (Jvm.Cond.initialized C).before a0 Z = true) (hc : k + 1 ≤ R.cells) (hl : n + sl ≤ R.slots)
    (K : ∀ T' h' a, a = h.size → own_W p l e R s m args below meth c Z n0 y bytes ml ret T' h' (k + 1) (n + sl) → Ext h h' → Exa Z h' a C → (∀ {O nm d : String} {ty : FieldType}, Laid Z a0 C O nm d → parseFieldDescriptor d = some ty → Fld Z h' a O nm d (defaultValue ty)) → own_Ends p e below G (T'.setTop (mkF m q Ls (.ref a :: st)))) : own_Ends p e below G (T.setTop (mkF m pc Ls st)) := by
  subst hq
  obtain ⟨⟨locs, Y, N⟩, eT, hs0, hx, hZ, hby, hml, hown, hret, hlk, hnm⟩ := X
  obtain ⟨T1, h1, Y1, e1, E1, A1, D1, -, st1⟩ := newO Y hx hZ hown w wi wz eT (g := mkF m pc Ls st) rfl (hb hby hd) hc hl
  exact own_pre st1 (K T1 h1 _ rfl ⟨⟨locs, Y1, N⟩, e1, (Nat.le_trans hs0 E1.1), hx, hZ, hby, hml, hown, hret, hlk, hnm⟩ E1 A1 D1)
theorem own_castY (X : own_W p l e R s m args below meth c Z n0 y bytes ml ret T h k n) (q : Nat) {C : String} {i : Nat} {a : Addr} (hd : decode bytes pc = .ok (.checkcast i, 3)) (hq : pc + 3 = q) (w : (Jvm.Cond.classLink y.cls i C).before a0 Z = true) (F : Ins Z h a C true)
    (K : ∀ T', own_W p l e R s m args below meth c Z n0 y bytes ml ret T' h k n → own_Ends p e below G (T'.setTop (mkF m q Ls (.ref a :: st)))) : own_Ends p e below G (T.setTop (mkF m pc Ls (.ref a :: st))) := by
  subst hq
  obtain ⟨⟨locs, Y, N⟩, eT, hs0, hx, hZ, hby, hml, hown, hret, hlk, hnm⟩ := X
  obtain ⟨T1, Y1, e1, st1⟩ := castY Y hx hZ hown w eT F (g := mkF m pc Ls (.ref a :: st)) rfl rfl (hb hby hd)
  exact own_pre st1 (K T1 ⟨⟨locs, Y1, N⟩, e1, hs0, hx, hZ, hby, hml, hown, hret, hlk, hnm⟩)
theorem own_castNull (X : own_W p l e R s m args below meth c Z n0 y bytes ml ret T h k n) (q : Nat) {i : Nat} (hd : decode bytes pc = .ok (.checkcast i, 3)) (hq : pc + 3 = q) (K : own_Ends p e below G (T.setTop (mkF m q Ls (.null :: st)))) : own_Ends p e below G (T.setTop (mkF m pc Ls (.null :: st))) := by
  subst hq
  obtain ⟨⟨locs, Y, N⟩, eT, hs0, hx, hZ, hby, hml, hown, hret, hlk, hnm⟩ := X
  exact own_pre (fun t K => Y.checkcastNull hx (g := mkF m pc Ls (.null :: st)) rfl rfl (hb hby hd) t K) K
theorem own_instY (X : own_W p l e R s m args below meth c Z n0 y bytes ml ret T h k n) (q : Nat) {C : String} {i : Nat} {a : Addr} (hd : decode bytes pc = .ok (.instanceof i, 3)) (hq : pc + 3 = q) (w : (Jvm.Cond.classLink y.cls i C).before a0 Z = true) (F : Ins Z h a C true)
    (K : ∀ T', own_W p l e R s m args below meth c Z n0 y bytes ml ret T' h k n → own_Ends p e below G (T'.setTop (mkF m q Ls (.int 1 :: st)))) : own_Ends p e below G (T.setTop (mkF m pc Ls (.ref a :: st))) := by
  subst hq
  obtain ⟨⟨locs, Y, N⟩, eT, hs0, hx, hZ, hby, hml, hown, hret, hlk, hnm⟩ := X
  obtain ⟨T1, Y1, e1, st1⟩ := instY Y hx hZ hown w eT F (g := mkF m pc Ls (.ref a :: st)) rfl rfl (hb hby hd)
  exact own_pre st1 (K T1 ⟨⟨locs, Y1, N⟩, e1, hs0, hx, hZ, hby, hml, hown, hret, hlk, hnm⟩)
theorem own_instNo (X : own_W p l e R s m args below meth c Z n0 y bytes ml ret T h k n) (q : Nat) {C D : String} {i : Nat} {a : Addr} (hd : decode bytes pc = .ok (.instanceof i, 3)) (hq : pc + 3 = q) (w : (Jvm.Cond.classLink y.cls i C).before a0 Z = true) (E : Exa Z h a D) (F : ∃ c t, Z.vm.findClass D = some c ∧ Z.vm.findClass C = some t ∧ Z.vm.assignable c t = false)
    (K : ∀ T', own_W p l e R s m args below meth c Z n0 y bytes ml ret T' h k n → own_Ends p e below G (T'.setTop (mkF m q Ls (.int 0 :: st)))) : own_Ends p e below G (T.setTop (mkF m pc Ls (.ref a :: st))) := by
  subst hq
  obtain ⟨⟨locs, Y, N⟩, eT, hs0, hx, hZ, hby, hml, hown, hret, hlk, hnm⟩ := X
  obtain ⟨T1, Y1, e1, st1⟩ := instNo Y hx hZ hown w eT E F (g := mkF m pc Ls (.ref a :: st)) rfl rfl (hb hby hd)
  exact own_pre st1 (K T1 ⟨⟨locs, Y1, N⟩, e1, hs0, hx, hZ, hby, hml, hown, hret, hlk, hnm⟩)
theorem own_initO (X : own_W p l e R s m args below meth c Z n0 y bytes ml ret T h k n) (q : Nat) {i : Nat} {a : Addr} (hd : decode bytes pc = .ok (.invokespecial i, 3)) (hq : pc + 3 = q) (w1 : (Jvm.Cond.methodLink y.cls i Lib.objectInit).before a0 Z = true) (w2 : (Jvm.Cond.instanceMethod Lib.objectInit).before a0 Z = true) (w3 : (Jvm.Cond.code Lib.objectInit ⟨#[0xb1]⟩ 1 none).before a0 Z = true)
    (hsz : Ls.size = ml) (hf : 1 ≤ R.frames) (hl : (st.map fun v => v.category).sum + 12 ≤ R.locals) (K : ∀ T', own_W p l e R s m args below meth c Z n0 y bytes ml ret T' h k n → own_Ends p e below G (T'.setTop (mkF m q Ls st))) : own_Ends p e below G (T.setTop (mkF m pc Ls (.ref a :: st))) := by
  subst hq
  obtain ⟨⟨locs, Y, N⟩, eT, hs0, hx, hZ, hby, hml, hown, hret, hlk, hnm⟩ := X
  obtain ⟨T1, Y1, e1, st1⟩ := initO Y hx hZ hown w1 w2 w3 eT (g := mkF m pc Ls (.ref a :: st)) rfl (hsz.trans hml.symm) rfl (hb hby hd) hf (W := (st.map fun v => v.category).sum) (by show 2 * 0 + _ ≤ _; omega) hl
  exact own_pre st1 (K T1 ⟨⟨locs, Y1, N⟩, e1, hs0, hx, hZ, hby, hml, hown, hret, hlk, hnm⟩)
theorem own_callS (X : own_W p l e R s m args below meth c Z n0 y bytes ml ret T h k n) (q : Nat) {y' : MethodName} {bytes' : ByteArray} {ml' : Nat} {ret' : Option FieldType} {rm : Room} {as' : Array Value} {Q : Option Value → Heap → Prop} {i : Nat} {ps : List FieldType} {rr : Option FieldType} (argsL rest : List Value) (hd : decode bytes pc = .ok (.invokestatic i, 3)) (hq : pc + 3 = q) (w1 : (Jvm.Cond.methodLink y.cls i y').before a0 Z = true) (w2 : (Jvm.Cond.static y').before a0 Z = true) (w3 : (Jvm.Cond.initialized y'.cls).before a0 Z = true) (w4 : (Jvm.Cond.code y' bytes' ml' ret').before a0 Z = true) (hy : y'.cls ≠ "java/lang/invoke/MethodHandle" ∧ y'.cls ≠ "java/lang/invoke/VarHandle")
    (M : own_Met l y' bytes' ml' ret' rm Z as' h n0 Q) (hkeep : ∀ v h', Q v h' → h.size ≤ h'.size) (has : as' = argsL.toArray) (hpd : parseMethodDescriptor y'.desc = some ⟨ps, rr⟩) (hlen : argsL.length = ps.length) (hst : st = argsL.reverse ++ rest) (hsz : Ls.size = ml) (hf : rm.frames + 1 ≤ R.frames) (hl : (rest.map fun v => v.category).sum + (ml' + 11) + rm.locals ≤ R.locals) (hck : k + rm.cells ≤ R.cells) (hcn : n + rm.slots ≤ R.slots)
    (K : ∀ v T' h', own_W p l e R s m args below meth c Z n0 y bytes ml ret T' h' (k + rm.cells) (n + rm.slots) → Q v h' → own_Ends p e below G (T'.setTop (mkF m q Ls (v.toList ++ rest)))) : own_Ends p e below G (T.setTop (mkF m pc Ls st)) := by
  subst hq has hst
  obtain ⟨⟨locs, Y, N⟩, eT, hs0, hx, hZ, hby, hml, hown, hret, hlk, hnm⟩ := X
  obtain ⟨v1, _, ⟨T1, L1, k1, n1⟩, -, Y1, ⟨Lc1, hQ1, l1, c1, s1⟩, st1⟩ := Jvm.LawKit.callS Y hx hown (mvT hZ w1) (mvT hZ w2) (mvT hZ w3) (mvT hZ w4) hy (backOf (Q := fun v h L => Q v h ∧ Fr n0 L) (W := (rest.map fun v => v.category).sum) (M []) hZ w4 w3 hf (by omega)) (g := mkF m pc Ls (argsL.reverse ++ rest)) rfl (hsz.trans hml.symm) (argsL := argsL) (rest := rest) (lenOf hpd hlen) rfl (by show 2 * 0 + _ ≤ _; omega) (hb hby hd) (fun _ _ => ⟨rfl, eT, hck, hcn⟩)
  dsimp only [Pt.U, Pt.locs, Pt.cells, Pt.slots] at Y1 l1 c1 s1 st1 hQ1
  subst l1 c1 s1
  exact own_pre st1 (K _ _ _ ⟨⟨_, Y1, Fr.app N hQ1.2⟩, rfl, Nat.le_trans hs0 (hkeep _ _ hQ1.1), hx, hZ, hby, hml, hown, hret, hlk, hnm⟩ hQ1.1)
theorem own_init (X : own_W p l e R s m args below meth c Z n0 y bytes ml ret T h k n) (q : Nat) {y' : MethodName} {bytes' : ByteArray} {ml' : Nat} {rm : Room} {as' : Array Value} {Q : Option Value → Heap → Prop} {i : Nat} {ps : List FieldType} {rr : Option FieldType} {a : Addr} (argsL rest : List Value) (hd : decode bytes pc = .ok (.invokespecial i, 3)) (hq : pc + 3 = q) (w1 : (Jvm.Cond.methodLink y.cls i y').before a0 Z = true) (w2 : (Jvm.Cond.instanceMethod y').before a0 Z = true) (w3 : (Jvm.Cond.initialized y'.cls).before a0 Z = true) (w4 : (Jvm.Cond.code y' bytes' ml' none).before a0 Z = true) (hy : y'.cls ≠ "java/lang/invoke/MethodHandle" ∧ y'.cls ≠ "java/lang/invoke/VarHandle") (hy1 : y'.name = "<init>")
    (M : own_Met l y' bytes' ml' none rm Z as' h n0 Q) (hkeep : ∀ v h', Q v h' → h.size ≤ h'.size) (has : as' = (.ref a :: argsL).toArray) (hpd : parseMethodDescriptor y'.desc = some ⟨ps, rr⟩) (hlen : argsL.length = ps.length) (hst : st = argsL.reverse ++ .ref a :: rest) (hsz : Ls.size = ml) (hf : rm.frames + 1 ≤ R.frames) (hl : (rest.map fun v => v.category).sum + (ml' + 11) + rm.locals ≤ R.locals) (hck : k + rm.cells ≤ R.cells) (hcn : n + rm.slots ≤ R.slots)
    (K : ∀ v T' h', own_W p l e R s m args below meth c Z n0 y bytes ml ret T' h' (k + rm.cells) (n + rm.slots) → Q v h' → own_Ends p e below G (T'.setTop (mkF m q Ls (v.toList ++ rest)))) : own_Ends p e below G (T.setTop (mkF m pc Ls st)) := by
  subst hq has hst
  obtain ⟨⟨locs, Y, N⟩, eT, hs0, hx, hZ, hby, hml, hown, hret, hlk, hnm⟩ := X
  obtain ⟨v1, _, ⟨T1, L1, k1, n1⟩, -, Y1, ⟨Lc1, hQ1, l1, c1, s1⟩, st1⟩ := Y.specialBack hx hy1 hown (mvT hZ w1) (mvT hZ w2) (mvT hZ w4) hy (backOf (Q := fun v h L => Q v h ∧ Fr n0 L) (W := (rest.map fun v => v.category).sum) (M []) hZ w4 w3 hf (by omega)) (g := mkF m pc Ls (argsL.reverse ++ .ref a :: rest)) rfl (hsz.trans hml.symm) (Steps.refl _) (a := a) (argsL := argsL) (rest := rest) (lenOf hpd hlen) rfl (by show 2 * 0 + _ ≤ _; omega) (hb hby hd) (fun _ _ => ⟨rfl, eT, hck, hcn⟩)
  dsimp only [Pt.U, Pt.locs, Pt.cells, Pt.slots] at Y1 l1 c1 s1 st1 hQ1
  subst l1 c1 s1
  exact own_pre (fun t K => st1.trans K) (K _ _ _ ⟨⟨_, Y1, Fr.app N hQ1.2⟩, rfl, Nat.le_trans hs0 (hkeep _ _ hQ1.1), hx, hZ, hby, hml, hown, hret, hlk, hnm⟩ hQ1.1)
theorem own_callV (X : own_W p l e R s m args below meth c Z n0 y bytes ml ret T h k n) (q : Nat) {y' : MethodName} {bytes' : ByteArray} {ml' : Nat} {ret' : Option FieldType} {rm : Room} {as' : Array Value} {Q : Option Value → Heap → Prop} {i : Nat} {ps : List FieldType} {rr : Option FieldType} {z : MethodName} {C : String} {a : Addr} (argsL rest : List Value) (hd : decode bytes pc = .ok (.invokevirtual i, 3)) (hq : pc + 3 = q) (w1 : (Jvm.Cond.methodLink y.cls i z).before a0 Z = true) (w2 : (Jvm.Cond.declares z).before a0 Z = true) (nf : NotFace s z) (w5 : (Jvm.Cond.selects C z y').before a0 Z = true) (w6 : (Jvm.Cond.instanceMethod y').before a0 Z = true) (w3 : (Jvm.Cond.initialized y'.cls).before a0 Z = true) (w4 : (Jvm.Cond.code y' bytes' ml' ret').before a0 Z = true) (hy : z.cls ≠ "java/lang/invoke/MethodHandle" ∧ z.cls ≠ "java/lang/invoke/VarHandle") (E : Exa Z h a C)
    (M : own_Met l y' bytes' ml' ret' rm Z as' h n0 Q) (hkeep : ∀ v h', Q v h' → h.size ≤ h'.size) (has : as' = (.ref a :: argsL).toArray) (hpd : parseMethodDescriptor z.desc = some ⟨ps, rr⟩) (hlen : argsL.length = ps.length) (hst : st = argsL.reverse ++ .ref a :: rest) (hsz : Ls.size = ml) (hf : rm.frames + 1 ≤ R.frames) (hl : (rest.map fun v => v.category).sum + (ml' + 11) + rm.locals ≤ R.locals) (hck : k + rm.cells ≤ R.cells) (hcn : n + rm.slots ≤ R.slots)
    (K : ∀ v T' h', own_W p l e R s m args below meth c Z n0 y bytes ml ret T' h' (k + rm.cells) (n + rm.slots) → Q v h' → own_Ends p e below G (T'.setTop (mkF m q Ls (v.toList ++ rest)))) : own_Ends p e below G (T.setTop (mkF m pc Ls st)) := by
  subst hq has hst
  obtain ⟨⟨locs, Y, N⟩, eT, hs0, hx, hZ, hby, hml, hown, hret, hlk, hnm⟩ := X
  obtain ⟨cq, kq, qa, qb, qc⟩ := isOf hZ eT E
  obtain ⟨v1, _, ⟨T1, L1, k1, n1⟩, -, Y1, ⟨Lc1, hQ1, l1, c1, s1⟩, st1⟩ := Y.virtualBack hx hown (mvT hZ w1) (mvT hZ w2) nf (mvT hZ w5) (mvT hZ w6) hy (backOf (Q := fun v h L => Q v h ∧ Fr n0 L) (W := (rest.map fun v => v.category).sum) (M []) hZ w4 w3 hf (by omega)) qa qc (g := mkF m pc Ls (argsL.reverse ++ .ref a :: rest)) rfl (hsz.trans hml.symm) (Steps.refl _) (argsL := argsL) (rest := rest) (lenOf hpd hlen) rfl (by show 2 * 0 + _ ≤ _; omega) (hb hby hd) (fun _ _ => ⟨rfl, eT, hck, hcn⟩)
  dsimp only [Pt.U, Pt.locs, Pt.cells, Pt.slots] at Y1 l1 c1 s1 st1 hQ1
  subst l1 c1 s1
  exact own_pre (fun t K => st1.trans K) (K _ _ _ ⟨⟨_, Y1, Fr.app N hQ1.2⟩, rfl, Nat.le_trans hs0 (hkeep _ _ hQ1.1), hx, hZ, hby, hml, hown, hret, hlk, hnm⟩ hQ1.1)
theorem own_nf {z : MethodName} {s : State} {C : String} (hZ : Z.Warmed39 s.vm) (w : (Jvm.Cond.selects C z z).before a0 Z = true) : NotFace s z := notFace_of_selects (args := #[]) (mvT hZ w)
theorem own_callI (X : own_W p l e R s m args below meth c Z n0 y bytes ml ret T h k n) (q : Nat) {y' : MethodName} {bytes' : ByteArray} {ml' : Nat} {ret' : Option FieldType} {rm : Room} {as' : Array Value} {Q : Option Value → Heap → Prop} {i : Nat} {ps : List FieldType} {rr : Option FieldType} {z : MethodName} {C : String} {cnt : Nat} {a : Addr} (argsL rest : List Value) (hd : decode bytes pc = .ok (.invokeinterface i cnt, 5)) (hq : pc + 5 = q) (w1 : (Jvm.Cond.methodLink y.cls i z).before a0 Z = true) (w2 : (Jvm.Cond.declares z).before a0 Z = true) (w7 : (Jvm.Cond.interfaceMethod z.cls z.cls z.name z.desc).before a0 Z = true) (hfa : ((Jvm.Cond.interfaceMethod z.cls z.cls z.name z.desc).onTables && (Jvm.Cond.interfaceMethod z.cls z.cls z.name z.desc).keepsFace) = true) (w5 : (Jvm.Cond.selects C z y').before a0 Z = true) (w6 : (Jvm.Cond.instanceMethod y').before a0 Z = true) (w8 : (Jvm.Cond.publicMethod y').before a0 Z = true) (w9 : (Jvm.Cond.unhidden C z.name z.desc).before a0 Z = true) (w10 : (Jvm.Cond.castable C z.cls).before a0 Z = true) (w3 : (Jvm.Cond.initialized y'.cls).before a0 Z = true) (w4 : (Jvm.Cond.code y' bytes' ml' ret').before a0 Z = true) (hy : z.cls ≠ "java/lang/invoke/MethodHandle" ∧ z.cls ≠ "java/lang/invoke/VarHandle") (E : Exa Z h a C)
    (M : own_Met l y' bytes' ml' ret' rm Z as' h n0 Q) (hkeep : ∀ v h', Q v h' → h.size ≤ h'.size) (has : as' = (.ref a :: argsL).toArray) (hpd : parseMethodDescriptor z.desc = some ⟨ps, rr⟩) (hlen : argsL.length = ps.length) (hst : st = argsL.reverse ++ .ref a :: rest) (hsz : Ls.size = ml) (hf : rm.frames + 1 ≤ R.frames) (hl : (rest.map fun v => v.category).sum + (ml' + 11) + rm.locals ≤ R.locals) (hck : k + rm.cells ≤ R.cells) (hcn : n + rm.slots ≤ R.slots)
    (K : ∀ v T' h', own_W p l e R s m args below meth c Z n0 y bytes ml ret T' h' (k + rm.cells) (n + rm.slots) → Q v h' → own_Ends p e below G (T'.setTop (mkF m q Ls (v.toList ++ rest)))) : own_Ends p e below G (T.setTop (mkF m pc Ls st)) := by
  subst hq has hst
  obtain ⟨⟨locs, Y, N⟩, eT, hs0, hx, hZ, hby, hml, hown, hret, hlk, hnm⟩ := X
  obtain ⟨cq, kq, qa, qb, qc⟩ := isOf hZ eT E
  obtain ⟨v1, _, ⟨T1, L1, k1, n1⟩, -, Y1, ⟨Lc1, hQ1, l1, c1, s1⟩, st1⟩ := Y.interfaceBack hx hown (mvT hZ w1) (mvT hZ w2) (mvT hZ w7 hfa) (mvT hZ w5) (mvT hZ w6) (mvT hZ w8) (mvT hZ w9) (mvT hZ w10) hy (backOf (Q := fun v h L => Q v h ∧ Fr n0 L) (W := (rest.map fun v => v.category).sum) (M []) hZ w4 w3 hf (by omega)) qa qb qc (g := mkF m pc Ls (argsL.reverse ++ .ref a :: rest)) rfl (hsz.trans hml.symm) (Steps.refl _) (argsL := argsL) (rest := rest) (lenOf hpd hlen) rfl (by show 2 * 0 + _ ≤ _; omega) (hb hby hd) (fun _ _ => ⟨rfl, eT, hck, hcn⟩)
  dsimp only [Pt.U, Pt.locs, Pt.cells, Pt.slots] at Y1 l1 c1 s1 st1 hQ1
  subst l1 c1 s1
  exact own_pre (fun t K => st1.trans K) (K _ _ _ ⟨⟨_, Y1, Fr.app N hQ1.2⟩, rfl, Nat.le_trans hs0 (hkeep _ _ hQ1.1), hx, hZ, hby, hml, hown, hret, hlk, hnm⟩ hQ1.1)
theorem own_ni_inst {Z : State} {C : String} {kk : Nat} {a0 : Array Value} (w : (Jvm.Cond.instantiable C kk).before a0 Z = true) : ∃ c k, Z.vm.findClass C = some c ∧ Z.vm.classes[c]? = some k ∧ k.isInterface = false := by
  obtain ⟨c, k, h1, h2, -, h4, -⟩ := Cond.instantiable_spec w
  exact ⟨c, k, h1, h2, (Bool.or_eq_false_iff.mp h4).1⟩
theorem own_ni_sel {Z : State} {C : String} {x y : MethodName} {a0 : Array Value} (w : (Jvm.Cond.selects C x y).before a0 Z = true) : ∃ c k, Z.vm.findClass y.cls = some c ∧ Z.vm.classes[c]? = some k ∧ k.isInterface = false := by
  obtain ⟨c, r, m, -, -, h3, -, k, h5, h6⟩ := Cond.selects_spec w
  exact ⟨_, k, findClass_of_methodNamed h3, h5, h6⟩
theorem own_selP {Z s : State} {y : MethodName} {a0 args : Array Value} (hZ : Z.Warmed39 s.vm) (hni : ∃ c k, Z.vm.findClass y.cls = some c ∧ Z.vm.classes[c]? = some k ∧ k.isInterface = false) (w6 : (Jvm.Cond.privateMethod y).before a0 Z = true) (w2 : (Jvm.Cond.instanceMethod y).before a0 Z = true) (hy : y.cls ≠ "java/lang/invoke/MethodHandle" ∧ y.cls ≠ "java/lang/invoke/VarHandle") : (Jvm.Cond.selects y.cls y y).before args s = true := by
  obtain ⟨c, k, h1, h2, h3⟩ := hni
  obtain ⟨k', q, z⟩ := hZ.alike.2.2 _ _ h2
  exact selects_self_of_private (by rw [hZ.alike.findClass]; exact h1) q (by rw [z]; exact h3) (Cond.privateMethod_at (mvP hZ w6 (args := #[]))) (mvT hZ w2) hy
theorem own_callP (X : own_W p l e R s m args below meth c Z n0 y bytes ml ret T h k n) (q : Nat) {y' : MethodName} {bytes' : ByteArray} {ml' : Nat} {ret' : Option FieldType} {rm : Room} {as' : Array Value} {Q : Option Value → Heap → Prop} {i : Nat} {ps : List FieldType} {rr : Option FieldType} {C : String} {a : Addr} (argsL rest : List Value) (hd : decode bytes pc = .ok (.invokevirtual i, 3)) (hq : pc + 3 = q) (w1 : (Jvm.Cond.methodLink y.cls i y').before a0 Z = true) (w2 : (Jvm.Cond.instanceMethod y').before a0 Z = true) (hni : ∃ c k, Z.vm.findClass y'.cls = some c ∧ Z.vm.classes[c]? = some k ∧ k.isInterface = false) (w6 : (Jvm.Cond.privateMethod y').before a0 Z = true) (w3 : (Jvm.Cond.initialized y'.cls).before a0 Z = true) (w4 : (Jvm.Cond.code y' bytes' ml' ret').before a0 Z = true) (hy : y'.cls ≠ "java/lang/invoke/MethodHandle" ∧ y'.cls ≠ "java/lang/invoke/VarHandle") (E : Exa Z h a C)
    (M : own_Met l y' bytes' ml' ret' rm Z as' h n0 Q) (hkeep : ∀ v h', Q v h' → h.size ≤ h'.size) (has : as' = (.ref a :: argsL).toArray) (hpd : parseMethodDescriptor y'.desc = some ⟨ps, rr⟩) (hlen : argsL.length = ps.length) (hst : st = argsL.reverse ++ .ref a :: rest) (hsz : Ls.size = ml) (hf : rm.frames + 1 ≤ R.frames) (hl : (rest.map fun v => v.category).sum + (ml' + 11) + rm.locals ≤ R.locals) (hck : k + rm.cells ≤ R.cells) (hcn : n + rm.slots ≤ R.slots)
    (K : ∀ v T' h', own_W p l e R s m args below meth c Z n0 y bytes ml ret T' h' (k + rm.cells) (n + rm.slots) → Q v h' → own_Ends p e below G (T'.setTop (mkF m q Ls (v.toList ++ rest)))) : own_Ends p e below G (T.setTop (mkF m pc Ls st)) := by
  subst hq has hst
  obtain ⟨⟨locs, Y, N⟩, eT, hs0, hx, hZ, hby, hml, hown, hret, hlk, hnm⟩ := X
  obtain ⟨cq, q1, q2⟩ := E.cell
  obtain ⟨v1, _, ⟨T1, L1, k1, n1⟩, -, Y1, ⟨Lc1, hQ1, l1, c1, s1⟩, st1⟩ := Y.privateBack hx hown (mvT hZ w1) (mvT hZ w2) (own_selP hZ hni w6 w2 hy) (Cond.privateMethod_at (mvP hZ w6 (args := #[]))) (mvT hZ w4) hy (backOf (Q := fun v h L => Q v h ∧ Fr n0 L) (W := (rest.map fun v => v.category).sum) (M []) hZ w4 w3 hf (by omega)) (g := mkF m pc Ls (argsL.reverse ++ .ref a :: rest)) rfl (hsz.trans hml.symm) (Steps.refl _) (a := a) (by rw [eT]; exact q1) q2 (argsL := argsL) (rest := rest) (lenOf hpd hlen) rfl (by show 2 * 0 + _ ≤ _; omega) (hb hby hd) (fun _ _ => ⟨rfl, eT, hck, hcn⟩)
  dsimp only [Pt.U, Pt.locs, Pt.cells, Pt.slots] at Y1 l1 c1 s1 st1 hQ1
  subst l1 c1 s1
  exact own_pre (fun t K => st1.trans K) (K _ _ _ ⟨⟨_, Y1, Fr.app N hQ1.2⟩, rfl, Nat.le_trans hs0 (hkeep _ _ hQ1.1), hx, hZ, hby, hml, hown, hret, hlk, hnm⟩ hQ1.1)
theorem own_retI (X : own_W p l e R s m args below meth c Z n0 y bytes ml ret T h k n) {C S : Nat} {Q : Option Value → Heap → Prop} {z : Int32} (hd : decode bytes pc = .ok (.ireturn, 1)) (hr0 : ret = some .int) (hk : k ≤ C) (hn : n ≤ S) (hQ : Q (some (.int z)) h) : own_Ends p e below (own_Fin s n0 C S Q) (T.setTop (mkF m pc Ls (.int z :: st))) := by
  obtain ⟨⟨locs, Y, N⟩, eT, hs0, hx, hZ, hby, hml, hown, hret, hlk, hnm⟩ := X
  obtain ⟨fs, hr, hrun, hended, hW, hsame⟩ := Y.leave (v := some (.int z)) (fun q => by rw [hret, hr0] at q; cases q) hlk
  exact ⟨_, _, own_retI0 Y hx (hret.trans hr0) (hb hby hd) hr, hrun, hended, _, _, rfl, ⟨by show Q _ T.heap; rw [eT]; exact hQ, N⟩, ⟨_, rfl⟩, hW, hsame.mono hk hn⟩
theorem own_retN (X : own_W p l e R s m args below meth c Z n0 y bytes ml ret T h k n) {C S : Nat} {Q : Option Value → Heap → Prop} {z : Int32} (t : FieldType) (hd : decode bytes pc = .ok (.ireturn, 1)) (hr0 : ret = some t) (ht : t = .boolean ∨ t = .byte ∨ t = .char ∨ t = .short) (hk : k ≤ C) (hn : n ≤ S) (hQ : Q (some (.int (nar t z))) h) : own_Ends p e below (own_Fin s n0 C S Q) (T.setTop (mkF m pc Ls (.int z :: st))) := by
  obtain ⟨⟨locs, Y, N⟩, eT, hs0, hx, hZ, hby, hml, hown, hret, hlk, hnm⟩ := X
  obtain ⟨fs, hr, hrun, hended, hW, hsame⟩ := Y.leave (v := some (.int (nar t z))) (fun q => by rw [hret, hr0] at q; cases q) hlk
  exact ⟨_, _, retN Y hx (hret.trans hr0) ht (hb hby hd) hr, hrun, hended, _, _, rfl, ⟨by show Q _ T.heap; rw [eT]; exact hQ, N⟩, ⟨_, rfl⟩, hW, hsame.mono hk hn⟩
theorem own_retJ (X : own_W p l e R s m args below meth c Z n0 y bytes ml ret T h k n) {C S : Nat} {Q : Option Value → Heap → Prop} {z : Int64} (hd : decode bytes pc = .ok (.lreturn, 1)) (hr0 : ret = some .long) (hk : k ≤ C) (hn : n ≤ S) (hQ : Q (some (.long z)) h) : own_Ends p e below (own_Fin s n0 C S Q) (T.setTop (mkF m pc Ls (.long z :: st))) := by
  obtain ⟨⟨locs, Y, N⟩, eT, hs0, hx, hZ, hby, hml, hown, hret, hlk, hnm⟩ := X
  obtain ⟨fs, hr, hrun, hended, hW, hsame⟩ := Y.leave (v := some (.long z)) (fun q => by rw [hret, hr0] at q; cases q) hlk
  exact ⟨_, _, retOut Y hx (hret.trans hr0) rfl (Or.inr (Or.inl ⟨rfl, rfl, z, rfl⟩)) (hb hby hd) hr, hrun, hended, _, _, rfl, ⟨by show Q _ T.heap; rw [eT]; exact hQ, N⟩, ⟨_, rfl⟩, hW, hsame.mono hk hn⟩
theorem own_retA (X : own_W p l e R s m args below meth c Z n0 y bytes ml ret T h k n) {C S : Nat} {Q : Option Value → Heap → Prop} {z : Value} (t : FieldType) (hd : decode bytes pc = .ok (.areturn, 1)) (hr0 : ret = some t) (ht : t.isReference = true) (hz : z.isRef = true) (hnz : narrow t z = z) (hk : k ≤ C) (hn : n ≤ S) (hQ : Q (some z) h) : own_Ends p e below (own_Fin s n0 C S Q) (T.setTop (mkF m pc Ls (z :: st))) := by
  obtain ⟨⟨locs, Y, N⟩, eT, hs0, hx, hZ, hby, hml, hown, hret, hlk, hnm⟩ := X
  obtain ⟨fs, hr, hrun, hended, hW, hsame⟩ := Y.leave (v := some z) (fun q => by rw [hret, hr0] at q; cases q) hlk
  exact ⟨_, _, retOut Y hx (hret.trans hr0) hnz (Or.inr (Or.inr (Or.inr (Or.inr ⟨rfl, ht, hz⟩)))) (hb hby hd) hr, hrun, hended, _, _, rfl, ⟨by show Q _ T.heap; rw [eT]; exact hQ, N⟩, ⟨_, rfl⟩, hW, hsame.mono hk hn⟩
theorem own_retV (X : own_W p l e R s m args below meth c Z n0 y bytes ml ret T h k n) {C S : Nat} {Q : Option Value → Heap → Prop} (hd : decode bytes pc = .ok (.return_, 1)) (hr0 : ret = none) (hk : k ≤ C) (hn : n ≤ S) (hQ : Q none h) : own_Ends p e below (own_Fin s n0 C S Q) (T.setTop (mkF m pc Ls [])) := by
  obtain ⟨⟨locs, Y, N⟩, eT, hs0, hx, hZ, hby, hml, hown, hret, hlk, hnm⟩ := X
  obtain ⟨fs, hr, hrun, hended, hW, hsame⟩ := Y.leave (v := none) (fun _ => rfl) hlk
  exact ⟨_, _, Y.returnOut hx (hret.trans hr0) (hb hby hd) hr, hrun, hended, _, _, rfl, ⟨by show Q _ T.heap; rw [eT]; exact hQ, N⟩, ⟨_, rfl⟩, hW, hsame.mono hk hn⟩
theorem own_iaload (X : own_W p l e R s m args below meth c Z n0 y bytes ml ret T h k n) (q : Nat) {a : Addr} {kc : ClassId} {vs : List Value} {j : Int32} (i : Nat) (v : Value) (hd : decode bytes pc = .ok (.iaload, 1)) (hq : pc + 1 = q) (F : own_A Z h a kc .int vs) (hj : j.toNatClampNeg = i) (hj0 : ¬ j < 0) (hv : vs[i]? = some v)
    (K : own_Ends p e below G (T.setTop (mkF m q Ls (v :: st)))) : own_Ends p e below G (T.setTop (mkF m pc Ls (.int j :: .ref a :: st))) := by
  subst hq
  obtain ⟨⟨locs, Y, N⟩, eT, hs0, hx, hZ, hby, hml, hown, hret, hlk, hnm⟩ := X
  obtain ⟨cl, A, r1, r2, r3, r4⟩ := F
  have hi : i < vs.length := (List.getElem?_eq_some_iff.mp hv).1
  exact own_pre (fun t K => Y.iaload hx (j := j) (v := v) (by rw [eT]; exact A.1) (State.isArrayOf_alike hZ.alike A.2.1) A.2.2 (own_in r2 hj hj0 hi) (by rw [hj, ← Array.getElem?_toList, r2]; exact hv) (g := mkF m pc Ls (.int j :: .ref a :: st)) rfl rfl (hb hby hd) t K) K
theorem own_caload (X : own_W p l e R s m args below meth c Z n0 y bytes ml ret T h k n) (q : Nat) {a : Addr} {kc : ClassId} {vs : List Value} {j : Int32} (i : Nat) (v : Value) (hd : decode bytes pc = .ok (.caload, 1)) (hq : pc + 1 = q) (F : own_A Z h a kc .char vs) (hj : j.toNatClampNeg = i) (hj0 : ¬ j < 0) (hv : vs[i]? = some v)
    (K : own_Ends p e below G (T.setTop (mkF m q Ls (v :: st)))) : own_Ends p e below G (T.setTop (mkF m pc Ls (.int j :: .ref a :: st))) := by
  subst hq
  obtain ⟨⟨locs, Y, N⟩, eT, hs0, hx, hZ, hby, hml, hown, hret, hlk, hnm⟩ := X
  obtain ⟨cl, A, r1, r2, r3, r4⟩ := F
  have hi : i < vs.length := (List.getElem?_eq_some_iff.mp hv).1
  exact own_pre (fun t K => Y.caload hx (j := j) (v := v) (by rw [eT]; exact A.1) (State.isArrayOf_alike hZ.alike A.2.1) A.2.2 (own_in r2 hj hj0 hi) (by rw [hj, ← Array.getElem?_toList, r2]; exact hv) (g := mkF m pc Ls (.int j :: .ref a :: st)) rfl rfl (hb hby hd) t K) K
theorem own_baload (X : own_W p l e R s m args below meth c Z n0 y bytes ml ret T h k n) (q : Nat) {a : Addr} {kc : ClassId} {vs : List Value} {j : Int32} (i : Nat) (v : Value) (hd : decode bytes pc = .ok (.baload, 1)) (hq : pc + 1 = q) (F : own_A Z h a kc .byte vs) (hj : j.toNatClampNeg = i) (hj0 : ¬ j < 0) (hv : vs[i]? = some v)
    (K : own_Ends p e below G (T.setTop (mkF m q Ls (v :: st)))) : own_Ends p e below G (T.setTop (mkF m pc Ls (.int j :: .ref a :: st))) := by
  subst hq
  obtain ⟨⟨locs, Y, N⟩, eT, hs0, hx, hZ, hby, hml, hown, hret, hlk, hnm⟩ := X
  obtain ⟨cl, A, r1, r2, r3, r4⟩ := F
  have hi : i < vs.length := (List.getElem?_eq_some_iff.mp hv).1
  exact own_pre (fun t K => Y.baloadBytes hx (j := j) (v := v) (by rw [eT]; exact A.1) (State.isArrayOf_alike hZ.alike A.2.1) A.2.2 (own_in r2 hj hj0 hi) (by rw [hj, ← Array.getElem?_toList, r2]; exact hv) (g := mkF m pc Ls (.int j :: .ref a :: st)) rfl rfl (hb hby hd) t K) K
theorem own_aaload (X : own_W p l e R s m args below meth c Z n0 y bytes ml ret T h k n) (q : Nat) {a : Addr} {kc : ClassId} {ty : FieldType} {vs : List Value} {j : Int32} (i : Nat) (v : Value) (hd : decode bytes pc = .ok (.aaload, 1)) (hq : pc + 1 = q) (F : own_A Z h a kc ty vs) (hj : j.toNatClampNeg = i) (hj0 : ¬ j < 0) (hv : vs[i]? = some v) (hty : ty.isReference = true)
    (K : own_Ends p e below G (T.setTop (mkF m q Ls (v :: st)))) : own_Ends p e below G (T.setTop (mkF m pc Ls (.int j :: .ref a :: st))) := by
  subst hq
  obtain ⟨⟨locs, Y, N⟩, eT, hs0, hx, hZ, hby, hml, hown, hret, hlk, hnm⟩ := X
  obtain ⟨cl, A, r1, r2, r3, r4⟩ := F
  have hi : i < vs.length := (List.getElem?_eq_some_iff.mp hv).1
  exact own_pre (fun t K => Y.aaload hx (j := j) (v := v) (by rw [eT]; exact A.1) (State.isArrayOf_alike hZ.alike A.2.1) hty A.2.2 (own_in r2 hj hj0 hi) (by rw [hj, ← Array.getElem?_toList, r2]; exact hv) (g := mkF m pc Ls (.int j :: .ref a :: st)) rfl rfl (hb hby hd) t K) K
theorem own_laload (X : own_W p l e R s m args below meth c Z n0 y bytes ml ret T h k n) (q : Nat) {a : Addr} {kc : ClassId} {vs : List Value} {j : Int32} (i : Nat) (v : Value) (hd : decode bytes pc = .ok (.laload, 1)) (hq : pc + 1 = q) (F : own_A Z h a kc .long vs) (hj : j.toNatClampNeg = i) (hj0 : ¬ j < 0) (hv : vs[i]? = some v)
    (K : own_Ends p e below G (T.setTop (mkF m q Ls (v :: st)))) : own_Ends p e below G (T.setTop (mkF m pc Ls (.int j :: .ref a :: st))) := by
  subst hq
  obtain ⟨⟨locs, Y, N⟩, eT, hs0, hx, hZ, hby, hml, hown, hret, hlk, hnm⟩ := X
  obtain ⟨cl, A, r1, r2, r3, r4⟩ := F
  have hi : i < vs.length := (List.getElem?_eq_some_iff.mp hv).1
  exact own_pre (fun t K => Y.laload hx (j := j) (v := v) (by rw [eT]; exact A.1) (State.isArrayOf_alike hZ.alike A.2.1) A.2.2 (own_in r2 hj hj0 hi) (by rw [hj, ← Array.getElem?_toList, r2]; exact hv) (g := mkF m pc Ls (.int j :: .ref a :: st)) rfl rfl (hb hby hd) t K) K
theorem own_len (X : own_W p l e R s m args below meth c Z n0 y bytes ml ret T h k n) (q : Nat) {a : Addr} {kc : ClassId} {ty : FieldType} {vs : List Value} (x : Int32) (hd : decode bytes pc = .ok (.arraylength, 1)) (hq : pc + 1 = q) (F : own_A Z h a kc ty vs) (hx' : vs.length.toInt32 = x)
    (K : own_Ends p e below G (T.setTop (mkF m q Ls (.int x :: st)))) : own_Ends p e below G (T.setTop (mkF m pc Ls (.ref a :: st))) := by
  subst hq hx'
  obtain ⟨⟨locs, Y, N⟩, eT, hs0, hx, hZ, hby, hml, hown, hret, hlk, hnm⟩ := X
  obtain ⟨cl, A, r1, r2, r3, r4⟩ := F
  have hl : vs.length = cl.slots.size := by rw [← r2, Array.length_toList]
  rw [hl] at K
  exact own_pre (fun t K => Y.arraylength hx (by rw [eT]; exact A.1) (State.isArrayOf_alike hZ.alike A.2.1) (g := mkF m pc Ls (.ref a :: st)) rfl rfl (hb hby hd) t K) K
theorem own_iastore (X : own_W p l e R s m args below meth c Z n0 y bytes ml ret T h k n) (q : Nat) {a : Addr} {kc : ClassId} {vs : List Value} {j : Int32} {x : Int32} (i : Nat) (hd : decode bytes pc = .ok (.iastore, 1)) (hq : pc + 1 = q) (F : own_A Z h a kc .int vs) (hj : j.toNatClampNeg = i) (hj0 : ¬ j < 0) (hi : i < vs.length) (hnew : n0 ≤ a)
    (K : ∀ T' h', own_W p l e R s m args below meth c Z n0 y bytes ml ret T' h' k n → Wr h h' a i (.int x) → own_Ends p e below G (T'.setTop (mkF m q Ls st))) : own_Ends p e below G (T.setTop (mkF m pc Ls (.int x :: .int j :: .ref a :: st))) := by
  subst hq
  obtain ⟨⟨locs, Y, N⟩, eT, hs0, hx, hZ, hby, hml, hown, hret, hlk, hnm⟩ := X
  obtain ⟨cl, A, r1, r2, r3, r4⟩ := F
  obtain ⟨T1, h1, Y1, e1, W1, st1⟩ := stI Y hx hZ eT A (j := j) (own_in r2 hj hj0 hi) (g := mkF m pc Ls (.int x :: .int j :: .ref a :: st)) rfl rfl (hb hby hd)
  exact own_pre st1 (K T1 h1 ⟨⟨_, Y1, Fr.snoc Y1 N hnew⟩, e1, (by rw [W1.size]; exact hs0), hx, hZ, hby, hml, hown, hret, hlk, hnm⟩ (hj ▸ W1))
theorem own_castore (X : own_W p l e R s m args below meth c Z n0 y bytes ml ret T h k n) (q : Nat) {a : Addr} {kc : ClassId} {vs : List Value} {j : Int32} {x : Int32} (i : Nat) (hd : decode bytes pc = .ok (.castore, 1)) (hq : pc + 1 = q) (F : own_A Z h a kc .char vs) (hj : j.toNatClampNeg = i) (hj0 : ¬ j < 0) (hi : i < vs.length) (hnew : n0 ≤ a)
    (K : ∀ T' h', own_W p l e R s m args below meth c Z n0 y bytes ml ret T' h' k n → Wr h h' a i (.int (nar .char x)) → own_Ends p e below G (T'.setTop (mkF m q Ls st))) : own_Ends p e below G (T.setTop (mkF m pc Ls (.int x :: .int j :: .ref a :: st))) := by
  subst hq
  obtain ⟨⟨locs, Y, N⟩, eT, hs0, hx, hZ, hby, hml, hown, hret, hlk, hnm⟩ := X
  obtain ⟨cl, A, r1, r2, r3, r4⟩ := F
  obtain ⟨T1, h1, Y1, e1, W1, st1⟩ := stC Y hx hZ eT A (j := j) (own_in r2 hj hj0 hi) (g := mkF m pc Ls (.int x :: .int j :: .ref a :: st)) rfl rfl (hb hby hd)
  exact own_pre st1 (K T1 h1 ⟨⟨_, Y1, Fr.snoc Y1 N hnew⟩, e1, (by rw [W1.size]; exact hs0), hx, hZ, hby, hml, hown, hret, hlk, hnm⟩ (hj ▸ W1))
theorem own_bastore (X : own_W p l e R s m args below meth c Z n0 y bytes ml ret T h k n) (q : Nat) {a : Addr} {kc : ClassId} {vs : List Value} {j : Int32} {x : Int32} (i : Nat) (hd : decode bytes pc = .ok (.bastore, 1)) (hq : pc + 1 = q) (F : own_A Z h a kc .byte vs) (hj : j.toNatClampNeg = i) (hj0 : ¬ j < 0) (hi : i < vs.length) (hnew : n0 ≤ a)
    (K : ∀ T' h', own_W p l e R s m args below meth c Z n0 y bytes ml ret T' h' k n → Wr h h' a i (.int (nar .byte x)) → own_Ends p e below G (T'.setTop (mkF m q Ls st))) : own_Ends p e below G (T.setTop (mkF m pc Ls (.int x :: .int j :: .ref a :: st))) := by
  subst hq
  obtain ⟨⟨locs, Y, N⟩, eT, hs0, hx, hZ, hby, hml, hown, hret, hlk, hnm⟩ := X
  obtain ⟨cl, A, r1, r2, r3, r4⟩ := F
  obtain ⟨T1, h1, Y1, e1, W1, st1⟩ := stB Y hx hZ eT A (j := j) (own_in r2 hj hj0 hi) (g := mkF m pc Ls (.int x :: .int j :: .ref a :: st)) rfl rfl (hb hby hd)
  exact own_pre st1 (K T1 h1 ⟨⟨_, Y1, Fr.snoc Y1 N hnew⟩, e1, (by rw [W1.size]; exact hs0), hx, hZ, hby, hml, hown, hret, hlk, hnm⟩ (hj ▸ W1))
theorem own_zastore (X : own_W p l e R s m args below meth c Z n0 y bytes ml ret T h k n) (q : Nat) {a : Addr} {kc : ClassId} {vs : List Value} {j : Int32} {x : Int32} (i : Nat) (hd : decode bytes pc = .ok (.bastore, 1)) (hq : pc + 1 = q) (F : own_A Z h a kc .boolean vs) (hj : j.toNatClampNeg = i) (hj0 : ¬ j < 0) (hi : i < vs.length) (hnew : n0 ≤ a)
    (K : ∀ T' h', own_W p l e R s m args below meth c Z n0 y bytes ml ret T' h' k n → Wr h h' a i (.int (nar .boolean x)) → own_Ends p e below G (T'.setTop (mkF m q Ls st))) : own_Ends p e below G (T.setTop (mkF m pc Ls (.int x :: .int j :: .ref a :: st))) := by
  subst hq
  obtain ⟨⟨locs, Y, N⟩, eT, hs0, hx, hZ, hby, hml, hown, hret, hlk, hnm⟩ := X
  obtain ⟨cl, A, r1, r2, r3, r4⟩ := F
  obtain ⟨T1, h1, Y1, e1, W1, st1⟩ := stZ Y hx hZ eT A (j := j) (own_in r2 hj hj0 hi) (g := mkF m pc Ls (.int x :: .int j :: .ref a :: st)) rfl rfl (hb hby hd)
  exact own_pre st1 (K T1 h1 ⟨⟨_, Y1, Fr.snoc Y1 N hnew⟩, e1, (by rw [W1.size]; exact hs0), hx, hZ, hby, hml, hown, hret, hlk, hnm⟩ (hj ▸ W1))
theorem own_lastore (X : own_W p l e R s m args below meth c Z n0 y bytes ml ret T h k n) (q : Nat) {a : Addr} {kc : ClassId} {vs : List Value} {j : Int32} {x : Int64} (i : Nat) (hd : decode bytes pc = .ok (.lastore, 1)) (hq : pc + 1 = q) (F : own_A Z h a kc .long vs) (hj : j.toNatClampNeg = i) (hj0 : ¬ j < 0) (hi : i < vs.length) (hnew : n0 ≤ a)
    (K : ∀ T' h', own_W p l e R s m args below meth c Z n0 y bytes ml ret T' h' k n → Wr h h' a i (.long x) → own_Ends p e below G (T'.setTop (mkF m q Ls st))) : own_Ends p e below G (T.setTop (mkF m pc Ls (.long x :: .int j :: .ref a :: st))) := by
  subst hq
  obtain ⟨⟨locs, Y, N⟩, eT, hs0, hx, hZ, hby, hml, hown, hret, hlk, hnm⟩ := X
  obtain ⟨cl, A, r1, r2, r3, r4⟩ := F
  obtain ⟨T1, h1, Y1, e1, W1, st1⟩ := stJ Y hx hZ eT A (j := j) (own_in r2 hj hj0 hi) (g := mkF m pc Ls (.long x :: .int j :: .ref a :: st)) rfl rfl (hb hby hd)
  exact own_pre st1 (K T1 h1 ⟨⟨_, Y1, Fr.snoc Y1 N hnew⟩, e1, (by rw [W1.size]; exact hs0), hx, hZ, hby, hml, hown, hret, hlk, hnm⟩ (hj ▸ W1))
theorem own_aastore (X : own_W p l e R s m args below meth c Z n0 y bytes ml ret T h k n) (q : Nat) {a : Addr} {kc : ClassId} {ty : FieldType} {vs : List Value} {j : Int32} {x : Value} (i : Nat) (hd : decode bytes pc = .ok (.aastore, 1)) (hq : pc + 1 = q) (F : own_A Z h a kc ty vs) (hj : j.toNatClampNeg = i) (hj0 : ¬ j < 0) (hi : i < vs.length) (hty : ty.isReference = true) (hS : Sto Z h a x) (hnew : n0 ≤ a)
    (K : ∀ T' h', own_W p l e R s m args below meth c Z n0 y bytes ml ret T' h' k n → Wr h h' a i x → own_Ends p e below G (T'.setTop (mkF m q Ls st))) : own_Ends p e below G (T.setTop (mkF m pc Ls (x :: .int j :: .ref a :: st))) := by
  subst hq
  obtain ⟨⟨locs, Y, N⟩, eT, hs0, hx, hZ, hby, hml, hown, hret, hlk, hnm⟩ := X
  obtain ⟨cl, A, r1, r2, r3, r4⟩ := F
  obtain ⟨T1, h1, Y1, e1, W1, st1⟩ := stR Y hx hZ eT A (j := j) (own_in r2 hj hj0 hi) hty hS (g := mkF m pc Ls (x :: .int j :: .ref a :: st)) rfl rfl (hb hby hd)
  exact own_pre st1 (K T1 h1 ⟨⟨_, Y1, Fr.snoc Y1 N hnew⟩, e1, (by rw [W1.size]; exact hs0), hx, hZ, hby, hml, hown, hret, hlk, hnm⟩ (hj ▸ W1))
theorem own_A_new {Z : State} {h : Heap} {a : Addr} {kc : ClassId} {ty : FieldType} {z : Int32} {N : Nat} (A : Arr Z h a (newA kc ty z) ty) (hz : ¬ z < 0) (hN : z.toNatClampNeg = N) (hf : fits ty (defaultValue ty) = true) : own_A Z h a kc ty (List.replicate N (defaultValue ty)) := by
  refine ⟨_, A, rfl, by simp [newA, hN], by rw [List.length_replicate, ← hN]; exact (back32 hz).2, fun v hv => ?_⟩
  rw [(List.mem_replicate.mp hv).2]; exact hf
theorem own_newP (X : own_W p l e R s m args below meth c Z n0 y bytes ml ret T h k n) (q : Nat) {aty : ArrayType} {z : Int32} (len cap : Nat) (hd : decode bytes pc = .ok (.newarray aty, 2)) (hq : pc + 2 = q) (w : (Jvm.Cond.arrayClass (newarray.typeOf aty)).before a0 Z = true) (hz : ¬ z < 0) (hN : z.toNatClampNeg = len) (hcap : len ≤ cap) (hb8 : cap * 8 ≤ 536870912) (hc : k + 1 ≤ R.cells) (hl : n + cap ≤ R.slots)
    (K : ∀ T' h' a kc, a = h.size → own_W p l e R s m args below meth c Z n0 y bytes ml ret T' h' (k + 1) (n + cap) → Ext h h' → own_A Z h' a kc (newarray.typeOf aty) (List.replicate len (defaultValue (newarray.typeOf aty))) → own_Ends p e below G (T'.setTop (mkF m q Ls (.ref a :: st)))) : own_Ends p e below G (T.setTop (mkF m pc Ls (.int z :: st))) := by
  subst hq
  obtain ⟨⟨locs, Y, N⟩, eT, hs0, hx, hZ, hby, hml, hown, hret, hlk, hnm⟩ := X
  obtain ⟨T1, h1, kc, Y1, e1, E1, A1, st1⟩ := newP Y hx hZ w eT (g := mkF m pc Ls (.int z :: st)) rfl (hb hby hd) rfl hz (cap := cap) (by omega) hb8 hc hl
  exact own_pre st1 (K T1 h1 _ kc rfl ⟨⟨locs, Y1, N⟩, e1, (Nat.le_trans hs0 E1.1), hx, hZ, hby, hml, hown, hret, hlk, hnm⟩ E1 (own_A_new A1 hz hN (by cases aty <;> rfl)))
theorem own_newR (X : own_W p l e R s m args below meth c Z n0 y bytes ml ret T h k n) (q : Nat) {C : String} {i : Nat} {z : Int32} (len cap : Nat) (hd : decode bytes pc = .ok (.anewarray i, 3)) (hq : pc + 3 = q) (w1 : (Jvm.Cond.classLink y.cls i C).before a0 Z = true) (w2 : (Jvm.Cond.arrayOver (.object C)).before a0 Z = true) (hz : ¬ z < 0) (hN : z.toNatClampNeg = len) (hcap : len ≤ cap) (hb8 : cap * 8 ≤ 536870912) (hc : k + 1 ≤ R.cells) (hl : n + cap ≤ R.slots)
    (K : ∀ T' h' a kc, a = h.size → own_W p l e R s m args below meth c Z n0 y bytes ml ret T' h' (k + 1) (n + cap) → Ext h h' → own_A Z h' a kc (.object C) (List.replicate len .null) → Ovr Z kc C → own_Ends p e below G (T'.setTop (mkF m q Ls (.ref a :: st)))) : own_Ends p e below G (T.setTop (mkF m pc Ls (.int z :: st))) := by
  subst hq
  obtain ⟨⟨locs, Y, N⟩, eT, hs0, hx, hZ, hby, hml, hown, hret, hlk, hnm⟩ := X
  obtain ⟨T1, h1, kc, Y1, e1, E1, A1, O1, st1⟩ := newR Y hx hZ hown w1 w2 eT (g := mkF m pc Ls (.int z :: st)) rfl (hb hby hd) rfl hz (cap := cap) (by omega) hb8 hc hl
  exact own_pre st1 (K T1 h1 _ kc rfl ⟨⟨locs, Y1, N⟩, e1, (Nat.le_trans hs0 E1.1), hx, hZ, hby, hml, hown, hret, hlk, hnm⟩ E1 (own_A_new A1 hz hN rfl) O1)
theorem own_clone (X : own_W p l e R s m args below meth c Z n0 y bytes ml ret T h k n) (q : Nat) {i : Nat} {ad : String} {a : Addr} {kc : ClassId} {ty : FieldType} {vs : List Value} (cap : Nat) (hd : decode bytes pc = .ok (.invokevirtual i, 3)) (hq : pc + 3 = q) (w1 : (Jvm.Cond.methodLink y.cls i ⟨ad, "clone", "()Ljava/lang/Object;"⟩).before a0 Z = true) (w2 : (Jvm.Cond.sameMethod ad "java/lang/Object" "clone" "()Ljava/lang/Object;").before a0 Z = true) (w3 : (Jvm.Cond.native ⟨"java/lang/Object", "clone", "()Ljava/lang/Object;"⟩).before a0 Z = true)
    (w4 : (Jvm.Cond.instanceMethod ⟨"java/lang/Object", "clone", "()Ljava/lang/Object;"⟩).before a0 Z = true) (w5 : (Jvm.Cond.selects ad ⟨ad, "clone", "()Ljava/lang/Object;"⟩ ⟨"java/lang/Object", "clone", "()Ljava/lang/Object;"⟩).before a0 Z = true) (w6 : (Jvm.Cond.castable ad "java/lang/Cloneable").before a0 Z = true)
    (F : own_A Z h a kc ty vs) (E : Exa Z h a ad) (hsz : Ls.size = ml) (hf : 1 ≤ R.frames) (hl : (st.map fun v => v.category).sum + 14 ≤ R.locals) (hcap : vs.length ≤ cap) (hc : k + 1 ≤ R.cells) (hsl : n + cap ≤ R.slots)
    (K : ∀ T' h' b, b = h.size → own_W p l e R s m args below meth c Z n0 y bytes ml ret T' h' (k + 1) (n + cap) → Ext h h' → own_A Z h' b kc ty vs → Exa Z h' b ad → own_Ends p e below G (T'.setTop (mkF m q Ls (.ref b :: st)))) : own_Ends p e below G (T.setTop (mkF m pc Ls (.ref a :: st))) := by
  subst hq
  obtain ⟨⟨locs, Y, N⟩, eT, hs0, hx, hZ, hby, hml, hown, hret, hlk, hnm⟩ := X
  obtain ⟨cl, A, r1, r2, r3, r4⟩ := F
  have hF : FitC Z cl := fitC_of A fun j hj v hv => r4 v (by rw [← r2]; exact List.mem_of_getElem? (by rw [Array.getElem?_toList]; exact hv))
  obtain ⟨T1, h1, Y1, e1, E1, A1, X1, st1⟩ := cloneA Y hx hZ hown w1 w2 w3 w4 w5 w6 eT A E hF (g := mkF m pc Ls (.ref a :: st)) rfl (hsz.trans hml.symm) rfl (hb hby hd) hf (W := (st.map fun v => v.category).sum) (cap := cap) (by show 2 * 0 + _ ≤ _; omega) hl (by rw [← Array.length_toList, r2]; exact hcap) hc hsl
  exact own_pre st1 (K T1 h1 _ rfl ⟨⟨locs, Y1, N⟩, e1, (Nat.le_trans hs0 E1.1), hx, hZ, hby, hml, hown, hret, hlk, hnm⟩ E1 ⟨_, A1, r1, r2, r3, r4⟩ X1)
theorem own_eqInt {args : Array Value} {first s : State} {o : Option Outcome} {idx : List Nat} {a : Term} {n : Int32} (h : (Jvm.Cond.eq a (Jvm.Term.int n)).value args first o s idx = some true) : a.eval args first o idx s = some (.int n) := by
  obtain ⟨x, y, h1, h2, h3, -⟩ := cmp_v (Or.inl h)
  rw [Term.int_eval] at h2
  cases h2
  cases x <;> simp [Kin, Value.isRef] at h3
  rename_i z
  have := gotT (P := z = n) (by simp [Cond.value, h1, Term.int_eval]) h
  rw [h1, this]
theorem own_eqRef {args : Array Value} {first s : State} {o : Option Outcome} {idx : List Nat} {a b : Term} {x : Addr} (h : (Jvm.Cond.eq a b).value args first o s idx = some true) (hb' : b.eval args first o idx s = some (.ref x)) : a.eval args first o idx s = some (.ref x) := by
  obtain ⟨u, v, h1, h2, h3, h4⟩ := cmp_v (Or.inl h)
  cases hb'.symm.trans h2
  have hu : u.isRef = true := by cases u <;> simp [Kin, Value.isRef] at h3 ⊢
  have := gotT (eq_R h1 h2 hu rfl) h
  rw [h1, this]
theorem own_len_size {args : Array Value} {s : State} {t : Term} {a : Addr} {n : Int32} {cell : Cell} {ty : FieldType} (h : (Jvm.Cond.eq (Jvm.Term.length t) (Jvm.Term.int n)).value args s none s [] = some true) (ev : t.eval args s none [] s = some (.ref a)) (A : Arr s s.heap a cell ty) : cell.slots.size < 2 ^ 31 ∧ cell.slots.size.toInt32 = n :=
  IntBox.length_fwd (Cond.before_iff.mpr h) ev A.1 A.2.1 A.2.2
theorem own_A_start {args : Array Value} {s : State} {t : Term} {a : Addr} {ty : FieldType} {n : Int32} {vs : List Value} (hf : Fit s) (ev : t.eval args s none [] s = some (.ref a)) (hA : (Jvm.Cond.arrayOf t ty).value args s none s [] = some true) (hL : (Jvm.Cond.eq (Jvm.Term.length t) (Jvm.Term.int n)).value args s none s [] = some true) (hn : n.toNatClampNeg = vs.length)
    (he : ∀ (i : Nat) (v : Value), vs[i]? = some v → (Jvm.Term.elem t (Jvm.Term.int (Int32.ofNat i))).eval args s none [] s = some v) : ∃ kc, own_A s s.heap a kc ty vs := by
  obtain ⟨c, A⟩ := Arr.start ev hA
  obtain ⟨q1, q2⟩ := own_len_size hL ev A
  have hsz : c.slots.size = vs.length := by
    rw [← hn, ← q2]; show _ = (c.slots.size.toInt32.toInt).toNat; rw [len_toInt q1]; rfl
  refine ⟨c.cls, c, A, rfl, ?_, by omega, ?_⟩
  · apply List.ext_getElem?
    intro i
    by_cases hi : i < vs.length
    · have h1 := elem_in (he i _ (List.getElem?_eq_getElem hi)) ev (Term.int_eval _) A.1
      have hj : (Int32.ofNat i).toNatClampNeg = i := by show (Int32.ofNat i).toInt.toNat = i; rw [Int32.toInt_ofNat_small (by omega)]; rfl
      rw [Array.getElem?_toList, List.getElem?_eq_getElem hi]
      rw [hj] at h1; exact h1.2
    · rw [List.getElem?_eq_none (l := c.slots.toList) (by rw [Array.length_toList]; omega), List.getElem?_eq_none (l := vs) (by omega)]
  · intro v hv
    obtain ⟨i, hi, rfl⟩ := List.getElem_of_mem hv
    have h1 := elem_in (he i _ (List.getElem?_eq_getElem hi)) ev (Term.int_eval _) A.1
    exact elem_fits hf A h1.1 h1.2
end OwnKit
def own_ix (w la wo : Int32) : Int32 := w * 4 + (if la = 0 then 0 else 2) + (if wo = 0 then 0 else 1)
def own_arc (kd i : Int32) : Int32 := ((kd <<< (5 &&& 31)) ||| i).toInt8.toInt32
def own_kind (b : Int32) : Int32 := XT.ushr (b &&& 255) 5
def own_is (x k : Int32) : Int32 := if (XT.ushr x k) &&& 1 = 0 then 0 else 1
def own_ns (kd : Int32) : Int32 := if kd < 3 then (if kd = 0 then 1 else 2) else -1
def own_num (b : Int32) : Int32 := ((0 : Int32) ||| ((b &&& 127) <<< ((0 : Int32) &&& 31)))
def own_state (kd : Int32) : Int32 := if own_is 198 kd = 0 then (if own_is 48 kd = 0 then -1 else 1) else 1 + own_num 2
def own_count (kd : Int32) : Int32 := if own_state kd = -1 then own_is 173 kd else own_is 173 kd + XT.ushr (own_num (if own_state kd = 1 then 2 else 10)) 1
theorem own_is01 (x k : Int32) : own_is x k = 0 ∨ own_is x k = 1 := by unfold own_is; split <;> simp
theorem own_nar1 {x : Int32} (h : x = 0 ∨ x = 1) : nar .boolean x = x := by rcases h with rfl | rfl <;> decide
theorem own_narb (x : Int32) : nar .byte x.toInt8.toInt32 = x.toInt8.toInt32 := by simp [nar]
theorem own_rng26 (a : Int32) : ∃ i : Fin 26, (a &&& (2147483647 : Int32)) % (26 : Int32) = Int32.ofNat i.val := by
  have h0 : 0 ≤ (a &&& (2147483647 : Int32)).toInt := by
    have q : ¬ (a &&& (2147483647 : Int32)) < 0 := fun q => absurd ((XT.and_neg32 _ _).mp q).2 (by decide)
    rw [Int32.lt_iff_toInt_lt] at q
    have : (0 : Int32).toInt = 0 := by decide
    omega
  have e : (26 : Int32).toInt = 26 := by decide
  have h1 : ((a &&& (2147483647 : Int32)) % (26 : Int32)).toInt = (a &&& (2147483647 : Int32)).toInt % 26 := by rw [Int32.toInt_mod, e, Int.tmod_eq_emod_of_nonneg h0]
  refine ⟨⟨((a &&& (2147483647 : Int32)).toInt % 26).toNat, by omega⟩, ?_⟩
  apply Int32.toInt_inj.mp
  rw [h1, Int32.toInt_ofNat_small (by omega)]
  simp only []
  omega
theorem own_rng3 (a : Int32) : (a &&& (2147483647 : Int32)) % (3 : Int32) = 0 ∨ (a &&& (2147483647 : Int32)) % (3 : Int32) = 1 ∨ (a &&& (2147483647 : Int32)) % (3 : Int32) = 2 := by
  have h0 : 0 ≤ (a &&& (2147483647 : Int32)).toInt := by
    have q : ¬ (a &&& (2147483647 : Int32)) < 0 := fun q => absurd ((XT.and_neg32 _ _).mp q).2 (by decide)
    rw [Int32.lt_iff_toInt_lt] at q
    have : (0 : Int32).toInt = 0 := by decide
    omega
  have e : (3 : Int32).toInt = 3 := by decide
  have e0 : (0 : Int32).toInt = 0 := by decide
  have e1 : (1 : Int32).toInt = 1 := by decide
  have e2 : (2 : Int32).toInt = 2 := by decide
  have h1 : ((a &&& (2147483647 : Int32)) % (3 : Int32)).toInt = (a &&& (2147483647 : Int32)).toInt % 3 := by rw [Int32.toInt_mod, e, Int.tmod_eq_emod_of_nonneg h0]
  rw [← Int32.toInt_inj, ← Int32.toInt_inj, ← Int32.toInt_inj]
  omega
theorem own_arc_ix : ∀ (kd : Fin 8) (i : Fin 26), own_arc (Int32.ofNat kd.val) (Int32.ofNat i.val) &&& 31 = Int32.ofNat i.val := by decide +kernel
theorem own_arc_kind : ∀ (kd : Fin 8) (i : Fin 26), own_kind (own_arc (Int32.ofNat kd.val) (Int32.ofNat i.val)) = Int32.ofNat kd.val := by decide +kernel
theorem own_d1_0 : decode prog_24_method_2_code 0 = .ok (.getstatic 13, 3) := by decide +kernel
theorem own_d1_3 : decode prog_24_method_2_code 3 = .ok (.iload_n 1, 1) := by decide +kernel
theorem own_d1_4 : decode prog_24_method_2_code 4 = .ok (.iconst 4, 1) := by decide +kernel
theorem own_d1_5 : decode prog_24_method_2_code 5 = .ok (.imul, 1) := by decide +kernel
theorem own_d1_6 : decode prog_24_method_2_code 6 = .ok (.iload_n 2, 1) := by decide +kernel
theorem own_d1_7 : decode prog_24_method_2_code 7 = .ok (.ifCond .eq 7, 3) := by decide +kernel
theorem own_d1_14 : decode prog_24_method_2_code 14 = .ok (.iconst 0, 1) := by decide +kernel
theorem own_d1_15 : decode prog_24_method_2_code 15 = .ok (.iadd, 1) := by decide +kernel
theorem own_d1_16 : decode prog_24_method_2_code 16 = .ok (.iload_n 3, 1) := by decide +kernel
theorem own_d1_17 : decode prog_24_method_2_code 17 = .ok (.ifCond .eq 7, 3) := by decide +kernel
theorem own_d1_24 : decode prog_24_method_2_code 24 = .ok (.iconst 0, 1) := by decide +kernel
theorem own_d1_25 : decode prog_24_method_2_code 25 = .ok (.iadd, 1) := by decide +kernel
theorem own_d1_26 : decode prog_24_method_2_code 26 = .ok (.iaload, 1) := by decide +kernel
theorem own_d1_27 : decode prog_24_method_2_code 27 = .ok (.istore 4, 2) := by decide +kernel
theorem own_d1_29 : decode prog_24_method_2_code 29 = .ok (.iload 4, 2) := by decide +kernel
theorem own_d1_31 : decode prog_24_method_2_code 31 = .ok (.iconst 5, 1) := by decide +kernel
theorem own_d1_32 : decode prog_24_method_2_code 32 = .ok (.ishl, 1) := by decide +kernel
theorem own_d1_33 : decode prog_24_method_2_code 33 = .ok (.iload_n 0, 1) := by decide +kernel
theorem own_d1_34 : decode prog_24_method_2_code 34 = .ok (.ior, 1) := by decide +kernel
theorem own_d1_35 : decode prog_24_method_2_code 35 = .ok (.i2b, 1) := by decide +kernel
theorem own_d1_36 : decode prog_24_method_2_code 36 = .ok (.ireturn, 1) := by decide +kernel
theorem own_d1_20 : decode prog_24_method_2_code 20 = .ok (.iconst 1, 1) := by decide +kernel
theorem own_d1_21 : decode prog_24_method_2_code 21 = .ok (.goto 4, 3) := by decide +kernel
theorem own_d1_10 : decode prog_24_method_2_code 10 = .ok (.iconst 2, 1) := by decide +kernel
theorem own_d1_11 : decode prog_24_method_2_code 11 = .ok (.goto 4, 3) := by decide +kernel
theorem own_pn1 : plainFor (⟨"com/example/radix26/radix26/internal/trie/FrozenNodes", "arcByte", "(IIZZ)B"⟩ : MethodName) = true := plainFor_of_name (by first | (simp [plainName, overriddenIn]; done) | decide +kernel)
set_option maxRecDepth 65536 in
set_option maxHeartbeats 40000000 in
theorem own_marc (l : Launch) (Z : State) (a0 : Array Value) (hw : ∀ d ∈ tables_1, d.before a0 Z = true) (i : Int32) (w : Int32) (la : Int32) (wo : Int32) (av : Addr) (kc : ClassId) (j : Nat) (kd : Int32) (h0 : Heap) (n0 : Nat) (hs0 : n0 ≤ h0.size) (OL : Old Z n0 h0) (z_s : Sta Z Z.heap "com/example/radix26/radix26/internal/trie/FrozenNodes" "KINDS" "[I" (.ref av)) (z_A : own_A Z Z.heap av kc .int [(.int (-1 : Int32)), (.int (0 : Int32)), (.int (-1 : Int32)), (.int (3 : Int32)), (.int (-1 : Int32)), (.int (-1 : Int32)), (.int (4 : Int32)), (.int (5 : Int32)), (.int (1 : Int32)), (.int (2 : Int32)), (.int (6 : Int32)), (.int (7 : Int32))]) (hj : (own_ix w la wo).toNatClampNeg = j) (hj0 : ¬ own_ix w la wo < 0) (hv : ([(.int (-1 : Int32)), (.int (0 : Int32)), (.int (-1 : Int32)), (.int (3 : Int32)), (.int (-1 : Int32)), (.int (-1 : Int32)), (.int (4 : Int32)), (.int (5 : Int32)), (.int (1 : Int32)), (.int (2 : Int32)), (.int (6 : Int32)), (.int (7 : Int32))] : List Value)[j]? = some (.int kd)) :
    own_Met l (⟨"com/example/radix26/radix26/internal/trie/FrozenNodes", "arcByte", "(IIZZ)B"⟩ : MethodName) prog_24_method_2_code 5 (some .byte) ({ frames := 0, cells := 0, slots := 0, locals := 0 } : Room) Z #[(.int i), (.int w), (.int la), (.int wo)] h0 n0 (fun v h' => h' = h0 ∧ v = some (.int (own_arc kd i))) := by
  refine own_met (Ls := #[.val (.int i), .val (.int w), .val (.int la), .val (.int wo), .unset]) own_pn1 hs0 (fun m => by first | (simp [entryFrame, mkF, argsToLocals, Value.category]; done) | rfl) ?_
  intro p e s m below meth c T X
  refine own_getS X 3 own_d1_0 rfl (hw _ (List.mem_of_getElem? (i := 5) rfl)) Via.refl (Sta.ext OL.2 z_s) ?_
  intro T X
  refine own_iloadN X 4 w own_d1_3 rfl rfl ?_
  refine own_iconst X 5 (4 : Int32) own_d1_4 rfl rfl ?_
  refine own_imul X 6 own_d1_5 rfl ?_
  refine own_iloadN X 7 la own_d1_6 rfl rfl ?_
  by_cases hc7 : la = (0 : Int32)
  · refine own_ifY X 14 own_d1_7 (by decide) (by decide) (XT.i0_eq_t hc7) ?_
    refine own_iconst X 15 (0 : Int32) own_d1_14 rfl rfl ?_
    refine own_iadd X 16 own_d1_15 rfl ?_
    refine own_iloadN X 17 wo own_d1_16 rfl rfl ?_
    by_cases hc17 : wo = (0 : Int32)
    · refine own_ifY X 24 own_d1_17 (by decide) (by decide) (XT.i0_eq_t hc17) ?_
      refine own_iconst X 25 (0 : Int32) own_d1_24 rfl rfl ?_
      refine own_iadd X 26 own_d1_25 rfl ?_
      refine own_iaload X 27 j (.int kd) own_d1_26 rfl (own_A.ext z_A OL.2) (by simpa [own_ix, hc7, hc17] using hj) (by simpa [own_ix, hc7, hc17] using hj0) hv ?_
      refine own_istore X 29 #[.val (.int i), .val (.int w), .val (.int la), .val (.int wo), .val (.int kd)] own_d1_27 rfl rfl ?_
      refine own_iload X 31 kd own_d1_29 rfl rfl ?_
      refine own_iconst X 32 (5 : Int32) own_d1_31 rfl rfl ?_
      refine own_ishl X 33 own_d1_32 rfl ?_
      refine own_iloadN X 34 i own_d1_33 rfl rfl ?_
      refine own_ior X 35 own_d1_34 rfl ?_
      refine own_i2b X 36 own_d1_35 rfl ?_
      exact own_retN X .byte own_d1_36 rfl (by simp) (by decide) (by decide) (⟨rfl, by simp only [own_arc, own_narb]⟩)
    · refine own_ifN X 20 own_d1_17 rfl (XT.i0_eq_f hc17) ?_
      refine own_iconst X 21 (1 : Int32) own_d1_20 rfl rfl ?_
      refine own_goto X 25 own_d1_21 (by decide) (by decide) ?_
      refine own_iadd X 26 own_d1_25 rfl ?_
      refine own_iaload X 27 j (.int kd) own_d1_26 rfl (own_A.ext z_A OL.2) (by simpa [own_ix, hc7, hc17] using hj) (by simpa [own_ix, hc7, hc17] using hj0) hv ?_
      refine own_istore X 29 #[.val (.int i), .val (.int w), .val (.int la), .val (.int wo), .val (.int kd)] own_d1_27 rfl rfl ?_
      refine own_iload X 31 kd own_d1_29 rfl rfl ?_
      refine own_iconst X 32 (5 : Int32) own_d1_31 rfl rfl ?_
      refine own_ishl X 33 own_d1_32 rfl ?_
      refine own_iloadN X 34 i own_d1_33 rfl rfl ?_
      refine own_ior X 35 own_d1_34 rfl ?_
      refine own_i2b X 36 own_d1_35 rfl ?_
      exact own_retN X .byte own_d1_36 rfl (by simp) (by decide) (by decide) (⟨rfl, by simp only [own_arc, own_narb]⟩)
  · refine own_ifN X 10 own_d1_7 rfl (XT.i0_eq_f hc7) ?_
    refine own_iconst X 11 (2 : Int32) own_d1_10 rfl rfl ?_
    refine own_goto X 15 own_d1_11 (by decide) (by decide) ?_
    refine own_iadd X 16 own_d1_15 rfl ?_
    refine own_iloadN X 17 wo own_d1_16 rfl rfl ?_
    by_cases hc17 : wo = (0 : Int32)
    · refine own_ifY X 24 own_d1_17 (by decide) (by decide) (XT.i0_eq_t hc17) ?_
      refine own_iconst X 25 (0 : Int32) own_d1_24 rfl rfl ?_
      refine own_iadd X 26 own_d1_25 rfl ?_
      refine own_iaload X 27 j (.int kd) own_d1_26 rfl (own_A.ext z_A OL.2) (by simpa [own_ix, hc7, hc17] using hj) (by simpa [own_ix, hc7, hc17] using hj0) hv ?_
      refine own_istore X 29 #[.val (.int i), .val (.int w), .val (.int la), .val (.int wo), .val (.int kd)] own_d1_27 rfl rfl ?_
      refine own_iload X 31 kd own_d1_29 rfl rfl ?_
      refine own_iconst X 32 (5 : Int32) own_d1_31 rfl rfl ?_
      refine own_ishl X 33 own_d1_32 rfl ?_
      refine own_iloadN X 34 i own_d1_33 rfl rfl ?_
      refine own_ior X 35 own_d1_34 rfl ?_
      refine own_i2b X 36 own_d1_35 rfl ?_
      exact own_retN X .byte own_d1_36 rfl (by simp) (by decide) (by decide) (⟨rfl, by simp only [own_arc, own_narb]⟩)
    · refine own_ifN X 20 own_d1_17 rfl (XT.i0_eq_f hc17) ?_
      refine own_iconst X 21 (1 : Int32) own_d1_20 rfl rfl ?_
      refine own_goto X 25 own_d1_21 (by decide) (by decide) ?_
      refine own_iadd X 26 own_d1_25 rfl ?_
      refine own_iaload X 27 j (.int kd) own_d1_26 rfl (own_A.ext z_A OL.2) (by simpa [own_ix, hc7, hc17] using hj) (by simpa [own_ix, hc7, hc17] using hj0) hv ?_
      refine own_istore X 29 #[.val (.int i), .val (.int w), .val (.int la), .val (.int wo), .val (.int kd)] own_d1_27 rfl rfl ?_
      refine own_iload X 31 kd own_d1_29 rfl rfl ?_
      refine own_iconst X 32 (5 : Int32) own_d1_31 rfl rfl ?_
      refine own_ishl X 33 own_d1_32 rfl ?_
      refine own_iloadN X 34 i own_d1_33 rfl rfl ?_
      refine own_ior X 35 own_d1_34 rfl ?_
      refine own_i2b X 36 own_d1_35 rfl ?_
      exact own_retN X .byte own_d1_36 rfl (by simp) (by decide) (by decide) (⟨rfl, by simp only [own_arc, own_narb]⟩)
theorem own_d2_0 : decode prog_24_method_1_code 0 = .ok (.aload_n 0, 1) := by decide +kernel
theorem own_d2_1 : decode prog_24_method_1_code 1 = .ok (.invokespecial 3, 3) := by decide +kernel
theorem own_d2_4 : decode prog_24_method_1_code 4 = .ok (.aload_n 0, 1) := by decide +kernel
theorem own_d2_5 : decode prog_24_method_1_code 5 = .ok (.aload_n 1, 1) := by decide +kernel
theorem own_d2_6 : decode prog_24_method_1_code 6 = .ok (.putfield 9, 3) := by decide +kernel
theorem own_d2_9 : decode prog_24_method_1_code 9 = .ok (.return_, 1) := by decide +kernel
theorem own_pn2 : plainFor (⟨"com/example/radix26/radix26/internal/trie/FrozenNodes", "<init>", "([B)V"⟩ : MethodName) = true := plainFor_of_name (by first | (simp [plainName, overriddenIn]; done) | decide +kernel)
set_option maxRecDepth 65536 in
set_option maxHeartbeats 40000000 in
theorem own_mini (l : Launch) (Z : State) (a0 : Array Value) (hw : ∀ d ∈ tables_1, d.before a0 Z = true) (a : Addr) (b : Addr) (h0 : Heap) (n0 : Nat) (hs0 : n0 ≤ h0.size) (Fa : Fld Z h0 a "com/example/radix26/radix26/internal/trie/FrozenNodes" "bytes" "[B" .null) (Ea : Exa Z h0 a "com/example/radix26/radix26/internal/trie/FrozenNodes") (ga : n0 ≤ a) :
    own_Met l (⟨"com/example/radix26/radix26/internal/trie/FrozenNodes", "<init>", "([B)V"⟩ : MethodName) prog_24_method_1_code 2 none ({ frames := 1, cells := 0, slots := 0, locals := 12 } : Room) Z #[(.ref a), (.ref b)] h0 n0 (fun v h' => Keep h0 h' [a] ∧ v = none ∧ Fld Z h' a "com/example/radix26/radix26/internal/trie/FrozenNodes" "bytes" "[B" (.ref b)) := by
  refine own_met (Ls := #[.val (.ref a), .val (.ref b)]) own_pn2 hs0 (fun m => by first | (simp [entryFrame, mkF, argsToLocals, Value.category]; done) | rfl) ?_
  intro p e s m below meth c T X
  have K0 := Keep.refl h0 [a]
  refine own_aloadN X 1 (.ref a) own_d2_0 rfl rfl rfl ?_
  refine own_initO X 4 own_d2_1 rfl (hw _ (List.mem_of_getElem? (i := 13) rfl)) (hw _ (List.mem_of_getElem? (i := 14) rfl)) (hw _ (List.mem_of_getElem? (i := 15) rfl)) rfl (by decide) (Nat.le_of_ble_eq_true rfl) ?_
  intro T X
  refine own_aloadN X 5 (.ref a) own_d2_4 rfl rfl rfl ?_
  refine own_aloadN X 6 (.ref b) own_d2_5 rfl rfl rfl ?_
  refine own_putF X 9 (.array .byte) own_d2_6 rfl (hw _ (List.mem_of_getElem? (i := 16) rfl)) Via.refl Fa Ea (Or.inr ⟨(hw _ (List.mem_of_getElem? (i := 17) rfl)), rfl, rfl⟩) (hw _ (List.mem_of_getElem? (i := 9) rfl)) (by decide) rfl rfl (by omega) ?_
  intro T h1 X W_h1
  have nw_h1 := Fld.same W_h1 Fa
  have zs_h1 : h0.size ≤ h1.size := (Nat.le_of_eq W_h1.size.symm)
  have Ea := Exa.wr W_h1 Ea
  have K0 := K0.wr W_h1 (Or.inl (by simp))
  have Fa := nw_h1
  exact own_retV X own_d2_9 rfl (by decide) (by decide) (⟨K0, rfl, Fa⟩)
theorem own_d4_0 : decode prog_24_method_3_code 0 = .ok (.aload_n 0, 1) := by decide +kernel
theorem own_d4_1 : decode prog_24_method_3_code 1 = .ok (.getfield 9, 3) := by decide +kernel
theorem own_d4_4 : decode prog_24_method_3_code 4 = .ok (.iload_n 1, 1) := by decide +kernel
theorem own_d4_5 : decode prog_24_method_3_code 5 = .ok (.baload, 1) := by decide +kernel
theorem own_d4_6 : decode prog_24_method_3_code 6 = .ok (.bipush 31, 2) := by decide +kernel
theorem own_d4_8 : decode prog_24_method_3_code 8 = .ok (.iand, 1) := by decide +kernel
theorem own_d4_9 : decode prog_24_method_3_code 9 = .ok (.ireturn, 1) := by decide +kernel
theorem own_pn4 : plainFor (⟨"com/example/radix26/radix26/internal/trie/FrozenNodes", "index", "(I)I"⟩ : MethodName) = true := plainFor_of_name (by first | (simp [plainName, overriddenIn]; done) | decide +kernel)
set_option maxRecDepth 65536 in
set_option maxHeartbeats 40000000 in
theorem own_mindex (l : Launch) (Z : State) (a0 : Array Value) (hw : ∀ d ∈ tables_1, d.before a0 Z = true) (a : Addr) (i : Int32) (b : Addr) (kc : ClassId) (ab : Int32) (h0 : Heap) (n0 : Nat) (hs0 : n0 ≤ h0.size) (Fa : Fld Z h0 a "com/example/radix26/radix26/internal/trie/FrozenNodes" "bytes" "[B" (.ref b)) (Ea : Exa Z h0 a "com/example/radix26/radix26/internal/trie/FrozenNodes") (Ab : own_A Z h0 b kc .byte [(.int ab), (.int 2), (.int 0), (.int 10)]) (hi : i = 0) :
    own_Met l (⟨"com/example/radix26/radix26/internal/trie/FrozenNodes", "index", "(I)I"⟩ : MethodName) prog_24_method_3_code 2 (some .int) ({ frames := 0, cells := 0, slots := 0, locals := 0 } : Room) Z #[(.ref a), (.int i)] h0 n0 (fun v h' => h' = h0 ∧ v = some (.int (ab &&& 31))) := by
  refine own_met (Ls := #[.val (.ref a), .val (.int i)]) own_pn4 hs0 (fun m => by first | (simp [entryFrame, mkF, argsToLocals, Value.category]; done) | rfl) ?_
  intro p e s m below meth c T X
  subst hi
  refine own_aloadN X 1 (.ref a) own_d4_0 rfl rfl rfl ?_
  refine own_getF X 4 own_d4_1 rfl (hw _ (List.mem_of_getElem? (i := 16) rfl)) Via.refl Fa ?_
  intro T X
  refine own_iloadN X 5 (0 : Int32) own_d4_4 rfl rfl ?_
  refine own_baload X 6 0 (.int ab) own_d4_5 rfl Ab (by decide) (by decide) rfl ?_
  refine own_bipush X 8 (31 : Int32) own_d4_6 rfl (by decide) ?_
  refine own_iand X 9 own_d4_8 rfl ?_
  exact own_retI X own_d4_9 rfl (by decide) (by decide) (⟨rfl, rfl⟩)
theorem own_d6_0 : decode prog_24_method_13_code 0 = .ok (.aload_n 0, 1) := by decide +kernel
theorem own_d6_1 : decode prog_24_method_13_code 1 = .ok (.getfield 9, 3) := by decide +kernel
theorem own_d6_4 : decode prog_24_method_13_code 4 = .ok (.iload_n 1, 1) := by decide +kernel
theorem own_d6_5 : decode prog_24_method_13_code 5 = .ok (.baload, 1) := by decide +kernel
theorem own_d6_6 : decode prog_24_method_13_code 6 = .ok (.sipush 255, 3) := by decide +kernel
theorem own_d6_9 : decode prog_24_method_13_code 9 = .ok (.iand, 1) := by decide +kernel
theorem own_d6_10 : decode prog_24_method_13_code 10 = .ok (.iconst 5, 1) := by decide +kernel
theorem own_d6_11 : decode prog_24_method_13_code 11 = .ok (.iushr, 1) := by decide +kernel
theorem own_d6_12 : decode prog_24_method_13_code 12 = .ok (.ireturn, 1) := by decide +kernel
theorem own_pn6 : plainFor (⟨"com/example/radix26/radix26/internal/trie/FrozenNodes", "kind", "(I)I"⟩ : MethodName) = true := plainFor_of_name (by first | (simp [plainName, overriddenIn]; done) | decide +kernel)
set_option maxRecDepth 65536 in
set_option maxHeartbeats 40000000 in
theorem own_mkind (l : Launch) (Z : State) (a0 : Array Value) (hw : ∀ d ∈ tables_1, d.before a0 Z = true) (a : Addr) (i : Int32) (b : Addr) (kc : ClassId) (ab : Int32) (h0 : Heap) (n0 : Nat) (hs0 : n0 ≤ h0.size) (Fa : Fld Z h0 a "com/example/radix26/radix26/internal/trie/FrozenNodes" "bytes" "[B" (.ref b)) (Ea : Exa Z h0 a "com/example/radix26/radix26/internal/trie/FrozenNodes") (Ab : own_A Z h0 b kc .byte [(.int ab), (.int 2), (.int 0), (.int 10)]) (hi : i = 0) :
    own_Met l (⟨"com/example/radix26/radix26/internal/trie/FrozenNodes", "kind", "(I)I"⟩ : MethodName) prog_24_method_13_code 2 (some .int) ({ frames := 0, cells := 0, slots := 0, locals := 0 } : Room) Z #[(.ref a), (.int i)] h0 n0 (fun v h' => h' = h0 ∧ v = some (.int (own_kind ab))) := by
  refine own_met (Ls := #[.val (.ref a), .val (.int i)]) own_pn6 hs0 (fun m => by first | (simp [entryFrame, mkF, argsToLocals, Value.category]; done) | rfl) ?_
  intro p e s m below meth c T X
  subst hi
  refine own_aloadN X 1 (.ref a) own_d6_0 rfl rfl rfl ?_
  refine own_getF X 4 own_d6_1 rfl (hw _ (List.mem_of_getElem? (i := 16) rfl)) Via.refl Fa ?_
  intro T X
  refine own_iloadN X 5 (0 : Int32) own_d6_4 rfl rfl ?_
  refine own_baload X 6 0 (.int ab) own_d6_5 rfl Ab (by decide) (by decide) rfl ?_
  refine own_sipush X 9 (255 : Int32) own_d6_6 rfl (by decide) ?_
  refine own_iand X 10 own_d6_9 rfl ?_
  refine own_iconst X 11 (5 : Int32) own_d6_10 rfl rfl ?_
  refine own_iushr X 12 own_d6_11 rfl ?_
  exact own_retI X own_d6_12 rfl (by decide) (by decide) (⟨rfl, rfl⟩)
theorem own_d7_0 : decode prog_24_method_14_code 0 = .ok (.iload_n 0, 1) := by decide +kernel
theorem own_d7_1 : decode prog_24_method_14_code 1 = .ok (.iload_n 1, 1) := by decide +kernel
theorem own_d7_2 : decode prog_24_method_14_code 2 = .ok (.iushr, 1) := by decide +kernel
theorem own_d7_3 : decode prog_24_method_14_code 3 = .ok (.iconst 1, 1) := by decide +kernel
theorem own_d7_4 : decode prog_24_method_14_code 4 = .ok (.iand, 1) := by decide +kernel
theorem own_d7_5 : decode prog_24_method_14_code 5 = .ok (.ifCond .eq 7, 3) := by decide +kernel
theorem own_d7_12 : decode prog_24_method_14_code 12 = .ok (.iconst 0, 1) := by decide +kernel
theorem own_d7_13 : decode prog_24_method_14_code 13 = .ok (.ireturn, 1) := by decide +kernel
theorem own_d7_8 : decode prog_24_method_14_code 8 = .ok (.iconst 1, 1) := by decide +kernel
theorem own_d7_9 : decode prog_24_method_14_code 9 = .ok (.goto 4, 3) := by decide +kernel
theorem own_pn7 : plainFor (⟨"com/example/radix26/radix26/internal/trie/FrozenNodes", "is", "(II)Z"⟩ : MethodName) = true := plainFor_of_name (by first | (simp [plainName, overriddenIn]; done) | decide +kernel)
set_option maxRecDepth 65536 in
set_option maxHeartbeats 40000000 in
theorem own_mis (l : Launch) (Z : State) (a0 : Array Value) (hw : ∀ d ∈ tables_1, d.before a0 Z = true) (x : Int32) (k : Int32) (h0 : Heap) (n0 : Nat) (hs0 : n0 ≤ h0.size) :
    own_Met l (⟨"com/example/radix26/radix26/internal/trie/FrozenNodes", "is", "(II)Z"⟩ : MethodName) prog_24_method_14_code 2 (some .boolean) ({ frames := 0, cells := 0, slots := 0, locals := 0 } : Room) Z #[(.int x), (.int k)] h0 n0 (fun v h' => h' = h0 ∧ v = some (.int (own_is x k))) := by
  refine own_met (Ls := #[.val (.int x), .val (.int k)]) own_pn7 hs0 (fun m => by first | (simp [entryFrame, mkF, argsToLocals, Value.category]; done) | rfl) ?_
  intro p e s m below meth c T X
  refine own_iloadN X 1 x own_d7_0 rfl rfl ?_
  refine own_iloadN X 2 k own_d7_1 rfl rfl ?_
  refine own_iushr X 3 own_d7_2 rfl ?_
  refine own_iconst X 4 (1 : Int32) own_d7_3 rfl rfl ?_
  refine own_iand X 5 own_d7_4 rfl ?_
  by_cases hc5 : ((XT.ushr x k) &&& (1 : Int32)) = (0 : Int32)
  · refine own_ifY X 12 own_d7_5 (by decide) (by decide) (XT.i0_eq_t hc5) ?_
    refine own_iconst X 13 (0 : Int32) own_d7_12 rfl rfl ?_
    exact own_retN X .boolean own_d7_13 rfl (by simp) (by decide) (by decide) (⟨rfl, by simp [own_is, nar, *]⟩)
  · refine own_ifN X 8 own_d7_5 rfl (XT.i0_eq_f hc5) ?_
    refine own_iconst X 9 (1 : Int32) own_d7_8 rfl rfl ?_
    refine own_goto X 13 own_d7_9 (by decide) (by decide) ?_
    exact own_retN X .boolean own_d7_13 rfl (by simp) (by decide) (by decide) (⟨rfl, by simp [own_is, nar, *]⟩)
theorem own_d5_0 : decode prog_24_method_5_code 0 = .ok (.sipush 173, 3) := by decide +kernel
theorem own_d5_3 : decode prog_24_method_5_code 3 = .ok (.aload_n 0, 1) := by decide +kernel
theorem own_d5_4 : decode prog_24_method_5_code 4 = .ok (.iload_n 1, 1) := by decide +kernel
theorem own_d5_5 : decode prog_24_method_5_code 5 = .ok (.invokevirtual 21, 3) := by decide +kernel
theorem own_pd0 : parseMethodDescriptor "(I)I" = some ⟨[.int], some .int⟩ := by decide +kernel
theorem own_d5_8 : decode prog_24_method_5_code 8 = .ok (.invokestatic 24, 3) := by decide +kernel
theorem own_pd1 : parseMethodDescriptor "(II)Z" = some ⟨[.int, .int], some .boolean⟩ := by decide +kernel
theorem own_d5_11 : decode prog_24_method_5_code 11 = .ok (.ireturn, 1) := by decide +kernel
theorem own_pn5 : plainFor (⟨"com/example/radix26/radix26/internal/trie/FrozenNodes", "isWord", "(I)Z"⟩ : MethodName) = true := plainFor_of_name (by first | (simp [plainName, overriddenIn]; done) | decide +kernel)
set_option maxRecDepth 65536 in
set_option maxHeartbeats 40000000 in
theorem own_misw (l : Launch) (Z : State) (a0 : Array Value) (hw : ∀ d ∈ tables_1, d.before a0 Z = true) (a : Addr) (i : Int32) (b : Addr) (kc : ClassId) (ab : Int32) (h0 : Heap) (n0 : Nat) (hs0 : n0 ≤ h0.size) (Fa : Fld Z h0 a "com/example/radix26/radix26/internal/trie/FrozenNodes" "bytes" "[B" (.ref b)) (Ea : Exa Z h0 a "com/example/radix26/radix26/internal/trie/FrozenNodes") (Ab : own_A Z h0 b kc .byte [(.int ab), (.int 2), (.int 0), (.int 10)]) (hi : i = 0) :
    own_Met l (⟨"com/example/radix26/radix26/internal/trie/FrozenNodes", "isWord", "(I)Z"⟩ : MethodName) prog_24_method_5_code 2 (some .boolean) ({ frames := 1, cells := 0, slots := 0, locals := 14 } : Room) Z #[(.ref a), (.int i)] h0 n0 (fun v h' => h' = h0 ∧ v = some (.int (own_is 173 (own_kind ab)))) := by
  refine own_met (Ls := #[.val (.ref a), .val (.int i)]) own_pn5 hs0 (fun m => by first | (simp [entryFrame, mkF, argsToLocals, Value.category]; done) | rfl) ?_
  intro p e s m below meth c T X
  subst hi
  refine own_sipush X 3 (173 : Int32) own_d5_0 rfl (by decide) ?_
  refine own_aloadN X 4 (.ref a) own_d5_3 rfl rfl rfl ?_
  refine own_iloadN X 5 (0 : Int32) own_d5_4 rfl rfl ?_
  refine own_callP X 8 [(.int (0 : Int32))] [(.int (173 : Int32))] own_d5_5 rfl (hw _ (List.mem_of_getElem? (i := 28) rfl)) (hw _ (List.mem_of_getElem? (i := 29) rfl)) (own_ni_inst (hw _ (List.mem_of_getElem? (i := 9) rfl))) (hw _ (List.mem_of_getElem? (i := 30) rfl)) (hw _ (List.mem_of_getElem? (i := 3) rfl)) (hw _ (List.mem_of_getElem? (i := 31) rfl)) (by decide) Ea (own_mkind l Z a0 hw a (0 : Int32) b kc ab h0 n0 X.sz Fa Ea Ab rfl) (fun _ _ q => Nat.le_of_eq (congrArg Array.size q.1.symm)) rfl own_pd0 rfl rfl rfl (by decide) (Nat.le_of_ble_eq_true rfl) (by decide) (by decide) ?_
  rintro v5 T h_ X ⟨eh_, rfl⟩
  rw [eh_] at X
  show own_Ends p e below _ (T.setTop (mkF m 8 #[.val (.ref a), .val (.int (0 : Int32))] [(.int (own_kind ab)), (.int (173 : Int32))]))
  refine own_callS X 11 [(.int (173 : Int32)), (.int (own_kind ab))] [] own_d5_8 rfl (hw _ (List.mem_of_getElem? (i := 32) rfl)) (hw _ (List.mem_of_getElem? (i := 33) rfl)) (hw _ (List.mem_of_getElem? (i := 3) rfl)) (hw _ (List.mem_of_getElem? (i := 34) rfl)) (by decide) (own_mis l Z a0 hw (173 : Int32) (own_kind ab) h0 n0 X.sz) (fun _ _ q => Nat.le_of_eq (congrArg Array.size q.1.symm)) rfl own_pd1 rfl rfl rfl (by decide) (Nat.le_of_ble_eq_true rfl) (by decide) (by decide) ?_
  rintro v8 T h_ X ⟨eh_, rfl⟩
  rw [eh_] at X
  show own_Ends p e below _ (T.setTop (mkF m 11 #[.val (.ref a), .val (.int (0 : Int32))] [(.int (own_is (173 : Int32) (own_kind ab)))]))
  exact own_retN X .boolean own_d5_11 rfl (by simp) (by decide) (by decide) (⟨rfl, by rw [own_nar1 (own_is01 _ _)]⟩)
theorem own_d11_0 : decode prog_24_method_16_code 0 = .ok (.iconst 0, 1) := by decide +kernel
theorem own_d11_1 : decode prog_24_method_16_code 1 = .ok (.istore_n 2, 1) := by decide +kernel
theorem own_d11_2 : decode prog_24_method_16_code 2 = .ok (.iload_n 1, 1) := by decide +kernel
theorem own_d11_3 : decode prog_24_method_16_code 3 = .ok (.istore_n 3, 1) := by decide +kernel
theorem own_d11_4 : decode prog_24_method_16_code 4 = .ok (.iconst 0, 1) := by decide +kernel
theorem own_d11_5 : decode prog_24_method_16_code 5 = .ok (.istore 4, 2) := by decide +kernel
theorem own_d11_7 : decode prog_24_method_16_code 7 = .ok (.aload_n 0, 1) := by decide +kernel
theorem own_d11_8 : decode prog_24_method_16_code 8 = .ok (.getfield 9, 3) := by decide +kernel
theorem own_d11_11 : decode prog_24_method_16_code 11 = .ok (.iload_n 3, 1) := by decide +kernel
theorem own_d11_12 : decode prog_24_method_16_code 12 = .ok (.baload, 1) := by decide +kernel
theorem own_d11_13 : decode prog_24_method_16_code 13 = .ok (.istore 5, 2) := by decide +kernel
theorem own_d11_15 : decode prog_24_method_16_code 15 = .ok (.iinc 3 1, 3) := by decide +kernel
theorem own_d11_18 : decode prog_24_method_16_code 18 = .ok (.iload_n 2, 1) := by decide +kernel
theorem own_d11_19 : decode prog_24_method_16_code 19 = .ok (.iload 5, 2) := by decide +kernel
theorem own_d11_21 : decode prog_24_method_16_code 21 = .ok (.bipush 127, 2) := by decide +kernel
theorem own_d11_23 : decode prog_24_method_16_code 23 = .ok (.iand, 1) := by decide +kernel
theorem own_d11_24 : decode prog_24_method_16_code 24 = .ok (.iload 4, 2) := by decide +kernel
theorem own_d11_26 : decode prog_24_method_16_code 26 = .ok (.ishl, 1) := by decide +kernel
theorem own_d11_27 : decode prog_24_method_16_code 27 = .ok (.ior, 1) := by decide +kernel
theorem own_d11_28 : decode prog_24_method_16_code 28 = .ok (.istore_n 2, 1) := by decide +kernel
theorem own_d11_29 : decode prog_24_method_16_code 29 = .ok (.iload 5, 2) := by decide +kernel
theorem own_d11_31 : decode prog_24_method_16_code 31 = .ok (.ifCond .lt 5, 3) := by decide +kernel
theorem own_d11_34 : decode prog_24_method_16_code 34 = .ok (.iload_n 2, 1) := by decide +kernel
theorem own_d11_35 : decode prog_24_method_16_code 35 = .ok (.ireturn, 1) := by decide +kernel
theorem own_pn11 : plainFor (⟨"com/example/radix26/radix26/internal/trie/FrozenNodes", "number", "(I)I"⟩ : MethodName) = true := plainFor_of_name (by first | (simp [plainName, overriddenIn]; done) | decide +kernel)
set_option maxRecDepth 65536 in
set_option maxHeartbeats 40000000 in
theorem own_mnum (l : Launch) (Z : State) (a0 : Array Value) (hw : ∀ d ∈ tables_1, d.before a0 Z = true) (a : Addr) (i : Int32) (b : Addr) (kc : ClassId) (ab : Int32) (j : Nat) (bb : Int32) (h0 : Heap) (n0 : Nat) (hs0 : n0 ≤ h0.size) (Fa : Fld Z h0 a "com/example/radix26/radix26/internal/trie/FrozenNodes" "bytes" "[B" (.ref b)) (Ea : Exa Z h0 a "com/example/radix26/radix26/internal/trie/FrozenNodes") (Ab : own_A Z h0 b kc .byte [(.int ab), (.int 2), (.int 0), (.int 10)]) (hj : i.toNatClampNeg = j) (hj0 : ¬ i < 0) (hv : ([(.int ab), (.int 2), (.int 0), (.int 10)] : List Value)[j]? = some (.int bb)) (hb0 : ¬ bb < 0) :
    own_Met l (⟨"com/example/radix26/radix26/internal/trie/FrozenNodes", "number", "(I)I"⟩ : MethodName) prog_24_method_16_code 6 (some .int) ({ frames := 0, cells := 0, slots := 0, locals := 0 } : Room) Z #[(.ref a), (.int i)] h0 n0 (fun v h' => h' = h0 ∧ v = some (.int (own_num bb))) := by
  refine own_met (Ls := #[.val (.ref a), .val (.int i), .unset, .unset, .unset, .unset]) own_pn11 hs0 (fun m => by first | (simp [entryFrame, mkF, argsToLocals, Value.category]; done) | rfl) ?_
  intro p e s m below meth c T X
  refine own_iconst X 1 (0 : Int32) own_d11_0 rfl rfl ?_
  refine own_istoreN X 2 #[.val (.ref a), .val (.int i), .val (.int (0 : Int32)), .unset, .unset, .unset] own_d11_1 rfl rfl ?_
  refine own_iloadN X 3 i own_d11_2 rfl rfl ?_
  refine own_istoreN X 4 #[.val (.ref a), .val (.int i), .val (.int (0 : Int32)), .val (.int i), .unset, .unset] own_d11_3 rfl rfl ?_
  refine own_iconst X 5 (0 : Int32) own_d11_4 rfl rfl ?_
  refine own_istore X 7 #[.val (.ref a), .val (.int i), .val (.int (0 : Int32)), .val (.int i), .val (.int (0 : Int32)), .unset] own_d11_5 rfl rfl ?_
  refine own_aloadN X 8 (.ref a) own_d11_7 rfl rfl rfl ?_
  refine own_getF X 11 own_d11_8 rfl (hw _ (List.mem_of_getElem? (i := 16) rfl)) Via.refl Fa ?_
  intro T X
  refine own_iloadN X 12 i own_d11_11 rfl rfl ?_
  refine own_baload X 13 j (.int bb) own_d11_12 rfl Ab hj hj0 hv ?_
  refine own_istore X 15 #[.val (.ref a), .val (.int i), .val (.int (0 : Int32)), .val (.int i), .val (.int (0 : Int32)), .val (.int bb)] own_d11_13 rfl rfl ?_
  refine own_iinc X 18 (1 : Int32) #[.val (.ref a), .val (.int i), .val (.int (0 : Int32)), .val (.int (i + (1 : Int32))), .val (.int (0 : Int32)), .val (.int bb)] own_d11_15 rfl rfl rfl rfl ?_
  refine own_iloadN X 19 (0 : Int32) own_d11_18 rfl rfl ?_
  refine own_iload X 21 bb own_d11_19 rfl rfl ?_
  refine own_bipush X 23 (127 : Int32) own_d11_21 rfl (by decide) ?_
  refine own_iand X 24 own_d11_23 rfl ?_
  refine own_iload X 26 (0 : Int32) own_d11_24 rfl rfl ?_
  refine own_ishl X 27 own_d11_26 rfl ?_
  refine own_ior X 28 own_d11_27 rfl ?_
  refine own_istoreN X 29 #[.val (.ref a), .val (.int i), .val (.int ((0 : Int32) ||| ((bb &&& (127 : Int32)) <<< ((0 : Int32) &&& 31)))), .val (.int (i + (1 : Int32))), .val (.int (0 : Int32)), .val (.int bb)] own_d11_28 rfl rfl ?_
  refine own_iload X 31 bb own_d11_29 rfl rfl ?_
  refine own_ifN X 34 own_d11_31 rfl (XT.i0_lt_f hb0) ?_
  refine own_iloadN X 35 ((0 : Int32) ||| ((bb &&& (127 : Int32)) <<< ((0 : Int32) &&& 31))) own_d11_34 rfl rfl ?_
  exact own_retI X own_d11_35 rfl (by decide) (by decide) (⟨rfl, rfl⟩)
theorem own_d12_0 : decode prog_24_method_17_code 0 = .ok (.iload_n 1, 1) := by decide +kernel
theorem own_d12_1 : decode prog_24_method_17_code 1 = .ok (.istore_n 2, 1) := by decide +kernel
theorem own_d12_2 : decode prog_24_method_17_code 2 = .ok (.aload_n 0, 1) := by decide +kernel
theorem own_d12_3 : decode prog_24_method_17_code 3 = .ok (.getfield 9, 3) := by decide +kernel
theorem own_d12_6 : decode prog_24_method_17_code 6 = .ok (.iload_n 2, 1) := by decide +kernel
theorem own_d12_7 : decode prog_24_method_17_code 7 = .ok (.baload, 1) := by decide +kernel
theorem own_d12_8 : decode prog_24_method_17_code 8 = .ok (.ifCond .ge 9, 3) := by decide +kernel
theorem own_d12_17 : decode prog_24_method_17_code 17 = .ok (.iload_n 2, 1) := by decide +kernel
theorem own_d12_18 : decode prog_24_method_17_code 18 = .ok (.iconst 1, 1) := by decide +kernel
theorem own_d12_19 : decode prog_24_method_17_code 19 = .ok (.iadd, 1) := by decide +kernel
theorem own_d12_20 : decode prog_24_method_17_code 20 = .ok (.ireturn, 1) := by decide +kernel
theorem own_pn12 : plainFor (⟨"com/example/radix26/radix26/internal/trie/FrozenNodes", "pastNumber", "(I)I"⟩ : MethodName) = true := plainFor_of_name (by first | (simp [plainName, overriddenIn]; done) | decide +kernel)
set_option maxRecDepth 65536 in
set_option maxHeartbeats 40000000 in
theorem own_mpnum (l : Launch) (Z : State) (a0 : Array Value) (hw : ∀ d ∈ tables_1, d.before a0 Z = true) (a : Addr) (i : Int32) (b : Addr) (kc : ClassId) (ab : Int32) (h0 : Heap) (n0 : Nat) (hs0 : n0 ≤ h0.size) (Fa : Fld Z h0 a "com/example/radix26/radix26/internal/trie/FrozenNodes" "bytes" "[B" (.ref b)) (Ea : Exa Z h0 a "com/example/radix26/radix26/internal/trie/FrozenNodes") (Ab : own_A Z h0 b kc .byte [(.int ab), (.int 2), (.int 0), (.int 10)]) (hi : i = 1) :
    own_Met l (⟨"com/example/radix26/radix26/internal/trie/FrozenNodes", "pastNumber", "(I)I"⟩ : MethodName) prog_24_method_17_code 3 (some .int) ({ frames := 0, cells := 0, slots := 0, locals := 0 } : Room) Z #[(.ref a), (.int i)] h0 n0 (fun v h' => h' = h0 ∧ v = some (.int 2)) := by
  refine own_met (Ls := #[.val (.ref a), .val (.int i), .unset]) own_pn12 hs0 (fun m => by first | (simp [entryFrame, mkF, argsToLocals, Value.category]; done) | rfl) ?_
  intro p e s m below meth c T X
  subst hi
  refine own_iloadN X 1 (1 : Int32) own_d12_0 rfl rfl ?_
  refine own_istoreN X 2 #[.val (.ref a), .val (.int (1 : Int32)), .val (.int (1 : Int32))] own_d12_1 rfl rfl ?_
  refine own_aloadN X 3 (.ref a) own_d12_2 rfl rfl rfl ?_
  refine own_getF X 6 own_d12_3 rfl (hw _ (List.mem_of_getElem? (i := 16) rfl)) Via.refl Fa ?_
  intro T X
  refine own_iloadN X 7 (1 : Int32) own_d12_6 rfl rfl ?_
  refine own_baload X 8 1 (.int 2) own_d12_7 rfl Ab (by decide) (by decide) rfl ?_
  refine own_ifY X 17 own_d12_8 (by decide) (by decide) (XT.i0_ge_t (by decide)) ?_
  refine own_iloadN X 18 (1 : Int32) own_d12_17 rfl rfl ?_
  refine own_iconst X 19 (1 : Int32) own_d12_18 rfl rfl ?_
  refine own_iadd X 20 own_d12_19 rfl ?_
  exact own_retI X own_d12_20 rfl (by decide) (by decide) (⟨rfl, by decide⟩)
theorem own_d8_0 : decode prog_24_method_7_code 0 = .ok (.aload_n 0, 1) := by decide +kernel
theorem own_d8_1 : decode prog_24_method_7_code 1 = .ok (.iload_n 1, 1) := by decide +kernel
theorem own_d8_2 : decode prog_24_method_7_code 2 = .ok (.invokevirtual 21, 3) := by decide +kernel
theorem own_d8_5 : decode prog_24_method_7_code 5 = .ok (.istore_n 2, 1) := by decide +kernel
theorem own_d8_6 : decode prog_24_method_7_code 6 = .ok (.iload_n 2, 1) := by decide +kernel
theorem own_d8_7 : decode prog_24_method_7_code 7 = .ok (.iconst 3, 1) := by decide +kernel
theorem own_d8_8 : decode prog_24_method_7_code 8 = .ok (.if_icmp .lt 8, 3) := by decide +kernel
theorem own_d8_16 : decode prog_24_method_7_code 16 = .ok (.iload_n 2, 1) := by decide +kernel
theorem own_d8_17 : decode prog_24_method_7_code 17 = .ok (.ifCond .ne 10, 3) := by decide +kernel
theorem own_d8_20 : decode prog_24_method_7_code 20 = .ok (.iload_n 1, 1) := by decide +kernel
theorem own_d8_21 : decode prog_24_method_7_code 21 = .ok (.iconst 1, 1) := by decide +kernel
theorem own_d8_22 : decode prog_24_method_7_code 22 = .ok (.iadd, 1) := by decide +kernel
theorem own_d8_23 : decode prog_24_method_7_code 23 = .ok (.istore_n 3, 1) := by decide +kernel
theorem own_d8_24 : decode prog_24_method_7_code 24 = .ok (.goto 11, 3) := by decide +kernel
theorem own_d8_35 : decode prog_24_method_7_code 35 = .ok (.iload_n 3, 1) := by decide +kernel
theorem own_d8_36 : decode prog_24_method_7_code 36 = .ok (.ireturn, 1) := by decide +kernel
theorem own_d8_27 : decode prog_24_method_7_code 27 = .ok (.aload_n 0, 1) := by decide +kernel
theorem own_d8_28 : decode prog_24_method_7_code 28 = .ok (.iload_n 1, 1) := by decide +kernel
theorem own_d8_29 : decode prog_24_method_7_code 29 = .ok (.iconst 1, 1) := by decide +kernel
theorem own_d8_30 : decode prog_24_method_7_code 30 = .ok (.iadd, 1) := by decide +kernel
theorem own_d8_31 : decode prog_24_method_7_code 31 = .ok (.invokevirtual 34, 3) := by decide +kernel
theorem own_d8_34 : decode prog_24_method_7_code 34 = .ok (.istore_n 3, 1) := by decide +kernel
theorem own_d8_11 : decode prog_24_method_7_code 11 = .ok (.iconst (-1), 1) := by decide +kernel
theorem own_d8_12 : decode prog_24_method_7_code 12 = .ok (.istore_n 3, 1) := by decide +kernel
theorem own_d8_13 : decode prog_24_method_7_code 13 = .ok (.goto 22, 3) := by decide +kernel
theorem own_pn8 : plainFor (⟨"com/example/radix26/radix26/internal/trie/FrozenNodes", "nextSibling", "(I)I"⟩ : MethodName) = true := plainFor_of_name (by first | (simp [plainName, overriddenIn]; done) | decide +kernel)
set_option maxRecDepth 65536 in
set_option maxHeartbeats 40000000 in
theorem own_mns (l : Launch) (Z : State) (a0 : Array Value) (hw : ∀ d ∈ tables_1, d.before a0 Z = true) (a : Addr) (i : Int32) (b : Addr) (kc : ClassId) (ab : Int32) (h0 : Heap) (n0 : Nat) (hs0 : n0 ≤ h0.size) (Fa : Fld Z h0 a "com/example/radix26/radix26/internal/trie/FrozenNodes" "bytes" "[B" (.ref b)) (Ea : Exa Z h0 a "com/example/radix26/radix26/internal/trie/FrozenNodes") (Ab : own_A Z h0 b kc .byte [(.int ab), (.int 2), (.int 0), (.int 10)]) (hi : i = 0) :
    own_Met l (⟨"com/example/radix26/radix26/internal/trie/FrozenNodes", "nextSibling", "(I)I"⟩ : MethodName) prog_24_method_7_code 4 (some .int) ({ frames := 1, cells := 0, slots := 0, locals := 14 } : Room) Z #[(.ref a), (.int i)] h0 n0 (fun v h' => h' = h0 ∧ v = some (.int (own_ns (own_kind ab)))) := by
  refine own_met (Ls := #[.val (.ref a), .val (.int i), .unset, .unset]) own_pn8 hs0 (fun m => by first | (simp [entryFrame, mkF, argsToLocals, Value.category]; done) | rfl) ?_
  intro p e s m below meth c T X
  subst hi
  refine own_aloadN X 1 (.ref a) own_d8_0 rfl rfl rfl ?_
  refine own_iloadN X 2 (0 : Int32) own_d8_1 rfl rfl ?_
  refine own_callP X 5 [(.int (0 : Int32))] [] own_d8_2 rfl (hw _ (List.mem_of_getElem? (i := 28) rfl)) (hw _ (List.mem_of_getElem? (i := 29) rfl)) (own_ni_inst (hw _ (List.mem_of_getElem? (i := 9) rfl))) (hw _ (List.mem_of_getElem? (i := 30) rfl)) (hw _ (List.mem_of_getElem? (i := 3) rfl)) (hw _ (List.mem_of_getElem? (i := 31) rfl)) (by decide) Ea (own_mkind l Z a0 hw a (0 : Int32) b kc ab h0 n0 X.sz Fa Ea Ab rfl) (fun _ _ q => Nat.le_of_eq (congrArg Array.size q.1.symm)) rfl own_pd0 rfl rfl rfl (by decide) (Nat.le_of_ble_eq_true rfl) (by decide) (by decide) ?_
  rintro v2 T h_ X ⟨eh_, rfl⟩
  rw [eh_] at X
  show own_Ends p e below _ (T.setTop (mkF m 5 #[.val (.ref a), .val (.int (0 : Int32)), .unset, .unset] [(.int (own_kind ab))]))
  refine own_istoreN X 6 #[.val (.ref a), .val (.int (0 : Int32)), .val (.int (own_kind ab)), .unset] own_d8_5 rfl rfl ?_
  refine own_iloadN X 7 (own_kind ab) own_d8_6 rfl rfl ?_
  refine own_iconst X 8 (3 : Int32) own_d8_7 rfl rfl ?_
  by_cases hc8 : (own_kind ab) < (3 : Int32)
  · refine own_icY X 16 own_d8_8 (by decide) (by decide) (XT.ii_lt_t hc8) ?_
    refine own_iloadN X 17 (own_kind ab) own_d8_16 rfl rfl ?_
    by_cases hc17 : (own_kind ab) = (0 : Int32)
    · refine own_ifN X 20 own_d8_17 rfl (XT.i0_ne_f hc17) ?_
      refine own_iloadN X 21 (0 : Int32) own_d8_20 rfl rfl ?_
      refine own_iconst X 22 (1 : Int32) own_d8_21 rfl rfl ?_
      refine own_iadd X 23 own_d8_22 rfl ?_
      refine own_istoreN X 24 #[.val (.ref a), .val (.int (0 : Int32)), .val (.int (own_kind ab)), .val (.int ((0 : Int32) + (1 : Int32)))] own_d8_23 rfl rfl ?_
      refine own_goto X 35 own_d8_24 (by decide) (by decide) ?_
      refine own_iloadN X 36 ((0 : Int32) + (1 : Int32)) own_d8_35 rfl rfl ?_
      exact own_retI X own_d8_36 rfl (by decide) (by decide) (⟨rfl, by simp [own_ns, *]⟩)
    · refine own_ifY X 27 own_d8_17 (by decide) (by decide) (XT.i0_ne_t hc17) ?_
      refine own_aloadN X 28 (.ref a) own_d8_27 rfl rfl rfl ?_
      refine own_iloadN X 29 (0 : Int32) own_d8_28 rfl rfl ?_
      refine own_iconst X 30 (1 : Int32) own_d8_29 rfl rfl ?_
      refine own_iadd X 31 own_d8_30 rfl ?_
      refine own_callP X 34 [(.int ((0 : Int32) + (1 : Int32)))] [] own_d8_31 rfl (hw _ (List.mem_of_getElem? (i := 54) rfl)) (hw _ (List.mem_of_getElem? (i := 55) rfl)) (own_ni_inst (hw _ (List.mem_of_getElem? (i := 9) rfl))) (hw _ (List.mem_of_getElem? (i := 56) rfl)) (hw _ (List.mem_of_getElem? (i := 3) rfl)) (hw _ (List.mem_of_getElem? (i := 57) rfl)) (by decide) Ea (own_mpnum l Z a0 hw a ((0 : Int32) + (1 : Int32)) b kc ab h0 n0 X.sz Fa Ea Ab (by decide)) (fun _ _ q => Nat.le_of_eq (congrArg Array.size q.1.symm)) rfl own_pd0 rfl rfl rfl (by decide) (Nat.le_of_ble_eq_true rfl) (by decide) (by decide) ?_
      rintro v31 T h_ X ⟨eh_, rfl⟩
      rw [eh_] at X
      show own_Ends p e below _ (T.setTop (mkF m 34 #[.val (.ref a), .val (.int (0 : Int32)), .val (.int (own_kind ab)), .unset] [(.int 2)]))
      refine own_istoreN X 35 #[.val (.ref a), .val (.int (0 : Int32)), .val (.int (own_kind ab)), .val (.int 2)] own_d8_34 rfl rfl ?_
      refine own_iloadN X 36 2 own_d8_35 rfl rfl ?_
      exact own_retI X own_d8_36 rfl (by decide) (by decide) (⟨rfl, by simp [own_ns, *]⟩)
  · refine own_icN X 11 own_d8_8 rfl (XT.ii_lt_f hc8) ?_
    refine own_iconst X 12 (-1 : Int32) own_d8_11 rfl rfl ?_
    refine own_istoreN X 13 #[.val (.ref a), .val (.int (0 : Int32)), .val (.int (own_kind ab)), .val (.int (-1 : Int32))] own_d8_12 rfl rfl ?_
    refine own_goto X 35 own_d8_13 (by decide) (by decide) ?_
    refine own_iloadN X 36 (-1 : Int32) own_d8_35 rfl rfl ?_
    exact own_retI X own_d8_36 rfl (by decide) (by decide) (⟨rfl, by simp [own_ns, *]⟩)
theorem own_d10_0 : decode prog_24_method_15_code 0 = .ok (.aload_n 0, 1) := by decide +kernel
theorem own_d10_1 : decode prog_24_method_15_code 1 = .ok (.iload_n 1, 1) := by decide +kernel
theorem own_d10_2 : decode prog_24_method_15_code 2 = .ok (.invokevirtual 21, 3) := by decide +kernel
theorem own_d10_5 : decode prog_24_method_15_code 5 = .ok (.istore_n 2, 1) := by decide +kernel
theorem own_d10_6 : decode prog_24_method_15_code 6 = .ok (.iconst (-1), 1) := by decide +kernel
theorem own_d10_7 : decode prog_24_method_15_code 7 = .ok (.istore_n 3, 1) := by decide +kernel
theorem own_d10_8 : decode prog_24_method_15_code 8 = .ok (.sipush 198, 3) := by decide +kernel
theorem own_d10_11 : decode prog_24_method_15_code 11 = .ok (.iload_n 2, 1) := by decide +kernel
theorem own_d10_12 : decode prog_24_method_15_code 12 = .ok (.invokestatic 24, 3) := by decide +kernel
theorem own_d10_15 : decode prog_24_method_15_code 15 = .ok (.ifCond .eq 18, 3) := by decide +kernel
theorem own_d10_33 : decode prog_24_method_15_code 33 = .ok (.bipush 48, 2) := by decide +kernel
theorem own_d10_35 : decode prog_24_method_15_code 35 = .ok (.iload_n 2, 1) := by decide +kernel
theorem own_d10_36 : decode prog_24_method_15_code 36 = .ok (.invokestatic 24, 3) := by decide +kernel
theorem own_d10_39 : decode prog_24_method_15_code 39 = .ok (.ifCond .eq 7, 3) := by decide +kernel
theorem own_d10_46 : decode prog_24_method_15_code 46 = .ok (.iload_n 3, 1) := by decide +kernel
theorem own_d10_47 : decode prog_24_method_15_code 47 = .ok (.ireturn, 1) := by decide +kernel
theorem own_d10_42 : decode prog_24_method_15_code 42 = .ok (.iload_n 1, 1) := by decide +kernel
theorem own_d10_43 : decode prog_24_method_15_code 43 = .ok (.iconst 1, 1) := by decide +kernel
theorem own_d10_44 : decode prog_24_method_15_code 44 = .ok (.iadd, 1) := by decide +kernel
theorem own_d10_45 : decode prog_24_method_15_code 45 = .ok (.istore_n 3, 1) := by decide +kernel
theorem own_d10_18 : decode prog_24_method_15_code 18 = .ok (.iload_n 1, 1) := by decide +kernel
theorem own_d10_19 : decode prog_24_method_15_code 19 = .ok (.iconst 1, 1) := by decide +kernel
theorem own_d10_20 : decode prog_24_method_15_code 20 = .ok (.iadd, 1) := by decide +kernel
theorem own_d10_21 : decode prog_24_method_15_code 21 = .ok (.aload_n 0, 1) := by decide +kernel
theorem own_d10_22 : decode prog_24_method_15_code 22 = .ok (.iload_n 1, 1) := by decide +kernel
theorem own_d10_23 : decode prog_24_method_15_code 23 = .ok (.iconst 1, 1) := by decide +kernel
theorem own_d10_24 : decode prog_24_method_15_code 24 = .ok (.iadd, 1) := by decide +kernel
theorem own_d10_25 : decode prog_24_method_15_code 25 = .ok (.invokevirtual 74, 3) := by decide +kernel
theorem own_d10_28 : decode prog_24_method_15_code 28 = .ok (.iadd, 1) := by decide +kernel
theorem own_d10_29 : decode prog_24_method_15_code 29 = .ok (.istore_n 3, 1) := by decide +kernel
theorem own_d10_30 : decode prog_24_method_15_code 30 = .ok (.goto 16, 3) := by decide +kernel
theorem own_pn10 : plainFor (⟨"com/example/radix26/radix26/internal/trie/FrozenNodes", "state", "(I)I"⟩ : MethodName) = true := plainFor_of_name (by first | (simp [plainName, overriddenIn]; done) | decide +kernel)
set_option maxRecDepth 65536 in
set_option maxHeartbeats 40000000 in
theorem own_mstate (l : Launch) (Z : State) (a0 : Array Value) (hw : ∀ d ∈ tables_1, d.before a0 Z = true) (a : Addr) (i : Int32) (b : Addr) (kc : ClassId) (ab : Int32) (h0 : Heap) (n0 : Nat) (hs0 : n0 ≤ h0.size) (Fa : Fld Z h0 a "com/example/radix26/radix26/internal/trie/FrozenNodes" "bytes" "[B" (.ref b)) (Ea : Exa Z h0 a "com/example/radix26/radix26/internal/trie/FrozenNodes") (Ab : own_A Z h0 b kc .byte [(.int ab), (.int 2), (.int 0), (.int 10)]) (hi : i = 0) :
    own_Met l (⟨"com/example/radix26/radix26/internal/trie/FrozenNodes", "state", "(I)I"⟩ : MethodName) prog_24_method_15_code 4 (some .int) ({ frames := 1, cells := 0, slots := 0, locals := 18 } : Room) Z #[(.ref a), (.int i)] h0 n0 (fun v h' => h' = h0 ∧ v = some (.int (own_state (own_kind ab)))) := by
  refine own_met (Ls := #[.val (.ref a), .val (.int i), .unset, .unset]) own_pn10 hs0 (fun m => by first | (simp [entryFrame, mkF, argsToLocals, Value.category]; done) | rfl) ?_
  intro p e s m below meth c T X
  subst hi
  refine own_aloadN X 1 (.ref a) own_d10_0 rfl rfl rfl ?_
  refine own_iloadN X 2 (0 : Int32) own_d10_1 rfl rfl ?_
  refine own_callP X 5 [(.int (0 : Int32))] [] own_d10_2 rfl (hw _ (List.mem_of_getElem? (i := 28) rfl)) (hw _ (List.mem_of_getElem? (i := 29) rfl)) (own_ni_inst (hw _ (List.mem_of_getElem? (i := 9) rfl))) (hw _ (List.mem_of_getElem? (i := 30) rfl)) (hw _ (List.mem_of_getElem? (i := 3) rfl)) (hw _ (List.mem_of_getElem? (i := 31) rfl)) (by decide) Ea (own_mkind l Z a0 hw a (0 : Int32) b kc ab h0 n0 X.sz Fa Ea Ab rfl) (fun _ _ q => Nat.le_of_eq (congrArg Array.size q.1.symm)) rfl own_pd0 rfl rfl rfl (by decide) (Nat.le_of_ble_eq_true rfl) (by decide) (by decide) ?_
  rintro v2 T h_ X ⟨eh_, rfl⟩
  rw [eh_] at X
  show own_Ends p e below _ (T.setTop (mkF m 5 #[.val (.ref a), .val (.int (0 : Int32)), .unset, .unset] [(.int (own_kind ab))]))
  refine own_istoreN X 6 #[.val (.ref a), .val (.int (0 : Int32)), .val (.int (own_kind ab)), .unset] own_d10_5 rfl rfl ?_
  refine own_iconst X 7 (-1 : Int32) own_d10_6 rfl rfl ?_
  refine own_istoreN X 8 #[.val (.ref a), .val (.int (0 : Int32)), .val (.int (own_kind ab)), .val (.int (-1 : Int32))] own_d10_7 rfl rfl ?_
  refine own_sipush X 11 (198 : Int32) own_d10_8 rfl (by decide) ?_
  refine own_iloadN X 12 (own_kind ab) own_d10_11 rfl rfl ?_
  refine own_callS X 15 [(.int (198 : Int32)), (.int (own_kind ab))] [] own_d10_12 rfl (hw _ (List.mem_of_getElem? (i := 32) rfl)) (hw _ (List.mem_of_getElem? (i := 33) rfl)) (hw _ (List.mem_of_getElem? (i := 3) rfl)) (hw _ (List.mem_of_getElem? (i := 34) rfl)) (by decide) (own_mis l Z a0 hw (198 : Int32) (own_kind ab) h0 n0 X.sz) (fun _ _ q => Nat.le_of_eq (congrArg Array.size q.1.symm)) rfl own_pd1 rfl rfl rfl (by decide) (Nat.le_of_ble_eq_true rfl) (by decide) (by decide) ?_
  rintro v12 T h_ X ⟨eh_, rfl⟩
  rw [eh_] at X
  show own_Ends p e below _ (T.setTop (mkF m 15 #[.val (.ref a), .val (.int (0 : Int32)), .val (.int (own_kind ab)), .val (.int (-1 : Int32))] [(.int (own_is (198 : Int32) (own_kind ab)))]))
  by_cases hc15 : (own_is (198 : Int32) (own_kind ab)) = (0 : Int32)
  · refine own_ifY X 33 own_d10_15 (by decide) (by decide) (XT.i0_eq_t hc15) ?_
    refine own_bipush X 35 (48 : Int32) own_d10_33 rfl (by decide) ?_
    refine own_iloadN X 36 (own_kind ab) own_d10_35 rfl rfl ?_
    refine own_callS X 39 [(.int (48 : Int32)), (.int (own_kind ab))] [] own_d10_36 rfl (hw _ (List.mem_of_getElem? (i := 32) rfl)) (hw _ (List.mem_of_getElem? (i := 33) rfl)) (hw _ (List.mem_of_getElem? (i := 3) rfl)) (hw _ (List.mem_of_getElem? (i := 34) rfl)) (by decide) (own_mis l Z a0 hw (48 : Int32) (own_kind ab) h0 n0 X.sz) (fun _ _ q => Nat.le_of_eq (congrArg Array.size q.1.symm)) rfl own_pd1 rfl rfl rfl (by decide) (Nat.le_of_ble_eq_true rfl) (by decide) (by decide) ?_
    rintro v36 T h_ X ⟨eh_, rfl⟩
    rw [eh_] at X
    show own_Ends p e below _ (T.setTop (mkF m 39 #[.val (.ref a), .val (.int (0 : Int32)), .val (.int (own_kind ab)), .val (.int (-1 : Int32))] [(.int (own_is (48 : Int32) (own_kind ab)))]))
    by_cases hc39 : (own_is (48 : Int32) (own_kind ab)) = (0 : Int32)
    · refine own_ifY X 46 own_d10_39 (by decide) (by decide) (XT.i0_eq_t hc39) ?_
      refine own_iloadN X 47 (-1 : Int32) own_d10_46 rfl rfl ?_
      exact own_retI X own_d10_47 rfl (by decide) (by decide) (⟨rfl, by simp [own_state, *]⟩)
    · refine own_ifN X 42 own_d10_39 rfl (XT.i0_eq_f hc39) ?_
      refine own_iloadN X 43 (0 : Int32) own_d10_42 rfl rfl ?_
      refine own_iconst X 44 (1 : Int32) own_d10_43 rfl rfl ?_
      refine own_iadd X 45 own_d10_44 rfl ?_
      refine own_istoreN X 46 #[.val (.ref a), .val (.int (0 : Int32)), .val (.int (own_kind ab)), .val (.int ((0 : Int32) + (1 : Int32)))] own_d10_45 rfl rfl ?_
      refine own_iloadN X 47 ((0 : Int32) + (1 : Int32)) own_d10_46 rfl rfl ?_
      exact own_retI X own_d10_47 rfl (by decide) (by decide) (⟨rfl, by simp [own_state, *]⟩)
  · refine own_ifN X 18 own_d10_15 rfl (XT.i0_eq_f hc15) ?_
    refine own_iloadN X 19 (0 : Int32) own_d10_18 rfl rfl ?_
    refine own_iconst X 20 (1 : Int32) own_d10_19 rfl rfl ?_
    refine own_iadd X 21 own_d10_20 rfl ?_
    refine own_aloadN X 22 (.ref a) own_d10_21 rfl rfl rfl ?_
    refine own_iloadN X 23 (0 : Int32) own_d10_22 rfl rfl ?_
    refine own_iconst X 24 (1 : Int32) own_d10_23 rfl rfl ?_
    refine own_iadd X 25 own_d10_24 rfl ?_
    refine own_callP X 28 [(.int ((0 : Int32) + (1 : Int32)))] [(.int ((0 : Int32) + (1 : Int32)))] own_d10_25 rfl (hw _ (List.mem_of_getElem? (i := 50) rfl)) (hw _ (List.mem_of_getElem? (i := 51) rfl)) (own_ni_inst (hw _ (List.mem_of_getElem? (i := 9) rfl))) (hw _ (List.mem_of_getElem? (i := 52) rfl)) (hw _ (List.mem_of_getElem? (i := 3) rfl)) (hw _ (List.mem_of_getElem? (i := 53) rfl)) (by decide) Ea (own_mnum l Z a0 hw a ((0 : Int32) + (1 : Int32)) b kc ab 1 2 h0 n0 X.sz Fa Ea Ab (by decide) (by decide) rfl (by decide)) (fun _ _ q => Nat.le_of_eq (congrArg Array.size q.1.symm)) rfl own_pd0 rfl rfl rfl (by decide) (Nat.le_of_ble_eq_true rfl) (by decide) (by decide) ?_
    rintro v25 T h_ X ⟨eh_, rfl⟩
    rw [eh_] at X
    show own_Ends p e below _ (T.setTop (mkF m 28 #[.val (.ref a), .val (.int (0 : Int32)), .val (.int (own_kind ab)), .val (.int (-1 : Int32))] [(.int (own_num 2)), (.int ((0 : Int32) + (1 : Int32)))]))
    refine own_iadd X 29 own_d10_28 rfl ?_
    refine own_istoreN X 30 #[.val (.ref a), .val (.int (0 : Int32)), .val (.int (own_kind ab)), .val (.int (((0 : Int32) + (1 : Int32)) + (own_num 2)))] own_d10_29 rfl rfl ?_
    refine own_goto X 46 own_d10_30 (by decide) (by decide) ?_
    refine own_iloadN X 47 (((0 : Int32) + (1 : Int32)) + (own_num 2)) own_d10_46 rfl rfl ?_
    exact own_retI X own_d10_47 rfl (by decide) (by decide) (⟨rfl, by simp [own_state, *]⟩)
theorem own_st3 : ∀ kd : Fin 8, own_state (Int32.ofNat kd.val) = -1 ∨ own_state (Int32.ofNat kd.val) = 1 ∨ own_state (Int32.ofNat kd.val) = 3 := by decide +kernel
theorem own_d9_0 : decode prog_24_method_11_code 0 = .ok (.aload_n 0, 1) := by decide +kernel
theorem own_d9_1 : decode prog_24_method_11_code 1 = .ok (.iload_n 1, 1) := by decide +kernel
theorem own_d9_2 : decode prog_24_method_11_code 2 = .ok (.invokevirtual 37, 3) := by decide +kernel
theorem own_d9_5 : decode prog_24_method_11_code 5 = .ok (.istore_n 2, 1) := by decide +kernel
theorem own_d9_6 : decode prog_24_method_11_code 6 = .ok (.aload_n 0, 1) := by decide +kernel
theorem own_d9_7 : decode prog_24_method_11_code 7 = .ok (.iload_n 1, 1) := by decide +kernel
theorem own_d9_8 : decode prog_24_method_11_code 8 = .ok (.invokevirtual 70, 3) := by decide +kernel
theorem own_pd2 : parseMethodDescriptor "(I)Z" = some ⟨[.int], some .boolean⟩ := by decide +kernel
theorem own_d9_11 : decode prog_24_method_11_code 11 = .ok (.ifCond .eq 7, 3) := by decide +kernel
theorem own_d9_18 : decode prog_24_method_11_code 18 = .ok (.iconst 0, 1) := by decide +kernel
theorem own_d9_19 : decode prog_24_method_11_code 19 = .ok (.istore_n 3, 1) := by decide +kernel
theorem own_d9_20 : decode prog_24_method_11_code 20 = .ok (.iload_n 2, 1) := by decide +kernel
theorem own_d9_21 : decode prog_24_method_11_code 21 = .ok (.iconst (-1), 1) := by decide +kernel
theorem own_d9_22 : decode prog_24_method_11_code 22 = .ok (.if_icmp .ne 7, 3) := by decide +kernel
theorem own_d9_25 : decode prog_24_method_11_code 25 = .ok (.iload_n 3, 1) := by decide +kernel
theorem own_d9_26 : decode prog_24_method_11_code 26 = .ok (.goto 12, 3) := by decide +kernel
theorem own_d9_38 : decode prog_24_method_11_code 38 = .ok (.ireturn, 1) := by decide +kernel
theorem own_d9_29 : decode prog_24_method_11_code 29 = .ok (.iload_n 3, 1) := by decide +kernel
theorem own_d9_30 : decode prog_24_method_11_code 30 = .ok (.aload_n 0, 1) := by decide +kernel
theorem own_d9_31 : decode prog_24_method_11_code 31 = .ok (.iload_n 2, 1) := by decide +kernel
theorem own_d9_32 : decode prog_24_method_11_code 32 = .ok (.invokevirtual 74, 3) := by decide +kernel
theorem own_d9_35 : decode prog_24_method_11_code 35 = .ok (.iconst 1, 1) := by decide +kernel
theorem own_d9_36 : decode prog_24_method_11_code 36 = .ok (.iushr, 1) := by decide +kernel
theorem own_d9_37 : decode prog_24_method_11_code 37 = .ok (.iadd, 1) := by decide +kernel
theorem own_d9_14 : decode prog_24_method_11_code 14 = .ok (.iconst 1, 1) := by decide +kernel
theorem own_d9_15 : decode prog_24_method_11_code 15 = .ok (.goto 4, 3) := by decide +kernel
theorem own_pn9 : plainFor (⟨"com/example/radix26/radix26/internal/trie/FrozenNodes", "count", "(I)I"⟩ : MethodName) = true := plainFor_of_name (by first | (simp [plainName, overriddenIn]; done) | decide +kernel)
set_option maxRecDepth 65536 in
set_option maxHeartbeats 40000000 in
theorem own_mcount (l : Launch) (Z : State) (a0 : Array Value) (hw : ∀ d ∈ tables_1, d.before a0 Z = true) (a : Addr) (i : Int32) (b : Addr) (kc : ClassId) (ab : Int32) (h0 : Heap) (n0 : Nat) (hs0 : n0 ≤ h0.size) (Fa : Fld Z h0 a "com/example/radix26/radix26/internal/trie/FrozenNodes" "bytes" "[B" (.ref b)) (Ea : Exa Z h0 a "com/example/radix26/radix26/internal/trie/FrozenNodes") (Ab : own_A Z h0 b kc .byte [(.int ab), (.int 2), (.int 0), (.int 10)]) (hi : i = 0) (hk : ∃ kd : Fin 8, own_kind ab = Int32.ofNat kd.val) :
    own_Met l (⟨"com/example/radix26/radix26/internal/trie/FrozenNodes", "count", "(I)I"⟩ : MethodName) prog_24_method_11_code 4 (some .int) ({ frames := 2, cells := 0, slots := 0, locals := 33 } : Room) Z #[(.ref a), (.int i)] h0 n0 (fun v h' => h' = h0 ∧ v = some (.int (own_count (own_kind ab)))) := by
  refine own_met (Ls := #[.val (.ref a), .val (.int i), .unset, .unset]) own_pn9 hs0 (fun m => by first | (simp [entryFrame, mkF, argsToLocals, Value.category]; done) | rfl) ?_
  intro p e s m below meth c T X
  subst hi
  refine own_aloadN X 1 (.ref a) own_d9_0 rfl rfl rfl ?_
  refine own_iloadN X 2 (0 : Int32) own_d9_1 rfl rfl ?_
  refine own_callP X 5 [(.int (0 : Int32))] [] own_d9_2 rfl (hw _ (List.mem_of_getElem? (i := 45) rfl)) (hw _ (List.mem_of_getElem? (i := 46) rfl)) (own_ni_inst (hw _ (List.mem_of_getElem? (i := 9) rfl))) (hw _ (List.mem_of_getElem? (i := 47) rfl)) (hw _ (List.mem_of_getElem? (i := 3) rfl)) (hw _ (List.mem_of_getElem? (i := 48) rfl)) (by decide) Ea (own_mstate l Z a0 hw a (0 : Int32) b kc ab h0 n0 X.sz Fa Ea Ab rfl) (fun _ _ q => Nat.le_of_eq (congrArg Array.size q.1.symm)) rfl own_pd0 rfl rfl rfl (by decide) (Nat.le_of_ble_eq_true rfl) (by decide) (by decide) ?_
  rintro v2 T h_ X ⟨eh_, rfl⟩
  rw [eh_] at X
  show own_Ends p e below _ (T.setTop (mkF m 5 #[.val (.ref a), .val (.int (0 : Int32)), .unset, .unset] [(.int (own_state (own_kind ab)))]))
  refine own_istoreN X 6 #[.val (.ref a), .val (.int (0 : Int32)), .val (.int (own_state (own_kind ab))), .unset] own_d9_5 rfl rfl ?_
  refine own_aloadN X 7 (.ref a) own_d9_6 rfl rfl rfl ?_
  refine own_iloadN X 8 (0 : Int32) own_d9_7 rfl rfl ?_
  refine own_callV X 11 [(.int (0 : Int32))] [] own_d9_8 rfl (hw _ (List.mem_of_getElem? (i := 49) rfl)) (hw _ (List.mem_of_getElem? (i := 24) rfl)) (own_nf X.2.2.2.2.1 (hw _ (List.mem_of_getElem? (i := 26) rfl))) (hw _ (List.mem_of_getElem? (i := 26) rfl)) (hw _ (List.mem_of_getElem? (i := 25) rfl)) (hw _ (List.mem_of_getElem? (i := 3) rfl)) (hw _ (List.mem_of_getElem? (i := 27) rfl)) (by decide) Ea (own_misw l Z a0 hw a (0 : Int32) b kc ab h0 n0 X.sz Fa Ea Ab rfl) (fun _ _ q => Nat.le_of_eq (congrArg Array.size q.1.symm)) rfl own_pd2 rfl rfl rfl (by decide) (Nat.le_of_ble_eq_true rfl) (by decide) (by decide) ?_
  rintro v8 T h_ X ⟨eh_, rfl⟩
  rw [eh_] at X
  show own_Ends p e below _ (T.setTop (mkF m 11 #[.val (.ref a), .val (.int (0 : Int32)), .val (.int (own_state (own_kind ab))), .unset] [(.int (own_is 173 (own_kind ab)))]))
  by_cases hc11 : (own_is 173 (own_kind ab)) = (0 : Int32)
  · refine own_ifY X 18 own_d9_11 (by decide) (by decide) (XT.i0_eq_t hc11) ?_
    refine own_iconst X 19 (0 : Int32) own_d9_18 rfl rfl ?_
    refine own_istoreN X 20 #[.val (.ref a), .val (.int (0 : Int32)), .val (.int (own_state (own_kind ab))), .val (.int (0 : Int32))] own_d9_19 rfl rfl ?_
    refine own_iloadN X 21 (own_state (own_kind ab)) own_d9_20 rfl rfl ?_
    refine own_iconst X 22 (-1 : Int32) own_d9_21 rfl rfl ?_
    by_cases hc22 : (own_state (own_kind ab)) = (-1 : Int32)
    · refine own_icN X 25 own_d9_22 rfl (XT.ii_ne_f hc22) ?_
      refine own_iloadN X 26 (0 : Int32) own_d9_25 rfl rfl ?_
      refine own_goto X 38 own_d9_26 (by decide) (by decide) ?_
      exact own_retI X own_d9_38 rfl (by decide) (by decide) (⟨rfl, by rcases own_is01 173 (own_kind ab) with q | q <;> simp_all [own_count]⟩)
    · refine own_icY X 29 own_d9_22 (by decide) (by decide) (XT.ii_ne_t hc22) ?_
      have own_st : own_state (own_kind ab) = 1 ∨ own_state (own_kind ab) = 3 := by
        obtain ⟨kd, q⟩ := hk
        have := own_st3 kd
        rw [← q] at this
        rcases this with h | h
        · exact absurd h hc22
        · exact h
      rcases own_st with own_s1 | own_s1
      · rw [own_s1]
        refine own_iloadN X 30 (0 : Int32) own_d9_29 rfl rfl ?_
        refine own_aloadN X 31 (.ref a) own_d9_30 rfl rfl rfl ?_
        refine own_iloadN X 32 (1 : Int32) own_d9_31 rfl rfl ?_
        refine own_callP X 35 [(.int (1 : Int32))] [(.int (0 : Int32))] own_d9_32 rfl (hw _ (List.mem_of_getElem? (i := 50) rfl)) (hw _ (List.mem_of_getElem? (i := 51) rfl)) (own_ni_inst (hw _ (List.mem_of_getElem? (i := 9) rfl))) (hw _ (List.mem_of_getElem? (i := 52) rfl)) (hw _ (List.mem_of_getElem? (i := 3) rfl)) (hw _ (List.mem_of_getElem? (i := 53) rfl)) (by decide) Ea (own_mnum l Z a0 hw a (1 : Int32) b kc ab 1 2 h0 n0 X.sz Fa Ea Ab (by decide) (by decide) rfl (by decide)) (fun _ _ q => Nat.le_of_eq (congrArg Array.size q.1.symm)) rfl own_pd0 rfl rfl rfl (by decide) (Nat.le_of_ble_eq_true rfl) (by decide) (by decide) ?_
        rintro v32 T h_ X ⟨eh_, rfl⟩
        rw [eh_] at X
        show own_Ends p e below _ (T.setTop (mkF m 35 #[.val (.ref a), .val (.int (0 : Int32)), .val (.int (1 : Int32)), .val (.int (0 : Int32))] [(.int (own_num 2)), (.int (0 : Int32))]))
        refine own_iconst X 36 (1 : Int32) own_d9_35 rfl rfl ?_
        refine own_iushr X 37 own_d9_36 rfl ?_
        refine own_iadd X 38 own_d9_37 rfl ?_
        exact own_retI X own_d9_38 rfl (by decide) (by decide) (⟨rfl, by rcases own_is01 173 (own_kind ab) with q | q <;> simp_all [own_count]⟩)
      · rw [own_s1]
        refine own_iloadN X 30 (0 : Int32) own_d9_29 rfl rfl ?_
        refine own_aloadN X 31 (.ref a) own_d9_30 rfl rfl rfl ?_
        refine own_iloadN X 32 (3 : Int32) own_d9_31 rfl rfl ?_
        refine own_callP X 35 [(.int (3 : Int32))] [(.int (0 : Int32))] own_d9_32 rfl (hw _ (List.mem_of_getElem? (i := 50) rfl)) (hw _ (List.mem_of_getElem? (i := 51) rfl)) (own_ni_inst (hw _ (List.mem_of_getElem? (i := 9) rfl))) (hw _ (List.mem_of_getElem? (i := 52) rfl)) (hw _ (List.mem_of_getElem? (i := 3) rfl)) (hw _ (List.mem_of_getElem? (i := 53) rfl)) (by decide) Ea (own_mnum l Z a0 hw a (3 : Int32) b kc ab 3 10 h0 n0 X.sz Fa Ea Ab (by decide) (by decide) rfl (by decide)) (fun _ _ q => Nat.le_of_eq (congrArg Array.size q.1.symm)) rfl own_pd0 rfl rfl rfl (by decide) (Nat.le_of_ble_eq_true rfl) (by decide) (by decide) ?_
        rintro v32 T h_ X ⟨eh_, rfl⟩
        rw [eh_] at X
        show own_Ends p e below _ (T.setTop (mkF m 35 #[.val (.ref a), .val (.int (0 : Int32)), .val (.int (3 : Int32)), .val (.int (0 : Int32))] [(.int (own_num 10)), (.int (0 : Int32))]))
        refine own_iconst X 36 (1 : Int32) own_d9_35 rfl rfl ?_
        refine own_iushr X 37 own_d9_36 rfl ?_
        refine own_iadd X 38 own_d9_37 rfl ?_
        exact own_retI X own_d9_38 rfl (by decide) (by decide) (⟨rfl, by rcases own_is01 173 (own_kind ab) with q | q <;> simp_all [own_count]⟩)
  · refine own_ifN X 14 own_d9_11 rfl (XT.i0_eq_f hc11) ?_
    refine own_iconst X 15 (1 : Int32) own_d9_14 rfl rfl ?_
    refine own_goto X 19 own_d9_15 (by decide) (by decide) ?_
    refine own_istoreN X 20 #[.val (.ref a), .val (.int (0 : Int32)), .val (.int (own_state (own_kind ab))), .val (.int (1 : Int32))] own_d9_19 rfl rfl ?_
    refine own_iloadN X 21 (own_state (own_kind ab)) own_d9_20 rfl rfl ?_
    refine own_iconst X 22 (-1 : Int32) own_d9_21 rfl rfl ?_
    by_cases hc22 : (own_state (own_kind ab)) = (-1 : Int32)
    · refine own_icN X 25 own_d9_22 rfl (XT.ii_ne_f hc22) ?_
      refine own_iloadN X 26 (1 : Int32) own_d9_25 rfl rfl ?_
      refine own_goto X 38 own_d9_26 (by decide) (by decide) ?_
      exact own_retI X own_d9_38 rfl (by decide) (by decide) (⟨rfl, by rcases own_is01 173 (own_kind ab) with q | q <;> simp_all [own_count]⟩)
    · refine own_icY X 29 own_d9_22 (by decide) (by decide) (XT.ii_ne_t hc22) ?_
      have own_st : own_state (own_kind ab) = 1 ∨ own_state (own_kind ab) = 3 := by
        obtain ⟨kd, q⟩ := hk
        have := own_st3 kd
        rw [← q] at this
        rcases this with h | h
        · exact absurd h hc22
        · exact h
      rcases own_st with own_s1 | own_s1
      · rw [own_s1]
        refine own_iloadN X 30 (1 : Int32) own_d9_29 rfl rfl ?_
        refine own_aloadN X 31 (.ref a) own_d9_30 rfl rfl rfl ?_
        refine own_iloadN X 32 (1 : Int32) own_d9_31 rfl rfl ?_
        refine own_callP X 35 [(.int (1 : Int32))] [(.int (1 : Int32))] own_d9_32 rfl (hw _ (List.mem_of_getElem? (i := 50) rfl)) (hw _ (List.mem_of_getElem? (i := 51) rfl)) (own_ni_inst (hw _ (List.mem_of_getElem? (i := 9) rfl))) (hw _ (List.mem_of_getElem? (i := 52) rfl)) (hw _ (List.mem_of_getElem? (i := 3) rfl)) (hw _ (List.mem_of_getElem? (i := 53) rfl)) (by decide) Ea (own_mnum l Z a0 hw a (1 : Int32) b kc ab 1 2 h0 n0 X.sz Fa Ea Ab (by decide) (by decide) rfl (by decide)) (fun _ _ q => Nat.le_of_eq (congrArg Array.size q.1.symm)) rfl own_pd0 rfl rfl rfl (by decide) (Nat.le_of_ble_eq_true rfl) (by decide) (by decide) ?_
        rintro v32 T h_ X ⟨eh_, rfl⟩
        rw [eh_] at X
        show own_Ends p e below _ (T.setTop (mkF m 35 #[.val (.ref a), .val (.int (0 : Int32)), .val (.int (1 : Int32)), .val (.int (1 : Int32))] [(.int (own_num 2)), (.int (1 : Int32))]))
        refine own_iconst X 36 (1 : Int32) own_d9_35 rfl rfl ?_
        refine own_iushr X 37 own_d9_36 rfl ?_
        refine own_iadd X 38 own_d9_37 rfl ?_
        exact own_retI X own_d9_38 rfl (by decide) (by decide) (⟨rfl, by rcases own_is01 173 (own_kind ab) with q | q <;> simp_all [own_count]⟩)
      · rw [own_s1]
        refine own_iloadN X 30 (1 : Int32) own_d9_29 rfl rfl ?_
        refine own_aloadN X 31 (.ref a) own_d9_30 rfl rfl rfl ?_
        refine own_iloadN X 32 (3 : Int32) own_d9_31 rfl rfl ?_
        refine own_callP X 35 [(.int (3 : Int32))] [(.int (1 : Int32))] own_d9_32 rfl (hw _ (List.mem_of_getElem? (i := 50) rfl)) (hw _ (List.mem_of_getElem? (i := 51) rfl)) (own_ni_inst (hw _ (List.mem_of_getElem? (i := 9) rfl))) (hw _ (List.mem_of_getElem? (i := 52) rfl)) (hw _ (List.mem_of_getElem? (i := 3) rfl)) (hw _ (List.mem_of_getElem? (i := 53) rfl)) (by decide) Ea (own_mnum l Z a0 hw a (3 : Int32) b kc ab 3 10 h0 n0 X.sz Fa Ea Ab (by decide) (by decide) rfl (by decide)) (fun _ _ q => Nat.le_of_eq (congrArg Array.size q.1.symm)) rfl own_pd0 rfl rfl rfl (by decide) (Nat.le_of_ble_eq_true rfl) (by decide) (by decide) ?_
        rintro v32 T h_ X ⟨eh_, rfl⟩
        rw [eh_] at X
        show own_Ends p e below _ (T.setTop (mkF m 35 #[.val (.ref a), .val (.int (0 : Int32)), .val (.int (3 : Int32)), .val (.int (1 : Int32))] [(.int (own_num 10)), (.int (1 : Int32))]))
        refine own_iconst X 36 (1 : Int32) own_d9_35 rfl rfl ?_
        refine own_iushr X 37 own_d9_36 rfl ?_
        refine own_iadd X 38 own_d9_37 rfl ?_
        exact own_retI X own_d9_38 rfl (by decide) (by decide) (⟨rfl, by rcases own_is01 173 (own_kind ab) with q | q <;> simp_all [own_count]⟩)
theorem own_arc_kind_0 (i : Fin 26) : own_kind (own_arc (0 : Int32) (Int32.ofNat i.val)) = (0 : Int32) := own_arc_kind ⟨0, by decide⟩ i
theorem own_arc_ix_0 (i : Fin 26) : own_arc (0 : Int32) (Int32.ofNat i.val) &&& 31 = Int32.ofNat i.val := own_arc_ix ⟨0, by decide⟩ i
theorem own_arc_kind_1 (i : Fin 26) : own_kind (own_arc (1 : Int32) (Int32.ofNat i.val)) = (1 : Int32) := own_arc_kind ⟨1, by decide⟩ i
theorem own_arc_ix_1 (i : Fin 26) : own_arc (1 : Int32) (Int32.ofNat i.val) &&& 31 = Int32.ofNat i.val := own_arc_ix ⟨1, by decide⟩ i
theorem own_arc_kind_2 (i : Fin 26) : own_kind (own_arc (2 : Int32) (Int32.ofNat i.val)) = (2 : Int32) := own_arc_kind ⟨2, by decide⟩ i
theorem own_arc_ix_2 (i : Fin 26) : own_arc (2 : Int32) (Int32.ofNat i.val) &&& 31 = Int32.ofNat i.val := own_arc_ix ⟨2, by decide⟩ i
theorem own_arc_kind_3 (i : Fin 26) : own_kind (own_arc (3 : Int32) (Int32.ofNat i.val)) = (3 : Int32) := own_arc_kind ⟨3, by decide⟩ i
theorem own_arc_ix_3 (i : Fin 26) : own_arc (3 : Int32) (Int32.ofNat i.val) &&& 31 = Int32.ofNat i.val := own_arc_ix ⟨3, by decide⟩ i
theorem own_arc_kind_4 (i : Fin 26) : own_kind (own_arc (4 : Int32) (Int32.ofNat i.val)) = (4 : Int32) := own_arc_kind ⟨4, by decide⟩ i
theorem own_arc_ix_4 (i : Fin 26) : own_arc (4 : Int32) (Int32.ofNat i.val) &&& 31 = Int32.ofNat i.val := own_arc_ix ⟨4, by decide⟩ i
theorem own_arc_kind_5 (i : Fin 26) : own_kind (own_arc (5 : Int32) (Int32.ofNat i.val)) = (5 : Int32) := own_arc_kind ⟨5, by decide⟩ i
theorem own_arc_ix_5 (i : Fin 26) : own_arc (5 : Int32) (Int32.ofNat i.val) &&& 31 = Int32.ofNat i.val := own_arc_ix ⟨5, by decide⟩ i
theorem own_arc_kind_6 (i : Fin 26) : own_kind (own_arc (6 : Int32) (Int32.ofNat i.val)) = (6 : Int32) := own_arc_kind ⟨6, by decide⟩ i
theorem own_arc_ix_6 (i : Fin 26) : own_arc (6 : Int32) (Int32.ofNat i.val) &&& 31 = Int32.ofNat i.val := own_arc_ix ⟨6, by decide⟩ i
theorem own_arc_kind_7 (i : Fin 26) : own_kind (own_arc (7 : Int32) (Int32.ofNat i.val)) = (7 : Int32) := own_arc_kind ⟨7, by decide⟩ i
theorem own_arc_ix_7 (i : Fin 26) : own_arc (7 : Int32) (Int32.ofNat i.val) &&& 31 = Int32.ofNat i.val := own_arc_ix ⟨7, by decide⟩ i
theorem own_pd3 : parseMethodDescriptor "(IIZZ)B" = some ⟨[.int, .int, .boolean, .boolean], some .byte⟩ := by decide +kernel
theorem own_pd4 : parseMethodDescriptor "([B)V" = some ⟨[(.array .byte)], none⟩ := by decide +kernel
theorem own_pn0 : plainFor x = true := plainFor_of_name (by first | (simp [plainName, overriddenIn]; done) | decide +kernel)
set_option maxRecDepth 65536 in
set_option maxHeartbeats 40000000 in
theorem own_m0 (l : Launch) (Z : State) (a0 : Array Value) (hw : ∀ d ∈ tables_1, d.before a0 Z = true) (pa : Int32) (pb : Int32) (pc : Int32) (av : Addr) (kc : ClassId) (h0 : Heap) (n0 : Nat) (hs0 : n0 ≤ h0.size) (OL : Old Z n0 h0) (z_s : Sta Z Z.heap "com/example/radix26/radix26/internal/trie/FrozenNodes" "KINDS" "[I" (.ref av)) (z_A : own_A Z Z.heap av kc .int [(.int (-1 : Int32)), (.int (0 : Int32)), (.int (-1 : Int32)), (.int (3 : Int32)), (.int (-1 : Int32)), (.int (-1 : Int32)), (.int (4 : Int32)), (.int (5 : Int32)), (.int (1 : Int32)), (.int (2 : Int32)), (.int (6 : Int32)), (.int (7 : Int32))]) :
    own_Met l x code maxLocals ret room_1 Z #[(.int pa), (.int pb), (.int pc)] h0 n0 (fun v h' => v = some (.int 1)) := by
  refine own_met (Ls := #[.val (.int pa), .val (.int pb), .val (.int pc), .unset, .unset, .unset, .unset, .unset, .unset, .unset, .unset, .unset, .unset, .unset, .unset, .unset, .unset]) own_pn0 hs0 (fun m => by first | (simp [entryFrame, mkF, argsToLocals, Value.category, maxLocals]; done) | rfl) ?_
  intro p e s m below meth c T X
  refine own_iloadN X 1 pa at_0 rfl rfl ?_
  refine own_ldcI X 3 at_1 rfl (hw _ (List.mem_of_getElem? (i := 0) rfl)) ?_
  refine own_iand X 4 at_3 rfl ?_
  refine own_bipush X 6 (26 : Int32) at_4 rfl (by decide) ?_
  refine own_irem X 7 at_6 rfl (by decide) ?_
  refine own_istoreN X 8 #[.val (.int pa), .val (.int pb), .val (.int pc), .val (.int ((pa &&& (2147483647 : Int32)) % (26 : Int32))), .unset, .unset, .unset, .unset, .unset, .unset, .unset, .unset, .unset, .unset, .unset, .unset, .unset] at_7 rfl rfl ?_
  obtain ⟨i, hi⟩ := own_rng26 pa
  rw [hi]
  refine own_iloadN X 9 pb at_8 rfl rfl ?_
  refine own_ldcI X 11 at_9 rfl (hw _ (List.mem_of_getElem? (i := 0) rfl)) ?_
  refine own_iand X 12 at_11 rfl ?_
  refine own_iconst X 13 (3 : Int32) at_12 rfl rfl ?_
  refine own_irem X 14 at_13 rfl (by decide) ?_
  refine own_istore X 16 #[.val (.int pa), .val (.int pb), .val (.int pc), .val (.int (Int32.ofNat i.val)), .val (.int ((pb &&& (2147483647 : Int32)) % (3 : Int32))), .unset, .unset, .unset, .unset, .unset, .unset, .unset, .unset, .unset, .unset, .unset, .unset] at_14 rfl rfl ?_
  have hwh := own_rng3 pb
  rcases hwh with hwh | hwh | hwh
  · rw [hwh]
    refine own_iloadN X 17 pc at_16 rfl rfl ?_
    refine own_iconst X 18 (1 : Int32) at_17 rfl rfl ?_
    refine own_iand X 19 at_18 rfl ?_
    by_cases hc19 : (pc &&& (1 : Int32)) = (0 : Int32)
    · refine own_ifY X 26 at_19 (by decide) (by decide) (XT.i0_eq_t hc19) ?_
      refine own_iconst X 27 (0 : Int32) at_26 rfl rfl ?_
      refine own_istore X 29 #[.val (.int pa), .val (.int pb), .val (.int pc), .val (.int (Int32.ofNat i.val)), .val (.int (0 : Int32)), .val (.int (0 : Int32)), .unset, .unset, .unset, .unset, .unset, .unset, .unset, .unset, .unset, .unset, .unset] at_27 rfl rfl ?_
      refine own_iloadN X 30 pc at_29 rfl rfl ?_
      refine own_iconst X 31 (2 : Int32) at_30 rfl rfl ?_
      refine own_iand X 32 at_31 rfl ?_
      by_cases hc32 : (pc &&& (2 : Int32)) = (0 : Int32)
      · refine own_ifY X 39 at_32 (by decide) (by decide) (XT.i0_eq_t hc32) ?_
        refine own_iconst X 40 (0 : Int32) at_39 rfl rfl ?_
        refine own_istore X 42 #[.val (.int pa), .val (.int pb), .val (.int pc), .val (.int (Int32.ofNat i.val)), .val (.int (0 : Int32)), .val (.int (0 : Int32)), .val (.int (0 : Int32)), .unset, .unset, .unset, .unset, .unset, .unset, .unset, .unset, .unset, .unset] at_40 rfl rfl ?_
        refine own_iload X 44 (0 : Int32) at_42 rfl rfl ?_
        refine own_iconst X 45 (1 : Int32) at_44 rfl rfl ?_
        refine own_icY X 51 at_45 (by decide) (by decide) (XT.ii_ne_t (by decide)) ?_
        refine own_iload X 53 (0 : Int32) at_51 rfl rfl ?_
        refine own_ifN X 56 at_53 rfl (XT.i0_ne_f (by decide)) ?_
        refine own_iconst X 57 (1 : Int32) at_56 rfl rfl ?_
        refine own_istore X 59 #[.val (.int pa), .val (.int pb), .val (.int pc), .val (.int (Int32.ofNat i.val)), .val (.int (0 : Int32)), .val (.int (0 : Int32)), .val (.int (1 : Int32)), .unset, .unset, .unset, .unset, .unset, .unset, .unset, .unset, .unset, .unset] at_57 rfl rfl ?_
        refine own_iloadN X 60 (Int32.ofNat i.val) at_59 rfl rfl ?_
        refine own_iload X 62 (0 : Int32) at_60 rfl rfl ?_
        refine own_iload X 64 (0 : Int32) at_62 rfl rfl ?_
        refine own_iload X 66 (1 : Int32) at_64 rfl rfl ?_
        refine own_callS X 69 [(.int (Int32.ofNat i.val)), (.int (0 : Int32)), (.int (0 : Int32)), (.int (1 : Int32))] [] at_66 rfl (hw _ (List.mem_of_getElem? (i := 1) rfl)) (hw _ (List.mem_of_getElem? (i := 2) rfl)) (hw _ (List.mem_of_getElem? (i := 3) rfl)) (hw _ (List.mem_of_getElem? (i := 4) rfl)) (by decide) (own_marc l Z a0 hw (Int32.ofNat i.val) (0 : Int32) (0 : Int32) (1 : Int32) av kc 1 (0 : Int32) h0 n0 X.sz OL z_s z_A (by decide) (by decide) rfl) (fun _ _ q => Nat.le_of_eq (congrArg Array.size q.1.symm)) rfl own_pd3 rfl rfl rfl (by decide) (Nat.le_of_ble_eq_true rfl) (by decide) (by decide) ?_
        rintro v66 T h_ X ⟨eh_, rfl⟩
        rw [eh_] at X
        show own_Ends p e below _ (T.setTop (mkF m 69 #[.val (.int pa), .val (.int pb), .val (.int pc), .val (.int (Int32.ofNat i.val)), .val (.int (0 : Int32)), .val (.int (0 : Int32)), .val (.int (1 : Int32)), .unset, .unset, .unset, .unset, .unset, .unset, .unset, .unset, .unset, .unset] [(.int (own_arc (0 : Int32) (Int32.ofNat i.val)))]))
        refine own_istore X 71 #[.val (.int pa), .val (.int pb), .val (.int pc), .val (.int (Int32.ofNat i.val)), .val (.int (0 : Int32)), .val (.int (0 : Int32)), .val (.int (1 : Int32)), .val (.int (own_arc (0 : Int32) (Int32.ofNat i.val))), .unset, .unset, .unset, .unset, .unset, .unset, .unset, .unset, .unset] at_69 rfl rfl ?_
        refine own_iconst X 72 (4 : Int32) at_71 rfl rfl ?_
        refine own_newP X 74 4 4 at_72 rfl (hw _ (List.mem_of_getElem? (i := 7) rfl)) (by decide) (by decide) (by decide) (by decide) (by decide) (by decide) ?_
        intro T h1 b2 kc_b2 g_b2 X E_h1 A_b2
        have zs_h1 : h0.size ≤ h1.size := E_h1.1
        have OL := OL.ext E_h1
        have lo_b2 : h0.size ≤ b2 := Nat.le_of_eq g_b2.symm
        have hi_b2 : h1.size > b2 := A_b2.lt
        have A_b2 : own_A Z h1 b2 kc_b2 .byte [(.int (0 : Int32)), (.int (0 : Int32)), (.int (0 : Int32)), (.int (0 : Int32))] := A_b2
        refine own_dup X 75 at_74 rfl rfl ?_
        refine own_iconst X 76 (0 : Int32) at_75 rfl rfl ?_
        refine own_iload X 78 (own_arc (0 : Int32) (Int32.ofNat i.val)) at_76 rfl rfl ?_
        refine own_bastore X 79 0 at_78 rfl A_b2 (by decide) (by decide) (Nat.le_of_ble_eq_true rfl) (by omega) ?_
        intro T h3 X W_h3
        have nw_h3 : own_A Z h3 b2 kc_b2 .byte [(.int (nar .byte (own_arc (0 : Int32) (Int32.ofNat i.val)))), (.int (0 : Int32)), (.int (0 : Int32)), (.int (0 : Int32))] := A_b2.same W_h3 (fits_nar_byte _)
        have zs_h3 : h1.size ≤ h3.size := (Nat.le_of_eq W_h3.size.symm)
        have OL := OL.wr W_h3 (by omega)
        have A_b2 := nw_h3
        refine own_dup X 80 at_79 rfl rfl ?_
        refine own_iconst X 81 (1 : Int32) at_80 rfl rfl ?_
        refine own_iconst X 82 (2 : Int32) at_81 rfl rfl ?_
        refine own_bastore X 83 1 at_82 rfl A_b2 (by decide) (by decide) (Nat.le_of_ble_eq_true rfl) (by omega) ?_
        intro T h4 X W_h4
        have nw_h4 : own_A Z h4 b2 kc_b2 .byte [(.int (nar .byte (own_arc (0 : Int32) (Int32.ofNat i.val)))), (.int (nar .byte (2 : Int32))), (.int (0 : Int32)), (.int (0 : Int32))] := A_b2.same W_h4 (fits_nar_byte _)
        have zs_h4 : h3.size ≤ h4.size := (Nat.le_of_eq W_h4.size.symm)
        have OL := OL.wr W_h4 (by omega)
        have A_b2 := nw_h4
        refine own_dup X 84 at_83 rfl rfl ?_
        refine own_iconst X 85 (2 : Int32) at_84 rfl rfl ?_
        refine own_iconst X 86 (0 : Int32) at_85 rfl rfl ?_
        refine own_bastore X 87 2 at_86 rfl A_b2 (by decide) (by decide) (Nat.le_of_ble_eq_true rfl) (by omega) ?_
        intro T h5 X W_h5
        have nw_h5 : own_A Z h5 b2 kc_b2 .byte [(.int (nar .byte (own_arc (0 : Int32) (Int32.ofNat i.val)))), (.int (nar .byte (2 : Int32))), (.int (nar .byte (0 : Int32))), (.int (0 : Int32))] := A_b2.same W_h5 (fits_nar_byte _)
        have zs_h5 : h4.size ≤ h5.size := (Nat.le_of_eq W_h5.size.symm)
        have OL := OL.wr W_h5 (by omega)
        have A_b2 := nw_h5
        refine own_dup X 88 at_87 rfl rfl ?_
        refine own_iconst X 89 (3 : Int32) at_88 rfl rfl ?_
        refine own_bipush X 91 (10 : Int32) at_89 rfl (by decide) ?_
        refine own_bastore X 92 3 at_91 rfl A_b2 (by decide) (by decide) (Nat.le_of_ble_eq_true rfl) (by omega) ?_
        intro T h6 X W_h6
        have nw_h6 : own_A Z h6 b2 kc_b2 .byte [(.int (nar .byte (own_arc (0 : Int32) (Int32.ofNat i.val)))), (.int (nar .byte (2 : Int32))), (.int (nar .byte (0 : Int32))), (.int (nar .byte (10 : Int32)))] := A_b2.same W_h6 (fits_nar_byte _)
        have zs_h6 : h5.size ≤ h6.size := (Nat.le_of_eq W_h6.size.symm)
        have OL := OL.wr W_h6 (by omega)
        have A_b2 := nw_h6
        have A_b2 : own_A Z h6 b2 kc_b2 .byte [(.int (own_arc (0 : Int32) (Int32.ofNat i.val))), (.int 2), (.int 0), (.int 10)] := by have q := own_narb ((((0 : Int32) <<< (5 &&& 31)) ||| (Int32.ofNat i.val))); simpa only [own_arc, q, show nar .byte (2 : Int32) = 2 from by decide, show nar .byte (0 : Int32) = 0 from by decide, show nar .byte (10 : Int32) = 10 from by decide] using A_b2
        refine own_astore X 94 #[.val (.int pa), .val (.int pb), .val (.int pc), .val (.int (Int32.ofNat i.val)), .val (.int (0 : Int32)), .val (.int (0 : Int32)), .val (.int (1 : Int32)), .val (.int (own_arc (0 : Int32) (Int32.ofNat i.val))), .val (.ref b2), .unset, .unset, .unset, .unset, .unset, .unset, .unset, .unset] at_92 rfl rfl rfl ?_
        refine own_new X 97 at_94 rfl (hw _ (List.mem_of_getElem? (i := 8) rfl)) (hw _ (List.mem_of_getElem? (i := 9) rfl)) (hw _ (List.mem_of_getElem? (i := 3) rfl)) (by decide) (by decide) ?_
        intro T h7 b8 g_b8 X E_h7 A_b8 D_b8
        have zs_h7 : h6.size ≤ h7.size := E_h7.1
        have OL := OL.ext E_h7
        have A_b2 := A_b2.ext E_h7
        have lo_b8 : h6.size ≤ b8 := Nat.le_of_eq g_b8.symm
        have hi_b8 : h7.size > b8 := A_b8.lt
        have F_bytes_b8 : Fld Z h7 b8 "com/example/radix26/radix26/internal/trie/FrozenNodes" "bytes" "[B" .null := D_b8 (Or.inr (hw _ (List.mem_of_getElem? (i := 17) rfl))) (ty := (.array .byte)) (by decide)
        refine own_dup X 98 at_97 rfl rfl ?_
        refine own_aload X 100 (.ref b2) at_98 rfl rfl rfl ?_
        refine own_init X 103 [(.ref b2)] [(.ref b8)] at_100 rfl (hw _ (List.mem_of_getElem? (i := 10) rfl)) (hw _ (List.mem_of_getElem? (i := 11) rfl)) (hw _ (List.mem_of_getElem? (i := 3) rfl)) (hw _ (List.mem_of_getElem? (i := 12) rfl)) (by decide) rfl (own_mini l Z a0 hw b8 b2 h7 n0 X.sz F_bytes_b8 A_b8 (by omega)) (fun _ _ q => q.1.1) rfl own_pd4 rfl rfl rfl (by decide) (Nat.le_of_ble_eq_true rfl) (by decide) (by decide) ?_
        rintro v100 T h9 X ⟨K_, rfl, Fi_⟩
        have zs_h9 : h7.size ≤ h9.size := K_.1
        have OL := OL.keep K_ (allS (by omega) all0)
        have A_b2 := A_b2.keep K_ (ninS (by show @Ne Nat _ _; omega) nin0)
        have A_b8 := A_b8.keep K_
        have F_bytes_b8 := Fi_
        show own_Ends p e below _ (T.setTop (mkF m 103 #[.val (.int pa), .val (.int pb), .val (.int pc), .val (.int (Int32.ofNat i.val)), .val (.int (0 : Int32)), .val (.int (0 : Int32)), .val (.int (1 : Int32)), .val (.int (own_arc (0 : Int32) (Int32.ofNat i.val))), .val (.ref b2), .unset, .unset, .unset, .unset, .unset, .unset, .unset, .unset] [(.ref b8)]))
        refine own_astore X 105 #[.val (.int pa), .val (.int pb), .val (.int pc), .val (.int (Int32.ofNat i.val)), .val (.int (0 : Int32)), .val (.int (0 : Int32)), .val (.int (1 : Int32)), .val (.int (own_arc (0 : Int32) (Int32.ofNat i.val))), .val (.ref b2), .val (.ref b8), .unset, .unset, .unset, .unset, .unset, .unset, .unset] at_103 rfl rfl rfl ?_
        refine own_aload X 107 (.ref b8) at_105 rfl rfl rfl ?_
        refine own_iconst X 108 (0 : Int32) at_107 rfl rfl ?_
        refine own_callV X 111 [(.int (0 : Int32))] [] at_108 rfl (hw _ (List.mem_of_getElem? (i := 18) rfl)) (hw _ (List.mem_of_getElem? (i := 19) rfl)) (own_nf X.2.2.2.2.1 (hw _ (List.mem_of_getElem? (i := 21) rfl))) (hw _ (List.mem_of_getElem? (i := 21) rfl)) (hw _ (List.mem_of_getElem? (i := 20) rfl)) (hw _ (List.mem_of_getElem? (i := 3) rfl)) (hw _ (List.mem_of_getElem? (i := 22) rfl)) (by decide) A_b8 (own_mindex l Z a0 hw b8 (0 : Int32) b2 kc_b2 (own_arc (0 : Int32) (Int32.ofNat i.val)) h9 n0 X.sz F_bytes_b8 A_b8 A_b2 rfl) (fun _ _ q => Nat.le_of_eq (congrArg Array.size q.1.symm)) rfl own_pd0 rfl rfl rfl (by decide) (Nat.le_of_ble_eq_true rfl) (by decide) (by decide) ?_
        rintro v108 T h_ X ⟨eh_, rfl⟩
        rw [eh_] at X
        show own_Ends p e below _ (T.setTop (mkF m 111 #[.val (.int pa), .val (.int pb), .val (.int pc), .val (.int (Int32.ofNat i.val)), .val (.int (0 : Int32)), .val (.int (0 : Int32)), .val (.int (1 : Int32)), .val (.int (own_arc (0 : Int32) (Int32.ofNat i.val))), .val (.ref b2), .val (.ref b8), .unset, .unset, .unset, .unset, .unset, .unset, .unset] [(.int ((own_arc (0 : Int32) (Int32.ofNat i.val)) &&& 31))]))
        rw [own_arc_ix_0 i]
        refine own_iloadN X 112 (Int32.ofNat i.val) at_111 rfl rfl ?_
        refine own_icN X 115 at_112 rfl (XT.ii_ne_f rfl) ?_
        refine own_iconst X 116 (1 : Int32) at_115 rfl rfl ?_
        refine own_goto X 120 at_116 (by decide) (by decide) ?_
        refine own_istore X 122 #[.val (.int pa), .val (.int pb), .val (.int pc), .val (.int (Int32.ofNat i.val)), .val (.int (0 : Int32)), .val (.int (0 : Int32)), .val (.int (1 : Int32)), .val (.int (own_arc (0 : Int32) (Int32.ofNat i.val))), .val (.ref b2), .val (.ref b8), .val (.int (1 : Int32)), .unset, .unset, .unset, .unset, .unset, .unset] at_120 rfl rfl ?_
        refine own_aload X 124 (.ref b8) at_122 rfl rfl rfl ?_
        refine own_iconst X 125 (0 : Int32) at_124 rfl rfl ?_
        refine own_callV X 128 [(.int (0 : Int32))] [] at_125 rfl (hw _ (List.mem_of_getElem? (i := 23) rfl)) (hw _ (List.mem_of_getElem? (i := 24) rfl)) (own_nf X.2.2.2.2.1 (hw _ (List.mem_of_getElem? (i := 26) rfl))) (hw _ (List.mem_of_getElem? (i := 26) rfl)) (hw _ (List.mem_of_getElem? (i := 25) rfl)) (hw _ (List.mem_of_getElem? (i := 3) rfl)) (hw _ (List.mem_of_getElem? (i := 27) rfl)) (by decide) A_b8 (own_misw l Z a0 hw b8 (0 : Int32) b2 kc_b2 (own_arc (0 : Int32) (Int32.ofNat i.val)) h9 n0 X.sz F_bytes_b8 A_b8 A_b2 rfl) (fun _ _ q => Nat.le_of_eq (congrArg Array.size q.1.symm)) rfl own_pd2 rfl rfl rfl (by decide) (Nat.le_of_ble_eq_true rfl) (by decide) (by decide) ?_
        rintro v125 T h_ X ⟨eh_, rfl⟩
        rw [eh_] at X
        show own_Ends p e below _ (T.setTop (mkF m 128 #[.val (.int pa), .val (.int pb), .val (.int pc), .val (.int (Int32.ofNat i.val)), .val (.int (0 : Int32)), .val (.int (0 : Int32)), .val (.int (1 : Int32)), .val (.int (own_arc (0 : Int32) (Int32.ofNat i.val))), .val (.ref b2), .val (.ref b8), .val (.int (1 : Int32)), .unset, .unset, .unset, .unset, .unset, .unset] [(.int (own_is 173 (own_kind (own_arc (0 : Int32) (Int32.ofNat i.val)))))]))
        rw [own_arc_kind_0 i]
        rw [show own_is 173 (0 : Int32) = (1 : Int32) from by decide]
        refine own_iload X 130 (1 : Int32) at_128 rfl rfl ?_
        refine own_icN X 133 at_130 rfl (XT.ii_ne_f (by decide)) ?_
        refine own_iconst X 134 (1 : Int32) at_133 rfl rfl ?_
        refine own_goto X 138 at_134 (by decide) (by decide) ?_
        refine own_istore X 140 #[.val (.int pa), .val (.int pb), .val (.int pc), .val (.int (Int32.ofNat i.val)), .val (.int (0 : Int32)), .val (.int (0 : Int32)), .val (.int (1 : Int32)), .val (.int (own_arc (0 : Int32) (Int32.ofNat i.val))), .val (.ref b2), .val (.ref b8), .val (.int (1 : Int32)), .val (.int (1 : Int32)), .unset, .unset, .unset, .unset, .unset] at_138 rfl rfl ?_
        refine own_iload X 142 (0 : Int32) at_140 rfl rfl ?_
        refine own_ifY X 151 at_142 (by decide) (by decide) (XT.i0_eq_t (by decide)) ?_
        refine own_iload X 153 (0 : Int32) at_151 rfl rfl ?_
        refine own_ifN X 156 at_153 rfl (XT.i0_ne_f (by decide)) ?_
        refine own_iconst X 157 (1 : Int32) at_156 rfl rfl ?_
        refine own_istore X 159 #[.val (.int pa), .val (.int pb), .val (.int pc), .val (.int (Int32.ofNat i.val)), .val (.int (0 : Int32)), .val (.int (0 : Int32)), .val (.int (1 : Int32)), .val (.int (own_arc (0 : Int32) (Int32.ofNat i.val))), .val (.ref b2), .val (.ref b8), .val (.int (1 : Int32)), .val (.int (1 : Int32)), .val (.int (1 : Int32)), .unset, .unset, .unset, .unset] at_157 rfl rfl ?_
        refine own_goto X 165 at_159 (by decide) (by decide) ?_
        refine own_aload X 167 (.ref b8) at_165 rfl rfl rfl ?_
        refine own_iconst X 168 (0 : Int32) at_167 rfl rfl ?_
        refine own_callV X 171 [(.int (0 : Int32))] [] at_168 rfl (hw _ (List.mem_of_getElem? (i := 35) rfl)) (hw _ (List.mem_of_getElem? (i := 36) rfl)) (own_nf X.2.2.2.2.1 (hw _ (List.mem_of_getElem? (i := 38) rfl))) (hw _ (List.mem_of_getElem? (i := 38) rfl)) (hw _ (List.mem_of_getElem? (i := 37) rfl)) (hw _ (List.mem_of_getElem? (i := 3) rfl)) (hw _ (List.mem_of_getElem? (i := 39) rfl)) (by decide) A_b8 (own_mns l Z a0 hw b8 (0 : Int32) b2 kc_b2 (own_arc (0 : Int32) (Int32.ofNat i.val)) h9 n0 X.sz F_bytes_b8 A_b8 A_b2 rfl) (fun _ _ q => Nat.le_of_eq (congrArg Array.size q.1.symm)) rfl own_pd0 rfl rfl rfl (by decide) (Nat.le_of_ble_eq_true rfl) (by decide) (by decide) ?_
        rintro v168 T h_ X ⟨eh_, rfl⟩
        rw [eh_] at X
        show own_Ends p e below _ (T.setTop (mkF m 171 #[.val (.int pa), .val (.int pb), .val (.int pc), .val (.int (Int32.ofNat i.val)), .val (.int (0 : Int32)), .val (.int (0 : Int32)), .val (.int (1 : Int32)), .val (.int (own_arc (0 : Int32) (Int32.ofNat i.val))), .val (.ref b2), .val (.ref b8), .val (.int (1 : Int32)), .val (.int (1 : Int32)), .val (.int (1 : Int32)), .unset, .unset, .unset, .unset] [(.int (own_ns (own_kind (own_arc (0 : Int32) (Int32.ofNat i.val)))))]))
        rw [own_arc_kind_0 i]
        rw [show own_ns (0 : Int32) = (1 : Int32) from by decide]
        refine own_iload X 173 (1 : Int32) at_171 rfl rfl ?_
        refine own_icN X 176 at_173 rfl (XT.ii_ne_f (by decide)) ?_
        refine own_iconst X 177 (1 : Int32) at_176 rfl rfl ?_
        refine own_goto X 181 at_177 (by decide) (by decide) ?_
        refine own_istore X 183 #[.val (.int pa), .val (.int pb), .val (.int pc), .val (.int (Int32.ofNat i.val)), .val (.int (0 : Int32)), .val (.int (0 : Int32)), .val (.int (1 : Int32)), .val (.int (own_arc (0 : Int32) (Int32.ofNat i.val))), .val (.ref b2), .val (.ref b8), .val (.int (1 : Int32)), .val (.int (1 : Int32)), .val (.int (1 : Int32)), .val (.int (1 : Int32)), .unset, .unset, .unset] at_181 rfl rfl ?_
        refine own_iload X 185 (0 : Int32) at_183 rfl rfl ?_
        refine own_ifN X 188 at_185 rfl (XT.i0_ne_f (by decide)) ?_
        refine own_iconst X 189 (0 : Int32) at_188 rfl rfl ?_
        refine own_istore X 191 #[.val (.int pa), .val (.int pb), .val (.int pc), .val (.int (Int32.ofNat i.val)), .val (.int (0 : Int32)), .val (.int (0 : Int32)), .val (.int (1 : Int32)), .val (.int (own_arc (0 : Int32) (Int32.ofNat i.val))), .val (.ref b2), .val (.ref b8), .val (.int (1 : Int32)), .val (.int (1 : Int32)), .val (.int (1 : Int32)), .val (.int (1 : Int32)), .val (.int (0 : Int32)), .unset, .unset] at_189 rfl rfl ?_
        refine own_goto X 209 at_191 (by decide) (by decide) ?_
        refine own_iload X 211 (1 : Int32) at_209 rfl rfl ?_
        refine own_ifN X 214 at_211 rfl (XT.i0_eq_f (by decide)) ?_
        refine own_iconst X 215 (1 : Int32) at_214 rfl rfl ?_
        refine own_goto X 219 at_215 (by decide) (by decide) ?_
        refine own_iload X 221 (0 : Int32) at_219 rfl rfl ?_
        refine own_iadd X 222 at_221 rfl ?_
        refine own_istore X 224 #[.val (.int pa), .val (.int pb), .val (.int pc), .val (.int (Int32.ofNat i.val)), .val (.int (0 : Int32)), .val (.int (0 : Int32)), .val (.int (1 : Int32)), .val (.int (own_arc (0 : Int32) (Int32.ofNat i.val))), .val (.ref b2), .val (.ref b8), .val (.int (1 : Int32)), .val (.int (1 : Int32)), .val (.int (1 : Int32)), .val (.int (1 : Int32)), .val (.int (0 : Int32)), .val (.int ((1 : Int32) + (0 : Int32))), .unset] at_222 rfl rfl ?_
        refine own_aload X 226 (.ref b8) at_224 rfl rfl rfl ?_
        refine own_iconst X 227 (0 : Int32) at_226 rfl rfl ?_
        refine own_callV X 230 [(.int (0 : Int32))] [] at_227 rfl (hw _ (List.mem_of_getElem? (i := 40) rfl)) (hw _ (List.mem_of_getElem? (i := 41) rfl)) (own_nf X.2.2.2.2.1 (hw _ (List.mem_of_getElem? (i := 43) rfl))) (hw _ (List.mem_of_getElem? (i := 43) rfl)) (hw _ (List.mem_of_getElem? (i := 42) rfl)) (hw _ (List.mem_of_getElem? (i := 3) rfl)) (hw _ (List.mem_of_getElem? (i := 44) rfl)) (by decide) A_b8 (own_mcount l Z a0 hw b8 (0 : Int32) b2 kc_b2 (own_arc (0 : Int32) (Int32.ofNat i.val)) h9 n0 X.sz F_bytes_b8 A_b8 A_b2 rfl ⟨⟨0, by decide⟩, own_arc_kind_0 i⟩) (fun _ _ q => Nat.le_of_eq (congrArg Array.size q.1.symm)) rfl own_pd0 rfl rfl rfl (by decide) (Nat.le_of_ble_eq_true rfl) (by decide) (by decide) ?_
        rintro v227 T h_ X ⟨eh_, rfl⟩
        rw [eh_] at X
        show own_Ends p e below _ (T.setTop (mkF m 230 #[.val (.int pa), .val (.int pb), .val (.int pc), .val (.int (Int32.ofNat i.val)), .val (.int (0 : Int32)), .val (.int (0 : Int32)), .val (.int (1 : Int32)), .val (.int (own_arc (0 : Int32) (Int32.ofNat i.val))), .val (.ref b2), .val (.ref b8), .val (.int (1 : Int32)), .val (.int (1 : Int32)), .val (.int (1 : Int32)), .val (.int (1 : Int32)), .val (.int (0 : Int32)), .val (.int ((1 : Int32) + (0 : Int32))), .unset] [(.int (own_count (own_kind (own_arc (0 : Int32) (Int32.ofNat i.val)))))]))
        rw [own_arc_kind_0 i]
        rw [show own_count (0 : Int32) = (1 : Int32) from by decide]
        refine own_iload X 232 ((1 : Int32) + (0 : Int32)) at_230 rfl rfl ?_
        refine own_icN X 235 at_232 rfl (XT.ii_ne_f (by decide)) ?_
        refine own_iconst X 236 (1 : Int32) at_235 rfl rfl ?_
        refine own_goto X 240 at_236 (by decide) (by decide) ?_
        refine own_istore X 242 #[.val (.int pa), .val (.int pb), .val (.int pc), .val (.int (Int32.ofNat i.val)), .val (.int (0 : Int32)), .val (.int (0 : Int32)), .val (.int (1 : Int32)), .val (.int (own_arc (0 : Int32) (Int32.ofNat i.val))), .val (.ref b2), .val (.ref b8), .val (.int (1 : Int32)), .val (.int (1 : Int32)), .val (.int (1 : Int32)), .val (.int (1 : Int32)), .val (.int (0 : Int32)), .val (.int ((1 : Int32) + (0 : Int32))), .val (.int (1 : Int32))] at_240 rfl rfl ?_
        refine own_iload X 244 (1 : Int32) at_242 rfl rfl ?_
        refine own_ifN X 247 at_244 rfl (XT.i0_eq_f (by decide)) ?_
        refine own_iload X 249 (1 : Int32) at_247 rfl rfl ?_
        refine own_ifN X 252 at_249 rfl (XT.i0_eq_f (by decide)) ?_
        refine own_iload X 254 (1 : Int32) at_252 rfl rfl ?_
        refine own_ifN X 257 at_254 rfl (XT.i0_eq_f (by decide)) ?_
        refine own_iload X 259 (1 : Int32) at_257 rfl rfl ?_
        refine own_ifN X 262 at_259 rfl (XT.i0_eq_f (by decide)) ?_
        refine own_iconst X 263 (1 : Int32) at_262 rfl rfl ?_
        refine own_goto X 267 at_263 (by decide) (by decide) ?_
        exact own_retN X .boolean at_267 rfl (by simp) (by decide) (by decide) (by decide)
      · refine own_ifN X 35 at_32 rfl (XT.i0_eq_f hc32) ?_
        refine own_iconst X 36 (1 : Int32) at_35 rfl rfl ?_
        refine own_goto X 40 at_36 (by decide) (by decide) ?_
        refine own_istore X 42 #[.val (.int pa), .val (.int pb), .val (.int pc), .val (.int (Int32.ofNat i.val)), .val (.int (0 : Int32)), .val (.int (0 : Int32)), .val (.int (1 : Int32)), .unset, .unset, .unset, .unset, .unset, .unset, .unset, .unset, .unset, .unset] at_40 rfl rfl ?_
        refine own_iload X 44 (0 : Int32) at_42 rfl rfl ?_
        refine own_iconst X 45 (1 : Int32) at_44 rfl rfl ?_
        refine own_icY X 51 at_45 (by decide) (by decide) (XT.ii_ne_t (by decide)) ?_
        refine own_iload X 53 (0 : Int32) at_51 rfl rfl ?_
        refine own_ifN X 56 at_53 rfl (XT.i0_ne_f (by decide)) ?_
        refine own_iconst X 57 (1 : Int32) at_56 rfl rfl ?_
        refine own_istore X 59 #[.val (.int pa), .val (.int pb), .val (.int pc), .val (.int (Int32.ofNat i.val)), .val (.int (0 : Int32)), .val (.int (0 : Int32)), .val (.int (1 : Int32)), .unset, .unset, .unset, .unset, .unset, .unset, .unset, .unset, .unset, .unset] at_57 rfl rfl ?_
        refine own_iloadN X 60 (Int32.ofNat i.val) at_59 rfl rfl ?_
        refine own_iload X 62 (0 : Int32) at_60 rfl rfl ?_
        refine own_iload X 64 (0 : Int32) at_62 rfl rfl ?_
        refine own_iload X 66 (1 : Int32) at_64 rfl rfl ?_
        refine own_callS X 69 [(.int (Int32.ofNat i.val)), (.int (0 : Int32)), (.int (0 : Int32)), (.int (1 : Int32))] [] at_66 rfl (hw _ (List.mem_of_getElem? (i := 1) rfl)) (hw _ (List.mem_of_getElem? (i := 2) rfl)) (hw _ (List.mem_of_getElem? (i := 3) rfl)) (hw _ (List.mem_of_getElem? (i := 4) rfl)) (by decide) (own_marc l Z a0 hw (Int32.ofNat i.val) (0 : Int32) (0 : Int32) (1 : Int32) av kc 1 (0 : Int32) h0 n0 X.sz OL z_s z_A (by decide) (by decide) rfl) (fun _ _ q => Nat.le_of_eq (congrArg Array.size q.1.symm)) rfl own_pd3 rfl rfl rfl (by decide) (Nat.le_of_ble_eq_true rfl) (by decide) (by decide) ?_
        rintro v66 T h_ X ⟨eh_, rfl⟩
        rw [eh_] at X
        show own_Ends p e below _ (T.setTop (mkF m 69 #[.val (.int pa), .val (.int pb), .val (.int pc), .val (.int (Int32.ofNat i.val)), .val (.int (0 : Int32)), .val (.int (0 : Int32)), .val (.int (1 : Int32)), .unset, .unset, .unset, .unset, .unset, .unset, .unset, .unset, .unset, .unset] [(.int (own_arc (0 : Int32) (Int32.ofNat i.val)))]))
        refine own_istore X 71 #[.val (.int pa), .val (.int pb), .val (.int pc), .val (.int (Int32.ofNat i.val)), .val (.int (0 : Int32)), .val (.int (0 : Int32)), .val (.int (1 : Int32)), .val (.int (own_arc (0 : Int32) (Int32.ofNat i.val))), .unset, .unset, .unset, .unset, .unset, .unset, .unset, .unset, .unset] at_69 rfl rfl ?_
        refine own_iconst X 72 (4 : Int32) at_71 rfl rfl ?_
        refine own_newP X 74 4 4 at_72 rfl (hw _ (List.mem_of_getElem? (i := 7) rfl)) (by decide) (by decide) (by decide) (by decide) (by decide) (by decide) ?_
        intro T h10 b11 kc_b11 g_b11 X E_h10 A_b11
        have zs_h10 : h0.size ≤ h10.size := E_h10.1
        have OL := OL.ext E_h10
        have lo_b11 : h0.size ≤ b11 := Nat.le_of_eq g_b11.symm
        have hi_b11 : h10.size > b11 := A_b11.lt
        have A_b11 : own_A Z h10 b11 kc_b11 .byte [(.int (0 : Int32)), (.int (0 : Int32)), (.int (0 : Int32)), (.int (0 : Int32))] := A_b11
        refine own_dup X 75 at_74 rfl rfl ?_
        refine own_iconst X 76 (0 : Int32) at_75 rfl rfl ?_
        refine own_iload X 78 (own_arc (0 : Int32) (Int32.ofNat i.val)) at_76 rfl rfl ?_
        refine own_bastore X 79 0 at_78 rfl A_b11 (by decide) (by decide) (Nat.le_of_ble_eq_true rfl) (by omega) ?_
        intro T h12 X W_h12
        have nw_h12 : own_A Z h12 b11 kc_b11 .byte [(.int (nar .byte (own_arc (0 : Int32) (Int32.ofNat i.val)))), (.int (0 : Int32)), (.int (0 : Int32)), (.int (0 : Int32))] := A_b11.same W_h12 (fits_nar_byte _)
        have zs_h12 : h10.size ≤ h12.size := (Nat.le_of_eq W_h12.size.symm)
        have OL := OL.wr W_h12 (by omega)
        have A_b11 := nw_h12
        refine own_dup X 80 at_79 rfl rfl ?_
        refine own_iconst X 81 (1 : Int32) at_80 rfl rfl ?_
        refine own_iconst X 82 (2 : Int32) at_81 rfl rfl ?_
        refine own_bastore X 83 1 at_82 rfl A_b11 (by decide) (by decide) (Nat.le_of_ble_eq_true rfl) (by omega) ?_
        intro T h13 X W_h13
        have nw_h13 : own_A Z h13 b11 kc_b11 .byte [(.int (nar .byte (own_arc (0 : Int32) (Int32.ofNat i.val)))), (.int (nar .byte (2 : Int32))), (.int (0 : Int32)), (.int (0 : Int32))] := A_b11.same W_h13 (fits_nar_byte _)
        have zs_h13 : h12.size ≤ h13.size := (Nat.le_of_eq W_h13.size.symm)
        have OL := OL.wr W_h13 (by omega)
        have A_b11 := nw_h13
        refine own_dup X 84 at_83 rfl rfl ?_
        refine own_iconst X 85 (2 : Int32) at_84 rfl rfl ?_
        refine own_iconst X 86 (0 : Int32) at_85 rfl rfl ?_
        refine own_bastore X 87 2 at_86 rfl A_b11 (by decide) (by decide) (Nat.le_of_ble_eq_true rfl) (by omega) ?_
        intro T h14 X W_h14
        have nw_h14 : own_A Z h14 b11 kc_b11 .byte [(.int (nar .byte (own_arc (0 : Int32) (Int32.ofNat i.val)))), (.int (nar .byte (2 : Int32))), (.int (nar .byte (0 : Int32))), (.int (0 : Int32))] := A_b11.same W_h14 (fits_nar_byte _)
        have zs_h14 : h13.size ≤ h14.size := (Nat.le_of_eq W_h14.size.symm)
        have OL := OL.wr W_h14 (by omega)
        have A_b11 := nw_h14
        refine own_dup X 88 at_87 rfl rfl ?_
        refine own_iconst X 89 (3 : Int32) at_88 rfl rfl ?_
        refine own_bipush X 91 (10 : Int32) at_89 rfl (by decide) ?_
        refine own_bastore X 92 3 at_91 rfl A_b11 (by decide) (by decide) (Nat.le_of_ble_eq_true rfl) (by omega) ?_
        intro T h15 X W_h15
        have nw_h15 : own_A Z h15 b11 kc_b11 .byte [(.int (nar .byte (own_arc (0 : Int32) (Int32.ofNat i.val)))), (.int (nar .byte (2 : Int32))), (.int (nar .byte (0 : Int32))), (.int (nar .byte (10 : Int32)))] := A_b11.same W_h15 (fits_nar_byte _)
        have zs_h15 : h14.size ≤ h15.size := (Nat.le_of_eq W_h15.size.symm)
        have OL := OL.wr W_h15 (by omega)
        have A_b11 := nw_h15
        have A_b11 : own_A Z h15 b11 kc_b11 .byte [(.int (own_arc (0 : Int32) (Int32.ofNat i.val))), (.int 2), (.int 0), (.int 10)] := by have q := own_narb ((((0 : Int32) <<< (5 &&& 31)) ||| (Int32.ofNat i.val))); simpa only [own_arc, q, show nar .byte (2 : Int32) = 2 from by decide, show nar .byte (0 : Int32) = 0 from by decide, show nar .byte (10 : Int32) = 10 from by decide] using A_b11
        refine own_astore X 94 #[.val (.int pa), .val (.int pb), .val (.int pc), .val (.int (Int32.ofNat i.val)), .val (.int (0 : Int32)), .val (.int (0 : Int32)), .val (.int (1 : Int32)), .val (.int (own_arc (0 : Int32) (Int32.ofNat i.val))), .val (.ref b11), .unset, .unset, .unset, .unset, .unset, .unset, .unset, .unset] at_92 rfl rfl rfl ?_
        refine own_new X 97 at_94 rfl (hw _ (List.mem_of_getElem? (i := 8) rfl)) (hw _ (List.mem_of_getElem? (i := 9) rfl)) (hw _ (List.mem_of_getElem? (i := 3) rfl)) (by decide) (by decide) ?_
        intro T h16 b17 g_b17 X E_h16 A_b17 D_b17
        have zs_h16 : h15.size ≤ h16.size := E_h16.1
        have OL := OL.ext E_h16
        have A_b11 := A_b11.ext E_h16
        have lo_b17 : h15.size ≤ b17 := Nat.le_of_eq g_b17.symm
        have hi_b17 : h16.size > b17 := A_b17.lt
        have F_bytes_b17 : Fld Z h16 b17 "com/example/radix26/radix26/internal/trie/FrozenNodes" "bytes" "[B" .null := D_b17 (Or.inr (hw _ (List.mem_of_getElem? (i := 17) rfl))) (ty := (.array .byte)) (by decide)
        refine own_dup X 98 at_97 rfl rfl ?_
        refine own_aload X 100 (.ref b11) at_98 rfl rfl rfl ?_
        refine own_init X 103 [(.ref b11)] [(.ref b17)] at_100 rfl (hw _ (List.mem_of_getElem? (i := 10) rfl)) (hw _ (List.mem_of_getElem? (i := 11) rfl)) (hw _ (List.mem_of_getElem? (i := 3) rfl)) (hw _ (List.mem_of_getElem? (i := 12) rfl)) (by decide) rfl (own_mini l Z a0 hw b17 b11 h16 n0 X.sz F_bytes_b17 A_b17 (by omega)) (fun _ _ q => q.1.1) rfl own_pd4 rfl rfl rfl (by decide) (Nat.le_of_ble_eq_true rfl) (by decide) (by decide) ?_
        rintro v100 T h18 X ⟨K_, rfl, Fi_⟩
        have zs_h18 : h16.size ≤ h18.size := K_.1
        have OL := OL.keep K_ (allS (by omega) all0)
        have A_b11 := A_b11.keep K_ (ninS (by show @Ne Nat _ _; omega) nin0)
        have A_b17 := A_b17.keep K_
        have F_bytes_b17 := Fi_
        show own_Ends p e below _ (T.setTop (mkF m 103 #[.val (.int pa), .val (.int pb), .val (.int pc), .val (.int (Int32.ofNat i.val)), .val (.int (0 : Int32)), .val (.int (0 : Int32)), .val (.int (1 : Int32)), .val (.int (own_arc (0 : Int32) (Int32.ofNat i.val))), .val (.ref b11), .unset, .unset, .unset, .unset, .unset, .unset, .unset, .unset] [(.ref b17)]))
        refine own_astore X 105 #[.val (.int pa), .val (.int pb), .val (.int pc), .val (.int (Int32.ofNat i.val)), .val (.int (0 : Int32)), .val (.int (0 : Int32)), .val (.int (1 : Int32)), .val (.int (own_arc (0 : Int32) (Int32.ofNat i.val))), .val (.ref b11), .val (.ref b17), .unset, .unset, .unset, .unset, .unset, .unset, .unset] at_103 rfl rfl rfl ?_
        refine own_aload X 107 (.ref b17) at_105 rfl rfl rfl ?_
        refine own_iconst X 108 (0 : Int32) at_107 rfl rfl ?_
        refine own_callV X 111 [(.int (0 : Int32))] [] at_108 rfl (hw _ (List.mem_of_getElem? (i := 18) rfl)) (hw _ (List.mem_of_getElem? (i := 19) rfl)) (own_nf X.2.2.2.2.1 (hw _ (List.mem_of_getElem? (i := 21) rfl))) (hw _ (List.mem_of_getElem? (i := 21) rfl)) (hw _ (List.mem_of_getElem? (i := 20) rfl)) (hw _ (List.mem_of_getElem? (i := 3) rfl)) (hw _ (List.mem_of_getElem? (i := 22) rfl)) (by decide) A_b17 (own_mindex l Z a0 hw b17 (0 : Int32) b11 kc_b11 (own_arc (0 : Int32) (Int32.ofNat i.val)) h18 n0 X.sz F_bytes_b17 A_b17 A_b11 rfl) (fun _ _ q => Nat.le_of_eq (congrArg Array.size q.1.symm)) rfl own_pd0 rfl rfl rfl (by decide) (Nat.le_of_ble_eq_true rfl) (by decide) (by decide) ?_
        rintro v108 T h_ X ⟨eh_, rfl⟩
        rw [eh_] at X
        show own_Ends p e below _ (T.setTop (mkF m 111 #[.val (.int pa), .val (.int pb), .val (.int pc), .val (.int (Int32.ofNat i.val)), .val (.int (0 : Int32)), .val (.int (0 : Int32)), .val (.int (1 : Int32)), .val (.int (own_arc (0 : Int32) (Int32.ofNat i.val))), .val (.ref b11), .val (.ref b17), .unset, .unset, .unset, .unset, .unset, .unset, .unset] [(.int ((own_arc (0 : Int32) (Int32.ofNat i.val)) &&& 31))]))
        rw [own_arc_ix_0 i]
        refine own_iloadN X 112 (Int32.ofNat i.val) at_111 rfl rfl ?_
        refine own_icN X 115 at_112 rfl (XT.ii_ne_f rfl) ?_
        refine own_iconst X 116 (1 : Int32) at_115 rfl rfl ?_
        refine own_goto X 120 at_116 (by decide) (by decide) ?_
        refine own_istore X 122 #[.val (.int pa), .val (.int pb), .val (.int pc), .val (.int (Int32.ofNat i.val)), .val (.int (0 : Int32)), .val (.int (0 : Int32)), .val (.int (1 : Int32)), .val (.int (own_arc (0 : Int32) (Int32.ofNat i.val))), .val (.ref b11), .val (.ref b17), .val (.int (1 : Int32)), .unset, .unset, .unset, .unset, .unset, .unset] at_120 rfl rfl ?_
        refine own_aload X 124 (.ref b17) at_122 rfl rfl rfl ?_
        refine own_iconst X 125 (0 : Int32) at_124 rfl rfl ?_
        refine own_callV X 128 [(.int (0 : Int32))] [] at_125 rfl (hw _ (List.mem_of_getElem? (i := 23) rfl)) (hw _ (List.mem_of_getElem? (i := 24) rfl)) (own_nf X.2.2.2.2.1 (hw _ (List.mem_of_getElem? (i := 26) rfl))) (hw _ (List.mem_of_getElem? (i := 26) rfl)) (hw _ (List.mem_of_getElem? (i := 25) rfl)) (hw _ (List.mem_of_getElem? (i := 3) rfl)) (hw _ (List.mem_of_getElem? (i := 27) rfl)) (by decide) A_b17 (own_misw l Z a0 hw b17 (0 : Int32) b11 kc_b11 (own_arc (0 : Int32) (Int32.ofNat i.val)) h18 n0 X.sz F_bytes_b17 A_b17 A_b11 rfl) (fun _ _ q => Nat.le_of_eq (congrArg Array.size q.1.symm)) rfl own_pd2 rfl rfl rfl (by decide) (Nat.le_of_ble_eq_true rfl) (by decide) (by decide) ?_
        rintro v125 T h_ X ⟨eh_, rfl⟩
        rw [eh_] at X
        show own_Ends p e below _ (T.setTop (mkF m 128 #[.val (.int pa), .val (.int pb), .val (.int pc), .val (.int (Int32.ofNat i.val)), .val (.int (0 : Int32)), .val (.int (0 : Int32)), .val (.int (1 : Int32)), .val (.int (own_arc (0 : Int32) (Int32.ofNat i.val))), .val (.ref b11), .val (.ref b17), .val (.int (1 : Int32)), .unset, .unset, .unset, .unset, .unset, .unset] [(.int (own_is 173 (own_kind (own_arc (0 : Int32) (Int32.ofNat i.val)))))]))
        rw [own_arc_kind_0 i]
        rw [show own_is 173 (0 : Int32) = (1 : Int32) from by decide]
        refine own_iload X 130 (1 : Int32) at_128 rfl rfl ?_
        refine own_icN X 133 at_130 rfl (XT.ii_ne_f (by decide)) ?_
        refine own_iconst X 134 (1 : Int32) at_133 rfl rfl ?_
        refine own_goto X 138 at_134 (by decide) (by decide) ?_
        refine own_istore X 140 #[.val (.int pa), .val (.int pb), .val (.int pc), .val (.int (Int32.ofNat i.val)), .val (.int (0 : Int32)), .val (.int (0 : Int32)), .val (.int (1 : Int32)), .val (.int (own_arc (0 : Int32) (Int32.ofNat i.val))), .val (.ref b11), .val (.ref b17), .val (.int (1 : Int32)), .val (.int (1 : Int32)), .unset, .unset, .unset, .unset, .unset] at_138 rfl rfl ?_
        refine own_iload X 142 (0 : Int32) at_140 rfl rfl ?_
        refine own_ifY X 151 at_142 (by decide) (by decide) (XT.i0_eq_t (by decide)) ?_
        refine own_iload X 153 (0 : Int32) at_151 rfl rfl ?_
        refine own_ifN X 156 at_153 rfl (XT.i0_ne_f (by decide)) ?_
        refine own_iconst X 157 (1 : Int32) at_156 rfl rfl ?_
        refine own_istore X 159 #[.val (.int pa), .val (.int pb), .val (.int pc), .val (.int (Int32.ofNat i.val)), .val (.int (0 : Int32)), .val (.int (0 : Int32)), .val (.int (1 : Int32)), .val (.int (own_arc (0 : Int32) (Int32.ofNat i.val))), .val (.ref b11), .val (.ref b17), .val (.int (1 : Int32)), .val (.int (1 : Int32)), .val (.int (1 : Int32)), .unset, .unset, .unset, .unset] at_157 rfl rfl ?_
        refine own_goto X 165 at_159 (by decide) (by decide) ?_
        refine own_aload X 167 (.ref b17) at_165 rfl rfl rfl ?_
        refine own_iconst X 168 (0 : Int32) at_167 rfl rfl ?_
        refine own_callV X 171 [(.int (0 : Int32))] [] at_168 rfl (hw _ (List.mem_of_getElem? (i := 35) rfl)) (hw _ (List.mem_of_getElem? (i := 36) rfl)) (own_nf X.2.2.2.2.1 (hw _ (List.mem_of_getElem? (i := 38) rfl))) (hw _ (List.mem_of_getElem? (i := 38) rfl)) (hw _ (List.mem_of_getElem? (i := 37) rfl)) (hw _ (List.mem_of_getElem? (i := 3) rfl)) (hw _ (List.mem_of_getElem? (i := 39) rfl)) (by decide) A_b17 (own_mns l Z a0 hw b17 (0 : Int32) b11 kc_b11 (own_arc (0 : Int32) (Int32.ofNat i.val)) h18 n0 X.sz F_bytes_b17 A_b17 A_b11 rfl) (fun _ _ q => Nat.le_of_eq (congrArg Array.size q.1.symm)) rfl own_pd0 rfl rfl rfl (by decide) (Nat.le_of_ble_eq_true rfl) (by decide) (by decide) ?_
        rintro v168 T h_ X ⟨eh_, rfl⟩
        rw [eh_] at X
        show own_Ends p e below _ (T.setTop (mkF m 171 #[.val (.int pa), .val (.int pb), .val (.int pc), .val (.int (Int32.ofNat i.val)), .val (.int (0 : Int32)), .val (.int (0 : Int32)), .val (.int (1 : Int32)), .val (.int (own_arc (0 : Int32) (Int32.ofNat i.val))), .val (.ref b11), .val (.ref b17), .val (.int (1 : Int32)), .val (.int (1 : Int32)), .val (.int (1 : Int32)), .unset, .unset, .unset, .unset] [(.int (own_ns (own_kind (own_arc (0 : Int32) (Int32.ofNat i.val)))))]))
        rw [own_arc_kind_0 i]
        rw [show own_ns (0 : Int32) = (1 : Int32) from by decide]
        refine own_iload X 173 (1 : Int32) at_171 rfl rfl ?_
        refine own_icN X 176 at_173 rfl (XT.ii_ne_f (by decide)) ?_
        refine own_iconst X 177 (1 : Int32) at_176 rfl rfl ?_
        refine own_goto X 181 at_177 (by decide) (by decide) ?_
        refine own_istore X 183 #[.val (.int pa), .val (.int pb), .val (.int pc), .val (.int (Int32.ofNat i.val)), .val (.int (0 : Int32)), .val (.int (0 : Int32)), .val (.int (1 : Int32)), .val (.int (own_arc (0 : Int32) (Int32.ofNat i.val))), .val (.ref b11), .val (.ref b17), .val (.int (1 : Int32)), .val (.int (1 : Int32)), .val (.int (1 : Int32)), .val (.int (1 : Int32)), .unset, .unset, .unset] at_181 rfl rfl ?_
        refine own_iload X 185 (0 : Int32) at_183 rfl rfl ?_
        refine own_ifN X 188 at_185 rfl (XT.i0_ne_f (by decide)) ?_
        refine own_iconst X 189 (0 : Int32) at_188 rfl rfl ?_
        refine own_istore X 191 #[.val (.int pa), .val (.int pb), .val (.int pc), .val (.int (Int32.ofNat i.val)), .val (.int (0 : Int32)), .val (.int (0 : Int32)), .val (.int (1 : Int32)), .val (.int (own_arc (0 : Int32) (Int32.ofNat i.val))), .val (.ref b11), .val (.ref b17), .val (.int (1 : Int32)), .val (.int (1 : Int32)), .val (.int (1 : Int32)), .val (.int (1 : Int32)), .val (.int (0 : Int32)), .unset, .unset] at_189 rfl rfl ?_
        refine own_goto X 209 at_191 (by decide) (by decide) ?_
        refine own_iload X 211 (1 : Int32) at_209 rfl rfl ?_
        refine own_ifN X 214 at_211 rfl (XT.i0_eq_f (by decide)) ?_
        refine own_iconst X 215 (1 : Int32) at_214 rfl rfl ?_
        refine own_goto X 219 at_215 (by decide) (by decide) ?_
        refine own_iload X 221 (0 : Int32) at_219 rfl rfl ?_
        refine own_iadd X 222 at_221 rfl ?_
        refine own_istore X 224 #[.val (.int pa), .val (.int pb), .val (.int pc), .val (.int (Int32.ofNat i.val)), .val (.int (0 : Int32)), .val (.int (0 : Int32)), .val (.int (1 : Int32)), .val (.int (own_arc (0 : Int32) (Int32.ofNat i.val))), .val (.ref b11), .val (.ref b17), .val (.int (1 : Int32)), .val (.int (1 : Int32)), .val (.int (1 : Int32)), .val (.int (1 : Int32)), .val (.int (0 : Int32)), .val (.int ((1 : Int32) + (0 : Int32))), .unset] at_222 rfl rfl ?_
        refine own_aload X 226 (.ref b17) at_224 rfl rfl rfl ?_
        refine own_iconst X 227 (0 : Int32) at_226 rfl rfl ?_
        refine own_callV X 230 [(.int (0 : Int32))] [] at_227 rfl (hw _ (List.mem_of_getElem? (i := 40) rfl)) (hw _ (List.mem_of_getElem? (i := 41) rfl)) (own_nf X.2.2.2.2.1 (hw _ (List.mem_of_getElem? (i := 43) rfl))) (hw _ (List.mem_of_getElem? (i := 43) rfl)) (hw _ (List.mem_of_getElem? (i := 42) rfl)) (hw _ (List.mem_of_getElem? (i := 3) rfl)) (hw _ (List.mem_of_getElem? (i := 44) rfl)) (by decide) A_b17 (own_mcount l Z a0 hw b17 (0 : Int32) b11 kc_b11 (own_arc (0 : Int32) (Int32.ofNat i.val)) h18 n0 X.sz F_bytes_b17 A_b17 A_b11 rfl ⟨⟨0, by decide⟩, own_arc_kind_0 i⟩) (fun _ _ q => Nat.le_of_eq (congrArg Array.size q.1.symm)) rfl own_pd0 rfl rfl rfl (by decide) (Nat.le_of_ble_eq_true rfl) (by decide) (by decide) ?_
        rintro v227 T h_ X ⟨eh_, rfl⟩
        rw [eh_] at X
        show own_Ends p e below _ (T.setTop (mkF m 230 #[.val (.int pa), .val (.int pb), .val (.int pc), .val (.int (Int32.ofNat i.val)), .val (.int (0 : Int32)), .val (.int (0 : Int32)), .val (.int (1 : Int32)), .val (.int (own_arc (0 : Int32) (Int32.ofNat i.val))), .val (.ref b11), .val (.ref b17), .val (.int (1 : Int32)), .val (.int (1 : Int32)), .val (.int (1 : Int32)), .val (.int (1 : Int32)), .val (.int (0 : Int32)), .val (.int ((1 : Int32) + (0 : Int32))), .unset] [(.int (own_count (own_kind (own_arc (0 : Int32) (Int32.ofNat i.val)))))]))
        rw [own_arc_kind_0 i]
        rw [show own_count (0 : Int32) = (1 : Int32) from by decide]
        refine own_iload X 232 ((1 : Int32) + (0 : Int32)) at_230 rfl rfl ?_
        refine own_icN X 235 at_232 rfl (XT.ii_ne_f (by decide)) ?_
        refine own_iconst X 236 (1 : Int32) at_235 rfl rfl ?_
        refine own_goto X 240 at_236 (by decide) (by decide) ?_
        refine own_istore X 242 #[.val (.int pa), .val (.int pb), .val (.int pc), .val (.int (Int32.ofNat i.val)), .val (.int (0 : Int32)), .val (.int (0 : Int32)), .val (.int (1 : Int32)), .val (.int (own_arc (0 : Int32) (Int32.ofNat i.val))), .val (.ref b11), .val (.ref b17), .val (.int (1 : Int32)), .val (.int (1 : Int32)), .val (.int (1 : Int32)), .val (.int (1 : Int32)), .val (.int (0 : Int32)), .val (.int ((1 : Int32) + (0 : Int32))), .val (.int (1 : Int32))] at_240 rfl rfl ?_
        refine own_iload X 244 (1 : Int32) at_242 rfl rfl ?_
        refine own_ifN X 247 at_244 rfl (XT.i0_eq_f (by decide)) ?_
        refine own_iload X 249 (1 : Int32) at_247 rfl rfl ?_
        refine own_ifN X 252 at_249 rfl (XT.i0_eq_f (by decide)) ?_
        refine own_iload X 254 (1 : Int32) at_252 rfl rfl ?_
        refine own_ifN X 257 at_254 rfl (XT.i0_eq_f (by decide)) ?_
        refine own_iload X 259 (1 : Int32) at_257 rfl rfl ?_
        refine own_ifN X 262 at_259 rfl (XT.i0_eq_f (by decide)) ?_
        refine own_iconst X 263 (1 : Int32) at_262 rfl rfl ?_
        refine own_goto X 267 at_263 (by decide) (by decide) ?_
        exact own_retN X .boolean at_267 rfl (by simp) (by decide) (by decide) (by decide)
    · refine own_ifN X 22 at_19 rfl (XT.i0_eq_f hc19) ?_
      refine own_iconst X 23 (1 : Int32) at_22 rfl rfl ?_
      refine own_goto X 27 at_23 (by decide) (by decide) ?_
      refine own_istore X 29 #[.val (.int pa), .val (.int pb), .val (.int pc), .val (.int (Int32.ofNat i.val)), .val (.int (0 : Int32)), .val (.int (1 : Int32)), .unset, .unset, .unset, .unset, .unset, .unset, .unset, .unset, .unset, .unset, .unset] at_27 rfl rfl ?_
      refine own_iloadN X 30 pc at_29 rfl rfl ?_
      refine own_iconst X 31 (2 : Int32) at_30 rfl rfl ?_
      refine own_iand X 32 at_31 rfl ?_
      by_cases hc32 : (pc &&& (2 : Int32)) = (0 : Int32)
      · refine own_ifY X 39 at_32 (by decide) (by decide) (XT.i0_eq_t hc32) ?_
        refine own_iconst X 40 (0 : Int32) at_39 rfl rfl ?_
        refine own_istore X 42 #[.val (.int pa), .val (.int pb), .val (.int pc), .val (.int (Int32.ofNat i.val)), .val (.int (0 : Int32)), .val (.int (1 : Int32)), .val (.int (0 : Int32)), .unset, .unset, .unset, .unset, .unset, .unset, .unset, .unset, .unset, .unset] at_40 rfl rfl ?_
        refine own_iload X 44 (0 : Int32) at_42 rfl rfl ?_
        refine own_iconst X 45 (1 : Int32) at_44 rfl rfl ?_
        refine own_icY X 51 at_45 (by decide) (by decide) (XT.ii_ne_t (by decide)) ?_
        refine own_iload X 53 (0 : Int32) at_51 rfl rfl ?_
        refine own_ifN X 56 at_53 rfl (XT.i0_ne_f (by decide)) ?_
        refine own_iconst X 57 (1 : Int32) at_56 rfl rfl ?_
        refine own_istore X 59 #[.val (.int pa), .val (.int pb), .val (.int pc), .val (.int (Int32.ofNat i.val)), .val (.int (0 : Int32)), .val (.int (1 : Int32)), .val (.int (1 : Int32)), .unset, .unset, .unset, .unset, .unset, .unset, .unset, .unset, .unset, .unset] at_57 rfl rfl ?_
        refine own_iloadN X 60 (Int32.ofNat i.val) at_59 rfl rfl ?_
        refine own_iload X 62 (0 : Int32) at_60 rfl rfl ?_
        refine own_iload X 64 (1 : Int32) at_62 rfl rfl ?_
        refine own_iload X 66 (1 : Int32) at_64 rfl rfl ?_
        refine own_callS X 69 [(.int (Int32.ofNat i.val)), (.int (0 : Int32)), (.int (1 : Int32)), (.int (1 : Int32))] [] at_66 rfl (hw _ (List.mem_of_getElem? (i := 1) rfl)) (hw _ (List.mem_of_getElem? (i := 2) rfl)) (hw _ (List.mem_of_getElem? (i := 3) rfl)) (hw _ (List.mem_of_getElem? (i := 4) rfl)) (by decide) (own_marc l Z a0 hw (Int32.ofNat i.val) (0 : Int32) (1 : Int32) (1 : Int32) av kc 3 (3 : Int32) h0 n0 X.sz OL z_s z_A (by decide) (by decide) rfl) (fun _ _ q => Nat.le_of_eq (congrArg Array.size q.1.symm)) rfl own_pd3 rfl rfl rfl (by decide) (Nat.le_of_ble_eq_true rfl) (by decide) (by decide) ?_
        rintro v66 T h_ X ⟨eh_, rfl⟩
        rw [eh_] at X
        show own_Ends p e below _ (T.setTop (mkF m 69 #[.val (.int pa), .val (.int pb), .val (.int pc), .val (.int (Int32.ofNat i.val)), .val (.int (0 : Int32)), .val (.int (1 : Int32)), .val (.int (1 : Int32)), .unset, .unset, .unset, .unset, .unset, .unset, .unset, .unset, .unset, .unset] [(.int (own_arc (3 : Int32) (Int32.ofNat i.val)))]))
        refine own_istore X 71 #[.val (.int pa), .val (.int pb), .val (.int pc), .val (.int (Int32.ofNat i.val)), .val (.int (0 : Int32)), .val (.int (1 : Int32)), .val (.int (1 : Int32)), .val (.int (own_arc (3 : Int32) (Int32.ofNat i.val))), .unset, .unset, .unset, .unset, .unset, .unset, .unset, .unset, .unset] at_69 rfl rfl ?_
        refine own_iconst X 72 (4 : Int32) at_71 rfl rfl ?_
        refine own_newP X 74 4 4 at_72 rfl (hw _ (List.mem_of_getElem? (i := 7) rfl)) (by decide) (by decide) (by decide) (by decide) (by decide) (by decide) ?_
        intro T h19 b20 kc_b20 g_b20 X E_h19 A_b20
        have zs_h19 : h0.size ≤ h19.size := E_h19.1
        have OL := OL.ext E_h19
        have lo_b20 : h0.size ≤ b20 := Nat.le_of_eq g_b20.symm
        have hi_b20 : h19.size > b20 := A_b20.lt
        have A_b20 : own_A Z h19 b20 kc_b20 .byte [(.int (0 : Int32)), (.int (0 : Int32)), (.int (0 : Int32)), (.int (0 : Int32))] := A_b20
        refine own_dup X 75 at_74 rfl rfl ?_
        refine own_iconst X 76 (0 : Int32) at_75 rfl rfl ?_
        refine own_iload X 78 (own_arc (3 : Int32) (Int32.ofNat i.val)) at_76 rfl rfl ?_
        refine own_bastore X 79 0 at_78 rfl A_b20 (by decide) (by decide) (Nat.le_of_ble_eq_true rfl) (by omega) ?_
        intro T h21 X W_h21
        have nw_h21 : own_A Z h21 b20 kc_b20 .byte [(.int (nar .byte (own_arc (3 : Int32) (Int32.ofNat i.val)))), (.int (0 : Int32)), (.int (0 : Int32)), (.int (0 : Int32))] := A_b20.same W_h21 (fits_nar_byte _)
        have zs_h21 : h19.size ≤ h21.size := (Nat.le_of_eq W_h21.size.symm)
        have OL := OL.wr W_h21 (by omega)
        have A_b20 := nw_h21
        refine own_dup X 80 at_79 rfl rfl ?_
        refine own_iconst X 81 (1 : Int32) at_80 rfl rfl ?_
        refine own_iconst X 82 (2 : Int32) at_81 rfl rfl ?_
        refine own_bastore X 83 1 at_82 rfl A_b20 (by decide) (by decide) (Nat.le_of_ble_eq_true rfl) (by omega) ?_
        intro T h22 X W_h22
        have nw_h22 : own_A Z h22 b20 kc_b20 .byte [(.int (nar .byte (own_arc (3 : Int32) (Int32.ofNat i.val)))), (.int (nar .byte (2 : Int32))), (.int (0 : Int32)), (.int (0 : Int32))] := A_b20.same W_h22 (fits_nar_byte _)
        have zs_h22 : h21.size ≤ h22.size := (Nat.le_of_eq W_h22.size.symm)
        have OL := OL.wr W_h22 (by omega)
        have A_b20 := nw_h22
        refine own_dup X 84 at_83 rfl rfl ?_
        refine own_iconst X 85 (2 : Int32) at_84 rfl rfl ?_
        refine own_iconst X 86 (0 : Int32) at_85 rfl rfl ?_
        refine own_bastore X 87 2 at_86 rfl A_b20 (by decide) (by decide) (Nat.le_of_ble_eq_true rfl) (by omega) ?_
        intro T h23 X W_h23
        have nw_h23 : own_A Z h23 b20 kc_b20 .byte [(.int (nar .byte (own_arc (3 : Int32) (Int32.ofNat i.val)))), (.int (nar .byte (2 : Int32))), (.int (nar .byte (0 : Int32))), (.int (0 : Int32))] := A_b20.same W_h23 (fits_nar_byte _)
        have zs_h23 : h22.size ≤ h23.size := (Nat.le_of_eq W_h23.size.symm)
        have OL := OL.wr W_h23 (by omega)
        have A_b20 := nw_h23
        refine own_dup X 88 at_87 rfl rfl ?_
        refine own_iconst X 89 (3 : Int32) at_88 rfl rfl ?_
        refine own_bipush X 91 (10 : Int32) at_89 rfl (by decide) ?_
        refine own_bastore X 92 3 at_91 rfl A_b20 (by decide) (by decide) (Nat.le_of_ble_eq_true rfl) (by omega) ?_
        intro T h24 X W_h24
        have nw_h24 : own_A Z h24 b20 kc_b20 .byte [(.int (nar .byte (own_arc (3 : Int32) (Int32.ofNat i.val)))), (.int (nar .byte (2 : Int32))), (.int (nar .byte (0 : Int32))), (.int (nar .byte (10 : Int32)))] := A_b20.same W_h24 (fits_nar_byte _)
        have zs_h24 : h23.size ≤ h24.size := (Nat.le_of_eq W_h24.size.symm)
        have OL := OL.wr W_h24 (by omega)
        have A_b20 := nw_h24
        have A_b20 : own_A Z h24 b20 kc_b20 .byte [(.int (own_arc (3 : Int32) (Int32.ofNat i.val))), (.int 2), (.int 0), (.int 10)] := by have q := own_narb ((((3 : Int32) <<< (5 &&& 31)) ||| (Int32.ofNat i.val))); simpa only [own_arc, q, show nar .byte (2 : Int32) = 2 from by decide, show nar .byte (0 : Int32) = 0 from by decide, show nar .byte (10 : Int32) = 10 from by decide] using A_b20
        refine own_astore X 94 #[.val (.int pa), .val (.int pb), .val (.int pc), .val (.int (Int32.ofNat i.val)), .val (.int (0 : Int32)), .val (.int (1 : Int32)), .val (.int (1 : Int32)), .val (.int (own_arc (3 : Int32) (Int32.ofNat i.val))), .val (.ref b20), .unset, .unset, .unset, .unset, .unset, .unset, .unset, .unset] at_92 rfl rfl rfl ?_
        refine own_new X 97 at_94 rfl (hw _ (List.mem_of_getElem? (i := 8) rfl)) (hw _ (List.mem_of_getElem? (i := 9) rfl)) (hw _ (List.mem_of_getElem? (i := 3) rfl)) (by decide) (by decide) ?_
        intro T h25 b26 g_b26 X E_h25 A_b26 D_b26
        have zs_h25 : h24.size ≤ h25.size := E_h25.1
        have OL := OL.ext E_h25
        have A_b20 := A_b20.ext E_h25
        have lo_b26 : h24.size ≤ b26 := Nat.le_of_eq g_b26.symm
        have hi_b26 : h25.size > b26 := A_b26.lt
        have F_bytes_b26 : Fld Z h25 b26 "com/example/radix26/radix26/internal/trie/FrozenNodes" "bytes" "[B" .null := D_b26 (Or.inr (hw _ (List.mem_of_getElem? (i := 17) rfl))) (ty := (.array .byte)) (by decide)
        refine own_dup X 98 at_97 rfl rfl ?_
        refine own_aload X 100 (.ref b20) at_98 rfl rfl rfl ?_
        refine own_init X 103 [(.ref b20)] [(.ref b26)] at_100 rfl (hw _ (List.mem_of_getElem? (i := 10) rfl)) (hw _ (List.mem_of_getElem? (i := 11) rfl)) (hw _ (List.mem_of_getElem? (i := 3) rfl)) (hw _ (List.mem_of_getElem? (i := 12) rfl)) (by decide) rfl (own_mini l Z a0 hw b26 b20 h25 n0 X.sz F_bytes_b26 A_b26 (by omega)) (fun _ _ q => q.1.1) rfl own_pd4 rfl rfl rfl (by decide) (Nat.le_of_ble_eq_true rfl) (by decide) (by decide) ?_
        rintro v100 T h27 X ⟨K_, rfl, Fi_⟩
        have zs_h27 : h25.size ≤ h27.size := K_.1
        have OL := OL.keep K_ (allS (by omega) all0)
        have A_b20 := A_b20.keep K_ (ninS (by show @Ne Nat _ _; omega) nin0)
        have A_b26 := A_b26.keep K_
        have F_bytes_b26 := Fi_
        show own_Ends p e below _ (T.setTop (mkF m 103 #[.val (.int pa), .val (.int pb), .val (.int pc), .val (.int (Int32.ofNat i.val)), .val (.int (0 : Int32)), .val (.int (1 : Int32)), .val (.int (1 : Int32)), .val (.int (own_arc (3 : Int32) (Int32.ofNat i.val))), .val (.ref b20), .unset, .unset, .unset, .unset, .unset, .unset, .unset, .unset] [(.ref b26)]))
        refine own_astore X 105 #[.val (.int pa), .val (.int pb), .val (.int pc), .val (.int (Int32.ofNat i.val)), .val (.int (0 : Int32)), .val (.int (1 : Int32)), .val (.int (1 : Int32)), .val (.int (own_arc (3 : Int32) (Int32.ofNat i.val))), .val (.ref b20), .val (.ref b26), .unset, .unset, .unset, .unset, .unset, .unset, .unset] at_103 rfl rfl rfl ?_
        refine own_aload X 107 (.ref b26) at_105 rfl rfl rfl ?_
        refine own_iconst X 108 (0 : Int32) at_107 rfl rfl ?_
        refine own_callV X 111 [(.int (0 : Int32))] [] at_108 rfl (hw _ (List.mem_of_getElem? (i := 18) rfl)) (hw _ (List.mem_of_getElem? (i := 19) rfl)) (own_nf X.2.2.2.2.1 (hw _ (List.mem_of_getElem? (i := 21) rfl))) (hw _ (List.mem_of_getElem? (i := 21) rfl)) (hw _ (List.mem_of_getElem? (i := 20) rfl)) (hw _ (List.mem_of_getElem? (i := 3) rfl)) (hw _ (List.mem_of_getElem? (i := 22) rfl)) (by decide) A_b26 (own_mindex l Z a0 hw b26 (0 : Int32) b20 kc_b20 (own_arc (3 : Int32) (Int32.ofNat i.val)) h27 n0 X.sz F_bytes_b26 A_b26 A_b20 rfl) (fun _ _ q => Nat.le_of_eq (congrArg Array.size q.1.symm)) rfl own_pd0 rfl rfl rfl (by decide) (Nat.le_of_ble_eq_true rfl) (by decide) (by decide) ?_
        rintro v108 T h_ X ⟨eh_, rfl⟩
        rw [eh_] at X
        show own_Ends p e below _ (T.setTop (mkF m 111 #[.val (.int pa), .val (.int pb), .val (.int pc), .val (.int (Int32.ofNat i.val)), .val (.int (0 : Int32)), .val (.int (1 : Int32)), .val (.int (1 : Int32)), .val (.int (own_arc (3 : Int32) (Int32.ofNat i.val))), .val (.ref b20), .val (.ref b26), .unset, .unset, .unset, .unset, .unset, .unset, .unset] [(.int ((own_arc (3 : Int32) (Int32.ofNat i.val)) &&& 31))]))
        rw [own_arc_ix_3 i]
        refine own_iloadN X 112 (Int32.ofNat i.val) at_111 rfl rfl ?_
        refine own_icN X 115 at_112 rfl (XT.ii_ne_f rfl) ?_
        refine own_iconst X 116 (1 : Int32) at_115 rfl rfl ?_
        refine own_goto X 120 at_116 (by decide) (by decide) ?_
        refine own_istore X 122 #[.val (.int pa), .val (.int pb), .val (.int pc), .val (.int (Int32.ofNat i.val)), .val (.int (0 : Int32)), .val (.int (1 : Int32)), .val (.int (1 : Int32)), .val (.int (own_arc (3 : Int32) (Int32.ofNat i.val))), .val (.ref b20), .val (.ref b26), .val (.int (1 : Int32)), .unset, .unset, .unset, .unset, .unset, .unset] at_120 rfl rfl ?_
        refine own_aload X 124 (.ref b26) at_122 rfl rfl rfl ?_
        refine own_iconst X 125 (0 : Int32) at_124 rfl rfl ?_
        refine own_callV X 128 [(.int (0 : Int32))] [] at_125 rfl (hw _ (List.mem_of_getElem? (i := 23) rfl)) (hw _ (List.mem_of_getElem? (i := 24) rfl)) (own_nf X.2.2.2.2.1 (hw _ (List.mem_of_getElem? (i := 26) rfl))) (hw _ (List.mem_of_getElem? (i := 26) rfl)) (hw _ (List.mem_of_getElem? (i := 25) rfl)) (hw _ (List.mem_of_getElem? (i := 3) rfl)) (hw _ (List.mem_of_getElem? (i := 27) rfl)) (by decide) A_b26 (own_misw l Z a0 hw b26 (0 : Int32) b20 kc_b20 (own_arc (3 : Int32) (Int32.ofNat i.val)) h27 n0 X.sz F_bytes_b26 A_b26 A_b20 rfl) (fun _ _ q => Nat.le_of_eq (congrArg Array.size q.1.symm)) rfl own_pd2 rfl rfl rfl (by decide) (Nat.le_of_ble_eq_true rfl) (by decide) (by decide) ?_
        rintro v125 T h_ X ⟨eh_, rfl⟩
        rw [eh_] at X
        show own_Ends p e below _ (T.setTop (mkF m 128 #[.val (.int pa), .val (.int pb), .val (.int pc), .val (.int (Int32.ofNat i.val)), .val (.int (0 : Int32)), .val (.int (1 : Int32)), .val (.int (1 : Int32)), .val (.int (own_arc (3 : Int32) (Int32.ofNat i.val))), .val (.ref b20), .val (.ref b26), .val (.int (1 : Int32)), .unset, .unset, .unset, .unset, .unset, .unset] [(.int (own_is 173 (own_kind (own_arc (3 : Int32) (Int32.ofNat i.val)))))]))
        rw [own_arc_kind_3 i]
        rw [show own_is 173 (3 : Int32) = (1 : Int32) from by decide]
        refine own_iload X 130 (1 : Int32) at_128 rfl rfl ?_
        refine own_icN X 133 at_130 rfl (XT.ii_ne_f (by decide)) ?_
        refine own_iconst X 134 (1 : Int32) at_133 rfl rfl ?_
        refine own_goto X 138 at_134 (by decide) (by decide) ?_
        refine own_istore X 140 #[.val (.int pa), .val (.int pb), .val (.int pc), .val (.int (Int32.ofNat i.val)), .val (.int (0 : Int32)), .val (.int (1 : Int32)), .val (.int (1 : Int32)), .val (.int (own_arc (3 : Int32) (Int32.ofNat i.val))), .val (.ref b20), .val (.ref b26), .val (.int (1 : Int32)), .val (.int (1 : Int32)), .unset, .unset, .unset, .unset, .unset] at_138 rfl rfl ?_
        refine own_iload X 142 (1 : Int32) at_140 rfl rfl ?_
        refine own_ifN X 145 at_142 rfl (XT.i0_eq_f (by decide)) ?_
        refine own_iconst X 146 (-1 : Int32) at_145 rfl rfl ?_
        refine own_istore X 148 #[.val (.int pa), .val (.int pb), .val (.int pc), .val (.int (Int32.ofNat i.val)), .val (.int (0 : Int32)), .val (.int (1 : Int32)), .val (.int (1 : Int32)), .val (.int (own_arc (3 : Int32) (Int32.ofNat i.val))), .val (.ref b20), .val (.ref b26), .val (.int (1 : Int32)), .val (.int (1 : Int32)), .val (.int (-1 : Int32)), .unset, .unset, .unset, .unset] at_146 rfl rfl ?_
        refine own_goto X 165 at_148 (by decide) (by decide) ?_
        refine own_aload X 167 (.ref b26) at_165 rfl rfl rfl ?_
        refine own_iconst X 168 (0 : Int32) at_167 rfl rfl ?_
        refine own_callV X 171 [(.int (0 : Int32))] [] at_168 rfl (hw _ (List.mem_of_getElem? (i := 35) rfl)) (hw _ (List.mem_of_getElem? (i := 36) rfl)) (own_nf X.2.2.2.2.1 (hw _ (List.mem_of_getElem? (i := 38) rfl))) (hw _ (List.mem_of_getElem? (i := 38) rfl)) (hw _ (List.mem_of_getElem? (i := 37) rfl)) (hw _ (List.mem_of_getElem? (i := 3) rfl)) (hw _ (List.mem_of_getElem? (i := 39) rfl)) (by decide) A_b26 (own_mns l Z a0 hw b26 (0 : Int32) b20 kc_b20 (own_arc (3 : Int32) (Int32.ofNat i.val)) h27 n0 X.sz F_bytes_b26 A_b26 A_b20 rfl) (fun _ _ q => Nat.le_of_eq (congrArg Array.size q.1.symm)) rfl own_pd0 rfl rfl rfl (by decide) (Nat.le_of_ble_eq_true rfl) (by decide) (by decide) ?_
        rintro v168 T h_ X ⟨eh_, rfl⟩
        rw [eh_] at X
        show own_Ends p e below _ (T.setTop (mkF m 171 #[.val (.int pa), .val (.int pb), .val (.int pc), .val (.int (Int32.ofNat i.val)), .val (.int (0 : Int32)), .val (.int (1 : Int32)), .val (.int (1 : Int32)), .val (.int (own_arc (3 : Int32) (Int32.ofNat i.val))), .val (.ref b20), .val (.ref b26), .val (.int (1 : Int32)), .val (.int (1 : Int32)), .val (.int (-1 : Int32)), .unset, .unset, .unset, .unset] [(.int (own_ns (own_kind (own_arc (3 : Int32) (Int32.ofNat i.val)))))]))
        rw [own_arc_kind_3 i]
        rw [show own_ns (3 : Int32) = (-1 : Int32) from by decide]
        refine own_iload X 173 (-1 : Int32) at_171 rfl rfl ?_
        refine own_icN X 176 at_173 rfl (XT.ii_ne_f (by decide)) ?_
        refine own_iconst X 177 (1 : Int32) at_176 rfl rfl ?_
        refine own_goto X 181 at_177 (by decide) (by decide) ?_
        refine own_istore X 183 #[.val (.int pa), .val (.int pb), .val (.int pc), .val (.int (Int32.ofNat i.val)), .val (.int (0 : Int32)), .val (.int (1 : Int32)), .val (.int (1 : Int32)), .val (.int (own_arc (3 : Int32) (Int32.ofNat i.val))), .val (.ref b20), .val (.ref b26), .val (.int (1 : Int32)), .val (.int (1 : Int32)), .val (.int (-1 : Int32)), .val (.int (1 : Int32)), .unset, .unset, .unset] at_181 rfl rfl ?_
        refine own_iload X 185 (0 : Int32) at_183 rfl rfl ?_
        refine own_ifN X 188 at_185 rfl (XT.i0_ne_f (by decide)) ?_
        refine own_iconst X 189 (0 : Int32) at_188 rfl rfl ?_
        refine own_istore X 191 #[.val (.int pa), .val (.int pb), .val (.int pc), .val (.int (Int32.ofNat i.val)), .val (.int (0 : Int32)), .val (.int (1 : Int32)), .val (.int (1 : Int32)), .val (.int (own_arc (3 : Int32) (Int32.ofNat i.val))), .val (.ref b20), .val (.ref b26), .val (.int (1 : Int32)), .val (.int (1 : Int32)), .val (.int (-1 : Int32)), .val (.int (1 : Int32)), .val (.int (0 : Int32)), .unset, .unset] at_189 rfl rfl ?_
        refine own_goto X 209 at_191 (by decide) (by decide) ?_
        refine own_iload X 211 (1 : Int32) at_209 rfl rfl ?_
        refine own_ifN X 214 at_211 rfl (XT.i0_eq_f (by decide)) ?_
        refine own_iconst X 215 (1 : Int32) at_214 rfl rfl ?_
        refine own_goto X 219 at_215 (by decide) (by decide) ?_
        refine own_iload X 221 (0 : Int32) at_219 rfl rfl ?_
        refine own_iadd X 222 at_221 rfl ?_
        refine own_istore X 224 #[.val (.int pa), .val (.int pb), .val (.int pc), .val (.int (Int32.ofNat i.val)), .val (.int (0 : Int32)), .val (.int (1 : Int32)), .val (.int (1 : Int32)), .val (.int (own_arc (3 : Int32) (Int32.ofNat i.val))), .val (.ref b20), .val (.ref b26), .val (.int (1 : Int32)), .val (.int (1 : Int32)), .val (.int (-1 : Int32)), .val (.int (1 : Int32)), .val (.int (0 : Int32)), .val (.int ((1 : Int32) + (0 : Int32))), .unset] at_222 rfl rfl ?_
        refine own_aload X 226 (.ref b26) at_224 rfl rfl rfl ?_
        refine own_iconst X 227 (0 : Int32) at_226 rfl rfl ?_
        refine own_callV X 230 [(.int (0 : Int32))] [] at_227 rfl (hw _ (List.mem_of_getElem? (i := 40) rfl)) (hw _ (List.mem_of_getElem? (i := 41) rfl)) (own_nf X.2.2.2.2.1 (hw _ (List.mem_of_getElem? (i := 43) rfl))) (hw _ (List.mem_of_getElem? (i := 43) rfl)) (hw _ (List.mem_of_getElem? (i := 42) rfl)) (hw _ (List.mem_of_getElem? (i := 3) rfl)) (hw _ (List.mem_of_getElem? (i := 44) rfl)) (by decide) A_b26 (own_mcount l Z a0 hw b26 (0 : Int32) b20 kc_b20 (own_arc (3 : Int32) (Int32.ofNat i.val)) h27 n0 X.sz F_bytes_b26 A_b26 A_b20 rfl ⟨⟨3, by decide⟩, own_arc_kind_3 i⟩) (fun _ _ q => Nat.le_of_eq (congrArg Array.size q.1.symm)) rfl own_pd0 rfl rfl rfl (by decide) (Nat.le_of_ble_eq_true rfl) (by decide) (by decide) ?_
        rintro v227 T h_ X ⟨eh_, rfl⟩
        rw [eh_] at X
        show own_Ends p e below _ (T.setTop (mkF m 230 #[.val (.int pa), .val (.int pb), .val (.int pc), .val (.int (Int32.ofNat i.val)), .val (.int (0 : Int32)), .val (.int (1 : Int32)), .val (.int (1 : Int32)), .val (.int (own_arc (3 : Int32) (Int32.ofNat i.val))), .val (.ref b20), .val (.ref b26), .val (.int (1 : Int32)), .val (.int (1 : Int32)), .val (.int (-1 : Int32)), .val (.int (1 : Int32)), .val (.int (0 : Int32)), .val (.int ((1 : Int32) + (0 : Int32))), .unset] [(.int (own_count (own_kind (own_arc (3 : Int32) (Int32.ofNat i.val)))))]))
        rw [own_arc_kind_3 i]
        rw [show own_count (3 : Int32) = (1 : Int32) from by decide]
        refine own_iload X 232 ((1 : Int32) + (0 : Int32)) at_230 rfl rfl ?_
        refine own_icN X 235 at_232 rfl (XT.ii_ne_f (by decide)) ?_
        refine own_iconst X 236 (1 : Int32) at_235 rfl rfl ?_
        refine own_goto X 240 at_236 (by decide) (by decide) ?_
        refine own_istore X 242 #[.val (.int pa), .val (.int pb), .val (.int pc), .val (.int (Int32.ofNat i.val)), .val (.int (0 : Int32)), .val (.int (1 : Int32)), .val (.int (1 : Int32)), .val (.int (own_arc (3 : Int32) (Int32.ofNat i.val))), .val (.ref b20), .val (.ref b26), .val (.int (1 : Int32)), .val (.int (1 : Int32)), .val (.int (-1 : Int32)), .val (.int (1 : Int32)), .val (.int (0 : Int32)), .val (.int ((1 : Int32) + (0 : Int32))), .val (.int (1 : Int32))] at_240 rfl rfl ?_
        refine own_iload X 244 (1 : Int32) at_242 rfl rfl ?_
        refine own_ifN X 247 at_244 rfl (XT.i0_eq_f (by decide)) ?_
        refine own_iload X 249 (1 : Int32) at_247 rfl rfl ?_
        refine own_ifN X 252 at_249 rfl (XT.i0_eq_f (by decide)) ?_
        refine own_iload X 254 (1 : Int32) at_252 rfl rfl ?_
        refine own_ifN X 257 at_254 rfl (XT.i0_eq_f (by decide)) ?_
        refine own_iload X 259 (1 : Int32) at_257 rfl rfl ?_
        refine own_ifN X 262 at_259 rfl (XT.i0_eq_f (by decide)) ?_
        refine own_iconst X 263 (1 : Int32) at_262 rfl rfl ?_
        refine own_goto X 267 at_263 (by decide) (by decide) ?_
        exact own_retN X .boolean at_267 rfl (by simp) (by decide) (by decide) (by decide)
      · refine own_ifN X 35 at_32 rfl (XT.i0_eq_f hc32) ?_
        refine own_iconst X 36 (1 : Int32) at_35 rfl rfl ?_
        refine own_goto X 40 at_36 (by decide) (by decide) ?_
        refine own_istore X 42 #[.val (.int pa), .val (.int pb), .val (.int pc), .val (.int (Int32.ofNat i.val)), .val (.int (0 : Int32)), .val (.int (1 : Int32)), .val (.int (1 : Int32)), .unset, .unset, .unset, .unset, .unset, .unset, .unset, .unset, .unset, .unset] at_40 rfl rfl ?_
        refine own_iload X 44 (0 : Int32) at_42 rfl rfl ?_
        refine own_iconst X 45 (1 : Int32) at_44 rfl rfl ?_
        refine own_icY X 51 at_45 (by decide) (by decide) (XT.ii_ne_t (by decide)) ?_
        refine own_iload X 53 (0 : Int32) at_51 rfl rfl ?_
        refine own_ifN X 56 at_53 rfl (XT.i0_ne_f (by decide)) ?_
        refine own_iconst X 57 (1 : Int32) at_56 rfl rfl ?_
        refine own_istore X 59 #[.val (.int pa), .val (.int pb), .val (.int pc), .val (.int (Int32.ofNat i.val)), .val (.int (0 : Int32)), .val (.int (1 : Int32)), .val (.int (1 : Int32)), .unset, .unset, .unset, .unset, .unset, .unset, .unset, .unset, .unset, .unset] at_57 rfl rfl ?_
        refine own_iloadN X 60 (Int32.ofNat i.val) at_59 rfl rfl ?_
        refine own_iload X 62 (0 : Int32) at_60 rfl rfl ?_
        refine own_iload X 64 (1 : Int32) at_62 rfl rfl ?_
        refine own_iload X 66 (1 : Int32) at_64 rfl rfl ?_
        refine own_callS X 69 [(.int (Int32.ofNat i.val)), (.int (0 : Int32)), (.int (1 : Int32)), (.int (1 : Int32))] [] at_66 rfl (hw _ (List.mem_of_getElem? (i := 1) rfl)) (hw _ (List.mem_of_getElem? (i := 2) rfl)) (hw _ (List.mem_of_getElem? (i := 3) rfl)) (hw _ (List.mem_of_getElem? (i := 4) rfl)) (by decide) (own_marc l Z a0 hw (Int32.ofNat i.val) (0 : Int32) (1 : Int32) (1 : Int32) av kc 3 (3 : Int32) h0 n0 X.sz OL z_s z_A (by decide) (by decide) rfl) (fun _ _ q => Nat.le_of_eq (congrArg Array.size q.1.symm)) rfl own_pd3 rfl rfl rfl (by decide) (Nat.le_of_ble_eq_true rfl) (by decide) (by decide) ?_
        rintro v66 T h_ X ⟨eh_, rfl⟩
        rw [eh_] at X
        show own_Ends p e below _ (T.setTop (mkF m 69 #[.val (.int pa), .val (.int pb), .val (.int pc), .val (.int (Int32.ofNat i.val)), .val (.int (0 : Int32)), .val (.int (1 : Int32)), .val (.int (1 : Int32)), .unset, .unset, .unset, .unset, .unset, .unset, .unset, .unset, .unset, .unset] [(.int (own_arc (3 : Int32) (Int32.ofNat i.val)))]))
        refine own_istore X 71 #[.val (.int pa), .val (.int pb), .val (.int pc), .val (.int (Int32.ofNat i.val)), .val (.int (0 : Int32)), .val (.int (1 : Int32)), .val (.int (1 : Int32)), .val (.int (own_arc (3 : Int32) (Int32.ofNat i.val))), .unset, .unset, .unset, .unset, .unset, .unset, .unset, .unset, .unset] at_69 rfl rfl ?_
        refine own_iconst X 72 (4 : Int32) at_71 rfl rfl ?_
        refine own_newP X 74 4 4 at_72 rfl (hw _ (List.mem_of_getElem? (i := 7) rfl)) (by decide) (by decide) (by decide) (by decide) (by decide) (by decide) ?_
        intro T h28 b29 kc_b29 g_b29 X E_h28 A_b29
        have zs_h28 : h0.size ≤ h28.size := E_h28.1
        have OL := OL.ext E_h28
        have lo_b29 : h0.size ≤ b29 := Nat.le_of_eq g_b29.symm
        have hi_b29 : h28.size > b29 := A_b29.lt
        have A_b29 : own_A Z h28 b29 kc_b29 .byte [(.int (0 : Int32)), (.int (0 : Int32)), (.int (0 : Int32)), (.int (0 : Int32))] := A_b29
        refine own_dup X 75 at_74 rfl rfl ?_
        refine own_iconst X 76 (0 : Int32) at_75 rfl rfl ?_
        refine own_iload X 78 (own_arc (3 : Int32) (Int32.ofNat i.val)) at_76 rfl rfl ?_
        refine own_bastore X 79 0 at_78 rfl A_b29 (by decide) (by decide) (Nat.le_of_ble_eq_true rfl) (by omega) ?_
        intro T h30 X W_h30
        have nw_h30 : own_A Z h30 b29 kc_b29 .byte [(.int (nar .byte (own_arc (3 : Int32) (Int32.ofNat i.val)))), (.int (0 : Int32)), (.int (0 : Int32)), (.int (0 : Int32))] := A_b29.same W_h30 (fits_nar_byte _)
        have zs_h30 : h28.size ≤ h30.size := (Nat.le_of_eq W_h30.size.symm)
        have OL := OL.wr W_h30 (by omega)
        have A_b29 := nw_h30
        refine own_dup X 80 at_79 rfl rfl ?_
        refine own_iconst X 81 (1 : Int32) at_80 rfl rfl ?_
        refine own_iconst X 82 (2 : Int32) at_81 rfl rfl ?_
        refine own_bastore X 83 1 at_82 rfl A_b29 (by decide) (by decide) (Nat.le_of_ble_eq_true rfl) (by omega) ?_
        intro T h31 X W_h31
        have nw_h31 : own_A Z h31 b29 kc_b29 .byte [(.int (nar .byte (own_arc (3 : Int32) (Int32.ofNat i.val)))), (.int (nar .byte (2 : Int32))), (.int (0 : Int32)), (.int (0 : Int32))] := A_b29.same W_h31 (fits_nar_byte _)
        have zs_h31 : h30.size ≤ h31.size := (Nat.le_of_eq W_h31.size.symm)
        have OL := OL.wr W_h31 (by omega)
        have A_b29 := nw_h31
        refine own_dup X 84 at_83 rfl rfl ?_
        refine own_iconst X 85 (2 : Int32) at_84 rfl rfl ?_
        refine own_iconst X 86 (0 : Int32) at_85 rfl rfl ?_
        refine own_bastore X 87 2 at_86 rfl A_b29 (by decide) (by decide) (Nat.le_of_ble_eq_true rfl) (by omega) ?_
        intro T h32 X W_h32
        have nw_h32 : own_A Z h32 b29 kc_b29 .byte [(.int (nar .byte (own_arc (3 : Int32) (Int32.ofNat i.val)))), (.int (nar .byte (2 : Int32))), (.int (nar .byte (0 : Int32))), (.int (0 : Int32))] := A_b29.same W_h32 (fits_nar_byte _)
        have zs_h32 : h31.size ≤ h32.size := (Nat.le_of_eq W_h32.size.symm)
        have OL := OL.wr W_h32 (by omega)
        have A_b29 := nw_h32
        refine own_dup X 88 at_87 rfl rfl ?_
        refine own_iconst X 89 (3 : Int32) at_88 rfl rfl ?_
        refine own_bipush X 91 (10 : Int32) at_89 rfl (by decide) ?_
        refine own_bastore X 92 3 at_91 rfl A_b29 (by decide) (by decide) (Nat.le_of_ble_eq_true rfl) (by omega) ?_
        intro T h33 X W_h33
        have nw_h33 : own_A Z h33 b29 kc_b29 .byte [(.int (nar .byte (own_arc (3 : Int32) (Int32.ofNat i.val)))), (.int (nar .byte (2 : Int32))), (.int (nar .byte (0 : Int32))), (.int (nar .byte (10 : Int32)))] := A_b29.same W_h33 (fits_nar_byte _)
        have zs_h33 : h32.size ≤ h33.size := (Nat.le_of_eq W_h33.size.symm)
        have OL := OL.wr W_h33 (by omega)
        have A_b29 := nw_h33
        have A_b29 : own_A Z h33 b29 kc_b29 .byte [(.int (own_arc (3 : Int32) (Int32.ofNat i.val))), (.int 2), (.int 0), (.int 10)] := by have q := own_narb ((((3 : Int32) <<< (5 &&& 31)) ||| (Int32.ofNat i.val))); simpa only [own_arc, q, show nar .byte (2 : Int32) = 2 from by decide, show nar .byte (0 : Int32) = 0 from by decide, show nar .byte (10 : Int32) = 10 from by decide] using A_b29
        refine own_astore X 94 #[.val (.int pa), .val (.int pb), .val (.int pc), .val (.int (Int32.ofNat i.val)), .val (.int (0 : Int32)), .val (.int (1 : Int32)), .val (.int (1 : Int32)), .val (.int (own_arc (3 : Int32) (Int32.ofNat i.val))), .val (.ref b29), .unset, .unset, .unset, .unset, .unset, .unset, .unset, .unset] at_92 rfl rfl rfl ?_
        refine own_new X 97 at_94 rfl (hw _ (List.mem_of_getElem? (i := 8) rfl)) (hw _ (List.mem_of_getElem? (i := 9) rfl)) (hw _ (List.mem_of_getElem? (i := 3) rfl)) (by decide) (by decide) ?_
        intro T h34 b35 g_b35 X E_h34 A_b35 D_b35
        have zs_h34 : h33.size ≤ h34.size := E_h34.1
        have OL := OL.ext E_h34
        have A_b29 := A_b29.ext E_h34
        have lo_b35 : h33.size ≤ b35 := Nat.le_of_eq g_b35.symm
        have hi_b35 : h34.size > b35 := A_b35.lt
        have F_bytes_b35 : Fld Z h34 b35 "com/example/radix26/radix26/internal/trie/FrozenNodes" "bytes" "[B" .null := D_b35 (Or.inr (hw _ (List.mem_of_getElem? (i := 17) rfl))) (ty := (.array .byte)) (by decide)
        refine own_dup X 98 at_97 rfl rfl ?_
        refine own_aload X 100 (.ref b29) at_98 rfl rfl rfl ?_
        refine own_init X 103 [(.ref b29)] [(.ref b35)] at_100 rfl (hw _ (List.mem_of_getElem? (i := 10) rfl)) (hw _ (List.mem_of_getElem? (i := 11) rfl)) (hw _ (List.mem_of_getElem? (i := 3) rfl)) (hw _ (List.mem_of_getElem? (i := 12) rfl)) (by decide) rfl (own_mini l Z a0 hw b35 b29 h34 n0 X.sz F_bytes_b35 A_b35 (by omega)) (fun _ _ q => q.1.1) rfl own_pd4 rfl rfl rfl (by decide) (Nat.le_of_ble_eq_true rfl) (by decide) (by decide) ?_
        rintro v100 T h36 X ⟨K_, rfl, Fi_⟩
        have zs_h36 : h34.size ≤ h36.size := K_.1
        have OL := OL.keep K_ (allS (by omega) all0)
        have A_b29 := A_b29.keep K_ (ninS (by show @Ne Nat _ _; omega) nin0)
        have A_b35 := A_b35.keep K_
        have F_bytes_b35 := Fi_
        show own_Ends p e below _ (T.setTop (mkF m 103 #[.val (.int pa), .val (.int pb), .val (.int pc), .val (.int (Int32.ofNat i.val)), .val (.int (0 : Int32)), .val (.int (1 : Int32)), .val (.int (1 : Int32)), .val (.int (own_arc (3 : Int32) (Int32.ofNat i.val))), .val (.ref b29), .unset, .unset, .unset, .unset, .unset, .unset, .unset, .unset] [(.ref b35)]))
        refine own_astore X 105 #[.val (.int pa), .val (.int pb), .val (.int pc), .val (.int (Int32.ofNat i.val)), .val (.int (0 : Int32)), .val (.int (1 : Int32)), .val (.int (1 : Int32)), .val (.int (own_arc (3 : Int32) (Int32.ofNat i.val))), .val (.ref b29), .val (.ref b35), .unset, .unset, .unset, .unset, .unset, .unset, .unset] at_103 rfl rfl rfl ?_
        refine own_aload X 107 (.ref b35) at_105 rfl rfl rfl ?_
        refine own_iconst X 108 (0 : Int32) at_107 rfl rfl ?_
        refine own_callV X 111 [(.int (0 : Int32))] [] at_108 rfl (hw _ (List.mem_of_getElem? (i := 18) rfl)) (hw _ (List.mem_of_getElem? (i := 19) rfl)) (own_nf X.2.2.2.2.1 (hw _ (List.mem_of_getElem? (i := 21) rfl))) (hw _ (List.mem_of_getElem? (i := 21) rfl)) (hw _ (List.mem_of_getElem? (i := 20) rfl)) (hw _ (List.mem_of_getElem? (i := 3) rfl)) (hw _ (List.mem_of_getElem? (i := 22) rfl)) (by decide) A_b35 (own_mindex l Z a0 hw b35 (0 : Int32) b29 kc_b29 (own_arc (3 : Int32) (Int32.ofNat i.val)) h36 n0 X.sz F_bytes_b35 A_b35 A_b29 rfl) (fun _ _ q => Nat.le_of_eq (congrArg Array.size q.1.symm)) rfl own_pd0 rfl rfl rfl (by decide) (Nat.le_of_ble_eq_true rfl) (by decide) (by decide) ?_
        rintro v108 T h_ X ⟨eh_, rfl⟩
        rw [eh_] at X
        show own_Ends p e below _ (T.setTop (mkF m 111 #[.val (.int pa), .val (.int pb), .val (.int pc), .val (.int (Int32.ofNat i.val)), .val (.int (0 : Int32)), .val (.int (1 : Int32)), .val (.int (1 : Int32)), .val (.int (own_arc (3 : Int32) (Int32.ofNat i.val))), .val (.ref b29), .val (.ref b35), .unset, .unset, .unset, .unset, .unset, .unset, .unset] [(.int ((own_arc (3 : Int32) (Int32.ofNat i.val)) &&& 31))]))
        rw [own_arc_ix_3 i]
        refine own_iloadN X 112 (Int32.ofNat i.val) at_111 rfl rfl ?_
        refine own_icN X 115 at_112 rfl (XT.ii_ne_f rfl) ?_
        refine own_iconst X 116 (1 : Int32) at_115 rfl rfl ?_
        refine own_goto X 120 at_116 (by decide) (by decide) ?_
        refine own_istore X 122 #[.val (.int pa), .val (.int pb), .val (.int pc), .val (.int (Int32.ofNat i.val)), .val (.int (0 : Int32)), .val (.int (1 : Int32)), .val (.int (1 : Int32)), .val (.int (own_arc (3 : Int32) (Int32.ofNat i.val))), .val (.ref b29), .val (.ref b35), .val (.int (1 : Int32)), .unset, .unset, .unset, .unset, .unset, .unset] at_120 rfl rfl ?_
        refine own_aload X 124 (.ref b35) at_122 rfl rfl rfl ?_
        refine own_iconst X 125 (0 : Int32) at_124 rfl rfl ?_
        refine own_callV X 128 [(.int (0 : Int32))] [] at_125 rfl (hw _ (List.mem_of_getElem? (i := 23) rfl)) (hw _ (List.mem_of_getElem? (i := 24) rfl)) (own_nf X.2.2.2.2.1 (hw _ (List.mem_of_getElem? (i := 26) rfl))) (hw _ (List.mem_of_getElem? (i := 26) rfl)) (hw _ (List.mem_of_getElem? (i := 25) rfl)) (hw _ (List.mem_of_getElem? (i := 3) rfl)) (hw _ (List.mem_of_getElem? (i := 27) rfl)) (by decide) A_b35 (own_misw l Z a0 hw b35 (0 : Int32) b29 kc_b29 (own_arc (3 : Int32) (Int32.ofNat i.val)) h36 n0 X.sz F_bytes_b35 A_b35 A_b29 rfl) (fun _ _ q => Nat.le_of_eq (congrArg Array.size q.1.symm)) rfl own_pd2 rfl rfl rfl (by decide) (Nat.le_of_ble_eq_true rfl) (by decide) (by decide) ?_
        rintro v125 T h_ X ⟨eh_, rfl⟩
        rw [eh_] at X
        show own_Ends p e below _ (T.setTop (mkF m 128 #[.val (.int pa), .val (.int pb), .val (.int pc), .val (.int (Int32.ofNat i.val)), .val (.int (0 : Int32)), .val (.int (1 : Int32)), .val (.int (1 : Int32)), .val (.int (own_arc (3 : Int32) (Int32.ofNat i.val))), .val (.ref b29), .val (.ref b35), .val (.int (1 : Int32)), .unset, .unset, .unset, .unset, .unset, .unset] [(.int (own_is 173 (own_kind (own_arc (3 : Int32) (Int32.ofNat i.val)))))]))
        rw [own_arc_kind_3 i]
        rw [show own_is 173 (3 : Int32) = (1 : Int32) from by decide]
        refine own_iload X 130 (1 : Int32) at_128 rfl rfl ?_
        refine own_icN X 133 at_130 rfl (XT.ii_ne_f (by decide)) ?_
        refine own_iconst X 134 (1 : Int32) at_133 rfl rfl ?_
        refine own_goto X 138 at_134 (by decide) (by decide) ?_
        refine own_istore X 140 #[.val (.int pa), .val (.int pb), .val (.int pc), .val (.int (Int32.ofNat i.val)), .val (.int (0 : Int32)), .val (.int (1 : Int32)), .val (.int (1 : Int32)), .val (.int (own_arc (3 : Int32) (Int32.ofNat i.val))), .val (.ref b29), .val (.ref b35), .val (.int (1 : Int32)), .val (.int (1 : Int32)), .unset, .unset, .unset, .unset, .unset] at_138 rfl rfl ?_
        refine own_iload X 142 (1 : Int32) at_140 rfl rfl ?_
        refine own_ifN X 145 at_142 rfl (XT.i0_eq_f (by decide)) ?_
        refine own_iconst X 146 (-1 : Int32) at_145 rfl rfl ?_
        refine own_istore X 148 #[.val (.int pa), .val (.int pb), .val (.int pc), .val (.int (Int32.ofNat i.val)), .val (.int (0 : Int32)), .val (.int (1 : Int32)), .val (.int (1 : Int32)), .val (.int (own_arc (3 : Int32) (Int32.ofNat i.val))), .val (.ref b29), .val (.ref b35), .val (.int (1 : Int32)), .val (.int (1 : Int32)), .val (.int (-1 : Int32)), .unset, .unset, .unset, .unset] at_146 rfl rfl ?_
        refine own_goto X 165 at_148 (by decide) (by decide) ?_
        refine own_aload X 167 (.ref b35) at_165 rfl rfl rfl ?_
        refine own_iconst X 168 (0 : Int32) at_167 rfl rfl ?_
        refine own_callV X 171 [(.int (0 : Int32))] [] at_168 rfl (hw _ (List.mem_of_getElem? (i := 35) rfl)) (hw _ (List.mem_of_getElem? (i := 36) rfl)) (own_nf X.2.2.2.2.1 (hw _ (List.mem_of_getElem? (i := 38) rfl))) (hw _ (List.mem_of_getElem? (i := 38) rfl)) (hw _ (List.mem_of_getElem? (i := 37) rfl)) (hw _ (List.mem_of_getElem? (i := 3) rfl)) (hw _ (List.mem_of_getElem? (i := 39) rfl)) (by decide) A_b35 (own_mns l Z a0 hw b35 (0 : Int32) b29 kc_b29 (own_arc (3 : Int32) (Int32.ofNat i.val)) h36 n0 X.sz F_bytes_b35 A_b35 A_b29 rfl) (fun _ _ q => Nat.le_of_eq (congrArg Array.size q.1.symm)) rfl own_pd0 rfl rfl rfl (by decide) (Nat.le_of_ble_eq_true rfl) (by decide) (by decide) ?_
        rintro v168 T h_ X ⟨eh_, rfl⟩
        rw [eh_] at X
        show own_Ends p e below _ (T.setTop (mkF m 171 #[.val (.int pa), .val (.int pb), .val (.int pc), .val (.int (Int32.ofNat i.val)), .val (.int (0 : Int32)), .val (.int (1 : Int32)), .val (.int (1 : Int32)), .val (.int (own_arc (3 : Int32) (Int32.ofNat i.val))), .val (.ref b29), .val (.ref b35), .val (.int (1 : Int32)), .val (.int (1 : Int32)), .val (.int (-1 : Int32)), .unset, .unset, .unset, .unset] [(.int (own_ns (own_kind (own_arc (3 : Int32) (Int32.ofNat i.val)))))]))
        rw [own_arc_kind_3 i]
        rw [show own_ns (3 : Int32) = (-1 : Int32) from by decide]
        refine own_iload X 173 (-1 : Int32) at_171 rfl rfl ?_
        refine own_icN X 176 at_173 rfl (XT.ii_ne_f (by decide)) ?_
        refine own_iconst X 177 (1 : Int32) at_176 rfl rfl ?_
        refine own_goto X 181 at_177 (by decide) (by decide) ?_
        refine own_istore X 183 #[.val (.int pa), .val (.int pb), .val (.int pc), .val (.int (Int32.ofNat i.val)), .val (.int (0 : Int32)), .val (.int (1 : Int32)), .val (.int (1 : Int32)), .val (.int (own_arc (3 : Int32) (Int32.ofNat i.val))), .val (.ref b29), .val (.ref b35), .val (.int (1 : Int32)), .val (.int (1 : Int32)), .val (.int (-1 : Int32)), .val (.int (1 : Int32)), .unset, .unset, .unset] at_181 rfl rfl ?_
        refine own_iload X 185 (0 : Int32) at_183 rfl rfl ?_
        refine own_ifN X 188 at_185 rfl (XT.i0_ne_f (by decide)) ?_
        refine own_iconst X 189 (0 : Int32) at_188 rfl rfl ?_
        refine own_istore X 191 #[.val (.int pa), .val (.int pb), .val (.int pc), .val (.int (Int32.ofNat i.val)), .val (.int (0 : Int32)), .val (.int (1 : Int32)), .val (.int (1 : Int32)), .val (.int (own_arc (3 : Int32) (Int32.ofNat i.val))), .val (.ref b29), .val (.ref b35), .val (.int (1 : Int32)), .val (.int (1 : Int32)), .val (.int (-1 : Int32)), .val (.int (1 : Int32)), .val (.int (0 : Int32)), .unset, .unset] at_189 rfl rfl ?_
        refine own_goto X 209 at_191 (by decide) (by decide) ?_
        refine own_iload X 211 (1 : Int32) at_209 rfl rfl ?_
        refine own_ifN X 214 at_211 rfl (XT.i0_eq_f (by decide)) ?_
        refine own_iconst X 215 (1 : Int32) at_214 rfl rfl ?_
        refine own_goto X 219 at_215 (by decide) (by decide) ?_
        refine own_iload X 221 (0 : Int32) at_219 rfl rfl ?_
        refine own_iadd X 222 at_221 rfl ?_
        refine own_istore X 224 #[.val (.int pa), .val (.int pb), .val (.int pc), .val (.int (Int32.ofNat i.val)), .val (.int (0 : Int32)), .val (.int (1 : Int32)), .val (.int (1 : Int32)), .val (.int (own_arc (3 : Int32) (Int32.ofNat i.val))), .val (.ref b29), .val (.ref b35), .val (.int (1 : Int32)), .val (.int (1 : Int32)), .val (.int (-1 : Int32)), .val (.int (1 : Int32)), .val (.int (0 : Int32)), .val (.int ((1 : Int32) + (0 : Int32))), .unset] at_222 rfl rfl ?_
        refine own_aload X 226 (.ref b35) at_224 rfl rfl rfl ?_
        refine own_iconst X 227 (0 : Int32) at_226 rfl rfl ?_
        refine own_callV X 230 [(.int (0 : Int32))] [] at_227 rfl (hw _ (List.mem_of_getElem? (i := 40) rfl)) (hw _ (List.mem_of_getElem? (i := 41) rfl)) (own_nf X.2.2.2.2.1 (hw _ (List.mem_of_getElem? (i := 43) rfl))) (hw _ (List.mem_of_getElem? (i := 43) rfl)) (hw _ (List.mem_of_getElem? (i := 42) rfl)) (hw _ (List.mem_of_getElem? (i := 3) rfl)) (hw _ (List.mem_of_getElem? (i := 44) rfl)) (by decide) A_b35 (own_mcount l Z a0 hw b35 (0 : Int32) b29 kc_b29 (own_arc (3 : Int32) (Int32.ofNat i.val)) h36 n0 X.sz F_bytes_b35 A_b35 A_b29 rfl ⟨⟨3, by decide⟩, own_arc_kind_3 i⟩) (fun _ _ q => Nat.le_of_eq (congrArg Array.size q.1.symm)) rfl own_pd0 rfl rfl rfl (by decide) (Nat.le_of_ble_eq_true rfl) (by decide) (by decide) ?_
        rintro v227 T h_ X ⟨eh_, rfl⟩
        rw [eh_] at X
        show own_Ends p e below _ (T.setTop (mkF m 230 #[.val (.int pa), .val (.int pb), .val (.int pc), .val (.int (Int32.ofNat i.val)), .val (.int (0 : Int32)), .val (.int (1 : Int32)), .val (.int (1 : Int32)), .val (.int (own_arc (3 : Int32) (Int32.ofNat i.val))), .val (.ref b29), .val (.ref b35), .val (.int (1 : Int32)), .val (.int (1 : Int32)), .val (.int (-1 : Int32)), .val (.int (1 : Int32)), .val (.int (0 : Int32)), .val (.int ((1 : Int32) + (0 : Int32))), .unset] [(.int (own_count (own_kind (own_arc (3 : Int32) (Int32.ofNat i.val)))))]))
        rw [own_arc_kind_3 i]
        rw [show own_count (3 : Int32) = (1 : Int32) from by decide]
        refine own_iload X 232 ((1 : Int32) + (0 : Int32)) at_230 rfl rfl ?_
        refine own_icN X 235 at_232 rfl (XT.ii_ne_f (by decide)) ?_
        refine own_iconst X 236 (1 : Int32) at_235 rfl rfl ?_
        refine own_goto X 240 at_236 (by decide) (by decide) ?_
        refine own_istore X 242 #[.val (.int pa), .val (.int pb), .val (.int pc), .val (.int (Int32.ofNat i.val)), .val (.int (0 : Int32)), .val (.int (1 : Int32)), .val (.int (1 : Int32)), .val (.int (own_arc (3 : Int32) (Int32.ofNat i.val))), .val (.ref b29), .val (.ref b35), .val (.int (1 : Int32)), .val (.int (1 : Int32)), .val (.int (-1 : Int32)), .val (.int (1 : Int32)), .val (.int (0 : Int32)), .val (.int ((1 : Int32) + (0 : Int32))), .val (.int (1 : Int32))] at_240 rfl rfl ?_
        refine own_iload X 244 (1 : Int32) at_242 rfl rfl ?_
        refine own_ifN X 247 at_244 rfl (XT.i0_eq_f (by decide)) ?_
        refine own_iload X 249 (1 : Int32) at_247 rfl rfl ?_
        refine own_ifN X 252 at_249 rfl (XT.i0_eq_f (by decide)) ?_
        refine own_iload X 254 (1 : Int32) at_252 rfl rfl ?_
        refine own_ifN X 257 at_254 rfl (XT.i0_eq_f (by decide)) ?_
        refine own_iload X 259 (1 : Int32) at_257 rfl rfl ?_
        refine own_ifN X 262 at_259 rfl (XT.i0_eq_f (by decide)) ?_
        refine own_iconst X 263 (1 : Int32) at_262 rfl rfl ?_
        refine own_goto X 267 at_263 (by decide) (by decide) ?_
        exact own_retN X .boolean at_267 rfl (by simp) (by decide) (by decide) (by decide)
  · rw [hwh]
    refine own_iloadN X 17 pc at_16 rfl rfl ?_
    refine own_iconst X 18 (1 : Int32) at_17 rfl rfl ?_
    refine own_iand X 19 at_18 rfl ?_
    by_cases hc19 : (pc &&& (1 : Int32)) = (0 : Int32)
    · refine own_ifY X 26 at_19 (by decide) (by decide) (XT.i0_eq_t hc19) ?_
      refine own_iconst X 27 (0 : Int32) at_26 rfl rfl ?_
      refine own_istore X 29 #[.val (.int pa), .val (.int pb), .val (.int pc), .val (.int (Int32.ofNat i.val)), .val (.int (1 : Int32)), .val (.int (0 : Int32)), .unset, .unset, .unset, .unset, .unset, .unset, .unset, .unset, .unset, .unset, .unset] at_27 rfl rfl ?_
      refine own_iloadN X 30 pc at_29 rfl rfl ?_
      refine own_iconst X 31 (2 : Int32) at_30 rfl rfl ?_
      refine own_iand X 32 at_31 rfl ?_
      by_cases hc32 : (pc &&& (2 : Int32)) = (0 : Int32)
      · refine own_ifY X 39 at_32 (by decide) (by decide) (XT.i0_eq_t hc32) ?_
        refine own_iconst X 40 (0 : Int32) at_39 rfl rfl ?_
        refine own_istore X 42 #[.val (.int pa), .val (.int pb), .val (.int pc), .val (.int (Int32.ofNat i.val)), .val (.int (1 : Int32)), .val (.int (0 : Int32)), .val (.int (0 : Int32)), .unset, .unset, .unset, .unset, .unset, .unset, .unset, .unset, .unset, .unset] at_40 rfl rfl ?_
        refine own_iload X 44 (1 : Int32) at_42 rfl rfl ?_
        refine own_iconst X 45 (1 : Int32) at_44 rfl rfl ?_
        refine own_icN X 48 at_45 rfl (XT.ii_ne_f (by decide)) ?_
        refine own_iconst X 49 (1 : Int32) at_48 rfl rfl ?_
        refine own_istore X 51 #[.val (.int pa), .val (.int pb), .val (.int pc), .val (.int (Int32.ofNat i.val)), .val (.int (1 : Int32)), .val (.int (1 : Int32)), .val (.int (0 : Int32)), .unset, .unset, .unset, .unset, .unset, .unset, .unset, .unset, .unset, .unset] at_49 rfl rfl ?_
        refine own_iload X 53 (1 : Int32) at_51 rfl rfl ?_
        refine own_ifY X 59 at_53 (by decide) (by decide) (XT.i0_ne_t (by decide)) ?_
        refine own_iloadN X 60 (Int32.ofNat i.val) at_59 rfl rfl ?_
        refine own_iload X 62 (1 : Int32) at_60 rfl rfl ?_
        refine own_iload X 64 (1 : Int32) at_62 rfl rfl ?_
        refine own_iload X 66 (0 : Int32) at_64 rfl rfl ?_
        refine own_callS X 69 [(.int (Int32.ofNat i.val)), (.int (1 : Int32)), (.int (1 : Int32)), (.int (0 : Int32))] [] at_66 rfl (hw _ (List.mem_of_getElem? (i := 1) rfl)) (hw _ (List.mem_of_getElem? (i := 2) rfl)) (hw _ (List.mem_of_getElem? (i := 3) rfl)) (hw _ (List.mem_of_getElem? (i := 4) rfl)) (by decide) (own_marc l Z a0 hw (Int32.ofNat i.val) (1 : Int32) (1 : Int32) (0 : Int32) av kc 6 (4 : Int32) h0 n0 X.sz OL z_s z_A (by decide) (by decide) rfl) (fun _ _ q => Nat.le_of_eq (congrArg Array.size q.1.symm)) rfl own_pd3 rfl rfl rfl (by decide) (Nat.le_of_ble_eq_true rfl) (by decide) (by decide) ?_
        rintro v66 T h_ X ⟨eh_, rfl⟩
        rw [eh_] at X
        show own_Ends p e below _ (T.setTop (mkF m 69 #[.val (.int pa), .val (.int pb), .val (.int pc), .val (.int (Int32.ofNat i.val)), .val (.int (1 : Int32)), .val (.int (1 : Int32)), .val (.int (0 : Int32)), .unset, .unset, .unset, .unset, .unset, .unset, .unset, .unset, .unset, .unset] [(.int (own_arc (4 : Int32) (Int32.ofNat i.val)))]))
        refine own_istore X 71 #[.val (.int pa), .val (.int pb), .val (.int pc), .val (.int (Int32.ofNat i.val)), .val (.int (1 : Int32)), .val (.int (1 : Int32)), .val (.int (0 : Int32)), .val (.int (own_arc (4 : Int32) (Int32.ofNat i.val))), .unset, .unset, .unset, .unset, .unset, .unset, .unset, .unset, .unset] at_69 rfl rfl ?_
        refine own_iconst X 72 (4 : Int32) at_71 rfl rfl ?_
        refine own_newP X 74 4 4 at_72 rfl (hw _ (List.mem_of_getElem? (i := 7) rfl)) (by decide) (by decide) (by decide) (by decide) (by decide) (by decide) ?_
        intro T h37 b38 kc_b38 g_b38 X E_h37 A_b38
        have zs_h37 : h0.size ≤ h37.size := E_h37.1
        have OL := OL.ext E_h37
        have lo_b38 : h0.size ≤ b38 := Nat.le_of_eq g_b38.symm
        have hi_b38 : h37.size > b38 := A_b38.lt
        have A_b38 : own_A Z h37 b38 kc_b38 .byte [(.int (0 : Int32)), (.int (0 : Int32)), (.int (0 : Int32)), (.int (0 : Int32))] := A_b38
        refine own_dup X 75 at_74 rfl rfl ?_
        refine own_iconst X 76 (0 : Int32) at_75 rfl rfl ?_
        refine own_iload X 78 (own_arc (4 : Int32) (Int32.ofNat i.val)) at_76 rfl rfl ?_
        refine own_bastore X 79 0 at_78 rfl A_b38 (by decide) (by decide) (Nat.le_of_ble_eq_true rfl) (by omega) ?_
        intro T h39 X W_h39
        have nw_h39 : own_A Z h39 b38 kc_b38 .byte [(.int (nar .byte (own_arc (4 : Int32) (Int32.ofNat i.val)))), (.int (0 : Int32)), (.int (0 : Int32)), (.int (0 : Int32))] := A_b38.same W_h39 (fits_nar_byte _)
        have zs_h39 : h37.size ≤ h39.size := (Nat.le_of_eq W_h39.size.symm)
        have OL := OL.wr W_h39 (by omega)
        have A_b38 := nw_h39
        refine own_dup X 80 at_79 rfl rfl ?_
        refine own_iconst X 81 (1 : Int32) at_80 rfl rfl ?_
        refine own_iconst X 82 (2 : Int32) at_81 rfl rfl ?_
        refine own_bastore X 83 1 at_82 rfl A_b38 (by decide) (by decide) (Nat.le_of_ble_eq_true rfl) (by omega) ?_
        intro T h40 X W_h40
        have nw_h40 : own_A Z h40 b38 kc_b38 .byte [(.int (nar .byte (own_arc (4 : Int32) (Int32.ofNat i.val)))), (.int (nar .byte (2 : Int32))), (.int (0 : Int32)), (.int (0 : Int32))] := A_b38.same W_h40 (fits_nar_byte _)
        have zs_h40 : h39.size ≤ h40.size := (Nat.le_of_eq W_h40.size.symm)
        have OL := OL.wr W_h40 (by omega)
        have A_b38 := nw_h40
        refine own_dup X 84 at_83 rfl rfl ?_
        refine own_iconst X 85 (2 : Int32) at_84 rfl rfl ?_
        refine own_iconst X 86 (0 : Int32) at_85 rfl rfl ?_
        refine own_bastore X 87 2 at_86 rfl A_b38 (by decide) (by decide) (Nat.le_of_ble_eq_true rfl) (by omega) ?_
        intro T h41 X W_h41
        have nw_h41 : own_A Z h41 b38 kc_b38 .byte [(.int (nar .byte (own_arc (4 : Int32) (Int32.ofNat i.val)))), (.int (nar .byte (2 : Int32))), (.int (nar .byte (0 : Int32))), (.int (0 : Int32))] := A_b38.same W_h41 (fits_nar_byte _)
        have zs_h41 : h40.size ≤ h41.size := (Nat.le_of_eq W_h41.size.symm)
        have OL := OL.wr W_h41 (by omega)
        have A_b38 := nw_h41
        refine own_dup X 88 at_87 rfl rfl ?_
        refine own_iconst X 89 (3 : Int32) at_88 rfl rfl ?_
        refine own_bipush X 91 (10 : Int32) at_89 rfl (by decide) ?_
        refine own_bastore X 92 3 at_91 rfl A_b38 (by decide) (by decide) (Nat.le_of_ble_eq_true rfl) (by omega) ?_
        intro T h42 X W_h42
        have nw_h42 : own_A Z h42 b38 kc_b38 .byte [(.int (nar .byte (own_arc (4 : Int32) (Int32.ofNat i.val)))), (.int (nar .byte (2 : Int32))), (.int (nar .byte (0 : Int32))), (.int (nar .byte (10 : Int32)))] := A_b38.same W_h42 (fits_nar_byte _)
        have zs_h42 : h41.size ≤ h42.size := (Nat.le_of_eq W_h42.size.symm)
        have OL := OL.wr W_h42 (by omega)
        have A_b38 := nw_h42
        have A_b38 : own_A Z h42 b38 kc_b38 .byte [(.int (own_arc (4 : Int32) (Int32.ofNat i.val))), (.int 2), (.int 0), (.int 10)] := by have q := own_narb ((((4 : Int32) <<< (5 &&& 31)) ||| (Int32.ofNat i.val))); simpa only [own_arc, q, show nar .byte (2 : Int32) = 2 from by decide, show nar .byte (0 : Int32) = 0 from by decide, show nar .byte (10 : Int32) = 10 from by decide] using A_b38
        refine own_astore X 94 #[.val (.int pa), .val (.int pb), .val (.int pc), .val (.int (Int32.ofNat i.val)), .val (.int (1 : Int32)), .val (.int (1 : Int32)), .val (.int (0 : Int32)), .val (.int (own_arc (4 : Int32) (Int32.ofNat i.val))), .val (.ref b38), .unset, .unset, .unset, .unset, .unset, .unset, .unset, .unset] at_92 rfl rfl rfl ?_
        refine own_new X 97 at_94 rfl (hw _ (List.mem_of_getElem? (i := 8) rfl)) (hw _ (List.mem_of_getElem? (i := 9) rfl)) (hw _ (List.mem_of_getElem? (i := 3) rfl)) (by decide) (by decide) ?_
        intro T h43 b44 g_b44 X E_h43 A_b44 D_b44
        have zs_h43 : h42.size ≤ h43.size := E_h43.1
        have OL := OL.ext E_h43
        have A_b38 := A_b38.ext E_h43
        have lo_b44 : h42.size ≤ b44 := Nat.le_of_eq g_b44.symm
        have hi_b44 : h43.size > b44 := A_b44.lt
        have F_bytes_b44 : Fld Z h43 b44 "com/example/radix26/radix26/internal/trie/FrozenNodes" "bytes" "[B" .null := D_b44 (Or.inr (hw _ (List.mem_of_getElem? (i := 17) rfl))) (ty := (.array .byte)) (by decide)
        refine own_dup X 98 at_97 rfl rfl ?_
        refine own_aload X 100 (.ref b38) at_98 rfl rfl rfl ?_
        refine own_init X 103 [(.ref b38)] [(.ref b44)] at_100 rfl (hw _ (List.mem_of_getElem? (i := 10) rfl)) (hw _ (List.mem_of_getElem? (i := 11) rfl)) (hw _ (List.mem_of_getElem? (i := 3) rfl)) (hw _ (List.mem_of_getElem? (i := 12) rfl)) (by decide) rfl (own_mini l Z a0 hw b44 b38 h43 n0 X.sz F_bytes_b44 A_b44 (by omega)) (fun _ _ q => q.1.1) rfl own_pd4 rfl rfl rfl (by decide) (Nat.le_of_ble_eq_true rfl) (by decide) (by decide) ?_
        rintro v100 T h45 X ⟨K_, rfl, Fi_⟩
        have zs_h45 : h43.size ≤ h45.size := K_.1
        have OL := OL.keep K_ (allS (by omega) all0)
        have A_b38 := A_b38.keep K_ (ninS (by show @Ne Nat _ _; omega) nin0)
        have A_b44 := A_b44.keep K_
        have F_bytes_b44 := Fi_
        show own_Ends p e below _ (T.setTop (mkF m 103 #[.val (.int pa), .val (.int pb), .val (.int pc), .val (.int (Int32.ofNat i.val)), .val (.int (1 : Int32)), .val (.int (1 : Int32)), .val (.int (0 : Int32)), .val (.int (own_arc (4 : Int32) (Int32.ofNat i.val))), .val (.ref b38), .unset, .unset, .unset, .unset, .unset, .unset, .unset, .unset] [(.ref b44)]))
        refine own_astore X 105 #[.val (.int pa), .val (.int pb), .val (.int pc), .val (.int (Int32.ofNat i.val)), .val (.int (1 : Int32)), .val (.int (1 : Int32)), .val (.int (0 : Int32)), .val (.int (own_arc (4 : Int32) (Int32.ofNat i.val))), .val (.ref b38), .val (.ref b44), .unset, .unset, .unset, .unset, .unset, .unset, .unset] at_103 rfl rfl rfl ?_
        refine own_aload X 107 (.ref b44) at_105 rfl rfl rfl ?_
        refine own_iconst X 108 (0 : Int32) at_107 rfl rfl ?_
        refine own_callV X 111 [(.int (0 : Int32))] [] at_108 rfl (hw _ (List.mem_of_getElem? (i := 18) rfl)) (hw _ (List.mem_of_getElem? (i := 19) rfl)) (own_nf X.2.2.2.2.1 (hw _ (List.mem_of_getElem? (i := 21) rfl))) (hw _ (List.mem_of_getElem? (i := 21) rfl)) (hw _ (List.mem_of_getElem? (i := 20) rfl)) (hw _ (List.mem_of_getElem? (i := 3) rfl)) (hw _ (List.mem_of_getElem? (i := 22) rfl)) (by decide) A_b44 (own_mindex l Z a0 hw b44 (0 : Int32) b38 kc_b38 (own_arc (4 : Int32) (Int32.ofNat i.val)) h45 n0 X.sz F_bytes_b44 A_b44 A_b38 rfl) (fun _ _ q => Nat.le_of_eq (congrArg Array.size q.1.symm)) rfl own_pd0 rfl rfl rfl (by decide) (Nat.le_of_ble_eq_true rfl) (by decide) (by decide) ?_
        rintro v108 T h_ X ⟨eh_, rfl⟩
        rw [eh_] at X
        show own_Ends p e below _ (T.setTop (mkF m 111 #[.val (.int pa), .val (.int pb), .val (.int pc), .val (.int (Int32.ofNat i.val)), .val (.int (1 : Int32)), .val (.int (1 : Int32)), .val (.int (0 : Int32)), .val (.int (own_arc (4 : Int32) (Int32.ofNat i.val))), .val (.ref b38), .val (.ref b44), .unset, .unset, .unset, .unset, .unset, .unset, .unset] [(.int ((own_arc (4 : Int32) (Int32.ofNat i.val)) &&& 31))]))
        rw [own_arc_ix_4 i]
        refine own_iloadN X 112 (Int32.ofNat i.val) at_111 rfl rfl ?_
        refine own_icN X 115 at_112 rfl (XT.ii_ne_f rfl) ?_
        refine own_iconst X 116 (1 : Int32) at_115 rfl rfl ?_
        refine own_goto X 120 at_116 (by decide) (by decide) ?_
        refine own_istore X 122 #[.val (.int pa), .val (.int pb), .val (.int pc), .val (.int (Int32.ofNat i.val)), .val (.int (1 : Int32)), .val (.int (1 : Int32)), .val (.int (0 : Int32)), .val (.int (own_arc (4 : Int32) (Int32.ofNat i.val))), .val (.ref b38), .val (.ref b44), .val (.int (1 : Int32)), .unset, .unset, .unset, .unset, .unset, .unset] at_120 rfl rfl ?_
        refine own_aload X 124 (.ref b44) at_122 rfl rfl rfl ?_
        refine own_iconst X 125 (0 : Int32) at_124 rfl rfl ?_
        refine own_callV X 128 [(.int (0 : Int32))] [] at_125 rfl (hw _ (List.mem_of_getElem? (i := 23) rfl)) (hw _ (List.mem_of_getElem? (i := 24) rfl)) (own_nf X.2.2.2.2.1 (hw _ (List.mem_of_getElem? (i := 26) rfl))) (hw _ (List.mem_of_getElem? (i := 26) rfl)) (hw _ (List.mem_of_getElem? (i := 25) rfl)) (hw _ (List.mem_of_getElem? (i := 3) rfl)) (hw _ (List.mem_of_getElem? (i := 27) rfl)) (by decide) A_b44 (own_misw l Z a0 hw b44 (0 : Int32) b38 kc_b38 (own_arc (4 : Int32) (Int32.ofNat i.val)) h45 n0 X.sz F_bytes_b44 A_b44 A_b38 rfl) (fun _ _ q => Nat.le_of_eq (congrArg Array.size q.1.symm)) rfl own_pd2 rfl rfl rfl (by decide) (Nat.le_of_ble_eq_true rfl) (by decide) (by decide) ?_
        rintro v125 T h_ X ⟨eh_, rfl⟩
        rw [eh_] at X
        show own_Ends p e below _ (T.setTop (mkF m 128 #[.val (.int pa), .val (.int pb), .val (.int pc), .val (.int (Int32.ofNat i.val)), .val (.int (1 : Int32)), .val (.int (1 : Int32)), .val (.int (0 : Int32)), .val (.int (own_arc (4 : Int32) (Int32.ofNat i.val))), .val (.ref b38), .val (.ref b44), .val (.int (1 : Int32)), .unset, .unset, .unset, .unset, .unset, .unset] [(.int (own_is 173 (own_kind (own_arc (4 : Int32) (Int32.ofNat i.val)))))]))
        rw [own_arc_kind_4 i]
        rw [show own_is 173 (4 : Int32) = (0 : Int32) from by decide]
        refine own_iload X 130 (0 : Int32) at_128 rfl rfl ?_
        refine own_icN X 133 at_130 rfl (XT.ii_ne_f (by decide)) ?_
        refine own_iconst X 134 (1 : Int32) at_133 rfl rfl ?_
        refine own_goto X 138 at_134 (by decide) (by decide) ?_
        refine own_istore X 140 #[.val (.int pa), .val (.int pb), .val (.int pc), .val (.int (Int32.ofNat i.val)), .val (.int (1 : Int32)), .val (.int (1 : Int32)), .val (.int (0 : Int32)), .val (.int (own_arc (4 : Int32) (Int32.ofNat i.val))), .val (.ref b38), .val (.ref b44), .val (.int (1 : Int32)), .val (.int (1 : Int32)), .unset, .unset, .unset, .unset, .unset] at_138 rfl rfl ?_
        refine own_iload X 142 (1 : Int32) at_140 rfl rfl ?_
        refine own_ifN X 145 at_142 rfl (XT.i0_eq_f (by decide)) ?_
        refine own_iconst X 146 (-1 : Int32) at_145 rfl rfl ?_
        refine own_istore X 148 #[.val (.int pa), .val (.int pb), .val (.int pc), .val (.int (Int32.ofNat i.val)), .val (.int (1 : Int32)), .val (.int (1 : Int32)), .val (.int (0 : Int32)), .val (.int (own_arc (4 : Int32) (Int32.ofNat i.val))), .val (.ref b38), .val (.ref b44), .val (.int (1 : Int32)), .val (.int (1 : Int32)), .val (.int (-1 : Int32)), .unset, .unset, .unset, .unset] at_146 rfl rfl ?_
        refine own_goto X 165 at_148 (by decide) (by decide) ?_
        refine own_aload X 167 (.ref b44) at_165 rfl rfl rfl ?_
        refine own_iconst X 168 (0 : Int32) at_167 rfl rfl ?_
        refine own_callV X 171 [(.int (0 : Int32))] [] at_168 rfl (hw _ (List.mem_of_getElem? (i := 35) rfl)) (hw _ (List.mem_of_getElem? (i := 36) rfl)) (own_nf X.2.2.2.2.1 (hw _ (List.mem_of_getElem? (i := 38) rfl))) (hw _ (List.mem_of_getElem? (i := 38) rfl)) (hw _ (List.mem_of_getElem? (i := 37) rfl)) (hw _ (List.mem_of_getElem? (i := 3) rfl)) (hw _ (List.mem_of_getElem? (i := 39) rfl)) (by decide) A_b44 (own_mns l Z a0 hw b44 (0 : Int32) b38 kc_b38 (own_arc (4 : Int32) (Int32.ofNat i.val)) h45 n0 X.sz F_bytes_b44 A_b44 A_b38 rfl) (fun _ _ q => Nat.le_of_eq (congrArg Array.size q.1.symm)) rfl own_pd0 rfl rfl rfl (by decide) (Nat.le_of_ble_eq_true rfl) (by decide) (by decide) ?_
        rintro v168 T h_ X ⟨eh_, rfl⟩
        rw [eh_] at X
        show own_Ends p e below _ (T.setTop (mkF m 171 #[.val (.int pa), .val (.int pb), .val (.int pc), .val (.int (Int32.ofNat i.val)), .val (.int (1 : Int32)), .val (.int (1 : Int32)), .val (.int (0 : Int32)), .val (.int (own_arc (4 : Int32) (Int32.ofNat i.val))), .val (.ref b38), .val (.ref b44), .val (.int (1 : Int32)), .val (.int (1 : Int32)), .val (.int (-1 : Int32)), .unset, .unset, .unset, .unset] [(.int (own_ns (own_kind (own_arc (4 : Int32) (Int32.ofNat i.val)))))]))
        rw [own_arc_kind_4 i]
        rw [show own_ns (4 : Int32) = (-1 : Int32) from by decide]
        refine own_iload X 173 (-1 : Int32) at_171 rfl rfl ?_
        refine own_icN X 176 at_173 rfl (XT.ii_ne_f (by decide)) ?_
        refine own_iconst X 177 (1 : Int32) at_176 rfl rfl ?_
        refine own_goto X 181 at_177 (by decide) (by decide) ?_
        refine own_istore X 183 #[.val (.int pa), .val (.int pb), .val (.int pc), .val (.int (Int32.ofNat i.val)), .val (.int (1 : Int32)), .val (.int (1 : Int32)), .val (.int (0 : Int32)), .val (.int (own_arc (4 : Int32) (Int32.ofNat i.val))), .val (.ref b38), .val (.ref b44), .val (.int (1 : Int32)), .val (.int (1 : Int32)), .val (.int (-1 : Int32)), .val (.int (1 : Int32)), .unset, .unset, .unset] at_181 rfl rfl ?_
        refine own_iload X 185 (1 : Int32) at_183 rfl rfl ?_
        refine own_ifY X 194 at_185 (by decide) (by decide) (XT.i0_ne_t (by decide)) ?_
        refine own_iload X 196 (1 : Int32) at_194 rfl rfl ?_
        refine own_iconst X 197 (1 : Int32) at_196 rfl rfl ?_
        refine own_icN X 200 at_197 rfl (XT.ii_ne_f (by decide)) ?_
        refine own_iconst X 201 (1 : Int32) at_200 rfl rfl ?_
        refine own_istore X 203 #[.val (.int pa), .val (.int pb), .val (.int pc), .val (.int (Int32.ofNat i.val)), .val (.int (1 : Int32)), .val (.int (1 : Int32)), .val (.int (0 : Int32)), .val (.int (own_arc (4 : Int32) (Int32.ofNat i.val))), .val (.ref b38), .val (.ref b44), .val (.int (1 : Int32)), .val (.int (1 : Int32)), .val (.int (-1 : Int32)), .val (.int (1 : Int32)), .val (.int (1 : Int32)), .unset, .unset] at_201 rfl rfl ?_
        refine own_goto X 209 at_203 (by decide) (by decide) ?_
        refine own_iload X 211 (0 : Int32) at_209 rfl rfl ?_
        refine own_ifY X 218 at_211 (by decide) (by decide) (XT.i0_eq_t (by decide)) ?_
        refine own_iconst X 219 (0 : Int32) at_218 rfl rfl ?_
        refine own_iload X 221 (1 : Int32) at_219 rfl rfl ?_
        refine own_iadd X 222 at_221 rfl ?_
        refine own_istore X 224 #[.val (.int pa), .val (.int pb), .val (.int pc), .val (.int (Int32.ofNat i.val)), .val (.int (1 : Int32)), .val (.int (1 : Int32)), .val (.int (0 : Int32)), .val (.int (own_arc (4 : Int32) (Int32.ofNat i.val))), .val (.ref b38), .val (.ref b44), .val (.int (1 : Int32)), .val (.int (1 : Int32)), .val (.int (-1 : Int32)), .val (.int (1 : Int32)), .val (.int (1 : Int32)), .val (.int ((0 : Int32) + (1 : Int32))), .unset] at_222 rfl rfl ?_
        refine own_aload X 226 (.ref b44) at_224 rfl rfl rfl ?_
        refine own_iconst X 227 (0 : Int32) at_226 rfl rfl ?_
        refine own_callV X 230 [(.int (0 : Int32))] [] at_227 rfl (hw _ (List.mem_of_getElem? (i := 40) rfl)) (hw _ (List.mem_of_getElem? (i := 41) rfl)) (own_nf X.2.2.2.2.1 (hw _ (List.mem_of_getElem? (i := 43) rfl))) (hw _ (List.mem_of_getElem? (i := 43) rfl)) (hw _ (List.mem_of_getElem? (i := 42) rfl)) (hw _ (List.mem_of_getElem? (i := 3) rfl)) (hw _ (List.mem_of_getElem? (i := 44) rfl)) (by decide) A_b44 (own_mcount l Z a0 hw b44 (0 : Int32) b38 kc_b38 (own_arc (4 : Int32) (Int32.ofNat i.val)) h45 n0 X.sz F_bytes_b44 A_b44 A_b38 rfl ⟨⟨4, by decide⟩, own_arc_kind_4 i⟩) (fun _ _ q => Nat.le_of_eq (congrArg Array.size q.1.symm)) rfl own_pd0 rfl rfl rfl (by decide) (Nat.le_of_ble_eq_true rfl) (by decide) (by decide) ?_
        rintro v227 T h_ X ⟨eh_, rfl⟩
        rw [eh_] at X
        show own_Ends p e below _ (T.setTop (mkF m 230 #[.val (.int pa), .val (.int pb), .val (.int pc), .val (.int (Int32.ofNat i.val)), .val (.int (1 : Int32)), .val (.int (1 : Int32)), .val (.int (0 : Int32)), .val (.int (own_arc (4 : Int32) (Int32.ofNat i.val))), .val (.ref b38), .val (.ref b44), .val (.int (1 : Int32)), .val (.int (1 : Int32)), .val (.int (-1 : Int32)), .val (.int (1 : Int32)), .val (.int (1 : Int32)), .val (.int ((0 : Int32) + (1 : Int32))), .unset] [(.int (own_count (own_kind (own_arc (4 : Int32) (Int32.ofNat i.val)))))]))
        rw [own_arc_kind_4 i]
        rw [show own_count (4 : Int32) = (1 : Int32) from by decide]
        refine own_iload X 232 ((0 : Int32) + (1 : Int32)) at_230 rfl rfl ?_
        refine own_icN X 235 at_232 rfl (XT.ii_ne_f (by decide)) ?_
        refine own_iconst X 236 (1 : Int32) at_235 rfl rfl ?_
        refine own_goto X 240 at_236 (by decide) (by decide) ?_
        refine own_istore X 242 #[.val (.int pa), .val (.int pb), .val (.int pc), .val (.int (Int32.ofNat i.val)), .val (.int (1 : Int32)), .val (.int (1 : Int32)), .val (.int (0 : Int32)), .val (.int (own_arc (4 : Int32) (Int32.ofNat i.val))), .val (.ref b38), .val (.ref b44), .val (.int (1 : Int32)), .val (.int (1 : Int32)), .val (.int (-1 : Int32)), .val (.int (1 : Int32)), .val (.int (1 : Int32)), .val (.int ((0 : Int32) + (1 : Int32))), .val (.int (1 : Int32))] at_240 rfl rfl ?_
        refine own_iload X 244 (1 : Int32) at_242 rfl rfl ?_
        refine own_ifN X 247 at_244 rfl (XT.i0_eq_f (by decide)) ?_
        refine own_iload X 249 (1 : Int32) at_247 rfl rfl ?_
        refine own_ifN X 252 at_249 rfl (XT.i0_eq_f (by decide)) ?_
        refine own_iload X 254 (1 : Int32) at_252 rfl rfl ?_
        refine own_ifN X 257 at_254 rfl (XT.i0_eq_f (by decide)) ?_
        refine own_iload X 259 (1 : Int32) at_257 rfl rfl ?_
        refine own_ifN X 262 at_259 rfl (XT.i0_eq_f (by decide)) ?_
        refine own_iconst X 263 (1 : Int32) at_262 rfl rfl ?_
        refine own_goto X 267 at_263 (by decide) (by decide) ?_
        exact own_retN X .boolean at_267 rfl (by simp) (by decide) (by decide) (by decide)
      · refine own_ifN X 35 at_32 rfl (XT.i0_eq_f hc32) ?_
        refine own_iconst X 36 (1 : Int32) at_35 rfl rfl ?_
        refine own_goto X 40 at_36 (by decide) (by decide) ?_
        refine own_istore X 42 #[.val (.int pa), .val (.int pb), .val (.int pc), .val (.int (Int32.ofNat i.val)), .val (.int (1 : Int32)), .val (.int (0 : Int32)), .val (.int (1 : Int32)), .unset, .unset, .unset, .unset, .unset, .unset, .unset, .unset, .unset, .unset] at_40 rfl rfl ?_
        refine own_iload X 44 (1 : Int32) at_42 rfl rfl ?_
        refine own_iconst X 45 (1 : Int32) at_44 rfl rfl ?_
        refine own_icN X 48 at_45 rfl (XT.ii_ne_f (by decide)) ?_
        refine own_iconst X 49 (1 : Int32) at_48 rfl rfl ?_
        refine own_istore X 51 #[.val (.int pa), .val (.int pb), .val (.int pc), .val (.int (Int32.ofNat i.val)), .val (.int (1 : Int32)), .val (.int (1 : Int32)), .val (.int (1 : Int32)), .unset, .unset, .unset, .unset, .unset, .unset, .unset, .unset, .unset, .unset] at_49 rfl rfl ?_
        refine own_iload X 53 (1 : Int32) at_51 rfl rfl ?_
        refine own_ifY X 59 at_53 (by decide) (by decide) (XT.i0_ne_t (by decide)) ?_
        refine own_iloadN X 60 (Int32.ofNat i.val) at_59 rfl rfl ?_
        refine own_iload X 62 (1 : Int32) at_60 rfl rfl ?_
        refine own_iload X 64 (1 : Int32) at_62 rfl rfl ?_
        refine own_iload X 66 (1 : Int32) at_64 rfl rfl ?_
        refine own_callS X 69 [(.int (Int32.ofNat i.val)), (.int (1 : Int32)), (.int (1 : Int32)), (.int (1 : Int32))] [] at_66 rfl (hw _ (List.mem_of_getElem? (i := 1) rfl)) (hw _ (List.mem_of_getElem? (i := 2) rfl)) (hw _ (List.mem_of_getElem? (i := 3) rfl)) (hw _ (List.mem_of_getElem? (i := 4) rfl)) (by decide) (own_marc l Z a0 hw (Int32.ofNat i.val) (1 : Int32) (1 : Int32) (1 : Int32) av kc 7 (5 : Int32) h0 n0 X.sz OL z_s z_A (by decide) (by decide) rfl) (fun _ _ q => Nat.le_of_eq (congrArg Array.size q.1.symm)) rfl own_pd3 rfl rfl rfl (by decide) (Nat.le_of_ble_eq_true rfl) (by decide) (by decide) ?_
        rintro v66 T h_ X ⟨eh_, rfl⟩
        rw [eh_] at X
        show own_Ends p e below _ (T.setTop (mkF m 69 #[.val (.int pa), .val (.int pb), .val (.int pc), .val (.int (Int32.ofNat i.val)), .val (.int (1 : Int32)), .val (.int (1 : Int32)), .val (.int (1 : Int32)), .unset, .unset, .unset, .unset, .unset, .unset, .unset, .unset, .unset, .unset] [(.int (own_arc (5 : Int32) (Int32.ofNat i.val)))]))
        refine own_istore X 71 #[.val (.int pa), .val (.int pb), .val (.int pc), .val (.int (Int32.ofNat i.val)), .val (.int (1 : Int32)), .val (.int (1 : Int32)), .val (.int (1 : Int32)), .val (.int (own_arc (5 : Int32) (Int32.ofNat i.val))), .unset, .unset, .unset, .unset, .unset, .unset, .unset, .unset, .unset] at_69 rfl rfl ?_
        refine own_iconst X 72 (4 : Int32) at_71 rfl rfl ?_
        refine own_newP X 74 4 4 at_72 rfl (hw _ (List.mem_of_getElem? (i := 7) rfl)) (by decide) (by decide) (by decide) (by decide) (by decide) (by decide) ?_
        intro T h46 b47 kc_b47 g_b47 X E_h46 A_b47
        have zs_h46 : h0.size ≤ h46.size := E_h46.1
        have OL := OL.ext E_h46
        have lo_b47 : h0.size ≤ b47 := Nat.le_of_eq g_b47.symm
        have hi_b47 : h46.size > b47 := A_b47.lt
        have A_b47 : own_A Z h46 b47 kc_b47 .byte [(.int (0 : Int32)), (.int (0 : Int32)), (.int (0 : Int32)), (.int (0 : Int32))] := A_b47
        refine own_dup X 75 at_74 rfl rfl ?_
        refine own_iconst X 76 (0 : Int32) at_75 rfl rfl ?_
        refine own_iload X 78 (own_arc (5 : Int32) (Int32.ofNat i.val)) at_76 rfl rfl ?_
        refine own_bastore X 79 0 at_78 rfl A_b47 (by decide) (by decide) (Nat.le_of_ble_eq_true rfl) (by omega) ?_
        intro T h48 X W_h48
        have nw_h48 : own_A Z h48 b47 kc_b47 .byte [(.int (nar .byte (own_arc (5 : Int32) (Int32.ofNat i.val)))), (.int (0 : Int32)), (.int (0 : Int32)), (.int (0 : Int32))] := A_b47.same W_h48 (fits_nar_byte _)
        have zs_h48 : h46.size ≤ h48.size := (Nat.le_of_eq W_h48.size.symm)
        have OL := OL.wr W_h48 (by omega)
        have A_b47 := nw_h48
        refine own_dup X 80 at_79 rfl rfl ?_
        refine own_iconst X 81 (1 : Int32) at_80 rfl rfl ?_
        refine own_iconst X 82 (2 : Int32) at_81 rfl rfl ?_
        refine own_bastore X 83 1 at_82 rfl A_b47 (by decide) (by decide) (Nat.le_of_ble_eq_true rfl) (by omega) ?_
        intro T h49 X W_h49
        have nw_h49 : own_A Z h49 b47 kc_b47 .byte [(.int (nar .byte (own_arc (5 : Int32) (Int32.ofNat i.val)))), (.int (nar .byte (2 : Int32))), (.int (0 : Int32)), (.int (0 : Int32))] := A_b47.same W_h49 (fits_nar_byte _)
        have zs_h49 : h48.size ≤ h49.size := (Nat.le_of_eq W_h49.size.symm)
        have OL := OL.wr W_h49 (by omega)
        have A_b47 := nw_h49
        refine own_dup X 84 at_83 rfl rfl ?_
        refine own_iconst X 85 (2 : Int32) at_84 rfl rfl ?_
        refine own_iconst X 86 (0 : Int32) at_85 rfl rfl ?_
        refine own_bastore X 87 2 at_86 rfl A_b47 (by decide) (by decide) (Nat.le_of_ble_eq_true rfl) (by omega) ?_
        intro T h50 X W_h50
        have nw_h50 : own_A Z h50 b47 kc_b47 .byte [(.int (nar .byte (own_arc (5 : Int32) (Int32.ofNat i.val)))), (.int (nar .byte (2 : Int32))), (.int (nar .byte (0 : Int32))), (.int (0 : Int32))] := A_b47.same W_h50 (fits_nar_byte _)
        have zs_h50 : h49.size ≤ h50.size := (Nat.le_of_eq W_h50.size.symm)
        have OL := OL.wr W_h50 (by omega)
        have A_b47 := nw_h50
        refine own_dup X 88 at_87 rfl rfl ?_
        refine own_iconst X 89 (3 : Int32) at_88 rfl rfl ?_
        refine own_bipush X 91 (10 : Int32) at_89 rfl (by decide) ?_
        refine own_bastore X 92 3 at_91 rfl A_b47 (by decide) (by decide) (Nat.le_of_ble_eq_true rfl) (by omega) ?_
        intro T h51 X W_h51
        have nw_h51 : own_A Z h51 b47 kc_b47 .byte [(.int (nar .byte (own_arc (5 : Int32) (Int32.ofNat i.val)))), (.int (nar .byte (2 : Int32))), (.int (nar .byte (0 : Int32))), (.int (nar .byte (10 : Int32)))] := A_b47.same W_h51 (fits_nar_byte _)
        have zs_h51 : h50.size ≤ h51.size := (Nat.le_of_eq W_h51.size.symm)
        have OL := OL.wr W_h51 (by omega)
        have A_b47 := nw_h51
        have A_b47 : own_A Z h51 b47 kc_b47 .byte [(.int (own_arc (5 : Int32) (Int32.ofNat i.val))), (.int 2), (.int 0), (.int 10)] := by have q := own_narb ((((5 : Int32) <<< (5 &&& 31)) ||| (Int32.ofNat i.val))); simpa only [own_arc, q, show nar .byte (2 : Int32) = 2 from by decide, show nar .byte (0 : Int32) = 0 from by decide, show nar .byte (10 : Int32) = 10 from by decide] using A_b47
        refine own_astore X 94 #[.val (.int pa), .val (.int pb), .val (.int pc), .val (.int (Int32.ofNat i.val)), .val (.int (1 : Int32)), .val (.int (1 : Int32)), .val (.int (1 : Int32)), .val (.int (own_arc (5 : Int32) (Int32.ofNat i.val))), .val (.ref b47), .unset, .unset, .unset, .unset, .unset, .unset, .unset, .unset] at_92 rfl rfl rfl ?_
        refine own_new X 97 at_94 rfl (hw _ (List.mem_of_getElem? (i := 8) rfl)) (hw _ (List.mem_of_getElem? (i := 9) rfl)) (hw _ (List.mem_of_getElem? (i := 3) rfl)) (by decide) (by decide) ?_
        intro T h52 b53 g_b53 X E_h52 A_b53 D_b53
        have zs_h52 : h51.size ≤ h52.size := E_h52.1
        have OL := OL.ext E_h52
        have A_b47 := A_b47.ext E_h52
        have lo_b53 : h51.size ≤ b53 := Nat.le_of_eq g_b53.symm
        have hi_b53 : h52.size > b53 := A_b53.lt
        have F_bytes_b53 : Fld Z h52 b53 "com/example/radix26/radix26/internal/trie/FrozenNodes" "bytes" "[B" .null := D_b53 (Or.inr (hw _ (List.mem_of_getElem? (i := 17) rfl))) (ty := (.array .byte)) (by decide)
        refine own_dup X 98 at_97 rfl rfl ?_
        refine own_aload X 100 (.ref b47) at_98 rfl rfl rfl ?_
        refine own_init X 103 [(.ref b47)] [(.ref b53)] at_100 rfl (hw _ (List.mem_of_getElem? (i := 10) rfl)) (hw _ (List.mem_of_getElem? (i := 11) rfl)) (hw _ (List.mem_of_getElem? (i := 3) rfl)) (hw _ (List.mem_of_getElem? (i := 12) rfl)) (by decide) rfl (own_mini l Z a0 hw b53 b47 h52 n0 X.sz F_bytes_b53 A_b53 (by omega)) (fun _ _ q => q.1.1) rfl own_pd4 rfl rfl rfl (by decide) (Nat.le_of_ble_eq_true rfl) (by decide) (by decide) ?_
        rintro v100 T h54 X ⟨K_, rfl, Fi_⟩
        have zs_h54 : h52.size ≤ h54.size := K_.1
        have OL := OL.keep K_ (allS (by omega) all0)
        have A_b47 := A_b47.keep K_ (ninS (by show @Ne Nat _ _; omega) nin0)
        have A_b53 := A_b53.keep K_
        have F_bytes_b53 := Fi_
        show own_Ends p e below _ (T.setTop (mkF m 103 #[.val (.int pa), .val (.int pb), .val (.int pc), .val (.int (Int32.ofNat i.val)), .val (.int (1 : Int32)), .val (.int (1 : Int32)), .val (.int (1 : Int32)), .val (.int (own_arc (5 : Int32) (Int32.ofNat i.val))), .val (.ref b47), .unset, .unset, .unset, .unset, .unset, .unset, .unset, .unset] [(.ref b53)]))
        refine own_astore X 105 #[.val (.int pa), .val (.int pb), .val (.int pc), .val (.int (Int32.ofNat i.val)), .val (.int (1 : Int32)), .val (.int (1 : Int32)), .val (.int (1 : Int32)), .val (.int (own_arc (5 : Int32) (Int32.ofNat i.val))), .val (.ref b47), .val (.ref b53), .unset, .unset, .unset, .unset, .unset, .unset, .unset] at_103 rfl rfl rfl ?_
        refine own_aload X 107 (.ref b53) at_105 rfl rfl rfl ?_
        refine own_iconst X 108 (0 : Int32) at_107 rfl rfl ?_
        refine own_callV X 111 [(.int (0 : Int32))] [] at_108 rfl (hw _ (List.mem_of_getElem? (i := 18) rfl)) (hw _ (List.mem_of_getElem? (i := 19) rfl)) (own_nf X.2.2.2.2.1 (hw _ (List.mem_of_getElem? (i := 21) rfl))) (hw _ (List.mem_of_getElem? (i := 21) rfl)) (hw _ (List.mem_of_getElem? (i := 20) rfl)) (hw _ (List.mem_of_getElem? (i := 3) rfl)) (hw _ (List.mem_of_getElem? (i := 22) rfl)) (by decide) A_b53 (own_mindex l Z a0 hw b53 (0 : Int32) b47 kc_b47 (own_arc (5 : Int32) (Int32.ofNat i.val)) h54 n0 X.sz F_bytes_b53 A_b53 A_b47 rfl) (fun _ _ q => Nat.le_of_eq (congrArg Array.size q.1.symm)) rfl own_pd0 rfl rfl rfl (by decide) (Nat.le_of_ble_eq_true rfl) (by decide) (by decide) ?_
        rintro v108 T h_ X ⟨eh_, rfl⟩
        rw [eh_] at X
        show own_Ends p e below _ (T.setTop (mkF m 111 #[.val (.int pa), .val (.int pb), .val (.int pc), .val (.int (Int32.ofNat i.val)), .val (.int (1 : Int32)), .val (.int (1 : Int32)), .val (.int (1 : Int32)), .val (.int (own_arc (5 : Int32) (Int32.ofNat i.val))), .val (.ref b47), .val (.ref b53), .unset, .unset, .unset, .unset, .unset, .unset, .unset] [(.int ((own_arc (5 : Int32) (Int32.ofNat i.val)) &&& 31))]))
        rw [own_arc_ix_5 i]
        refine own_iloadN X 112 (Int32.ofNat i.val) at_111 rfl rfl ?_
        refine own_icN X 115 at_112 rfl (XT.ii_ne_f rfl) ?_
        refine own_iconst X 116 (1 : Int32) at_115 rfl rfl ?_
        refine own_goto X 120 at_116 (by decide) (by decide) ?_
        refine own_istore X 122 #[.val (.int pa), .val (.int pb), .val (.int pc), .val (.int (Int32.ofNat i.val)), .val (.int (1 : Int32)), .val (.int (1 : Int32)), .val (.int (1 : Int32)), .val (.int (own_arc (5 : Int32) (Int32.ofNat i.val))), .val (.ref b47), .val (.ref b53), .val (.int (1 : Int32)), .unset, .unset, .unset, .unset, .unset, .unset] at_120 rfl rfl ?_
        refine own_aload X 124 (.ref b53) at_122 rfl rfl rfl ?_
        refine own_iconst X 125 (0 : Int32) at_124 rfl rfl ?_
        refine own_callV X 128 [(.int (0 : Int32))] [] at_125 rfl (hw _ (List.mem_of_getElem? (i := 23) rfl)) (hw _ (List.mem_of_getElem? (i := 24) rfl)) (own_nf X.2.2.2.2.1 (hw _ (List.mem_of_getElem? (i := 26) rfl))) (hw _ (List.mem_of_getElem? (i := 26) rfl)) (hw _ (List.mem_of_getElem? (i := 25) rfl)) (hw _ (List.mem_of_getElem? (i := 3) rfl)) (hw _ (List.mem_of_getElem? (i := 27) rfl)) (by decide) A_b53 (own_misw l Z a0 hw b53 (0 : Int32) b47 kc_b47 (own_arc (5 : Int32) (Int32.ofNat i.val)) h54 n0 X.sz F_bytes_b53 A_b53 A_b47 rfl) (fun _ _ q => Nat.le_of_eq (congrArg Array.size q.1.symm)) rfl own_pd2 rfl rfl rfl (by decide) (Nat.le_of_ble_eq_true rfl) (by decide) (by decide) ?_
        rintro v125 T h_ X ⟨eh_, rfl⟩
        rw [eh_] at X
        show own_Ends p e below _ (T.setTop (mkF m 128 #[.val (.int pa), .val (.int pb), .val (.int pc), .val (.int (Int32.ofNat i.val)), .val (.int (1 : Int32)), .val (.int (1 : Int32)), .val (.int (1 : Int32)), .val (.int (own_arc (5 : Int32) (Int32.ofNat i.val))), .val (.ref b47), .val (.ref b53), .val (.int (1 : Int32)), .unset, .unset, .unset, .unset, .unset, .unset] [(.int (own_is 173 (own_kind (own_arc (5 : Int32) (Int32.ofNat i.val)))))]))
        rw [own_arc_kind_5 i]
        rw [show own_is 173 (5 : Int32) = (1 : Int32) from by decide]
        refine own_iload X 130 (1 : Int32) at_128 rfl rfl ?_
        refine own_icN X 133 at_130 rfl (XT.ii_ne_f (by decide)) ?_
        refine own_iconst X 134 (1 : Int32) at_133 rfl rfl ?_
        refine own_goto X 138 at_134 (by decide) (by decide) ?_
        refine own_istore X 140 #[.val (.int pa), .val (.int pb), .val (.int pc), .val (.int (Int32.ofNat i.val)), .val (.int (1 : Int32)), .val (.int (1 : Int32)), .val (.int (1 : Int32)), .val (.int (own_arc (5 : Int32) (Int32.ofNat i.val))), .val (.ref b47), .val (.ref b53), .val (.int (1 : Int32)), .val (.int (1 : Int32)), .unset, .unset, .unset, .unset, .unset] at_138 rfl rfl ?_
        refine own_iload X 142 (1 : Int32) at_140 rfl rfl ?_
        refine own_ifN X 145 at_142 rfl (XT.i0_eq_f (by decide)) ?_
        refine own_iconst X 146 (-1 : Int32) at_145 rfl rfl ?_
        refine own_istore X 148 #[.val (.int pa), .val (.int pb), .val (.int pc), .val (.int (Int32.ofNat i.val)), .val (.int (1 : Int32)), .val (.int (1 : Int32)), .val (.int (1 : Int32)), .val (.int (own_arc (5 : Int32) (Int32.ofNat i.val))), .val (.ref b47), .val (.ref b53), .val (.int (1 : Int32)), .val (.int (1 : Int32)), .val (.int (-1 : Int32)), .unset, .unset, .unset, .unset] at_146 rfl rfl ?_
        refine own_goto X 165 at_148 (by decide) (by decide) ?_
        refine own_aload X 167 (.ref b53) at_165 rfl rfl rfl ?_
        refine own_iconst X 168 (0 : Int32) at_167 rfl rfl ?_
        refine own_callV X 171 [(.int (0 : Int32))] [] at_168 rfl (hw _ (List.mem_of_getElem? (i := 35) rfl)) (hw _ (List.mem_of_getElem? (i := 36) rfl)) (own_nf X.2.2.2.2.1 (hw _ (List.mem_of_getElem? (i := 38) rfl))) (hw _ (List.mem_of_getElem? (i := 38) rfl)) (hw _ (List.mem_of_getElem? (i := 37) rfl)) (hw _ (List.mem_of_getElem? (i := 3) rfl)) (hw _ (List.mem_of_getElem? (i := 39) rfl)) (by decide) A_b53 (own_mns l Z a0 hw b53 (0 : Int32) b47 kc_b47 (own_arc (5 : Int32) (Int32.ofNat i.val)) h54 n0 X.sz F_bytes_b53 A_b53 A_b47 rfl) (fun _ _ q => Nat.le_of_eq (congrArg Array.size q.1.symm)) rfl own_pd0 rfl rfl rfl (by decide) (Nat.le_of_ble_eq_true rfl) (by decide) (by decide) ?_
        rintro v168 T h_ X ⟨eh_, rfl⟩
        rw [eh_] at X
        show own_Ends p e below _ (T.setTop (mkF m 171 #[.val (.int pa), .val (.int pb), .val (.int pc), .val (.int (Int32.ofNat i.val)), .val (.int (1 : Int32)), .val (.int (1 : Int32)), .val (.int (1 : Int32)), .val (.int (own_arc (5 : Int32) (Int32.ofNat i.val))), .val (.ref b47), .val (.ref b53), .val (.int (1 : Int32)), .val (.int (1 : Int32)), .val (.int (-1 : Int32)), .unset, .unset, .unset, .unset] [(.int (own_ns (own_kind (own_arc (5 : Int32) (Int32.ofNat i.val)))))]))
        rw [own_arc_kind_5 i]
        rw [show own_ns (5 : Int32) = (-1 : Int32) from by decide]
        refine own_iload X 173 (-1 : Int32) at_171 rfl rfl ?_
        refine own_icN X 176 at_173 rfl (XT.ii_ne_f (by decide)) ?_
        refine own_iconst X 177 (1 : Int32) at_176 rfl rfl ?_
        refine own_goto X 181 at_177 (by decide) (by decide) ?_
        refine own_istore X 183 #[.val (.int pa), .val (.int pb), .val (.int pc), .val (.int (Int32.ofNat i.val)), .val (.int (1 : Int32)), .val (.int (1 : Int32)), .val (.int (1 : Int32)), .val (.int (own_arc (5 : Int32) (Int32.ofNat i.val))), .val (.ref b47), .val (.ref b53), .val (.int (1 : Int32)), .val (.int (1 : Int32)), .val (.int (-1 : Int32)), .val (.int (1 : Int32)), .unset, .unset, .unset] at_181 rfl rfl ?_
        refine own_iload X 185 (1 : Int32) at_183 rfl rfl ?_
        refine own_ifY X 194 at_185 (by decide) (by decide) (XT.i0_ne_t (by decide)) ?_
        refine own_iload X 196 (1 : Int32) at_194 rfl rfl ?_
        refine own_iconst X 197 (1 : Int32) at_196 rfl rfl ?_
        refine own_icN X 200 at_197 rfl (XT.ii_ne_f (by decide)) ?_
        refine own_iconst X 201 (1 : Int32) at_200 rfl rfl ?_
        refine own_istore X 203 #[.val (.int pa), .val (.int pb), .val (.int pc), .val (.int (Int32.ofNat i.val)), .val (.int (1 : Int32)), .val (.int (1 : Int32)), .val (.int (1 : Int32)), .val (.int (own_arc (5 : Int32) (Int32.ofNat i.val))), .val (.ref b47), .val (.ref b53), .val (.int (1 : Int32)), .val (.int (1 : Int32)), .val (.int (-1 : Int32)), .val (.int (1 : Int32)), .val (.int (1 : Int32)), .unset, .unset] at_201 rfl rfl ?_
        refine own_goto X 209 at_203 (by decide) (by decide) ?_
        refine own_iload X 211 (1 : Int32) at_209 rfl rfl ?_
        refine own_ifN X 214 at_211 rfl (XT.i0_eq_f (by decide)) ?_
        refine own_iconst X 215 (1 : Int32) at_214 rfl rfl ?_
        refine own_goto X 219 at_215 (by decide) (by decide) ?_
        refine own_iload X 221 (1 : Int32) at_219 rfl rfl ?_
        refine own_iadd X 222 at_221 rfl ?_
        refine own_istore X 224 #[.val (.int pa), .val (.int pb), .val (.int pc), .val (.int (Int32.ofNat i.val)), .val (.int (1 : Int32)), .val (.int (1 : Int32)), .val (.int (1 : Int32)), .val (.int (own_arc (5 : Int32) (Int32.ofNat i.val))), .val (.ref b47), .val (.ref b53), .val (.int (1 : Int32)), .val (.int (1 : Int32)), .val (.int (-1 : Int32)), .val (.int (1 : Int32)), .val (.int (1 : Int32)), .val (.int ((1 : Int32) + (1 : Int32))), .unset] at_222 rfl rfl ?_
        refine own_aload X 226 (.ref b53) at_224 rfl rfl rfl ?_
        refine own_iconst X 227 (0 : Int32) at_226 rfl rfl ?_
        refine own_callV X 230 [(.int (0 : Int32))] [] at_227 rfl (hw _ (List.mem_of_getElem? (i := 40) rfl)) (hw _ (List.mem_of_getElem? (i := 41) rfl)) (own_nf X.2.2.2.2.1 (hw _ (List.mem_of_getElem? (i := 43) rfl))) (hw _ (List.mem_of_getElem? (i := 43) rfl)) (hw _ (List.mem_of_getElem? (i := 42) rfl)) (hw _ (List.mem_of_getElem? (i := 3) rfl)) (hw _ (List.mem_of_getElem? (i := 44) rfl)) (by decide) A_b53 (own_mcount l Z a0 hw b53 (0 : Int32) b47 kc_b47 (own_arc (5 : Int32) (Int32.ofNat i.val)) h54 n0 X.sz F_bytes_b53 A_b53 A_b47 rfl ⟨⟨5, by decide⟩, own_arc_kind_5 i⟩) (fun _ _ q => Nat.le_of_eq (congrArg Array.size q.1.symm)) rfl own_pd0 rfl rfl rfl (by decide) (Nat.le_of_ble_eq_true rfl) (by decide) (by decide) ?_
        rintro v227 T h_ X ⟨eh_, rfl⟩
        rw [eh_] at X
        show own_Ends p e below _ (T.setTop (mkF m 230 #[.val (.int pa), .val (.int pb), .val (.int pc), .val (.int (Int32.ofNat i.val)), .val (.int (1 : Int32)), .val (.int (1 : Int32)), .val (.int (1 : Int32)), .val (.int (own_arc (5 : Int32) (Int32.ofNat i.val))), .val (.ref b47), .val (.ref b53), .val (.int (1 : Int32)), .val (.int (1 : Int32)), .val (.int (-1 : Int32)), .val (.int (1 : Int32)), .val (.int (1 : Int32)), .val (.int ((1 : Int32) + (1 : Int32))), .unset] [(.int (own_count (own_kind (own_arc (5 : Int32) (Int32.ofNat i.val)))))]))
        rw [own_arc_kind_5 i]
        rw [show own_count (5 : Int32) = (2 : Int32) from by decide]
        refine own_iload X 232 ((1 : Int32) + (1 : Int32)) at_230 rfl rfl ?_
        refine own_icN X 235 at_232 rfl (XT.ii_ne_f (by decide)) ?_
        refine own_iconst X 236 (1 : Int32) at_235 rfl rfl ?_
        refine own_goto X 240 at_236 (by decide) (by decide) ?_
        refine own_istore X 242 #[.val (.int pa), .val (.int pb), .val (.int pc), .val (.int (Int32.ofNat i.val)), .val (.int (1 : Int32)), .val (.int (1 : Int32)), .val (.int (1 : Int32)), .val (.int (own_arc (5 : Int32) (Int32.ofNat i.val))), .val (.ref b47), .val (.ref b53), .val (.int (1 : Int32)), .val (.int (1 : Int32)), .val (.int (-1 : Int32)), .val (.int (1 : Int32)), .val (.int (1 : Int32)), .val (.int ((1 : Int32) + (1 : Int32))), .val (.int (1 : Int32))] at_240 rfl rfl ?_
        refine own_iload X 244 (1 : Int32) at_242 rfl rfl ?_
        refine own_ifN X 247 at_244 rfl (XT.i0_eq_f (by decide)) ?_
        refine own_iload X 249 (1 : Int32) at_247 rfl rfl ?_
        refine own_ifN X 252 at_249 rfl (XT.i0_eq_f (by decide)) ?_
        refine own_iload X 254 (1 : Int32) at_252 rfl rfl ?_
        refine own_ifN X 257 at_254 rfl (XT.i0_eq_f (by decide)) ?_
        refine own_iload X 259 (1 : Int32) at_257 rfl rfl ?_
        refine own_ifN X 262 at_259 rfl (XT.i0_eq_f (by decide)) ?_
        refine own_iconst X 263 (1 : Int32) at_262 rfl rfl ?_
        refine own_goto X 267 at_263 (by decide) (by decide) ?_
        exact own_retN X .boolean at_267 rfl (by simp) (by decide) (by decide) (by decide)
    · refine own_ifN X 22 at_19 rfl (XT.i0_eq_f hc19) ?_
      refine own_iconst X 23 (1 : Int32) at_22 rfl rfl ?_
      refine own_goto X 27 at_23 (by decide) (by decide) ?_
      refine own_istore X 29 #[.val (.int pa), .val (.int pb), .val (.int pc), .val (.int (Int32.ofNat i.val)), .val (.int (1 : Int32)), .val (.int (1 : Int32)), .unset, .unset, .unset, .unset, .unset, .unset, .unset, .unset, .unset, .unset, .unset] at_27 rfl rfl ?_
      refine own_iloadN X 30 pc at_29 rfl rfl ?_
      refine own_iconst X 31 (2 : Int32) at_30 rfl rfl ?_
      refine own_iand X 32 at_31 rfl ?_
      by_cases hc32 : (pc &&& (2 : Int32)) = (0 : Int32)
      · refine own_ifY X 39 at_32 (by decide) (by decide) (XT.i0_eq_t hc32) ?_
        refine own_iconst X 40 (0 : Int32) at_39 rfl rfl ?_
        refine own_istore X 42 #[.val (.int pa), .val (.int pb), .val (.int pc), .val (.int (Int32.ofNat i.val)), .val (.int (1 : Int32)), .val (.int (1 : Int32)), .val (.int (0 : Int32)), .unset, .unset, .unset, .unset, .unset, .unset, .unset, .unset, .unset, .unset] at_40 rfl rfl ?_
        refine own_iload X 44 (1 : Int32) at_42 rfl rfl ?_
        refine own_iconst X 45 (1 : Int32) at_44 rfl rfl ?_
        refine own_icN X 48 at_45 rfl (XT.ii_ne_f (by decide)) ?_
        refine own_iconst X 49 (1 : Int32) at_48 rfl rfl ?_
        refine own_istore X 51 #[.val (.int pa), .val (.int pb), .val (.int pc), .val (.int (Int32.ofNat i.val)), .val (.int (1 : Int32)), .val (.int (1 : Int32)), .val (.int (0 : Int32)), .unset, .unset, .unset, .unset, .unset, .unset, .unset, .unset, .unset, .unset] at_49 rfl rfl ?_
        refine own_iload X 53 (1 : Int32) at_51 rfl rfl ?_
        refine own_ifY X 59 at_53 (by decide) (by decide) (XT.i0_ne_t (by decide)) ?_
        refine own_iloadN X 60 (Int32.ofNat i.val) at_59 rfl rfl ?_
        refine own_iload X 62 (1 : Int32) at_60 rfl rfl ?_
        refine own_iload X 64 (1 : Int32) at_62 rfl rfl ?_
        refine own_iload X 66 (0 : Int32) at_64 rfl rfl ?_
        refine own_callS X 69 [(.int (Int32.ofNat i.val)), (.int (1 : Int32)), (.int (1 : Int32)), (.int (0 : Int32))] [] at_66 rfl (hw _ (List.mem_of_getElem? (i := 1) rfl)) (hw _ (List.mem_of_getElem? (i := 2) rfl)) (hw _ (List.mem_of_getElem? (i := 3) rfl)) (hw _ (List.mem_of_getElem? (i := 4) rfl)) (by decide) (own_marc l Z a0 hw (Int32.ofNat i.val) (1 : Int32) (1 : Int32) (0 : Int32) av kc 6 (4 : Int32) h0 n0 X.sz OL z_s z_A (by decide) (by decide) rfl) (fun _ _ q => Nat.le_of_eq (congrArg Array.size q.1.symm)) rfl own_pd3 rfl rfl rfl (by decide) (Nat.le_of_ble_eq_true rfl) (by decide) (by decide) ?_
        rintro v66 T h_ X ⟨eh_, rfl⟩
        rw [eh_] at X
        show own_Ends p e below _ (T.setTop (mkF m 69 #[.val (.int pa), .val (.int pb), .val (.int pc), .val (.int (Int32.ofNat i.val)), .val (.int (1 : Int32)), .val (.int (1 : Int32)), .val (.int (0 : Int32)), .unset, .unset, .unset, .unset, .unset, .unset, .unset, .unset, .unset, .unset] [(.int (own_arc (4 : Int32) (Int32.ofNat i.val)))]))
        refine own_istore X 71 #[.val (.int pa), .val (.int pb), .val (.int pc), .val (.int (Int32.ofNat i.val)), .val (.int (1 : Int32)), .val (.int (1 : Int32)), .val (.int (0 : Int32)), .val (.int (own_arc (4 : Int32) (Int32.ofNat i.val))), .unset, .unset, .unset, .unset, .unset, .unset, .unset, .unset, .unset] at_69 rfl rfl ?_
        refine own_iconst X 72 (4 : Int32) at_71 rfl rfl ?_
        refine own_newP X 74 4 4 at_72 rfl (hw _ (List.mem_of_getElem? (i := 7) rfl)) (by decide) (by decide) (by decide) (by decide) (by decide) (by decide) ?_
        intro T h55 b56 kc_b56 g_b56 X E_h55 A_b56
        have zs_h55 : h0.size ≤ h55.size := E_h55.1
        have OL := OL.ext E_h55
        have lo_b56 : h0.size ≤ b56 := Nat.le_of_eq g_b56.symm
        have hi_b56 : h55.size > b56 := A_b56.lt
        have A_b56 : own_A Z h55 b56 kc_b56 .byte [(.int (0 : Int32)), (.int (0 : Int32)), (.int (0 : Int32)), (.int (0 : Int32))] := A_b56
        refine own_dup X 75 at_74 rfl rfl ?_
        refine own_iconst X 76 (0 : Int32) at_75 rfl rfl ?_
        refine own_iload X 78 (own_arc (4 : Int32) (Int32.ofNat i.val)) at_76 rfl rfl ?_
        refine own_bastore X 79 0 at_78 rfl A_b56 (by decide) (by decide) (Nat.le_of_ble_eq_true rfl) (by omega) ?_
        intro T h57 X W_h57
        have nw_h57 : own_A Z h57 b56 kc_b56 .byte [(.int (nar .byte (own_arc (4 : Int32) (Int32.ofNat i.val)))), (.int (0 : Int32)), (.int (0 : Int32)), (.int (0 : Int32))] := A_b56.same W_h57 (fits_nar_byte _)
        have zs_h57 : h55.size ≤ h57.size := (Nat.le_of_eq W_h57.size.symm)
        have OL := OL.wr W_h57 (by omega)
        have A_b56 := nw_h57
        refine own_dup X 80 at_79 rfl rfl ?_
        refine own_iconst X 81 (1 : Int32) at_80 rfl rfl ?_
        refine own_iconst X 82 (2 : Int32) at_81 rfl rfl ?_
        refine own_bastore X 83 1 at_82 rfl A_b56 (by decide) (by decide) (Nat.le_of_ble_eq_true rfl) (by omega) ?_
        intro T h58 X W_h58
        have nw_h58 : own_A Z h58 b56 kc_b56 .byte [(.int (nar .byte (own_arc (4 : Int32) (Int32.ofNat i.val)))), (.int (nar .byte (2 : Int32))), (.int (0 : Int32)), (.int (0 : Int32))] := A_b56.same W_h58 (fits_nar_byte _)
        have zs_h58 : h57.size ≤ h58.size := (Nat.le_of_eq W_h58.size.symm)
        have OL := OL.wr W_h58 (by omega)
        have A_b56 := nw_h58
        refine own_dup X 84 at_83 rfl rfl ?_
        refine own_iconst X 85 (2 : Int32) at_84 rfl rfl ?_
        refine own_iconst X 86 (0 : Int32) at_85 rfl rfl ?_
        refine own_bastore X 87 2 at_86 rfl A_b56 (by decide) (by decide) (Nat.le_of_ble_eq_true rfl) (by omega) ?_
        intro T h59 X W_h59
        have nw_h59 : own_A Z h59 b56 kc_b56 .byte [(.int (nar .byte (own_arc (4 : Int32) (Int32.ofNat i.val)))), (.int (nar .byte (2 : Int32))), (.int (nar .byte (0 : Int32))), (.int (0 : Int32))] := A_b56.same W_h59 (fits_nar_byte _)
        have zs_h59 : h58.size ≤ h59.size := (Nat.le_of_eq W_h59.size.symm)
        have OL := OL.wr W_h59 (by omega)
        have A_b56 := nw_h59
        refine own_dup X 88 at_87 rfl rfl ?_
        refine own_iconst X 89 (3 : Int32) at_88 rfl rfl ?_
        refine own_bipush X 91 (10 : Int32) at_89 rfl (by decide) ?_
        refine own_bastore X 92 3 at_91 rfl A_b56 (by decide) (by decide) (Nat.le_of_ble_eq_true rfl) (by omega) ?_
        intro T h60 X W_h60
        have nw_h60 : own_A Z h60 b56 kc_b56 .byte [(.int (nar .byte (own_arc (4 : Int32) (Int32.ofNat i.val)))), (.int (nar .byte (2 : Int32))), (.int (nar .byte (0 : Int32))), (.int (nar .byte (10 : Int32)))] := A_b56.same W_h60 (fits_nar_byte _)
        have zs_h60 : h59.size ≤ h60.size := (Nat.le_of_eq W_h60.size.symm)
        have OL := OL.wr W_h60 (by omega)
        have A_b56 := nw_h60
        have A_b56 : own_A Z h60 b56 kc_b56 .byte [(.int (own_arc (4 : Int32) (Int32.ofNat i.val))), (.int 2), (.int 0), (.int 10)] := by have q := own_narb ((((4 : Int32) <<< (5 &&& 31)) ||| (Int32.ofNat i.val))); simpa only [own_arc, q, show nar .byte (2 : Int32) = 2 from by decide, show nar .byte (0 : Int32) = 0 from by decide, show nar .byte (10 : Int32) = 10 from by decide] using A_b56
        refine own_astore X 94 #[.val (.int pa), .val (.int pb), .val (.int pc), .val (.int (Int32.ofNat i.val)), .val (.int (1 : Int32)), .val (.int (1 : Int32)), .val (.int (0 : Int32)), .val (.int (own_arc (4 : Int32) (Int32.ofNat i.val))), .val (.ref b56), .unset, .unset, .unset, .unset, .unset, .unset, .unset, .unset] at_92 rfl rfl rfl ?_
        refine own_new X 97 at_94 rfl (hw _ (List.mem_of_getElem? (i := 8) rfl)) (hw _ (List.mem_of_getElem? (i := 9) rfl)) (hw _ (List.mem_of_getElem? (i := 3) rfl)) (by decide) (by decide) ?_
        intro T h61 b62 g_b62 X E_h61 A_b62 D_b62
        have zs_h61 : h60.size ≤ h61.size := E_h61.1
        have OL := OL.ext E_h61
        have A_b56 := A_b56.ext E_h61
        have lo_b62 : h60.size ≤ b62 := Nat.le_of_eq g_b62.symm
        have hi_b62 : h61.size > b62 := A_b62.lt
        have F_bytes_b62 : Fld Z h61 b62 "com/example/radix26/radix26/internal/trie/FrozenNodes" "bytes" "[B" .null := D_b62 (Or.inr (hw _ (List.mem_of_getElem? (i := 17) rfl))) (ty := (.array .byte)) (by decide)
        refine own_dup X 98 at_97 rfl rfl ?_
        refine own_aload X 100 (.ref b56) at_98 rfl rfl rfl ?_
        refine own_init X 103 [(.ref b56)] [(.ref b62)] at_100 rfl (hw _ (List.mem_of_getElem? (i := 10) rfl)) (hw _ (List.mem_of_getElem? (i := 11) rfl)) (hw _ (List.mem_of_getElem? (i := 3) rfl)) (hw _ (List.mem_of_getElem? (i := 12) rfl)) (by decide) rfl (own_mini l Z a0 hw b62 b56 h61 n0 X.sz F_bytes_b62 A_b62 (by omega)) (fun _ _ q => q.1.1) rfl own_pd4 rfl rfl rfl (by decide) (Nat.le_of_ble_eq_true rfl) (by decide) (by decide) ?_
        rintro v100 T h63 X ⟨K_, rfl, Fi_⟩
        have zs_h63 : h61.size ≤ h63.size := K_.1
        have OL := OL.keep K_ (allS (by omega) all0)
        have A_b56 := A_b56.keep K_ (ninS (by show @Ne Nat _ _; omega) nin0)
        have A_b62 := A_b62.keep K_
        have F_bytes_b62 := Fi_
        show own_Ends p e below _ (T.setTop (mkF m 103 #[.val (.int pa), .val (.int pb), .val (.int pc), .val (.int (Int32.ofNat i.val)), .val (.int (1 : Int32)), .val (.int (1 : Int32)), .val (.int (0 : Int32)), .val (.int (own_arc (4 : Int32) (Int32.ofNat i.val))), .val (.ref b56), .unset, .unset, .unset, .unset, .unset, .unset, .unset, .unset] [(.ref b62)]))
        refine own_astore X 105 #[.val (.int pa), .val (.int pb), .val (.int pc), .val (.int (Int32.ofNat i.val)), .val (.int (1 : Int32)), .val (.int (1 : Int32)), .val (.int (0 : Int32)), .val (.int (own_arc (4 : Int32) (Int32.ofNat i.val))), .val (.ref b56), .val (.ref b62), .unset, .unset, .unset, .unset, .unset, .unset, .unset] at_103 rfl rfl rfl ?_
        refine own_aload X 107 (.ref b62) at_105 rfl rfl rfl ?_
        refine own_iconst X 108 (0 : Int32) at_107 rfl rfl ?_
        refine own_callV X 111 [(.int (0 : Int32))] [] at_108 rfl (hw _ (List.mem_of_getElem? (i := 18) rfl)) (hw _ (List.mem_of_getElem? (i := 19) rfl)) (own_nf X.2.2.2.2.1 (hw _ (List.mem_of_getElem? (i := 21) rfl))) (hw _ (List.mem_of_getElem? (i := 21) rfl)) (hw _ (List.mem_of_getElem? (i := 20) rfl)) (hw _ (List.mem_of_getElem? (i := 3) rfl)) (hw _ (List.mem_of_getElem? (i := 22) rfl)) (by decide) A_b62 (own_mindex l Z a0 hw b62 (0 : Int32) b56 kc_b56 (own_arc (4 : Int32) (Int32.ofNat i.val)) h63 n0 X.sz F_bytes_b62 A_b62 A_b56 rfl) (fun _ _ q => Nat.le_of_eq (congrArg Array.size q.1.symm)) rfl own_pd0 rfl rfl rfl (by decide) (Nat.le_of_ble_eq_true rfl) (by decide) (by decide) ?_
        rintro v108 T h_ X ⟨eh_, rfl⟩
        rw [eh_] at X
        show own_Ends p e below _ (T.setTop (mkF m 111 #[.val (.int pa), .val (.int pb), .val (.int pc), .val (.int (Int32.ofNat i.val)), .val (.int (1 : Int32)), .val (.int (1 : Int32)), .val (.int (0 : Int32)), .val (.int (own_arc (4 : Int32) (Int32.ofNat i.val))), .val (.ref b56), .val (.ref b62), .unset, .unset, .unset, .unset, .unset, .unset, .unset] [(.int ((own_arc (4 : Int32) (Int32.ofNat i.val)) &&& 31))]))
        rw [own_arc_ix_4 i]
        refine own_iloadN X 112 (Int32.ofNat i.val) at_111 rfl rfl ?_
        refine own_icN X 115 at_112 rfl (XT.ii_ne_f rfl) ?_
        refine own_iconst X 116 (1 : Int32) at_115 rfl rfl ?_
        refine own_goto X 120 at_116 (by decide) (by decide) ?_
        refine own_istore X 122 #[.val (.int pa), .val (.int pb), .val (.int pc), .val (.int (Int32.ofNat i.val)), .val (.int (1 : Int32)), .val (.int (1 : Int32)), .val (.int (0 : Int32)), .val (.int (own_arc (4 : Int32) (Int32.ofNat i.val))), .val (.ref b56), .val (.ref b62), .val (.int (1 : Int32)), .unset, .unset, .unset, .unset, .unset, .unset] at_120 rfl rfl ?_
        refine own_aload X 124 (.ref b62) at_122 rfl rfl rfl ?_
        refine own_iconst X 125 (0 : Int32) at_124 rfl rfl ?_
        refine own_callV X 128 [(.int (0 : Int32))] [] at_125 rfl (hw _ (List.mem_of_getElem? (i := 23) rfl)) (hw _ (List.mem_of_getElem? (i := 24) rfl)) (own_nf X.2.2.2.2.1 (hw _ (List.mem_of_getElem? (i := 26) rfl))) (hw _ (List.mem_of_getElem? (i := 26) rfl)) (hw _ (List.mem_of_getElem? (i := 25) rfl)) (hw _ (List.mem_of_getElem? (i := 3) rfl)) (hw _ (List.mem_of_getElem? (i := 27) rfl)) (by decide) A_b62 (own_misw l Z a0 hw b62 (0 : Int32) b56 kc_b56 (own_arc (4 : Int32) (Int32.ofNat i.val)) h63 n0 X.sz F_bytes_b62 A_b62 A_b56 rfl) (fun _ _ q => Nat.le_of_eq (congrArg Array.size q.1.symm)) rfl own_pd2 rfl rfl rfl (by decide) (Nat.le_of_ble_eq_true rfl) (by decide) (by decide) ?_
        rintro v125 T h_ X ⟨eh_, rfl⟩
        rw [eh_] at X
        show own_Ends p e below _ (T.setTop (mkF m 128 #[.val (.int pa), .val (.int pb), .val (.int pc), .val (.int (Int32.ofNat i.val)), .val (.int (1 : Int32)), .val (.int (1 : Int32)), .val (.int (0 : Int32)), .val (.int (own_arc (4 : Int32) (Int32.ofNat i.val))), .val (.ref b56), .val (.ref b62), .val (.int (1 : Int32)), .unset, .unset, .unset, .unset, .unset, .unset] [(.int (own_is 173 (own_kind (own_arc (4 : Int32) (Int32.ofNat i.val)))))]))
        rw [own_arc_kind_4 i]
        rw [show own_is 173 (4 : Int32) = (0 : Int32) from by decide]
        refine own_iload X 130 (0 : Int32) at_128 rfl rfl ?_
        refine own_icN X 133 at_130 rfl (XT.ii_ne_f (by decide)) ?_
        refine own_iconst X 134 (1 : Int32) at_133 rfl rfl ?_
        refine own_goto X 138 at_134 (by decide) (by decide) ?_
        refine own_istore X 140 #[.val (.int pa), .val (.int pb), .val (.int pc), .val (.int (Int32.ofNat i.val)), .val (.int (1 : Int32)), .val (.int (1 : Int32)), .val (.int (0 : Int32)), .val (.int (own_arc (4 : Int32) (Int32.ofNat i.val))), .val (.ref b56), .val (.ref b62), .val (.int (1 : Int32)), .val (.int (1 : Int32)), .unset, .unset, .unset, .unset, .unset] at_138 rfl rfl ?_
        refine own_iload X 142 (1 : Int32) at_140 rfl rfl ?_
        refine own_ifN X 145 at_142 rfl (XT.i0_eq_f (by decide)) ?_
        refine own_iconst X 146 (-1 : Int32) at_145 rfl rfl ?_
        refine own_istore X 148 #[.val (.int pa), .val (.int pb), .val (.int pc), .val (.int (Int32.ofNat i.val)), .val (.int (1 : Int32)), .val (.int (1 : Int32)), .val (.int (0 : Int32)), .val (.int (own_arc (4 : Int32) (Int32.ofNat i.val))), .val (.ref b56), .val (.ref b62), .val (.int (1 : Int32)), .val (.int (1 : Int32)), .val (.int (-1 : Int32)), .unset, .unset, .unset, .unset] at_146 rfl rfl ?_
        refine own_goto X 165 at_148 (by decide) (by decide) ?_
        refine own_aload X 167 (.ref b62) at_165 rfl rfl rfl ?_
        refine own_iconst X 168 (0 : Int32) at_167 rfl rfl ?_
        refine own_callV X 171 [(.int (0 : Int32))] [] at_168 rfl (hw _ (List.mem_of_getElem? (i := 35) rfl)) (hw _ (List.mem_of_getElem? (i := 36) rfl)) (own_nf X.2.2.2.2.1 (hw _ (List.mem_of_getElem? (i := 38) rfl))) (hw _ (List.mem_of_getElem? (i := 38) rfl)) (hw _ (List.mem_of_getElem? (i := 37) rfl)) (hw _ (List.mem_of_getElem? (i := 3) rfl)) (hw _ (List.mem_of_getElem? (i := 39) rfl)) (by decide) A_b62 (own_mns l Z a0 hw b62 (0 : Int32) b56 kc_b56 (own_arc (4 : Int32) (Int32.ofNat i.val)) h63 n0 X.sz F_bytes_b62 A_b62 A_b56 rfl) (fun _ _ q => Nat.le_of_eq (congrArg Array.size q.1.symm)) rfl own_pd0 rfl rfl rfl (by decide) (Nat.le_of_ble_eq_true rfl) (by decide) (by decide) ?_
        rintro v168 T h_ X ⟨eh_, rfl⟩
        rw [eh_] at X
        show own_Ends p e below _ (T.setTop (mkF m 171 #[.val (.int pa), .val (.int pb), .val (.int pc), .val (.int (Int32.ofNat i.val)), .val (.int (1 : Int32)), .val (.int (1 : Int32)), .val (.int (0 : Int32)), .val (.int (own_arc (4 : Int32) (Int32.ofNat i.val))), .val (.ref b56), .val (.ref b62), .val (.int (1 : Int32)), .val (.int (1 : Int32)), .val (.int (-1 : Int32)), .unset, .unset, .unset, .unset] [(.int (own_ns (own_kind (own_arc (4 : Int32) (Int32.ofNat i.val)))))]))
        rw [own_arc_kind_4 i]
        rw [show own_ns (4 : Int32) = (-1 : Int32) from by decide]
        refine own_iload X 173 (-1 : Int32) at_171 rfl rfl ?_
        refine own_icN X 176 at_173 rfl (XT.ii_ne_f (by decide)) ?_
        refine own_iconst X 177 (1 : Int32) at_176 rfl rfl ?_
        refine own_goto X 181 at_177 (by decide) (by decide) ?_
        refine own_istore X 183 #[.val (.int pa), .val (.int pb), .val (.int pc), .val (.int (Int32.ofNat i.val)), .val (.int (1 : Int32)), .val (.int (1 : Int32)), .val (.int (0 : Int32)), .val (.int (own_arc (4 : Int32) (Int32.ofNat i.val))), .val (.ref b56), .val (.ref b62), .val (.int (1 : Int32)), .val (.int (1 : Int32)), .val (.int (-1 : Int32)), .val (.int (1 : Int32)), .unset, .unset, .unset] at_181 rfl rfl ?_
        refine own_iload X 185 (1 : Int32) at_183 rfl rfl ?_
        refine own_ifY X 194 at_185 (by decide) (by decide) (XT.i0_ne_t (by decide)) ?_
        refine own_iload X 196 (1 : Int32) at_194 rfl rfl ?_
        refine own_iconst X 197 (1 : Int32) at_196 rfl rfl ?_
        refine own_icN X 200 at_197 rfl (XT.ii_ne_f (by decide)) ?_
        refine own_iconst X 201 (1 : Int32) at_200 rfl rfl ?_
        refine own_istore X 203 #[.val (.int pa), .val (.int pb), .val (.int pc), .val (.int (Int32.ofNat i.val)), .val (.int (1 : Int32)), .val (.int (1 : Int32)), .val (.int (0 : Int32)), .val (.int (own_arc (4 : Int32) (Int32.ofNat i.val))), .val (.ref b56), .val (.ref b62), .val (.int (1 : Int32)), .val (.int (1 : Int32)), .val (.int (-1 : Int32)), .val (.int (1 : Int32)), .val (.int (1 : Int32)), .unset, .unset] at_201 rfl rfl ?_
        refine own_goto X 209 at_203 (by decide) (by decide) ?_
        refine own_iload X 211 (0 : Int32) at_209 rfl rfl ?_
        refine own_ifY X 218 at_211 (by decide) (by decide) (XT.i0_eq_t (by decide)) ?_
        refine own_iconst X 219 (0 : Int32) at_218 rfl rfl ?_
        refine own_iload X 221 (1 : Int32) at_219 rfl rfl ?_
        refine own_iadd X 222 at_221 rfl ?_
        refine own_istore X 224 #[.val (.int pa), .val (.int pb), .val (.int pc), .val (.int (Int32.ofNat i.val)), .val (.int (1 : Int32)), .val (.int (1 : Int32)), .val (.int (0 : Int32)), .val (.int (own_arc (4 : Int32) (Int32.ofNat i.val))), .val (.ref b56), .val (.ref b62), .val (.int (1 : Int32)), .val (.int (1 : Int32)), .val (.int (-1 : Int32)), .val (.int (1 : Int32)), .val (.int (1 : Int32)), .val (.int ((0 : Int32) + (1 : Int32))), .unset] at_222 rfl rfl ?_
        refine own_aload X 226 (.ref b62) at_224 rfl rfl rfl ?_
        refine own_iconst X 227 (0 : Int32) at_226 rfl rfl ?_
        refine own_callV X 230 [(.int (0 : Int32))] [] at_227 rfl (hw _ (List.mem_of_getElem? (i := 40) rfl)) (hw _ (List.mem_of_getElem? (i := 41) rfl)) (own_nf X.2.2.2.2.1 (hw _ (List.mem_of_getElem? (i := 43) rfl))) (hw _ (List.mem_of_getElem? (i := 43) rfl)) (hw _ (List.mem_of_getElem? (i := 42) rfl)) (hw _ (List.mem_of_getElem? (i := 3) rfl)) (hw _ (List.mem_of_getElem? (i := 44) rfl)) (by decide) A_b62 (own_mcount l Z a0 hw b62 (0 : Int32) b56 kc_b56 (own_arc (4 : Int32) (Int32.ofNat i.val)) h63 n0 X.sz F_bytes_b62 A_b62 A_b56 rfl ⟨⟨4, by decide⟩, own_arc_kind_4 i⟩) (fun _ _ q => Nat.le_of_eq (congrArg Array.size q.1.symm)) rfl own_pd0 rfl rfl rfl (by decide) (Nat.le_of_ble_eq_true rfl) (by decide) (by decide) ?_
        rintro v227 T h_ X ⟨eh_, rfl⟩
        rw [eh_] at X
        show own_Ends p e below _ (T.setTop (mkF m 230 #[.val (.int pa), .val (.int pb), .val (.int pc), .val (.int (Int32.ofNat i.val)), .val (.int (1 : Int32)), .val (.int (1 : Int32)), .val (.int (0 : Int32)), .val (.int (own_arc (4 : Int32) (Int32.ofNat i.val))), .val (.ref b56), .val (.ref b62), .val (.int (1 : Int32)), .val (.int (1 : Int32)), .val (.int (-1 : Int32)), .val (.int (1 : Int32)), .val (.int (1 : Int32)), .val (.int ((0 : Int32) + (1 : Int32))), .unset] [(.int (own_count (own_kind (own_arc (4 : Int32) (Int32.ofNat i.val)))))]))
        rw [own_arc_kind_4 i]
        rw [show own_count (4 : Int32) = (1 : Int32) from by decide]
        refine own_iload X 232 ((0 : Int32) + (1 : Int32)) at_230 rfl rfl ?_
        refine own_icN X 235 at_232 rfl (XT.ii_ne_f (by decide)) ?_
        refine own_iconst X 236 (1 : Int32) at_235 rfl rfl ?_
        refine own_goto X 240 at_236 (by decide) (by decide) ?_
        refine own_istore X 242 #[.val (.int pa), .val (.int pb), .val (.int pc), .val (.int (Int32.ofNat i.val)), .val (.int (1 : Int32)), .val (.int (1 : Int32)), .val (.int (0 : Int32)), .val (.int (own_arc (4 : Int32) (Int32.ofNat i.val))), .val (.ref b56), .val (.ref b62), .val (.int (1 : Int32)), .val (.int (1 : Int32)), .val (.int (-1 : Int32)), .val (.int (1 : Int32)), .val (.int (1 : Int32)), .val (.int ((0 : Int32) + (1 : Int32))), .val (.int (1 : Int32))] at_240 rfl rfl ?_
        refine own_iload X 244 (1 : Int32) at_242 rfl rfl ?_
        refine own_ifN X 247 at_244 rfl (XT.i0_eq_f (by decide)) ?_
        refine own_iload X 249 (1 : Int32) at_247 rfl rfl ?_
        refine own_ifN X 252 at_249 rfl (XT.i0_eq_f (by decide)) ?_
        refine own_iload X 254 (1 : Int32) at_252 rfl rfl ?_
        refine own_ifN X 257 at_254 rfl (XT.i0_eq_f (by decide)) ?_
        refine own_iload X 259 (1 : Int32) at_257 rfl rfl ?_
        refine own_ifN X 262 at_259 rfl (XT.i0_eq_f (by decide)) ?_
        refine own_iconst X 263 (1 : Int32) at_262 rfl rfl ?_
        refine own_goto X 267 at_263 (by decide) (by decide) ?_
        exact own_retN X .boolean at_267 rfl (by simp) (by decide) (by decide) (by decide)
      · refine own_ifN X 35 at_32 rfl (XT.i0_eq_f hc32) ?_
        refine own_iconst X 36 (1 : Int32) at_35 rfl rfl ?_
        refine own_goto X 40 at_36 (by decide) (by decide) ?_
        refine own_istore X 42 #[.val (.int pa), .val (.int pb), .val (.int pc), .val (.int (Int32.ofNat i.val)), .val (.int (1 : Int32)), .val (.int (1 : Int32)), .val (.int (1 : Int32)), .unset, .unset, .unset, .unset, .unset, .unset, .unset, .unset, .unset, .unset] at_40 rfl rfl ?_
        refine own_iload X 44 (1 : Int32) at_42 rfl rfl ?_
        refine own_iconst X 45 (1 : Int32) at_44 rfl rfl ?_
        refine own_icN X 48 at_45 rfl (XT.ii_ne_f (by decide)) ?_
        refine own_iconst X 49 (1 : Int32) at_48 rfl rfl ?_
        refine own_istore X 51 #[.val (.int pa), .val (.int pb), .val (.int pc), .val (.int (Int32.ofNat i.val)), .val (.int (1 : Int32)), .val (.int (1 : Int32)), .val (.int (1 : Int32)), .unset, .unset, .unset, .unset, .unset, .unset, .unset, .unset, .unset, .unset] at_49 rfl rfl ?_
        refine own_iload X 53 (1 : Int32) at_51 rfl rfl ?_
        refine own_ifY X 59 at_53 (by decide) (by decide) (XT.i0_ne_t (by decide)) ?_
        refine own_iloadN X 60 (Int32.ofNat i.val) at_59 rfl rfl ?_
        refine own_iload X 62 (1 : Int32) at_60 rfl rfl ?_
        refine own_iload X 64 (1 : Int32) at_62 rfl rfl ?_
        refine own_iload X 66 (1 : Int32) at_64 rfl rfl ?_
        refine own_callS X 69 [(.int (Int32.ofNat i.val)), (.int (1 : Int32)), (.int (1 : Int32)), (.int (1 : Int32))] [] at_66 rfl (hw _ (List.mem_of_getElem? (i := 1) rfl)) (hw _ (List.mem_of_getElem? (i := 2) rfl)) (hw _ (List.mem_of_getElem? (i := 3) rfl)) (hw _ (List.mem_of_getElem? (i := 4) rfl)) (by decide) (own_marc l Z a0 hw (Int32.ofNat i.val) (1 : Int32) (1 : Int32) (1 : Int32) av kc 7 (5 : Int32) h0 n0 X.sz OL z_s z_A (by decide) (by decide) rfl) (fun _ _ q => Nat.le_of_eq (congrArg Array.size q.1.symm)) rfl own_pd3 rfl rfl rfl (by decide) (Nat.le_of_ble_eq_true rfl) (by decide) (by decide) ?_
        rintro v66 T h_ X ⟨eh_, rfl⟩
        rw [eh_] at X
        show own_Ends p e below _ (T.setTop (mkF m 69 #[.val (.int pa), .val (.int pb), .val (.int pc), .val (.int (Int32.ofNat i.val)), .val (.int (1 : Int32)), .val (.int (1 : Int32)), .val (.int (1 : Int32)), .unset, .unset, .unset, .unset, .unset, .unset, .unset, .unset, .unset, .unset] [(.int (own_arc (5 : Int32) (Int32.ofNat i.val)))]))
        refine own_istore X 71 #[.val (.int pa), .val (.int pb), .val (.int pc), .val (.int (Int32.ofNat i.val)), .val (.int (1 : Int32)), .val (.int (1 : Int32)), .val (.int (1 : Int32)), .val (.int (own_arc (5 : Int32) (Int32.ofNat i.val))), .unset, .unset, .unset, .unset, .unset, .unset, .unset, .unset, .unset] at_69 rfl rfl ?_
        refine own_iconst X 72 (4 : Int32) at_71 rfl rfl ?_
        refine own_newP X 74 4 4 at_72 rfl (hw _ (List.mem_of_getElem? (i := 7) rfl)) (by decide) (by decide) (by decide) (by decide) (by decide) (by decide) ?_
        intro T h64 b65 kc_b65 g_b65 X E_h64 A_b65
        have zs_h64 : h0.size ≤ h64.size := E_h64.1
        have OL := OL.ext E_h64
        have lo_b65 : h0.size ≤ b65 := Nat.le_of_eq g_b65.symm
        have hi_b65 : h64.size > b65 := A_b65.lt
        have A_b65 : own_A Z h64 b65 kc_b65 .byte [(.int (0 : Int32)), (.int (0 : Int32)), (.int (0 : Int32)), (.int (0 : Int32))] := A_b65
        refine own_dup X 75 at_74 rfl rfl ?_
        refine own_iconst X 76 (0 : Int32) at_75 rfl rfl ?_
        refine own_iload X 78 (own_arc (5 : Int32) (Int32.ofNat i.val)) at_76 rfl rfl ?_
        refine own_bastore X 79 0 at_78 rfl A_b65 (by decide) (by decide) (Nat.le_of_ble_eq_true rfl) (by omega) ?_
        intro T h66 X W_h66
        have nw_h66 : own_A Z h66 b65 kc_b65 .byte [(.int (nar .byte (own_arc (5 : Int32) (Int32.ofNat i.val)))), (.int (0 : Int32)), (.int (0 : Int32)), (.int (0 : Int32))] := A_b65.same W_h66 (fits_nar_byte _)
        have zs_h66 : h64.size ≤ h66.size := (Nat.le_of_eq W_h66.size.symm)
        have OL := OL.wr W_h66 (by omega)
        have A_b65 := nw_h66
        refine own_dup X 80 at_79 rfl rfl ?_
        refine own_iconst X 81 (1 : Int32) at_80 rfl rfl ?_
        refine own_iconst X 82 (2 : Int32) at_81 rfl rfl ?_
        refine own_bastore X 83 1 at_82 rfl A_b65 (by decide) (by decide) (Nat.le_of_ble_eq_true rfl) (by omega) ?_
        intro T h67 X W_h67
        have nw_h67 : own_A Z h67 b65 kc_b65 .byte [(.int (nar .byte (own_arc (5 : Int32) (Int32.ofNat i.val)))), (.int (nar .byte (2 : Int32))), (.int (0 : Int32)), (.int (0 : Int32))] := A_b65.same W_h67 (fits_nar_byte _)
        have zs_h67 : h66.size ≤ h67.size := (Nat.le_of_eq W_h67.size.symm)
        have OL := OL.wr W_h67 (by omega)
        have A_b65 := nw_h67
        refine own_dup X 84 at_83 rfl rfl ?_
        refine own_iconst X 85 (2 : Int32) at_84 rfl rfl ?_
        refine own_iconst X 86 (0 : Int32) at_85 rfl rfl ?_
        refine own_bastore X 87 2 at_86 rfl A_b65 (by decide) (by decide) (Nat.le_of_ble_eq_true rfl) (by omega) ?_
        intro T h68 X W_h68
        have nw_h68 : own_A Z h68 b65 kc_b65 .byte [(.int (nar .byte (own_arc (5 : Int32) (Int32.ofNat i.val)))), (.int (nar .byte (2 : Int32))), (.int (nar .byte (0 : Int32))), (.int (0 : Int32))] := A_b65.same W_h68 (fits_nar_byte _)
        have zs_h68 : h67.size ≤ h68.size := (Nat.le_of_eq W_h68.size.symm)
        have OL := OL.wr W_h68 (by omega)
        have A_b65 := nw_h68
        refine own_dup X 88 at_87 rfl rfl ?_
        refine own_iconst X 89 (3 : Int32) at_88 rfl rfl ?_
        refine own_bipush X 91 (10 : Int32) at_89 rfl (by decide) ?_
        refine own_bastore X 92 3 at_91 rfl A_b65 (by decide) (by decide) (Nat.le_of_ble_eq_true rfl) (by omega) ?_
        intro T h69 X W_h69
        have nw_h69 : own_A Z h69 b65 kc_b65 .byte [(.int (nar .byte (own_arc (5 : Int32) (Int32.ofNat i.val)))), (.int (nar .byte (2 : Int32))), (.int (nar .byte (0 : Int32))), (.int (nar .byte (10 : Int32)))] := A_b65.same W_h69 (fits_nar_byte _)
        have zs_h69 : h68.size ≤ h69.size := (Nat.le_of_eq W_h69.size.symm)
        have OL := OL.wr W_h69 (by omega)
        have A_b65 := nw_h69
        have A_b65 : own_A Z h69 b65 kc_b65 .byte [(.int (own_arc (5 : Int32) (Int32.ofNat i.val))), (.int 2), (.int 0), (.int 10)] := by have q := own_narb ((((5 : Int32) <<< (5 &&& 31)) ||| (Int32.ofNat i.val))); simpa only [own_arc, q, show nar .byte (2 : Int32) = 2 from by decide, show nar .byte (0 : Int32) = 0 from by decide, show nar .byte (10 : Int32) = 10 from by decide] using A_b65
        refine own_astore X 94 #[.val (.int pa), .val (.int pb), .val (.int pc), .val (.int (Int32.ofNat i.val)), .val (.int (1 : Int32)), .val (.int (1 : Int32)), .val (.int (1 : Int32)), .val (.int (own_arc (5 : Int32) (Int32.ofNat i.val))), .val (.ref b65), .unset, .unset, .unset, .unset, .unset, .unset, .unset, .unset] at_92 rfl rfl rfl ?_
        refine own_new X 97 at_94 rfl (hw _ (List.mem_of_getElem? (i := 8) rfl)) (hw _ (List.mem_of_getElem? (i := 9) rfl)) (hw _ (List.mem_of_getElem? (i := 3) rfl)) (by decide) (by decide) ?_
        intro T h70 b71 g_b71 X E_h70 A_b71 D_b71
        have zs_h70 : h69.size ≤ h70.size := E_h70.1
        have OL := OL.ext E_h70
        have A_b65 := A_b65.ext E_h70
        have lo_b71 : h69.size ≤ b71 := Nat.le_of_eq g_b71.symm
        have hi_b71 : h70.size > b71 := A_b71.lt
        have F_bytes_b71 : Fld Z h70 b71 "com/example/radix26/radix26/internal/trie/FrozenNodes" "bytes" "[B" .null := D_b71 (Or.inr (hw _ (List.mem_of_getElem? (i := 17) rfl))) (ty := (.array .byte)) (by decide)
        refine own_dup X 98 at_97 rfl rfl ?_
        refine own_aload X 100 (.ref b65) at_98 rfl rfl rfl ?_
        refine own_init X 103 [(.ref b65)] [(.ref b71)] at_100 rfl (hw _ (List.mem_of_getElem? (i := 10) rfl)) (hw _ (List.mem_of_getElem? (i := 11) rfl)) (hw _ (List.mem_of_getElem? (i := 3) rfl)) (hw _ (List.mem_of_getElem? (i := 12) rfl)) (by decide) rfl (own_mini l Z a0 hw b71 b65 h70 n0 X.sz F_bytes_b71 A_b71 (by omega)) (fun _ _ q => q.1.1) rfl own_pd4 rfl rfl rfl (by decide) (Nat.le_of_ble_eq_true rfl) (by decide) (by decide) ?_
        rintro v100 T h72 X ⟨K_, rfl, Fi_⟩
        have zs_h72 : h70.size ≤ h72.size := K_.1
        have OL := OL.keep K_ (allS (by omega) all0)
        have A_b65 := A_b65.keep K_ (ninS (by show @Ne Nat _ _; omega) nin0)
        have A_b71 := A_b71.keep K_
        have F_bytes_b71 := Fi_
        show own_Ends p e below _ (T.setTop (mkF m 103 #[.val (.int pa), .val (.int pb), .val (.int pc), .val (.int (Int32.ofNat i.val)), .val (.int (1 : Int32)), .val (.int (1 : Int32)), .val (.int (1 : Int32)), .val (.int (own_arc (5 : Int32) (Int32.ofNat i.val))), .val (.ref b65), .unset, .unset, .unset, .unset, .unset, .unset, .unset, .unset] [(.ref b71)]))
        refine own_astore X 105 #[.val (.int pa), .val (.int pb), .val (.int pc), .val (.int (Int32.ofNat i.val)), .val (.int (1 : Int32)), .val (.int (1 : Int32)), .val (.int (1 : Int32)), .val (.int (own_arc (5 : Int32) (Int32.ofNat i.val))), .val (.ref b65), .val (.ref b71), .unset, .unset, .unset, .unset, .unset, .unset, .unset] at_103 rfl rfl rfl ?_
        refine own_aload X 107 (.ref b71) at_105 rfl rfl rfl ?_
        refine own_iconst X 108 (0 : Int32) at_107 rfl rfl ?_
        refine own_callV X 111 [(.int (0 : Int32))] [] at_108 rfl (hw _ (List.mem_of_getElem? (i := 18) rfl)) (hw _ (List.mem_of_getElem? (i := 19) rfl)) (own_nf X.2.2.2.2.1 (hw _ (List.mem_of_getElem? (i := 21) rfl))) (hw _ (List.mem_of_getElem? (i := 21) rfl)) (hw _ (List.mem_of_getElem? (i := 20) rfl)) (hw _ (List.mem_of_getElem? (i := 3) rfl)) (hw _ (List.mem_of_getElem? (i := 22) rfl)) (by decide) A_b71 (own_mindex l Z a0 hw b71 (0 : Int32) b65 kc_b65 (own_arc (5 : Int32) (Int32.ofNat i.val)) h72 n0 X.sz F_bytes_b71 A_b71 A_b65 rfl) (fun _ _ q => Nat.le_of_eq (congrArg Array.size q.1.symm)) rfl own_pd0 rfl rfl rfl (by decide) (Nat.le_of_ble_eq_true rfl) (by decide) (by decide) ?_
        rintro v108 T h_ X ⟨eh_, rfl⟩
        rw [eh_] at X
        show own_Ends p e below _ (T.setTop (mkF m 111 #[.val (.int pa), .val (.int pb), .val (.int pc), .val (.int (Int32.ofNat i.val)), .val (.int (1 : Int32)), .val (.int (1 : Int32)), .val (.int (1 : Int32)), .val (.int (own_arc (5 : Int32) (Int32.ofNat i.val))), .val (.ref b65), .val (.ref b71), .unset, .unset, .unset, .unset, .unset, .unset, .unset] [(.int ((own_arc (5 : Int32) (Int32.ofNat i.val)) &&& 31))]))
        rw [own_arc_ix_5 i]
        refine own_iloadN X 112 (Int32.ofNat i.val) at_111 rfl rfl ?_
        refine own_icN X 115 at_112 rfl (XT.ii_ne_f rfl) ?_
        refine own_iconst X 116 (1 : Int32) at_115 rfl rfl ?_
        refine own_goto X 120 at_116 (by decide) (by decide) ?_
        refine own_istore X 122 #[.val (.int pa), .val (.int pb), .val (.int pc), .val (.int (Int32.ofNat i.val)), .val (.int (1 : Int32)), .val (.int (1 : Int32)), .val (.int (1 : Int32)), .val (.int (own_arc (5 : Int32) (Int32.ofNat i.val))), .val (.ref b65), .val (.ref b71), .val (.int (1 : Int32)), .unset, .unset, .unset, .unset, .unset, .unset] at_120 rfl rfl ?_
        refine own_aload X 124 (.ref b71) at_122 rfl rfl rfl ?_
        refine own_iconst X 125 (0 : Int32) at_124 rfl rfl ?_
        refine own_callV X 128 [(.int (0 : Int32))] [] at_125 rfl (hw _ (List.mem_of_getElem? (i := 23) rfl)) (hw _ (List.mem_of_getElem? (i := 24) rfl)) (own_nf X.2.2.2.2.1 (hw _ (List.mem_of_getElem? (i := 26) rfl))) (hw _ (List.mem_of_getElem? (i := 26) rfl)) (hw _ (List.mem_of_getElem? (i := 25) rfl)) (hw _ (List.mem_of_getElem? (i := 3) rfl)) (hw _ (List.mem_of_getElem? (i := 27) rfl)) (by decide) A_b71 (own_misw l Z a0 hw b71 (0 : Int32) b65 kc_b65 (own_arc (5 : Int32) (Int32.ofNat i.val)) h72 n0 X.sz F_bytes_b71 A_b71 A_b65 rfl) (fun _ _ q => Nat.le_of_eq (congrArg Array.size q.1.symm)) rfl own_pd2 rfl rfl rfl (by decide) (Nat.le_of_ble_eq_true rfl) (by decide) (by decide) ?_
        rintro v125 T h_ X ⟨eh_, rfl⟩
        rw [eh_] at X
        show own_Ends p e below _ (T.setTop (mkF m 128 #[.val (.int pa), .val (.int pb), .val (.int pc), .val (.int (Int32.ofNat i.val)), .val (.int (1 : Int32)), .val (.int (1 : Int32)), .val (.int (1 : Int32)), .val (.int (own_arc (5 : Int32) (Int32.ofNat i.val))), .val (.ref b65), .val (.ref b71), .val (.int (1 : Int32)), .unset, .unset, .unset, .unset, .unset, .unset] [(.int (own_is 173 (own_kind (own_arc (5 : Int32) (Int32.ofNat i.val)))))]))
        rw [own_arc_kind_5 i]
        rw [show own_is 173 (5 : Int32) = (1 : Int32) from by decide]
        refine own_iload X 130 (1 : Int32) at_128 rfl rfl ?_
        refine own_icN X 133 at_130 rfl (XT.ii_ne_f (by decide)) ?_
        refine own_iconst X 134 (1 : Int32) at_133 rfl rfl ?_
        refine own_goto X 138 at_134 (by decide) (by decide) ?_
        refine own_istore X 140 #[.val (.int pa), .val (.int pb), .val (.int pc), .val (.int (Int32.ofNat i.val)), .val (.int (1 : Int32)), .val (.int (1 : Int32)), .val (.int (1 : Int32)), .val (.int (own_arc (5 : Int32) (Int32.ofNat i.val))), .val (.ref b65), .val (.ref b71), .val (.int (1 : Int32)), .val (.int (1 : Int32)), .unset, .unset, .unset, .unset, .unset] at_138 rfl rfl ?_
        refine own_iload X 142 (1 : Int32) at_140 rfl rfl ?_
        refine own_ifN X 145 at_142 rfl (XT.i0_eq_f (by decide)) ?_
        refine own_iconst X 146 (-1 : Int32) at_145 rfl rfl ?_
        refine own_istore X 148 #[.val (.int pa), .val (.int pb), .val (.int pc), .val (.int (Int32.ofNat i.val)), .val (.int (1 : Int32)), .val (.int (1 : Int32)), .val (.int (1 : Int32)), .val (.int (own_arc (5 : Int32) (Int32.ofNat i.val))), .val (.ref b65), .val (.ref b71), .val (.int (1 : Int32)), .val (.int (1 : Int32)), .val (.int (-1 : Int32)), .unset, .unset, .unset, .unset] at_146 rfl rfl ?_
        refine own_goto X 165 at_148 (by decide) (by decide) ?_
        refine own_aload X 167 (.ref b71) at_165 rfl rfl rfl ?_
        refine own_iconst X 168 (0 : Int32) at_167 rfl rfl ?_
        refine own_callV X 171 [(.int (0 : Int32))] [] at_168 rfl (hw _ (List.mem_of_getElem? (i := 35) rfl)) (hw _ (List.mem_of_getElem? (i := 36) rfl)) (own_nf X.2.2.2.2.1 (hw _ (List.mem_of_getElem? (i := 38) rfl))) (hw _ (List.mem_of_getElem? (i := 38) rfl)) (hw _ (List.mem_of_getElem? (i := 37) rfl)) (hw _ (List.mem_of_getElem? (i := 3) rfl)) (hw _ (List.mem_of_getElem? (i := 39) rfl)) (by decide) A_b71 (own_mns l Z a0 hw b71 (0 : Int32) b65 kc_b65 (own_arc (5 : Int32) (Int32.ofNat i.val)) h72 n0 X.sz F_bytes_b71 A_b71 A_b65 rfl) (fun _ _ q => Nat.le_of_eq (congrArg Array.size q.1.symm)) rfl own_pd0 rfl rfl rfl (by decide) (Nat.le_of_ble_eq_true rfl) (by decide) (by decide) ?_
        rintro v168 T h_ X ⟨eh_, rfl⟩
        rw [eh_] at X
        show own_Ends p e below _ (T.setTop (mkF m 171 #[.val (.int pa), .val (.int pb), .val (.int pc), .val (.int (Int32.ofNat i.val)), .val (.int (1 : Int32)), .val (.int (1 : Int32)), .val (.int (1 : Int32)), .val (.int (own_arc (5 : Int32) (Int32.ofNat i.val))), .val (.ref b65), .val (.ref b71), .val (.int (1 : Int32)), .val (.int (1 : Int32)), .val (.int (-1 : Int32)), .unset, .unset, .unset, .unset] [(.int (own_ns (own_kind (own_arc (5 : Int32) (Int32.ofNat i.val)))))]))
        rw [own_arc_kind_5 i]
        rw [show own_ns (5 : Int32) = (-1 : Int32) from by decide]
        refine own_iload X 173 (-1 : Int32) at_171 rfl rfl ?_
        refine own_icN X 176 at_173 rfl (XT.ii_ne_f (by decide)) ?_
        refine own_iconst X 177 (1 : Int32) at_176 rfl rfl ?_
        refine own_goto X 181 at_177 (by decide) (by decide) ?_
        refine own_istore X 183 #[.val (.int pa), .val (.int pb), .val (.int pc), .val (.int (Int32.ofNat i.val)), .val (.int (1 : Int32)), .val (.int (1 : Int32)), .val (.int (1 : Int32)), .val (.int (own_arc (5 : Int32) (Int32.ofNat i.val))), .val (.ref b65), .val (.ref b71), .val (.int (1 : Int32)), .val (.int (1 : Int32)), .val (.int (-1 : Int32)), .val (.int (1 : Int32)), .unset, .unset, .unset] at_181 rfl rfl ?_
        refine own_iload X 185 (1 : Int32) at_183 rfl rfl ?_
        refine own_ifY X 194 at_185 (by decide) (by decide) (XT.i0_ne_t (by decide)) ?_
        refine own_iload X 196 (1 : Int32) at_194 rfl rfl ?_
        refine own_iconst X 197 (1 : Int32) at_196 rfl rfl ?_
        refine own_icN X 200 at_197 rfl (XT.ii_ne_f (by decide)) ?_
        refine own_iconst X 201 (1 : Int32) at_200 rfl rfl ?_
        refine own_istore X 203 #[.val (.int pa), .val (.int pb), .val (.int pc), .val (.int (Int32.ofNat i.val)), .val (.int (1 : Int32)), .val (.int (1 : Int32)), .val (.int (1 : Int32)), .val (.int (own_arc (5 : Int32) (Int32.ofNat i.val))), .val (.ref b65), .val (.ref b71), .val (.int (1 : Int32)), .val (.int (1 : Int32)), .val (.int (-1 : Int32)), .val (.int (1 : Int32)), .val (.int (1 : Int32)), .unset, .unset] at_201 rfl rfl ?_
        refine own_goto X 209 at_203 (by decide) (by decide) ?_
        refine own_iload X 211 (1 : Int32) at_209 rfl rfl ?_
        refine own_ifN X 214 at_211 rfl (XT.i0_eq_f (by decide)) ?_
        refine own_iconst X 215 (1 : Int32) at_214 rfl rfl ?_
        refine own_goto X 219 at_215 (by decide) (by decide) ?_
        refine own_iload X 221 (1 : Int32) at_219 rfl rfl ?_
        refine own_iadd X 222 at_221 rfl ?_
        refine own_istore X 224 #[.val (.int pa), .val (.int pb), .val (.int pc), .val (.int (Int32.ofNat i.val)), .val (.int (1 : Int32)), .val (.int (1 : Int32)), .val (.int (1 : Int32)), .val (.int (own_arc (5 : Int32) (Int32.ofNat i.val))), .val (.ref b65), .val (.ref b71), .val (.int (1 : Int32)), .val (.int (1 : Int32)), .val (.int (-1 : Int32)), .val (.int (1 : Int32)), .val (.int (1 : Int32)), .val (.int ((1 : Int32) + (1 : Int32))), .unset] at_222 rfl rfl ?_
        refine own_aload X 226 (.ref b71) at_224 rfl rfl rfl ?_
        refine own_iconst X 227 (0 : Int32) at_226 rfl rfl ?_
        refine own_callV X 230 [(.int (0 : Int32))] [] at_227 rfl (hw _ (List.mem_of_getElem? (i := 40) rfl)) (hw _ (List.mem_of_getElem? (i := 41) rfl)) (own_nf X.2.2.2.2.1 (hw _ (List.mem_of_getElem? (i := 43) rfl))) (hw _ (List.mem_of_getElem? (i := 43) rfl)) (hw _ (List.mem_of_getElem? (i := 42) rfl)) (hw _ (List.mem_of_getElem? (i := 3) rfl)) (hw _ (List.mem_of_getElem? (i := 44) rfl)) (by decide) A_b71 (own_mcount l Z a0 hw b71 (0 : Int32) b65 kc_b65 (own_arc (5 : Int32) (Int32.ofNat i.val)) h72 n0 X.sz F_bytes_b71 A_b71 A_b65 rfl ⟨⟨5, by decide⟩, own_arc_kind_5 i⟩) (fun _ _ q => Nat.le_of_eq (congrArg Array.size q.1.symm)) rfl own_pd0 rfl rfl rfl (by decide) (Nat.le_of_ble_eq_true rfl) (by decide) (by decide) ?_
        rintro v227 T h_ X ⟨eh_, rfl⟩
        rw [eh_] at X
        show own_Ends p e below _ (T.setTop (mkF m 230 #[.val (.int pa), .val (.int pb), .val (.int pc), .val (.int (Int32.ofNat i.val)), .val (.int (1 : Int32)), .val (.int (1 : Int32)), .val (.int (1 : Int32)), .val (.int (own_arc (5 : Int32) (Int32.ofNat i.val))), .val (.ref b65), .val (.ref b71), .val (.int (1 : Int32)), .val (.int (1 : Int32)), .val (.int (-1 : Int32)), .val (.int (1 : Int32)), .val (.int (1 : Int32)), .val (.int ((1 : Int32) + (1 : Int32))), .unset] [(.int (own_count (own_kind (own_arc (5 : Int32) (Int32.ofNat i.val)))))]))
        rw [own_arc_kind_5 i]
        rw [show own_count (5 : Int32) = (2 : Int32) from by decide]
        refine own_iload X 232 ((1 : Int32) + (1 : Int32)) at_230 rfl rfl ?_
        refine own_icN X 235 at_232 rfl (XT.ii_ne_f (by decide)) ?_
        refine own_iconst X 236 (1 : Int32) at_235 rfl rfl ?_
        refine own_goto X 240 at_236 (by decide) (by decide) ?_
        refine own_istore X 242 #[.val (.int pa), .val (.int pb), .val (.int pc), .val (.int (Int32.ofNat i.val)), .val (.int (1 : Int32)), .val (.int (1 : Int32)), .val (.int (1 : Int32)), .val (.int (own_arc (5 : Int32) (Int32.ofNat i.val))), .val (.ref b65), .val (.ref b71), .val (.int (1 : Int32)), .val (.int (1 : Int32)), .val (.int (-1 : Int32)), .val (.int (1 : Int32)), .val (.int (1 : Int32)), .val (.int ((1 : Int32) + (1 : Int32))), .val (.int (1 : Int32))] at_240 rfl rfl ?_
        refine own_iload X 244 (1 : Int32) at_242 rfl rfl ?_
        refine own_ifN X 247 at_244 rfl (XT.i0_eq_f (by decide)) ?_
        refine own_iload X 249 (1 : Int32) at_247 rfl rfl ?_
        refine own_ifN X 252 at_249 rfl (XT.i0_eq_f (by decide)) ?_
        refine own_iload X 254 (1 : Int32) at_252 rfl rfl ?_
        refine own_ifN X 257 at_254 rfl (XT.i0_eq_f (by decide)) ?_
        refine own_iload X 259 (1 : Int32) at_257 rfl rfl ?_
        refine own_ifN X 262 at_259 rfl (XT.i0_eq_f (by decide)) ?_
        refine own_iconst X 263 (1 : Int32) at_262 rfl rfl ?_
        refine own_goto X 267 at_263 (by decide) (by decide) ?_
        exact own_retN X .boolean at_267 rfl (by simp) (by decide) (by decide) (by decide)
  · rw [hwh]
    refine own_iloadN X 17 pc at_16 rfl rfl ?_
    refine own_iconst X 18 (1 : Int32) at_17 rfl rfl ?_
    refine own_iand X 19 at_18 rfl ?_
    by_cases hc19 : (pc &&& (1 : Int32)) = (0 : Int32)
    · refine own_ifY X 26 at_19 (by decide) (by decide) (XT.i0_eq_t hc19) ?_
      refine own_iconst X 27 (0 : Int32) at_26 rfl rfl ?_
      refine own_istore X 29 #[.val (.int pa), .val (.int pb), .val (.int pc), .val (.int (Int32.ofNat i.val)), .val (.int (2 : Int32)), .val (.int (0 : Int32)), .unset, .unset, .unset, .unset, .unset, .unset, .unset, .unset, .unset, .unset, .unset] at_27 rfl rfl ?_
      refine own_iloadN X 30 pc at_29 rfl rfl ?_
      refine own_iconst X 31 (2 : Int32) at_30 rfl rfl ?_
      refine own_iand X 32 at_31 rfl ?_
      by_cases hc32 : (pc &&& (2 : Int32)) = (0 : Int32)
      · refine own_ifY X 39 at_32 (by decide) (by decide) (XT.i0_eq_t hc32) ?_
        refine own_iconst X 40 (0 : Int32) at_39 rfl rfl ?_
        refine own_istore X 42 #[.val (.int pa), .val (.int pb), .val (.int pc), .val (.int (Int32.ofNat i.val)), .val (.int (2 : Int32)), .val (.int (0 : Int32)), .val (.int (0 : Int32)), .unset, .unset, .unset, .unset, .unset, .unset, .unset, .unset, .unset, .unset] at_40 rfl rfl ?_
        refine own_iload X 44 (2 : Int32) at_42 rfl rfl ?_
        refine own_iconst X 45 (1 : Int32) at_44 rfl rfl ?_
        refine own_icY X 51 at_45 (by decide) (by decide) (XT.ii_ne_t (by decide)) ?_
        refine own_iload X 53 (2 : Int32) at_51 rfl rfl ?_
        refine own_ifY X 59 at_53 (by decide) (by decide) (XT.i0_ne_t (by decide)) ?_
        refine own_iloadN X 60 (Int32.ofNat i.val) at_59 rfl rfl ?_
        refine own_iload X 62 (2 : Int32) at_60 rfl rfl ?_
        refine own_iload X 64 (0 : Int32) at_62 rfl rfl ?_
        refine own_iload X 66 (0 : Int32) at_64 rfl rfl ?_
        refine own_callS X 69 [(.int (Int32.ofNat i.val)), (.int (2 : Int32)), (.int (0 : Int32)), (.int (0 : Int32))] [] at_66 rfl (hw _ (List.mem_of_getElem? (i := 1) rfl)) (hw _ (List.mem_of_getElem? (i := 2) rfl)) (hw _ (List.mem_of_getElem? (i := 3) rfl)) (hw _ (List.mem_of_getElem? (i := 4) rfl)) (by decide) (own_marc l Z a0 hw (Int32.ofNat i.val) (2 : Int32) (0 : Int32) (0 : Int32) av kc 8 (1 : Int32) h0 n0 X.sz OL z_s z_A (by decide) (by decide) rfl) (fun _ _ q => Nat.le_of_eq (congrArg Array.size q.1.symm)) rfl own_pd3 rfl rfl rfl (by decide) (Nat.le_of_ble_eq_true rfl) (by decide) (by decide) ?_
        rintro v66 T h_ X ⟨eh_, rfl⟩
        rw [eh_] at X
        show own_Ends p e below _ (T.setTop (mkF m 69 #[.val (.int pa), .val (.int pb), .val (.int pc), .val (.int (Int32.ofNat i.val)), .val (.int (2 : Int32)), .val (.int (0 : Int32)), .val (.int (0 : Int32)), .unset, .unset, .unset, .unset, .unset, .unset, .unset, .unset, .unset, .unset] [(.int (own_arc (1 : Int32) (Int32.ofNat i.val)))]))
        refine own_istore X 71 #[.val (.int pa), .val (.int pb), .val (.int pc), .val (.int (Int32.ofNat i.val)), .val (.int (2 : Int32)), .val (.int (0 : Int32)), .val (.int (0 : Int32)), .val (.int (own_arc (1 : Int32) (Int32.ofNat i.val))), .unset, .unset, .unset, .unset, .unset, .unset, .unset, .unset, .unset] at_69 rfl rfl ?_
        refine own_iconst X 72 (4 : Int32) at_71 rfl rfl ?_
        refine own_newP X 74 4 4 at_72 rfl (hw _ (List.mem_of_getElem? (i := 7) rfl)) (by decide) (by decide) (by decide) (by decide) (by decide) (by decide) ?_
        intro T h73 b74 kc_b74 g_b74 X E_h73 A_b74
        have zs_h73 : h0.size ≤ h73.size := E_h73.1
        have OL := OL.ext E_h73
        have lo_b74 : h0.size ≤ b74 := Nat.le_of_eq g_b74.symm
        have hi_b74 : h73.size > b74 := A_b74.lt
        have A_b74 : own_A Z h73 b74 kc_b74 .byte [(.int (0 : Int32)), (.int (0 : Int32)), (.int (0 : Int32)), (.int (0 : Int32))] := A_b74
        refine own_dup X 75 at_74 rfl rfl ?_
        refine own_iconst X 76 (0 : Int32) at_75 rfl rfl ?_
        refine own_iload X 78 (own_arc (1 : Int32) (Int32.ofNat i.val)) at_76 rfl rfl ?_
        refine own_bastore X 79 0 at_78 rfl A_b74 (by decide) (by decide) (Nat.le_of_ble_eq_true rfl) (by omega) ?_
        intro T h75 X W_h75
        have nw_h75 : own_A Z h75 b74 kc_b74 .byte [(.int (nar .byte (own_arc (1 : Int32) (Int32.ofNat i.val)))), (.int (0 : Int32)), (.int (0 : Int32)), (.int (0 : Int32))] := A_b74.same W_h75 (fits_nar_byte _)
        have zs_h75 : h73.size ≤ h75.size := (Nat.le_of_eq W_h75.size.symm)
        have OL := OL.wr W_h75 (by omega)
        have A_b74 := nw_h75
        refine own_dup X 80 at_79 rfl rfl ?_
        refine own_iconst X 81 (1 : Int32) at_80 rfl rfl ?_
        refine own_iconst X 82 (2 : Int32) at_81 rfl rfl ?_
        refine own_bastore X 83 1 at_82 rfl A_b74 (by decide) (by decide) (Nat.le_of_ble_eq_true rfl) (by omega) ?_
        intro T h76 X W_h76
        have nw_h76 : own_A Z h76 b74 kc_b74 .byte [(.int (nar .byte (own_arc (1 : Int32) (Int32.ofNat i.val)))), (.int (nar .byte (2 : Int32))), (.int (0 : Int32)), (.int (0 : Int32))] := A_b74.same W_h76 (fits_nar_byte _)
        have zs_h76 : h75.size ≤ h76.size := (Nat.le_of_eq W_h76.size.symm)
        have OL := OL.wr W_h76 (by omega)
        have A_b74 := nw_h76
        refine own_dup X 84 at_83 rfl rfl ?_
        refine own_iconst X 85 (2 : Int32) at_84 rfl rfl ?_
        refine own_iconst X 86 (0 : Int32) at_85 rfl rfl ?_
        refine own_bastore X 87 2 at_86 rfl A_b74 (by decide) (by decide) (Nat.le_of_ble_eq_true rfl) (by omega) ?_
        intro T h77 X W_h77
        have nw_h77 : own_A Z h77 b74 kc_b74 .byte [(.int (nar .byte (own_arc (1 : Int32) (Int32.ofNat i.val)))), (.int (nar .byte (2 : Int32))), (.int (nar .byte (0 : Int32))), (.int (0 : Int32))] := A_b74.same W_h77 (fits_nar_byte _)
        have zs_h77 : h76.size ≤ h77.size := (Nat.le_of_eq W_h77.size.symm)
        have OL := OL.wr W_h77 (by omega)
        have A_b74 := nw_h77
        refine own_dup X 88 at_87 rfl rfl ?_
        refine own_iconst X 89 (3 : Int32) at_88 rfl rfl ?_
        refine own_bipush X 91 (10 : Int32) at_89 rfl (by decide) ?_
        refine own_bastore X 92 3 at_91 rfl A_b74 (by decide) (by decide) (Nat.le_of_ble_eq_true rfl) (by omega) ?_
        intro T h78 X W_h78
        have nw_h78 : own_A Z h78 b74 kc_b74 .byte [(.int (nar .byte (own_arc (1 : Int32) (Int32.ofNat i.val)))), (.int (nar .byte (2 : Int32))), (.int (nar .byte (0 : Int32))), (.int (nar .byte (10 : Int32)))] := A_b74.same W_h78 (fits_nar_byte _)
        have zs_h78 : h77.size ≤ h78.size := (Nat.le_of_eq W_h78.size.symm)
        have OL := OL.wr W_h78 (by omega)
        have A_b74 := nw_h78
        have A_b74 : own_A Z h78 b74 kc_b74 .byte [(.int (own_arc (1 : Int32) (Int32.ofNat i.val))), (.int 2), (.int 0), (.int 10)] := by have q := own_narb ((((1 : Int32) <<< (5 &&& 31)) ||| (Int32.ofNat i.val))); simpa only [own_arc, q, show nar .byte (2 : Int32) = 2 from by decide, show nar .byte (0 : Int32) = 0 from by decide, show nar .byte (10 : Int32) = 10 from by decide] using A_b74
        refine own_astore X 94 #[.val (.int pa), .val (.int pb), .val (.int pc), .val (.int (Int32.ofNat i.val)), .val (.int (2 : Int32)), .val (.int (0 : Int32)), .val (.int (0 : Int32)), .val (.int (own_arc (1 : Int32) (Int32.ofNat i.val))), .val (.ref b74), .unset, .unset, .unset, .unset, .unset, .unset, .unset, .unset] at_92 rfl rfl rfl ?_
        refine own_new X 97 at_94 rfl (hw _ (List.mem_of_getElem? (i := 8) rfl)) (hw _ (List.mem_of_getElem? (i := 9) rfl)) (hw _ (List.mem_of_getElem? (i := 3) rfl)) (by decide) (by decide) ?_
        intro T h79 b80 g_b80 X E_h79 A_b80 D_b80
        have zs_h79 : h78.size ≤ h79.size := E_h79.1
        have OL := OL.ext E_h79
        have A_b74 := A_b74.ext E_h79
        have lo_b80 : h78.size ≤ b80 := Nat.le_of_eq g_b80.symm
        have hi_b80 : h79.size > b80 := A_b80.lt
        have F_bytes_b80 : Fld Z h79 b80 "com/example/radix26/radix26/internal/trie/FrozenNodes" "bytes" "[B" .null := D_b80 (Or.inr (hw _ (List.mem_of_getElem? (i := 17) rfl))) (ty := (.array .byte)) (by decide)
        refine own_dup X 98 at_97 rfl rfl ?_
        refine own_aload X 100 (.ref b74) at_98 rfl rfl rfl ?_
        refine own_init X 103 [(.ref b74)] [(.ref b80)] at_100 rfl (hw _ (List.mem_of_getElem? (i := 10) rfl)) (hw _ (List.mem_of_getElem? (i := 11) rfl)) (hw _ (List.mem_of_getElem? (i := 3) rfl)) (hw _ (List.mem_of_getElem? (i := 12) rfl)) (by decide) rfl (own_mini l Z a0 hw b80 b74 h79 n0 X.sz F_bytes_b80 A_b80 (by omega)) (fun _ _ q => q.1.1) rfl own_pd4 rfl rfl rfl (by decide) (Nat.le_of_ble_eq_true rfl) (by decide) (by decide) ?_
        rintro v100 T h81 X ⟨K_, rfl, Fi_⟩
        have zs_h81 : h79.size ≤ h81.size := K_.1
        have OL := OL.keep K_ (allS (by omega) all0)
        have A_b74 := A_b74.keep K_ (ninS (by show @Ne Nat _ _; omega) nin0)
        have A_b80 := A_b80.keep K_
        have F_bytes_b80 := Fi_
        show own_Ends p e below _ (T.setTop (mkF m 103 #[.val (.int pa), .val (.int pb), .val (.int pc), .val (.int (Int32.ofNat i.val)), .val (.int (2 : Int32)), .val (.int (0 : Int32)), .val (.int (0 : Int32)), .val (.int (own_arc (1 : Int32) (Int32.ofNat i.val))), .val (.ref b74), .unset, .unset, .unset, .unset, .unset, .unset, .unset, .unset] [(.ref b80)]))
        refine own_astore X 105 #[.val (.int pa), .val (.int pb), .val (.int pc), .val (.int (Int32.ofNat i.val)), .val (.int (2 : Int32)), .val (.int (0 : Int32)), .val (.int (0 : Int32)), .val (.int (own_arc (1 : Int32) (Int32.ofNat i.val))), .val (.ref b74), .val (.ref b80), .unset, .unset, .unset, .unset, .unset, .unset, .unset] at_103 rfl rfl rfl ?_
        refine own_aload X 107 (.ref b80) at_105 rfl rfl rfl ?_
        refine own_iconst X 108 (0 : Int32) at_107 rfl rfl ?_
        refine own_callV X 111 [(.int (0 : Int32))] [] at_108 rfl (hw _ (List.mem_of_getElem? (i := 18) rfl)) (hw _ (List.mem_of_getElem? (i := 19) rfl)) (own_nf X.2.2.2.2.1 (hw _ (List.mem_of_getElem? (i := 21) rfl))) (hw _ (List.mem_of_getElem? (i := 21) rfl)) (hw _ (List.mem_of_getElem? (i := 20) rfl)) (hw _ (List.mem_of_getElem? (i := 3) rfl)) (hw _ (List.mem_of_getElem? (i := 22) rfl)) (by decide) A_b80 (own_mindex l Z a0 hw b80 (0 : Int32) b74 kc_b74 (own_arc (1 : Int32) (Int32.ofNat i.val)) h81 n0 X.sz F_bytes_b80 A_b80 A_b74 rfl) (fun _ _ q => Nat.le_of_eq (congrArg Array.size q.1.symm)) rfl own_pd0 rfl rfl rfl (by decide) (Nat.le_of_ble_eq_true rfl) (by decide) (by decide) ?_
        rintro v108 T h_ X ⟨eh_, rfl⟩
        rw [eh_] at X
        show own_Ends p e below _ (T.setTop (mkF m 111 #[.val (.int pa), .val (.int pb), .val (.int pc), .val (.int (Int32.ofNat i.val)), .val (.int (2 : Int32)), .val (.int (0 : Int32)), .val (.int (0 : Int32)), .val (.int (own_arc (1 : Int32) (Int32.ofNat i.val))), .val (.ref b74), .val (.ref b80), .unset, .unset, .unset, .unset, .unset, .unset, .unset] [(.int ((own_arc (1 : Int32) (Int32.ofNat i.val)) &&& 31))]))
        rw [own_arc_ix_1 i]
        refine own_iloadN X 112 (Int32.ofNat i.val) at_111 rfl rfl ?_
        refine own_icN X 115 at_112 rfl (XT.ii_ne_f rfl) ?_
        refine own_iconst X 116 (1 : Int32) at_115 rfl rfl ?_
        refine own_goto X 120 at_116 (by decide) (by decide) ?_
        refine own_istore X 122 #[.val (.int pa), .val (.int pb), .val (.int pc), .val (.int (Int32.ofNat i.val)), .val (.int (2 : Int32)), .val (.int (0 : Int32)), .val (.int (0 : Int32)), .val (.int (own_arc (1 : Int32) (Int32.ofNat i.val))), .val (.ref b74), .val (.ref b80), .val (.int (1 : Int32)), .unset, .unset, .unset, .unset, .unset, .unset] at_120 rfl rfl ?_
        refine own_aload X 124 (.ref b80) at_122 rfl rfl rfl ?_
        refine own_iconst X 125 (0 : Int32) at_124 rfl rfl ?_
        refine own_callV X 128 [(.int (0 : Int32))] [] at_125 rfl (hw _ (List.mem_of_getElem? (i := 23) rfl)) (hw _ (List.mem_of_getElem? (i := 24) rfl)) (own_nf X.2.2.2.2.1 (hw _ (List.mem_of_getElem? (i := 26) rfl))) (hw _ (List.mem_of_getElem? (i := 26) rfl)) (hw _ (List.mem_of_getElem? (i := 25) rfl)) (hw _ (List.mem_of_getElem? (i := 3) rfl)) (hw _ (List.mem_of_getElem? (i := 27) rfl)) (by decide) A_b80 (own_misw l Z a0 hw b80 (0 : Int32) b74 kc_b74 (own_arc (1 : Int32) (Int32.ofNat i.val)) h81 n0 X.sz F_bytes_b80 A_b80 A_b74 rfl) (fun _ _ q => Nat.le_of_eq (congrArg Array.size q.1.symm)) rfl own_pd2 rfl rfl rfl (by decide) (Nat.le_of_ble_eq_true rfl) (by decide) (by decide) ?_
        rintro v125 T h_ X ⟨eh_, rfl⟩
        rw [eh_] at X
        show own_Ends p e below _ (T.setTop (mkF m 128 #[.val (.int pa), .val (.int pb), .val (.int pc), .val (.int (Int32.ofNat i.val)), .val (.int (2 : Int32)), .val (.int (0 : Int32)), .val (.int (0 : Int32)), .val (.int (own_arc (1 : Int32) (Int32.ofNat i.val))), .val (.ref b74), .val (.ref b80), .val (.int (1 : Int32)), .unset, .unset, .unset, .unset, .unset, .unset] [(.int (own_is 173 (own_kind (own_arc (1 : Int32) (Int32.ofNat i.val)))))]))
        rw [own_arc_kind_1 i]
        rw [show own_is 173 (1 : Int32) = (0 : Int32) from by decide]
        refine own_iload X 130 (0 : Int32) at_128 rfl rfl ?_
        refine own_icN X 133 at_130 rfl (XT.ii_ne_f (by decide)) ?_
        refine own_iconst X 134 (1 : Int32) at_133 rfl rfl ?_
        refine own_goto X 138 at_134 (by decide) (by decide) ?_
        refine own_istore X 140 #[.val (.int pa), .val (.int pb), .val (.int pc), .val (.int (Int32.ofNat i.val)), .val (.int (2 : Int32)), .val (.int (0 : Int32)), .val (.int (0 : Int32)), .val (.int (own_arc (1 : Int32) (Int32.ofNat i.val))), .val (.ref b74), .val (.ref b80), .val (.int (1 : Int32)), .val (.int (1 : Int32)), .unset, .unset, .unset, .unset, .unset] at_138 rfl rfl ?_
        refine own_iload X 142 (0 : Int32) at_140 rfl rfl ?_
        refine own_ifY X 151 at_142 (by decide) (by decide) (XT.i0_eq_t (by decide)) ?_
        refine own_iload X 153 (2 : Int32) at_151 rfl rfl ?_
        refine own_ifY X 162 at_153 (by decide) (by decide) (XT.i0_ne_t (by decide)) ?_
        refine own_iconst X 163 (2 : Int32) at_162 rfl rfl ?_
        refine own_istore X 165 #[.val (.int pa), .val (.int pb), .val (.int pc), .val (.int (Int32.ofNat i.val)), .val (.int (2 : Int32)), .val (.int (0 : Int32)), .val (.int (0 : Int32)), .val (.int (own_arc (1 : Int32) (Int32.ofNat i.val))), .val (.ref b74), .val (.ref b80), .val (.int (1 : Int32)), .val (.int (1 : Int32)), .val (.int (2 : Int32)), .unset, .unset, .unset, .unset] at_163 rfl rfl ?_
        refine own_aload X 167 (.ref b80) at_165 rfl rfl rfl ?_
        refine own_iconst X 168 (0 : Int32) at_167 rfl rfl ?_
        refine own_callV X 171 [(.int (0 : Int32))] [] at_168 rfl (hw _ (List.mem_of_getElem? (i := 35) rfl)) (hw _ (List.mem_of_getElem? (i := 36) rfl)) (own_nf X.2.2.2.2.1 (hw _ (List.mem_of_getElem? (i := 38) rfl))) (hw _ (List.mem_of_getElem? (i := 38) rfl)) (hw _ (List.mem_of_getElem? (i := 37) rfl)) (hw _ (List.mem_of_getElem? (i := 3) rfl)) (hw _ (List.mem_of_getElem? (i := 39) rfl)) (by decide) A_b80 (own_mns l Z a0 hw b80 (0 : Int32) b74 kc_b74 (own_arc (1 : Int32) (Int32.ofNat i.val)) h81 n0 X.sz F_bytes_b80 A_b80 A_b74 rfl) (fun _ _ q => Nat.le_of_eq (congrArg Array.size q.1.symm)) rfl own_pd0 rfl rfl rfl (by decide) (Nat.le_of_ble_eq_true rfl) (by decide) (by decide) ?_
        rintro v168 T h_ X ⟨eh_, rfl⟩
        rw [eh_] at X
        show own_Ends p e below _ (T.setTop (mkF m 171 #[.val (.int pa), .val (.int pb), .val (.int pc), .val (.int (Int32.ofNat i.val)), .val (.int (2 : Int32)), .val (.int (0 : Int32)), .val (.int (0 : Int32)), .val (.int (own_arc (1 : Int32) (Int32.ofNat i.val))), .val (.ref b74), .val (.ref b80), .val (.int (1 : Int32)), .val (.int (1 : Int32)), .val (.int (2 : Int32)), .unset, .unset, .unset, .unset] [(.int (own_ns (own_kind (own_arc (1 : Int32) (Int32.ofNat i.val)))))]))
        rw [own_arc_kind_1 i]
        rw [show own_ns (1 : Int32) = (2 : Int32) from by decide]
        refine own_iload X 173 (2 : Int32) at_171 rfl rfl ?_
        refine own_icN X 176 at_173 rfl (XT.ii_ne_f (by decide)) ?_
        refine own_iconst X 177 (1 : Int32) at_176 rfl rfl ?_
        refine own_goto X 181 at_177 (by decide) (by decide) ?_
        refine own_istore X 183 #[.val (.int pa), .val (.int pb), .val (.int pc), .val (.int (Int32.ofNat i.val)), .val (.int (2 : Int32)), .val (.int (0 : Int32)), .val (.int (0 : Int32)), .val (.int (own_arc (1 : Int32) (Int32.ofNat i.val))), .val (.ref b74), .val (.ref b80), .val (.int (1 : Int32)), .val (.int (1 : Int32)), .val (.int (2 : Int32)), .val (.int (1 : Int32)), .unset, .unset, .unset] at_181 rfl rfl ?_
        refine own_iload X 185 (2 : Int32) at_183 rfl rfl ?_
        refine own_ifY X 194 at_185 (by decide) (by decide) (XT.i0_ne_t (by decide)) ?_
        refine own_iload X 196 (2 : Int32) at_194 rfl rfl ?_
        refine own_iconst X 197 (1 : Int32) at_196 rfl rfl ?_
        refine own_icY X 206 at_197 (by decide) (by decide) (XT.ii_ne_t (by decide)) ?_
        refine own_iconst X 207 (5 : Int32) at_206 rfl rfl ?_
        refine own_istore X 209 #[.val (.int pa), .val (.int pb), .val (.int pc), .val (.int (Int32.ofNat i.val)), .val (.int (2 : Int32)), .val (.int (0 : Int32)), .val (.int (0 : Int32)), .val (.int (own_arc (1 : Int32) (Int32.ofNat i.val))), .val (.ref b74), .val (.ref b80), .val (.int (1 : Int32)), .val (.int (1 : Int32)), .val (.int (2 : Int32)), .val (.int (1 : Int32)), .val (.int (5 : Int32)), .unset, .unset] at_207 rfl rfl ?_
        refine own_iload X 211 (0 : Int32) at_209 rfl rfl ?_
        refine own_ifY X 218 at_211 (by decide) (by decide) (XT.i0_eq_t (by decide)) ?_
        refine own_iconst X 219 (0 : Int32) at_218 rfl rfl ?_
        refine own_iload X 221 (5 : Int32) at_219 rfl rfl ?_
        refine own_iadd X 222 at_221 rfl ?_
        refine own_istore X 224 #[.val (.int pa), .val (.int pb), .val (.int pc), .val (.int (Int32.ofNat i.val)), .val (.int (2 : Int32)), .val (.int (0 : Int32)), .val (.int (0 : Int32)), .val (.int (own_arc (1 : Int32) (Int32.ofNat i.val))), .val (.ref b74), .val (.ref b80), .val (.int (1 : Int32)), .val (.int (1 : Int32)), .val (.int (2 : Int32)), .val (.int (1 : Int32)), .val (.int (5 : Int32)), .val (.int ((0 : Int32) + (5 : Int32))), .unset] at_222 rfl rfl ?_
        refine own_aload X 226 (.ref b80) at_224 rfl rfl rfl ?_
        refine own_iconst X 227 (0 : Int32) at_226 rfl rfl ?_
        refine own_callV X 230 [(.int (0 : Int32))] [] at_227 rfl (hw _ (List.mem_of_getElem? (i := 40) rfl)) (hw _ (List.mem_of_getElem? (i := 41) rfl)) (own_nf X.2.2.2.2.1 (hw _ (List.mem_of_getElem? (i := 43) rfl))) (hw _ (List.mem_of_getElem? (i := 43) rfl)) (hw _ (List.mem_of_getElem? (i := 42) rfl)) (hw _ (List.mem_of_getElem? (i := 3) rfl)) (hw _ (List.mem_of_getElem? (i := 44) rfl)) (by decide) A_b80 (own_mcount l Z a0 hw b80 (0 : Int32) b74 kc_b74 (own_arc (1 : Int32) (Int32.ofNat i.val)) h81 n0 X.sz F_bytes_b80 A_b80 A_b74 rfl ⟨⟨1, by decide⟩, own_arc_kind_1 i⟩) (fun _ _ q => Nat.le_of_eq (congrArg Array.size q.1.symm)) rfl own_pd0 rfl rfl rfl (by decide) (Nat.le_of_ble_eq_true rfl) (by decide) (by decide) ?_
        rintro v227 T h_ X ⟨eh_, rfl⟩
        rw [eh_] at X
        show own_Ends p e below _ (T.setTop (mkF m 230 #[.val (.int pa), .val (.int pb), .val (.int pc), .val (.int (Int32.ofNat i.val)), .val (.int (2 : Int32)), .val (.int (0 : Int32)), .val (.int (0 : Int32)), .val (.int (own_arc (1 : Int32) (Int32.ofNat i.val))), .val (.ref b74), .val (.ref b80), .val (.int (1 : Int32)), .val (.int (1 : Int32)), .val (.int (2 : Int32)), .val (.int (1 : Int32)), .val (.int (5 : Int32)), .val (.int ((0 : Int32) + (5 : Int32))), .unset] [(.int (own_count (own_kind (own_arc (1 : Int32) (Int32.ofNat i.val)))))]))
        rw [own_arc_kind_1 i]
        rw [show own_count (1 : Int32) = (5 : Int32) from by decide]
        refine own_iload X 232 ((0 : Int32) + (5 : Int32)) at_230 rfl rfl ?_
        refine own_icN X 235 at_232 rfl (XT.ii_ne_f (by decide)) ?_
        refine own_iconst X 236 (1 : Int32) at_235 rfl rfl ?_
        refine own_goto X 240 at_236 (by decide) (by decide) ?_
        refine own_istore X 242 #[.val (.int pa), .val (.int pb), .val (.int pc), .val (.int (Int32.ofNat i.val)), .val (.int (2 : Int32)), .val (.int (0 : Int32)), .val (.int (0 : Int32)), .val (.int (own_arc (1 : Int32) (Int32.ofNat i.val))), .val (.ref b74), .val (.ref b80), .val (.int (1 : Int32)), .val (.int (1 : Int32)), .val (.int (2 : Int32)), .val (.int (1 : Int32)), .val (.int (5 : Int32)), .val (.int ((0 : Int32) + (5 : Int32))), .val (.int (1 : Int32))] at_240 rfl rfl ?_
        refine own_iload X 244 (1 : Int32) at_242 rfl rfl ?_
        refine own_ifN X 247 at_244 rfl (XT.i0_eq_f (by decide)) ?_
        refine own_iload X 249 (1 : Int32) at_247 rfl rfl ?_
        refine own_ifN X 252 at_249 rfl (XT.i0_eq_f (by decide)) ?_
        refine own_iload X 254 (1 : Int32) at_252 rfl rfl ?_
        refine own_ifN X 257 at_254 rfl (XT.i0_eq_f (by decide)) ?_
        refine own_iload X 259 (1 : Int32) at_257 rfl rfl ?_
        refine own_ifN X 262 at_259 rfl (XT.i0_eq_f (by decide)) ?_
        refine own_iconst X 263 (1 : Int32) at_262 rfl rfl ?_
        refine own_goto X 267 at_263 (by decide) (by decide) ?_
        exact own_retN X .boolean at_267 rfl (by simp) (by decide) (by decide) (by decide)
      · refine own_ifN X 35 at_32 rfl (XT.i0_eq_f hc32) ?_
        refine own_iconst X 36 (1 : Int32) at_35 rfl rfl ?_
        refine own_goto X 40 at_36 (by decide) (by decide) ?_
        refine own_istore X 42 #[.val (.int pa), .val (.int pb), .val (.int pc), .val (.int (Int32.ofNat i.val)), .val (.int (2 : Int32)), .val (.int (0 : Int32)), .val (.int (1 : Int32)), .unset, .unset, .unset, .unset, .unset, .unset, .unset, .unset, .unset, .unset] at_40 rfl rfl ?_
        refine own_iload X 44 (2 : Int32) at_42 rfl rfl ?_
        refine own_iconst X 45 (1 : Int32) at_44 rfl rfl ?_
        refine own_icY X 51 at_45 (by decide) (by decide) (XT.ii_ne_t (by decide)) ?_
        refine own_iload X 53 (2 : Int32) at_51 rfl rfl ?_
        refine own_ifY X 59 at_53 (by decide) (by decide) (XT.i0_ne_t (by decide)) ?_
        refine own_iloadN X 60 (Int32.ofNat i.val) at_59 rfl rfl ?_
        refine own_iload X 62 (2 : Int32) at_60 rfl rfl ?_
        refine own_iload X 64 (0 : Int32) at_62 rfl rfl ?_
        refine own_iload X 66 (1 : Int32) at_64 rfl rfl ?_
        refine own_callS X 69 [(.int (Int32.ofNat i.val)), (.int (2 : Int32)), (.int (0 : Int32)), (.int (1 : Int32))] [] at_66 rfl (hw _ (List.mem_of_getElem? (i := 1) rfl)) (hw _ (List.mem_of_getElem? (i := 2) rfl)) (hw _ (List.mem_of_getElem? (i := 3) rfl)) (hw _ (List.mem_of_getElem? (i := 4) rfl)) (by decide) (own_marc l Z a0 hw (Int32.ofNat i.val) (2 : Int32) (0 : Int32) (1 : Int32) av kc 9 (2 : Int32) h0 n0 X.sz OL z_s z_A (by decide) (by decide) rfl) (fun _ _ q => Nat.le_of_eq (congrArg Array.size q.1.symm)) rfl own_pd3 rfl rfl rfl (by decide) (Nat.le_of_ble_eq_true rfl) (by decide) (by decide) ?_
        rintro v66 T h_ X ⟨eh_, rfl⟩
        rw [eh_] at X
        show own_Ends p e below _ (T.setTop (mkF m 69 #[.val (.int pa), .val (.int pb), .val (.int pc), .val (.int (Int32.ofNat i.val)), .val (.int (2 : Int32)), .val (.int (0 : Int32)), .val (.int (1 : Int32)), .unset, .unset, .unset, .unset, .unset, .unset, .unset, .unset, .unset, .unset] [(.int (own_arc (2 : Int32) (Int32.ofNat i.val)))]))
        refine own_istore X 71 #[.val (.int pa), .val (.int pb), .val (.int pc), .val (.int (Int32.ofNat i.val)), .val (.int (2 : Int32)), .val (.int (0 : Int32)), .val (.int (1 : Int32)), .val (.int (own_arc (2 : Int32) (Int32.ofNat i.val))), .unset, .unset, .unset, .unset, .unset, .unset, .unset, .unset, .unset] at_69 rfl rfl ?_
        refine own_iconst X 72 (4 : Int32) at_71 rfl rfl ?_
        refine own_newP X 74 4 4 at_72 rfl (hw _ (List.mem_of_getElem? (i := 7) rfl)) (by decide) (by decide) (by decide) (by decide) (by decide) (by decide) ?_
        intro T h82 b83 kc_b83 g_b83 X E_h82 A_b83
        have zs_h82 : h0.size ≤ h82.size := E_h82.1
        have OL := OL.ext E_h82
        have lo_b83 : h0.size ≤ b83 := Nat.le_of_eq g_b83.symm
        have hi_b83 : h82.size > b83 := A_b83.lt
        have A_b83 : own_A Z h82 b83 kc_b83 .byte [(.int (0 : Int32)), (.int (0 : Int32)), (.int (0 : Int32)), (.int (0 : Int32))] := A_b83
        refine own_dup X 75 at_74 rfl rfl ?_
        refine own_iconst X 76 (0 : Int32) at_75 rfl rfl ?_
        refine own_iload X 78 (own_arc (2 : Int32) (Int32.ofNat i.val)) at_76 rfl rfl ?_
        refine own_bastore X 79 0 at_78 rfl A_b83 (by decide) (by decide) (Nat.le_of_ble_eq_true rfl) (by omega) ?_
        intro T h84 X W_h84
        have nw_h84 : own_A Z h84 b83 kc_b83 .byte [(.int (nar .byte (own_arc (2 : Int32) (Int32.ofNat i.val)))), (.int (0 : Int32)), (.int (0 : Int32)), (.int (0 : Int32))] := A_b83.same W_h84 (fits_nar_byte _)
        have zs_h84 : h82.size ≤ h84.size := (Nat.le_of_eq W_h84.size.symm)
        have OL := OL.wr W_h84 (by omega)
        have A_b83 := nw_h84
        refine own_dup X 80 at_79 rfl rfl ?_
        refine own_iconst X 81 (1 : Int32) at_80 rfl rfl ?_
        refine own_iconst X 82 (2 : Int32) at_81 rfl rfl ?_
        refine own_bastore X 83 1 at_82 rfl A_b83 (by decide) (by decide) (Nat.le_of_ble_eq_true rfl) (by omega) ?_
        intro T h85 X W_h85
        have nw_h85 : own_A Z h85 b83 kc_b83 .byte [(.int (nar .byte (own_arc (2 : Int32) (Int32.ofNat i.val)))), (.int (nar .byte (2 : Int32))), (.int (0 : Int32)), (.int (0 : Int32))] := A_b83.same W_h85 (fits_nar_byte _)
        have zs_h85 : h84.size ≤ h85.size := (Nat.le_of_eq W_h85.size.symm)
        have OL := OL.wr W_h85 (by omega)
        have A_b83 := nw_h85
        refine own_dup X 84 at_83 rfl rfl ?_
        refine own_iconst X 85 (2 : Int32) at_84 rfl rfl ?_
        refine own_iconst X 86 (0 : Int32) at_85 rfl rfl ?_
        refine own_bastore X 87 2 at_86 rfl A_b83 (by decide) (by decide) (Nat.le_of_ble_eq_true rfl) (by omega) ?_
        intro T h86 X W_h86
        have nw_h86 : own_A Z h86 b83 kc_b83 .byte [(.int (nar .byte (own_arc (2 : Int32) (Int32.ofNat i.val)))), (.int (nar .byte (2 : Int32))), (.int (nar .byte (0 : Int32))), (.int (0 : Int32))] := A_b83.same W_h86 (fits_nar_byte _)
        have zs_h86 : h85.size ≤ h86.size := (Nat.le_of_eq W_h86.size.symm)
        have OL := OL.wr W_h86 (by omega)
        have A_b83 := nw_h86
        refine own_dup X 88 at_87 rfl rfl ?_
        refine own_iconst X 89 (3 : Int32) at_88 rfl rfl ?_
        refine own_bipush X 91 (10 : Int32) at_89 rfl (by decide) ?_
        refine own_bastore X 92 3 at_91 rfl A_b83 (by decide) (by decide) (Nat.le_of_ble_eq_true rfl) (by omega) ?_
        intro T h87 X W_h87
        have nw_h87 : own_A Z h87 b83 kc_b83 .byte [(.int (nar .byte (own_arc (2 : Int32) (Int32.ofNat i.val)))), (.int (nar .byte (2 : Int32))), (.int (nar .byte (0 : Int32))), (.int (nar .byte (10 : Int32)))] := A_b83.same W_h87 (fits_nar_byte _)
        have zs_h87 : h86.size ≤ h87.size := (Nat.le_of_eq W_h87.size.symm)
        have OL := OL.wr W_h87 (by omega)
        have A_b83 := nw_h87
        have A_b83 : own_A Z h87 b83 kc_b83 .byte [(.int (own_arc (2 : Int32) (Int32.ofNat i.val))), (.int 2), (.int 0), (.int 10)] := by have q := own_narb ((((2 : Int32) <<< (5 &&& 31)) ||| (Int32.ofNat i.val))); simpa only [own_arc, q, show nar .byte (2 : Int32) = 2 from by decide, show nar .byte (0 : Int32) = 0 from by decide, show nar .byte (10 : Int32) = 10 from by decide] using A_b83
        refine own_astore X 94 #[.val (.int pa), .val (.int pb), .val (.int pc), .val (.int (Int32.ofNat i.val)), .val (.int (2 : Int32)), .val (.int (0 : Int32)), .val (.int (1 : Int32)), .val (.int (own_arc (2 : Int32) (Int32.ofNat i.val))), .val (.ref b83), .unset, .unset, .unset, .unset, .unset, .unset, .unset, .unset] at_92 rfl rfl rfl ?_
        refine own_new X 97 at_94 rfl (hw _ (List.mem_of_getElem? (i := 8) rfl)) (hw _ (List.mem_of_getElem? (i := 9) rfl)) (hw _ (List.mem_of_getElem? (i := 3) rfl)) (by decide) (by decide) ?_
        intro T h88 b89 g_b89 X E_h88 A_b89 D_b89
        have zs_h88 : h87.size ≤ h88.size := E_h88.1
        have OL := OL.ext E_h88
        have A_b83 := A_b83.ext E_h88
        have lo_b89 : h87.size ≤ b89 := Nat.le_of_eq g_b89.symm
        have hi_b89 : h88.size > b89 := A_b89.lt
        have F_bytes_b89 : Fld Z h88 b89 "com/example/radix26/radix26/internal/trie/FrozenNodes" "bytes" "[B" .null := D_b89 (Or.inr (hw _ (List.mem_of_getElem? (i := 17) rfl))) (ty := (.array .byte)) (by decide)
        refine own_dup X 98 at_97 rfl rfl ?_
        refine own_aload X 100 (.ref b83) at_98 rfl rfl rfl ?_
        refine own_init X 103 [(.ref b83)] [(.ref b89)] at_100 rfl (hw _ (List.mem_of_getElem? (i := 10) rfl)) (hw _ (List.mem_of_getElem? (i := 11) rfl)) (hw _ (List.mem_of_getElem? (i := 3) rfl)) (hw _ (List.mem_of_getElem? (i := 12) rfl)) (by decide) rfl (own_mini l Z a0 hw b89 b83 h88 n0 X.sz F_bytes_b89 A_b89 (by omega)) (fun _ _ q => q.1.1) rfl own_pd4 rfl rfl rfl (by decide) (Nat.le_of_ble_eq_true rfl) (by decide) (by decide) ?_
        rintro v100 T h90 X ⟨K_, rfl, Fi_⟩
        have zs_h90 : h88.size ≤ h90.size := K_.1
        have OL := OL.keep K_ (allS (by omega) all0)
        have A_b83 := A_b83.keep K_ (ninS (by show @Ne Nat _ _; omega) nin0)
        have A_b89 := A_b89.keep K_
        have F_bytes_b89 := Fi_
        show own_Ends p e below _ (T.setTop (mkF m 103 #[.val (.int pa), .val (.int pb), .val (.int pc), .val (.int (Int32.ofNat i.val)), .val (.int (2 : Int32)), .val (.int (0 : Int32)), .val (.int (1 : Int32)), .val (.int (own_arc (2 : Int32) (Int32.ofNat i.val))), .val (.ref b83), .unset, .unset, .unset, .unset, .unset, .unset, .unset, .unset] [(.ref b89)]))
        refine own_astore X 105 #[.val (.int pa), .val (.int pb), .val (.int pc), .val (.int (Int32.ofNat i.val)), .val (.int (2 : Int32)), .val (.int (0 : Int32)), .val (.int (1 : Int32)), .val (.int (own_arc (2 : Int32) (Int32.ofNat i.val))), .val (.ref b83), .val (.ref b89), .unset, .unset, .unset, .unset, .unset, .unset, .unset] at_103 rfl rfl rfl ?_
        refine own_aload X 107 (.ref b89) at_105 rfl rfl rfl ?_
        refine own_iconst X 108 (0 : Int32) at_107 rfl rfl ?_
        refine own_callV X 111 [(.int (0 : Int32))] [] at_108 rfl (hw _ (List.mem_of_getElem? (i := 18) rfl)) (hw _ (List.mem_of_getElem? (i := 19) rfl)) (own_nf X.2.2.2.2.1 (hw _ (List.mem_of_getElem? (i := 21) rfl))) (hw _ (List.mem_of_getElem? (i := 21) rfl)) (hw _ (List.mem_of_getElem? (i := 20) rfl)) (hw _ (List.mem_of_getElem? (i := 3) rfl)) (hw _ (List.mem_of_getElem? (i := 22) rfl)) (by decide) A_b89 (own_mindex l Z a0 hw b89 (0 : Int32) b83 kc_b83 (own_arc (2 : Int32) (Int32.ofNat i.val)) h90 n0 X.sz F_bytes_b89 A_b89 A_b83 rfl) (fun _ _ q => Nat.le_of_eq (congrArg Array.size q.1.symm)) rfl own_pd0 rfl rfl rfl (by decide) (Nat.le_of_ble_eq_true rfl) (by decide) (by decide) ?_
        rintro v108 T h_ X ⟨eh_, rfl⟩
        rw [eh_] at X
        show own_Ends p e below _ (T.setTop (mkF m 111 #[.val (.int pa), .val (.int pb), .val (.int pc), .val (.int (Int32.ofNat i.val)), .val (.int (2 : Int32)), .val (.int (0 : Int32)), .val (.int (1 : Int32)), .val (.int (own_arc (2 : Int32) (Int32.ofNat i.val))), .val (.ref b83), .val (.ref b89), .unset, .unset, .unset, .unset, .unset, .unset, .unset] [(.int ((own_arc (2 : Int32) (Int32.ofNat i.val)) &&& 31))]))
        rw [own_arc_ix_2 i]
        refine own_iloadN X 112 (Int32.ofNat i.val) at_111 rfl rfl ?_
        refine own_icN X 115 at_112 rfl (XT.ii_ne_f rfl) ?_
        refine own_iconst X 116 (1 : Int32) at_115 rfl rfl ?_
        refine own_goto X 120 at_116 (by decide) (by decide) ?_
        refine own_istore X 122 #[.val (.int pa), .val (.int pb), .val (.int pc), .val (.int (Int32.ofNat i.val)), .val (.int (2 : Int32)), .val (.int (0 : Int32)), .val (.int (1 : Int32)), .val (.int (own_arc (2 : Int32) (Int32.ofNat i.val))), .val (.ref b83), .val (.ref b89), .val (.int (1 : Int32)), .unset, .unset, .unset, .unset, .unset, .unset] at_120 rfl rfl ?_
        refine own_aload X 124 (.ref b89) at_122 rfl rfl rfl ?_
        refine own_iconst X 125 (0 : Int32) at_124 rfl rfl ?_
        refine own_callV X 128 [(.int (0 : Int32))] [] at_125 rfl (hw _ (List.mem_of_getElem? (i := 23) rfl)) (hw _ (List.mem_of_getElem? (i := 24) rfl)) (own_nf X.2.2.2.2.1 (hw _ (List.mem_of_getElem? (i := 26) rfl))) (hw _ (List.mem_of_getElem? (i := 26) rfl)) (hw _ (List.mem_of_getElem? (i := 25) rfl)) (hw _ (List.mem_of_getElem? (i := 3) rfl)) (hw _ (List.mem_of_getElem? (i := 27) rfl)) (by decide) A_b89 (own_misw l Z a0 hw b89 (0 : Int32) b83 kc_b83 (own_arc (2 : Int32) (Int32.ofNat i.val)) h90 n0 X.sz F_bytes_b89 A_b89 A_b83 rfl) (fun _ _ q => Nat.le_of_eq (congrArg Array.size q.1.symm)) rfl own_pd2 rfl rfl rfl (by decide) (Nat.le_of_ble_eq_true rfl) (by decide) (by decide) ?_
        rintro v125 T h_ X ⟨eh_, rfl⟩
        rw [eh_] at X
        show own_Ends p e below _ (T.setTop (mkF m 128 #[.val (.int pa), .val (.int pb), .val (.int pc), .val (.int (Int32.ofNat i.val)), .val (.int (2 : Int32)), .val (.int (0 : Int32)), .val (.int (1 : Int32)), .val (.int (own_arc (2 : Int32) (Int32.ofNat i.val))), .val (.ref b83), .val (.ref b89), .val (.int (1 : Int32)), .unset, .unset, .unset, .unset, .unset, .unset] [(.int (own_is 173 (own_kind (own_arc (2 : Int32) (Int32.ofNat i.val)))))]))
        rw [own_arc_kind_2 i]
        rw [show own_is 173 (2 : Int32) = (1 : Int32) from by decide]
        refine own_iload X 130 (1 : Int32) at_128 rfl rfl ?_
        refine own_icN X 133 at_130 rfl (XT.ii_ne_f (by decide)) ?_
        refine own_iconst X 134 (1 : Int32) at_133 rfl rfl ?_
        refine own_goto X 138 at_134 (by decide) (by decide) ?_
        refine own_istore X 140 #[.val (.int pa), .val (.int pb), .val (.int pc), .val (.int (Int32.ofNat i.val)), .val (.int (2 : Int32)), .val (.int (0 : Int32)), .val (.int (1 : Int32)), .val (.int (own_arc (2 : Int32) (Int32.ofNat i.val))), .val (.ref b83), .val (.ref b89), .val (.int (1 : Int32)), .val (.int (1 : Int32)), .unset, .unset, .unset, .unset, .unset] at_138 rfl rfl ?_
        refine own_iload X 142 (0 : Int32) at_140 rfl rfl ?_
        refine own_ifY X 151 at_142 (by decide) (by decide) (XT.i0_eq_t (by decide)) ?_
        refine own_iload X 153 (2 : Int32) at_151 rfl rfl ?_
        refine own_ifY X 162 at_153 (by decide) (by decide) (XT.i0_ne_t (by decide)) ?_
        refine own_iconst X 163 (2 : Int32) at_162 rfl rfl ?_
        refine own_istore X 165 #[.val (.int pa), .val (.int pb), .val (.int pc), .val (.int (Int32.ofNat i.val)), .val (.int (2 : Int32)), .val (.int (0 : Int32)), .val (.int (1 : Int32)), .val (.int (own_arc (2 : Int32) (Int32.ofNat i.val))), .val (.ref b83), .val (.ref b89), .val (.int (1 : Int32)), .val (.int (1 : Int32)), .val (.int (2 : Int32)), .unset, .unset, .unset, .unset] at_163 rfl rfl ?_
        refine own_aload X 167 (.ref b89) at_165 rfl rfl rfl ?_
        refine own_iconst X 168 (0 : Int32) at_167 rfl rfl ?_
        refine own_callV X 171 [(.int (0 : Int32))] [] at_168 rfl (hw _ (List.mem_of_getElem? (i := 35) rfl)) (hw _ (List.mem_of_getElem? (i := 36) rfl)) (own_nf X.2.2.2.2.1 (hw _ (List.mem_of_getElem? (i := 38) rfl))) (hw _ (List.mem_of_getElem? (i := 38) rfl)) (hw _ (List.mem_of_getElem? (i := 37) rfl)) (hw _ (List.mem_of_getElem? (i := 3) rfl)) (hw _ (List.mem_of_getElem? (i := 39) rfl)) (by decide) A_b89 (own_mns l Z a0 hw b89 (0 : Int32) b83 kc_b83 (own_arc (2 : Int32) (Int32.ofNat i.val)) h90 n0 X.sz F_bytes_b89 A_b89 A_b83 rfl) (fun _ _ q => Nat.le_of_eq (congrArg Array.size q.1.symm)) rfl own_pd0 rfl rfl rfl (by decide) (Nat.le_of_ble_eq_true rfl) (by decide) (by decide) ?_
        rintro v168 T h_ X ⟨eh_, rfl⟩
        rw [eh_] at X
        show own_Ends p e below _ (T.setTop (mkF m 171 #[.val (.int pa), .val (.int pb), .val (.int pc), .val (.int (Int32.ofNat i.val)), .val (.int (2 : Int32)), .val (.int (0 : Int32)), .val (.int (1 : Int32)), .val (.int (own_arc (2 : Int32) (Int32.ofNat i.val))), .val (.ref b83), .val (.ref b89), .val (.int (1 : Int32)), .val (.int (1 : Int32)), .val (.int (2 : Int32)), .unset, .unset, .unset, .unset] [(.int (own_ns (own_kind (own_arc (2 : Int32) (Int32.ofNat i.val)))))]))
        rw [own_arc_kind_2 i]
        rw [show own_ns (2 : Int32) = (2 : Int32) from by decide]
        refine own_iload X 173 (2 : Int32) at_171 rfl rfl ?_
        refine own_icN X 176 at_173 rfl (XT.ii_ne_f (by decide)) ?_
        refine own_iconst X 177 (1 : Int32) at_176 rfl rfl ?_
        refine own_goto X 181 at_177 (by decide) (by decide) ?_
        refine own_istore X 183 #[.val (.int pa), .val (.int pb), .val (.int pc), .val (.int (Int32.ofNat i.val)), .val (.int (2 : Int32)), .val (.int (0 : Int32)), .val (.int (1 : Int32)), .val (.int (own_arc (2 : Int32) (Int32.ofNat i.val))), .val (.ref b83), .val (.ref b89), .val (.int (1 : Int32)), .val (.int (1 : Int32)), .val (.int (2 : Int32)), .val (.int (1 : Int32)), .unset, .unset, .unset] at_181 rfl rfl ?_
        refine own_iload X 185 (2 : Int32) at_183 rfl rfl ?_
        refine own_ifY X 194 at_185 (by decide) (by decide) (XT.i0_ne_t (by decide)) ?_
        refine own_iload X 196 (2 : Int32) at_194 rfl rfl ?_
        refine own_iconst X 197 (1 : Int32) at_196 rfl rfl ?_
        refine own_icY X 206 at_197 (by decide) (by decide) (XT.ii_ne_t (by decide)) ?_
        refine own_iconst X 207 (5 : Int32) at_206 rfl rfl ?_
        refine own_istore X 209 #[.val (.int pa), .val (.int pb), .val (.int pc), .val (.int (Int32.ofNat i.val)), .val (.int (2 : Int32)), .val (.int (0 : Int32)), .val (.int (1 : Int32)), .val (.int (own_arc (2 : Int32) (Int32.ofNat i.val))), .val (.ref b83), .val (.ref b89), .val (.int (1 : Int32)), .val (.int (1 : Int32)), .val (.int (2 : Int32)), .val (.int (1 : Int32)), .val (.int (5 : Int32)), .unset, .unset] at_207 rfl rfl ?_
        refine own_iload X 211 (1 : Int32) at_209 rfl rfl ?_
        refine own_ifN X 214 at_211 rfl (XT.i0_eq_f (by decide)) ?_
        refine own_iconst X 215 (1 : Int32) at_214 rfl rfl ?_
        refine own_goto X 219 at_215 (by decide) (by decide) ?_
        refine own_iload X 221 (5 : Int32) at_219 rfl rfl ?_
        refine own_iadd X 222 at_221 rfl ?_
        refine own_istore X 224 #[.val (.int pa), .val (.int pb), .val (.int pc), .val (.int (Int32.ofNat i.val)), .val (.int (2 : Int32)), .val (.int (0 : Int32)), .val (.int (1 : Int32)), .val (.int (own_arc (2 : Int32) (Int32.ofNat i.val))), .val (.ref b83), .val (.ref b89), .val (.int (1 : Int32)), .val (.int (1 : Int32)), .val (.int (2 : Int32)), .val (.int (1 : Int32)), .val (.int (5 : Int32)), .val (.int ((1 : Int32) + (5 : Int32))), .unset] at_222 rfl rfl ?_
        refine own_aload X 226 (.ref b89) at_224 rfl rfl rfl ?_
        refine own_iconst X 227 (0 : Int32) at_226 rfl rfl ?_
        refine own_callV X 230 [(.int (0 : Int32))] [] at_227 rfl (hw _ (List.mem_of_getElem? (i := 40) rfl)) (hw _ (List.mem_of_getElem? (i := 41) rfl)) (own_nf X.2.2.2.2.1 (hw _ (List.mem_of_getElem? (i := 43) rfl))) (hw _ (List.mem_of_getElem? (i := 43) rfl)) (hw _ (List.mem_of_getElem? (i := 42) rfl)) (hw _ (List.mem_of_getElem? (i := 3) rfl)) (hw _ (List.mem_of_getElem? (i := 44) rfl)) (by decide) A_b89 (own_mcount l Z a0 hw b89 (0 : Int32) b83 kc_b83 (own_arc (2 : Int32) (Int32.ofNat i.val)) h90 n0 X.sz F_bytes_b89 A_b89 A_b83 rfl ⟨⟨2, by decide⟩, own_arc_kind_2 i⟩) (fun _ _ q => Nat.le_of_eq (congrArg Array.size q.1.symm)) rfl own_pd0 rfl rfl rfl (by decide) (Nat.le_of_ble_eq_true rfl) (by decide) (by decide) ?_
        rintro v227 T h_ X ⟨eh_, rfl⟩
        rw [eh_] at X
        show own_Ends p e below _ (T.setTop (mkF m 230 #[.val (.int pa), .val (.int pb), .val (.int pc), .val (.int (Int32.ofNat i.val)), .val (.int (2 : Int32)), .val (.int (0 : Int32)), .val (.int (1 : Int32)), .val (.int (own_arc (2 : Int32) (Int32.ofNat i.val))), .val (.ref b83), .val (.ref b89), .val (.int (1 : Int32)), .val (.int (1 : Int32)), .val (.int (2 : Int32)), .val (.int (1 : Int32)), .val (.int (5 : Int32)), .val (.int ((1 : Int32) + (5 : Int32))), .unset] [(.int (own_count (own_kind (own_arc (2 : Int32) (Int32.ofNat i.val)))))]))
        rw [own_arc_kind_2 i]
        rw [show own_count (2 : Int32) = (6 : Int32) from by decide]
        refine own_iload X 232 ((1 : Int32) + (5 : Int32)) at_230 rfl rfl ?_
        refine own_icN X 235 at_232 rfl (XT.ii_ne_f (by decide)) ?_
        refine own_iconst X 236 (1 : Int32) at_235 rfl rfl ?_
        refine own_goto X 240 at_236 (by decide) (by decide) ?_
        refine own_istore X 242 #[.val (.int pa), .val (.int pb), .val (.int pc), .val (.int (Int32.ofNat i.val)), .val (.int (2 : Int32)), .val (.int (0 : Int32)), .val (.int (1 : Int32)), .val (.int (own_arc (2 : Int32) (Int32.ofNat i.val))), .val (.ref b83), .val (.ref b89), .val (.int (1 : Int32)), .val (.int (1 : Int32)), .val (.int (2 : Int32)), .val (.int (1 : Int32)), .val (.int (5 : Int32)), .val (.int ((1 : Int32) + (5 : Int32))), .val (.int (1 : Int32))] at_240 rfl rfl ?_
        refine own_iload X 244 (1 : Int32) at_242 rfl rfl ?_
        refine own_ifN X 247 at_244 rfl (XT.i0_eq_f (by decide)) ?_
        refine own_iload X 249 (1 : Int32) at_247 rfl rfl ?_
        refine own_ifN X 252 at_249 rfl (XT.i0_eq_f (by decide)) ?_
        refine own_iload X 254 (1 : Int32) at_252 rfl rfl ?_
        refine own_ifN X 257 at_254 rfl (XT.i0_eq_f (by decide)) ?_
        refine own_iload X 259 (1 : Int32) at_257 rfl rfl ?_
        refine own_ifN X 262 at_259 rfl (XT.i0_eq_f (by decide)) ?_
        refine own_iconst X 263 (1 : Int32) at_262 rfl rfl ?_
        refine own_goto X 267 at_263 (by decide) (by decide) ?_
        exact own_retN X .boolean at_267 rfl (by simp) (by decide) (by decide) (by decide)
    · refine own_ifN X 22 at_19 rfl (XT.i0_eq_f hc19) ?_
      refine own_iconst X 23 (1 : Int32) at_22 rfl rfl ?_
      refine own_goto X 27 at_23 (by decide) (by decide) ?_
      refine own_istore X 29 #[.val (.int pa), .val (.int pb), .val (.int pc), .val (.int (Int32.ofNat i.val)), .val (.int (2 : Int32)), .val (.int (1 : Int32)), .unset, .unset, .unset, .unset, .unset, .unset, .unset, .unset, .unset, .unset, .unset] at_27 rfl rfl ?_
      refine own_iloadN X 30 pc at_29 rfl rfl ?_
      refine own_iconst X 31 (2 : Int32) at_30 rfl rfl ?_
      refine own_iand X 32 at_31 rfl ?_
      by_cases hc32 : (pc &&& (2 : Int32)) = (0 : Int32)
      · refine own_ifY X 39 at_32 (by decide) (by decide) (XT.i0_eq_t hc32) ?_
        refine own_iconst X 40 (0 : Int32) at_39 rfl rfl ?_
        refine own_istore X 42 #[.val (.int pa), .val (.int pb), .val (.int pc), .val (.int (Int32.ofNat i.val)), .val (.int (2 : Int32)), .val (.int (1 : Int32)), .val (.int (0 : Int32)), .unset, .unset, .unset, .unset, .unset, .unset, .unset, .unset, .unset, .unset] at_40 rfl rfl ?_
        refine own_iload X 44 (2 : Int32) at_42 rfl rfl ?_
        refine own_iconst X 45 (1 : Int32) at_44 rfl rfl ?_
        refine own_icY X 51 at_45 (by decide) (by decide) (XT.ii_ne_t (by decide)) ?_
        refine own_iload X 53 (2 : Int32) at_51 rfl rfl ?_
        refine own_ifY X 59 at_53 (by decide) (by decide) (XT.i0_ne_t (by decide)) ?_
        refine own_iloadN X 60 (Int32.ofNat i.val) at_59 rfl rfl ?_
        refine own_iload X 62 (2 : Int32) at_60 rfl rfl ?_
        refine own_iload X 64 (1 : Int32) at_62 rfl rfl ?_
        refine own_iload X 66 (0 : Int32) at_64 rfl rfl ?_
        refine own_callS X 69 [(.int (Int32.ofNat i.val)), (.int (2 : Int32)), (.int (1 : Int32)), (.int (0 : Int32))] [] at_66 rfl (hw _ (List.mem_of_getElem? (i := 1) rfl)) (hw _ (List.mem_of_getElem? (i := 2) rfl)) (hw _ (List.mem_of_getElem? (i := 3) rfl)) (hw _ (List.mem_of_getElem? (i := 4) rfl)) (by decide) (own_marc l Z a0 hw (Int32.ofNat i.val) (2 : Int32) (1 : Int32) (0 : Int32) av kc 10 (6 : Int32) h0 n0 X.sz OL z_s z_A (by decide) (by decide) rfl) (fun _ _ q => Nat.le_of_eq (congrArg Array.size q.1.symm)) rfl own_pd3 rfl rfl rfl (by decide) (Nat.le_of_ble_eq_true rfl) (by decide) (by decide) ?_
        rintro v66 T h_ X ⟨eh_, rfl⟩
        rw [eh_] at X
        show own_Ends p e below _ (T.setTop (mkF m 69 #[.val (.int pa), .val (.int pb), .val (.int pc), .val (.int (Int32.ofNat i.val)), .val (.int (2 : Int32)), .val (.int (1 : Int32)), .val (.int (0 : Int32)), .unset, .unset, .unset, .unset, .unset, .unset, .unset, .unset, .unset, .unset] [(.int (own_arc (6 : Int32) (Int32.ofNat i.val)))]))
        refine own_istore X 71 #[.val (.int pa), .val (.int pb), .val (.int pc), .val (.int (Int32.ofNat i.val)), .val (.int (2 : Int32)), .val (.int (1 : Int32)), .val (.int (0 : Int32)), .val (.int (own_arc (6 : Int32) (Int32.ofNat i.val))), .unset, .unset, .unset, .unset, .unset, .unset, .unset, .unset, .unset] at_69 rfl rfl ?_
        refine own_iconst X 72 (4 : Int32) at_71 rfl rfl ?_
        refine own_newP X 74 4 4 at_72 rfl (hw _ (List.mem_of_getElem? (i := 7) rfl)) (by decide) (by decide) (by decide) (by decide) (by decide) (by decide) ?_
        intro T h91 b92 kc_b92 g_b92 X E_h91 A_b92
        have zs_h91 : h0.size ≤ h91.size := E_h91.1
        have OL := OL.ext E_h91
        have lo_b92 : h0.size ≤ b92 := Nat.le_of_eq g_b92.symm
        have hi_b92 : h91.size > b92 := A_b92.lt
        have A_b92 : own_A Z h91 b92 kc_b92 .byte [(.int (0 : Int32)), (.int (0 : Int32)), (.int (0 : Int32)), (.int (0 : Int32))] := A_b92
        refine own_dup X 75 at_74 rfl rfl ?_
        refine own_iconst X 76 (0 : Int32) at_75 rfl rfl ?_
        refine own_iload X 78 (own_arc (6 : Int32) (Int32.ofNat i.val)) at_76 rfl rfl ?_
        refine own_bastore X 79 0 at_78 rfl A_b92 (by decide) (by decide) (Nat.le_of_ble_eq_true rfl) (by omega) ?_
        intro T h93 X W_h93
        have nw_h93 : own_A Z h93 b92 kc_b92 .byte [(.int (nar .byte (own_arc (6 : Int32) (Int32.ofNat i.val)))), (.int (0 : Int32)), (.int (0 : Int32)), (.int (0 : Int32))] := A_b92.same W_h93 (fits_nar_byte _)
        have zs_h93 : h91.size ≤ h93.size := (Nat.le_of_eq W_h93.size.symm)
        have OL := OL.wr W_h93 (by omega)
        have A_b92 := nw_h93
        refine own_dup X 80 at_79 rfl rfl ?_
        refine own_iconst X 81 (1 : Int32) at_80 rfl rfl ?_
        refine own_iconst X 82 (2 : Int32) at_81 rfl rfl ?_
        refine own_bastore X 83 1 at_82 rfl A_b92 (by decide) (by decide) (Nat.le_of_ble_eq_true rfl) (by omega) ?_
        intro T h94 X W_h94
        have nw_h94 : own_A Z h94 b92 kc_b92 .byte [(.int (nar .byte (own_arc (6 : Int32) (Int32.ofNat i.val)))), (.int (nar .byte (2 : Int32))), (.int (0 : Int32)), (.int (0 : Int32))] := A_b92.same W_h94 (fits_nar_byte _)
        have zs_h94 : h93.size ≤ h94.size := (Nat.le_of_eq W_h94.size.symm)
        have OL := OL.wr W_h94 (by omega)
        have A_b92 := nw_h94
        refine own_dup X 84 at_83 rfl rfl ?_
        refine own_iconst X 85 (2 : Int32) at_84 rfl rfl ?_
        refine own_iconst X 86 (0 : Int32) at_85 rfl rfl ?_
        refine own_bastore X 87 2 at_86 rfl A_b92 (by decide) (by decide) (Nat.le_of_ble_eq_true rfl) (by omega) ?_
        intro T h95 X W_h95
        have nw_h95 : own_A Z h95 b92 kc_b92 .byte [(.int (nar .byte (own_arc (6 : Int32) (Int32.ofNat i.val)))), (.int (nar .byte (2 : Int32))), (.int (nar .byte (0 : Int32))), (.int (0 : Int32))] := A_b92.same W_h95 (fits_nar_byte _)
        have zs_h95 : h94.size ≤ h95.size := (Nat.le_of_eq W_h95.size.symm)
        have OL := OL.wr W_h95 (by omega)
        have A_b92 := nw_h95
        refine own_dup X 88 at_87 rfl rfl ?_
        refine own_iconst X 89 (3 : Int32) at_88 rfl rfl ?_
        refine own_bipush X 91 (10 : Int32) at_89 rfl (by decide) ?_
        refine own_bastore X 92 3 at_91 rfl A_b92 (by decide) (by decide) (Nat.le_of_ble_eq_true rfl) (by omega) ?_
        intro T h96 X W_h96
        have nw_h96 : own_A Z h96 b92 kc_b92 .byte [(.int (nar .byte (own_arc (6 : Int32) (Int32.ofNat i.val)))), (.int (nar .byte (2 : Int32))), (.int (nar .byte (0 : Int32))), (.int (nar .byte (10 : Int32)))] := A_b92.same W_h96 (fits_nar_byte _)
        have zs_h96 : h95.size ≤ h96.size := (Nat.le_of_eq W_h96.size.symm)
        have OL := OL.wr W_h96 (by omega)
        have A_b92 := nw_h96
        have A_b92 : own_A Z h96 b92 kc_b92 .byte [(.int (own_arc (6 : Int32) (Int32.ofNat i.val))), (.int 2), (.int 0), (.int 10)] := by have q := own_narb ((((6 : Int32) <<< (5 &&& 31)) ||| (Int32.ofNat i.val))); simpa only [own_arc, q, show nar .byte (2 : Int32) = 2 from by decide, show nar .byte (0 : Int32) = 0 from by decide, show nar .byte (10 : Int32) = 10 from by decide] using A_b92
        refine own_astore X 94 #[.val (.int pa), .val (.int pb), .val (.int pc), .val (.int (Int32.ofNat i.val)), .val (.int (2 : Int32)), .val (.int (1 : Int32)), .val (.int (0 : Int32)), .val (.int (own_arc (6 : Int32) (Int32.ofNat i.val))), .val (.ref b92), .unset, .unset, .unset, .unset, .unset, .unset, .unset, .unset] at_92 rfl rfl rfl ?_
        refine own_new X 97 at_94 rfl (hw _ (List.mem_of_getElem? (i := 8) rfl)) (hw _ (List.mem_of_getElem? (i := 9) rfl)) (hw _ (List.mem_of_getElem? (i := 3) rfl)) (by decide) (by decide) ?_
        intro T h97 b98 g_b98 X E_h97 A_b98 D_b98
        have zs_h97 : h96.size ≤ h97.size := E_h97.1
        have OL := OL.ext E_h97
        have A_b92 := A_b92.ext E_h97
        have lo_b98 : h96.size ≤ b98 := Nat.le_of_eq g_b98.symm
        have hi_b98 : h97.size > b98 := A_b98.lt
        have F_bytes_b98 : Fld Z h97 b98 "com/example/radix26/radix26/internal/trie/FrozenNodes" "bytes" "[B" .null := D_b98 (Or.inr (hw _ (List.mem_of_getElem? (i := 17) rfl))) (ty := (.array .byte)) (by decide)
        refine own_dup X 98 at_97 rfl rfl ?_
        refine own_aload X 100 (.ref b92) at_98 rfl rfl rfl ?_
        refine own_init X 103 [(.ref b92)] [(.ref b98)] at_100 rfl (hw _ (List.mem_of_getElem? (i := 10) rfl)) (hw _ (List.mem_of_getElem? (i := 11) rfl)) (hw _ (List.mem_of_getElem? (i := 3) rfl)) (hw _ (List.mem_of_getElem? (i := 12) rfl)) (by decide) rfl (own_mini l Z a0 hw b98 b92 h97 n0 X.sz F_bytes_b98 A_b98 (by omega)) (fun _ _ q => q.1.1) rfl own_pd4 rfl rfl rfl (by decide) (Nat.le_of_ble_eq_true rfl) (by decide) (by decide) ?_
        rintro v100 T h99 X ⟨K_, rfl, Fi_⟩
        have zs_h99 : h97.size ≤ h99.size := K_.1
        have OL := OL.keep K_ (allS (by omega) all0)
        have A_b92 := A_b92.keep K_ (ninS (by show @Ne Nat _ _; omega) nin0)
        have A_b98 := A_b98.keep K_
        have F_bytes_b98 := Fi_
        show own_Ends p e below _ (T.setTop (mkF m 103 #[.val (.int pa), .val (.int pb), .val (.int pc), .val (.int (Int32.ofNat i.val)), .val (.int (2 : Int32)), .val (.int (1 : Int32)), .val (.int (0 : Int32)), .val (.int (own_arc (6 : Int32) (Int32.ofNat i.val))), .val (.ref b92), .unset, .unset, .unset, .unset, .unset, .unset, .unset, .unset] [(.ref b98)]))
        refine own_astore X 105 #[.val (.int pa), .val (.int pb), .val (.int pc), .val (.int (Int32.ofNat i.val)), .val (.int (2 : Int32)), .val (.int (1 : Int32)), .val (.int (0 : Int32)), .val (.int (own_arc (6 : Int32) (Int32.ofNat i.val))), .val (.ref b92), .val (.ref b98), .unset, .unset, .unset, .unset, .unset, .unset, .unset] at_103 rfl rfl rfl ?_
        refine own_aload X 107 (.ref b98) at_105 rfl rfl rfl ?_
        refine own_iconst X 108 (0 : Int32) at_107 rfl rfl ?_
        refine own_callV X 111 [(.int (0 : Int32))] [] at_108 rfl (hw _ (List.mem_of_getElem? (i := 18) rfl)) (hw _ (List.mem_of_getElem? (i := 19) rfl)) (own_nf X.2.2.2.2.1 (hw _ (List.mem_of_getElem? (i := 21) rfl))) (hw _ (List.mem_of_getElem? (i := 21) rfl)) (hw _ (List.mem_of_getElem? (i := 20) rfl)) (hw _ (List.mem_of_getElem? (i := 3) rfl)) (hw _ (List.mem_of_getElem? (i := 22) rfl)) (by decide) A_b98 (own_mindex l Z a0 hw b98 (0 : Int32) b92 kc_b92 (own_arc (6 : Int32) (Int32.ofNat i.val)) h99 n0 X.sz F_bytes_b98 A_b98 A_b92 rfl) (fun _ _ q => Nat.le_of_eq (congrArg Array.size q.1.symm)) rfl own_pd0 rfl rfl rfl (by decide) (Nat.le_of_ble_eq_true rfl) (by decide) (by decide) ?_
        rintro v108 T h_ X ⟨eh_, rfl⟩
        rw [eh_] at X
        show own_Ends p e below _ (T.setTop (mkF m 111 #[.val (.int pa), .val (.int pb), .val (.int pc), .val (.int (Int32.ofNat i.val)), .val (.int (2 : Int32)), .val (.int (1 : Int32)), .val (.int (0 : Int32)), .val (.int (own_arc (6 : Int32) (Int32.ofNat i.val))), .val (.ref b92), .val (.ref b98), .unset, .unset, .unset, .unset, .unset, .unset, .unset] [(.int ((own_arc (6 : Int32) (Int32.ofNat i.val)) &&& 31))]))
        rw [own_arc_ix_6 i]
        refine own_iloadN X 112 (Int32.ofNat i.val) at_111 rfl rfl ?_
        refine own_icN X 115 at_112 rfl (XT.ii_ne_f rfl) ?_
        refine own_iconst X 116 (1 : Int32) at_115 rfl rfl ?_
        refine own_goto X 120 at_116 (by decide) (by decide) ?_
        refine own_istore X 122 #[.val (.int pa), .val (.int pb), .val (.int pc), .val (.int (Int32.ofNat i.val)), .val (.int (2 : Int32)), .val (.int (1 : Int32)), .val (.int (0 : Int32)), .val (.int (own_arc (6 : Int32) (Int32.ofNat i.val))), .val (.ref b92), .val (.ref b98), .val (.int (1 : Int32)), .unset, .unset, .unset, .unset, .unset, .unset] at_120 rfl rfl ?_
        refine own_aload X 124 (.ref b98) at_122 rfl rfl rfl ?_
        refine own_iconst X 125 (0 : Int32) at_124 rfl rfl ?_
        refine own_callV X 128 [(.int (0 : Int32))] [] at_125 rfl (hw _ (List.mem_of_getElem? (i := 23) rfl)) (hw _ (List.mem_of_getElem? (i := 24) rfl)) (own_nf X.2.2.2.2.1 (hw _ (List.mem_of_getElem? (i := 26) rfl))) (hw _ (List.mem_of_getElem? (i := 26) rfl)) (hw _ (List.mem_of_getElem? (i := 25) rfl)) (hw _ (List.mem_of_getElem? (i := 3) rfl)) (hw _ (List.mem_of_getElem? (i := 27) rfl)) (by decide) A_b98 (own_misw l Z a0 hw b98 (0 : Int32) b92 kc_b92 (own_arc (6 : Int32) (Int32.ofNat i.val)) h99 n0 X.sz F_bytes_b98 A_b98 A_b92 rfl) (fun _ _ q => Nat.le_of_eq (congrArg Array.size q.1.symm)) rfl own_pd2 rfl rfl rfl (by decide) (Nat.le_of_ble_eq_true rfl) (by decide) (by decide) ?_
        rintro v125 T h_ X ⟨eh_, rfl⟩
        rw [eh_] at X
        show own_Ends p e below _ (T.setTop (mkF m 128 #[.val (.int pa), .val (.int pb), .val (.int pc), .val (.int (Int32.ofNat i.val)), .val (.int (2 : Int32)), .val (.int (1 : Int32)), .val (.int (0 : Int32)), .val (.int (own_arc (6 : Int32) (Int32.ofNat i.val))), .val (.ref b92), .val (.ref b98), .val (.int (1 : Int32)), .unset, .unset, .unset, .unset, .unset, .unset] [(.int (own_is 173 (own_kind (own_arc (6 : Int32) (Int32.ofNat i.val)))))]))
        rw [own_arc_kind_6 i]
        rw [show own_is 173 (6 : Int32) = (0 : Int32) from by decide]
        refine own_iload X 130 (0 : Int32) at_128 rfl rfl ?_
        refine own_icN X 133 at_130 rfl (XT.ii_ne_f (by decide)) ?_
        refine own_iconst X 134 (1 : Int32) at_133 rfl rfl ?_
        refine own_goto X 138 at_134 (by decide) (by decide) ?_
        refine own_istore X 140 #[.val (.int pa), .val (.int pb), .val (.int pc), .val (.int (Int32.ofNat i.val)), .val (.int (2 : Int32)), .val (.int (1 : Int32)), .val (.int (0 : Int32)), .val (.int (own_arc (6 : Int32) (Int32.ofNat i.val))), .val (.ref b92), .val (.ref b98), .val (.int (1 : Int32)), .val (.int (1 : Int32)), .unset, .unset, .unset, .unset, .unset] at_138 rfl rfl ?_
        refine own_iload X 142 (1 : Int32) at_140 rfl rfl ?_
        refine own_ifN X 145 at_142 rfl (XT.i0_eq_f (by decide)) ?_
        refine own_iconst X 146 (-1 : Int32) at_145 rfl rfl ?_
        refine own_istore X 148 #[.val (.int pa), .val (.int pb), .val (.int pc), .val (.int (Int32.ofNat i.val)), .val (.int (2 : Int32)), .val (.int (1 : Int32)), .val (.int (0 : Int32)), .val (.int (own_arc (6 : Int32) (Int32.ofNat i.val))), .val (.ref b92), .val (.ref b98), .val (.int (1 : Int32)), .val (.int (1 : Int32)), .val (.int (-1 : Int32)), .unset, .unset, .unset, .unset] at_146 rfl rfl ?_
        refine own_goto X 165 at_148 (by decide) (by decide) ?_
        refine own_aload X 167 (.ref b98) at_165 rfl rfl rfl ?_
        refine own_iconst X 168 (0 : Int32) at_167 rfl rfl ?_
        refine own_callV X 171 [(.int (0 : Int32))] [] at_168 rfl (hw _ (List.mem_of_getElem? (i := 35) rfl)) (hw _ (List.mem_of_getElem? (i := 36) rfl)) (own_nf X.2.2.2.2.1 (hw _ (List.mem_of_getElem? (i := 38) rfl))) (hw _ (List.mem_of_getElem? (i := 38) rfl)) (hw _ (List.mem_of_getElem? (i := 37) rfl)) (hw _ (List.mem_of_getElem? (i := 3) rfl)) (hw _ (List.mem_of_getElem? (i := 39) rfl)) (by decide) A_b98 (own_mns l Z a0 hw b98 (0 : Int32) b92 kc_b92 (own_arc (6 : Int32) (Int32.ofNat i.val)) h99 n0 X.sz F_bytes_b98 A_b98 A_b92 rfl) (fun _ _ q => Nat.le_of_eq (congrArg Array.size q.1.symm)) rfl own_pd0 rfl rfl rfl (by decide) (Nat.le_of_ble_eq_true rfl) (by decide) (by decide) ?_
        rintro v168 T h_ X ⟨eh_, rfl⟩
        rw [eh_] at X
        show own_Ends p e below _ (T.setTop (mkF m 171 #[.val (.int pa), .val (.int pb), .val (.int pc), .val (.int (Int32.ofNat i.val)), .val (.int (2 : Int32)), .val (.int (1 : Int32)), .val (.int (0 : Int32)), .val (.int (own_arc (6 : Int32) (Int32.ofNat i.val))), .val (.ref b92), .val (.ref b98), .val (.int (1 : Int32)), .val (.int (1 : Int32)), .val (.int (-1 : Int32)), .unset, .unset, .unset, .unset] [(.int (own_ns (own_kind (own_arc (6 : Int32) (Int32.ofNat i.val)))))]))
        rw [own_arc_kind_6 i]
        rw [show own_ns (6 : Int32) = (-1 : Int32) from by decide]
        refine own_iload X 173 (-1 : Int32) at_171 rfl rfl ?_
        refine own_icN X 176 at_173 rfl (XT.ii_ne_f (by decide)) ?_
        refine own_iconst X 177 (1 : Int32) at_176 rfl rfl ?_
        refine own_goto X 181 at_177 (by decide) (by decide) ?_
        refine own_istore X 183 #[.val (.int pa), .val (.int pb), .val (.int pc), .val (.int (Int32.ofNat i.val)), .val (.int (2 : Int32)), .val (.int (1 : Int32)), .val (.int (0 : Int32)), .val (.int (own_arc (6 : Int32) (Int32.ofNat i.val))), .val (.ref b92), .val (.ref b98), .val (.int (1 : Int32)), .val (.int (1 : Int32)), .val (.int (-1 : Int32)), .val (.int (1 : Int32)), .unset, .unset, .unset] at_181 rfl rfl ?_
        refine own_iload X 185 (2 : Int32) at_183 rfl rfl ?_
        refine own_ifY X 194 at_185 (by decide) (by decide) (XT.i0_ne_t (by decide)) ?_
        refine own_iload X 196 (2 : Int32) at_194 rfl rfl ?_
        refine own_iconst X 197 (1 : Int32) at_196 rfl rfl ?_
        refine own_icY X 206 at_197 (by decide) (by decide) (XT.ii_ne_t (by decide)) ?_
        refine own_iconst X 207 (5 : Int32) at_206 rfl rfl ?_
        refine own_istore X 209 #[.val (.int pa), .val (.int pb), .val (.int pc), .val (.int (Int32.ofNat i.val)), .val (.int (2 : Int32)), .val (.int (1 : Int32)), .val (.int (0 : Int32)), .val (.int (own_arc (6 : Int32) (Int32.ofNat i.val))), .val (.ref b92), .val (.ref b98), .val (.int (1 : Int32)), .val (.int (1 : Int32)), .val (.int (-1 : Int32)), .val (.int (1 : Int32)), .val (.int (5 : Int32)), .unset, .unset] at_207 rfl rfl ?_
        refine own_iload X 211 (0 : Int32) at_209 rfl rfl ?_
        refine own_ifY X 218 at_211 (by decide) (by decide) (XT.i0_eq_t (by decide)) ?_
        refine own_iconst X 219 (0 : Int32) at_218 rfl rfl ?_
        refine own_iload X 221 (5 : Int32) at_219 rfl rfl ?_
        refine own_iadd X 222 at_221 rfl ?_
        refine own_istore X 224 #[.val (.int pa), .val (.int pb), .val (.int pc), .val (.int (Int32.ofNat i.val)), .val (.int (2 : Int32)), .val (.int (1 : Int32)), .val (.int (0 : Int32)), .val (.int (own_arc (6 : Int32) (Int32.ofNat i.val))), .val (.ref b92), .val (.ref b98), .val (.int (1 : Int32)), .val (.int (1 : Int32)), .val (.int (-1 : Int32)), .val (.int (1 : Int32)), .val (.int (5 : Int32)), .val (.int ((0 : Int32) + (5 : Int32))), .unset] at_222 rfl rfl ?_
        refine own_aload X 226 (.ref b98) at_224 rfl rfl rfl ?_
        refine own_iconst X 227 (0 : Int32) at_226 rfl rfl ?_
        refine own_callV X 230 [(.int (0 : Int32))] [] at_227 rfl (hw _ (List.mem_of_getElem? (i := 40) rfl)) (hw _ (List.mem_of_getElem? (i := 41) rfl)) (own_nf X.2.2.2.2.1 (hw _ (List.mem_of_getElem? (i := 43) rfl))) (hw _ (List.mem_of_getElem? (i := 43) rfl)) (hw _ (List.mem_of_getElem? (i := 42) rfl)) (hw _ (List.mem_of_getElem? (i := 3) rfl)) (hw _ (List.mem_of_getElem? (i := 44) rfl)) (by decide) A_b98 (own_mcount l Z a0 hw b98 (0 : Int32) b92 kc_b92 (own_arc (6 : Int32) (Int32.ofNat i.val)) h99 n0 X.sz F_bytes_b98 A_b98 A_b92 rfl ⟨⟨6, by decide⟩, own_arc_kind_6 i⟩) (fun _ _ q => Nat.le_of_eq (congrArg Array.size q.1.symm)) rfl own_pd0 rfl rfl rfl (by decide) (Nat.le_of_ble_eq_true rfl) (by decide) (by decide) ?_
        rintro v227 T h_ X ⟨eh_, rfl⟩
        rw [eh_] at X
        show own_Ends p e below _ (T.setTop (mkF m 230 #[.val (.int pa), .val (.int pb), .val (.int pc), .val (.int (Int32.ofNat i.val)), .val (.int (2 : Int32)), .val (.int (1 : Int32)), .val (.int (0 : Int32)), .val (.int (own_arc (6 : Int32) (Int32.ofNat i.val))), .val (.ref b92), .val (.ref b98), .val (.int (1 : Int32)), .val (.int (1 : Int32)), .val (.int (-1 : Int32)), .val (.int (1 : Int32)), .val (.int (5 : Int32)), .val (.int ((0 : Int32) + (5 : Int32))), .unset] [(.int (own_count (own_kind (own_arc (6 : Int32) (Int32.ofNat i.val)))))]))
        rw [own_arc_kind_6 i]
        rw [show own_count (6 : Int32) = (5 : Int32) from by decide]
        refine own_iload X 232 ((0 : Int32) + (5 : Int32)) at_230 rfl rfl ?_
        refine own_icN X 235 at_232 rfl (XT.ii_ne_f (by decide)) ?_
        refine own_iconst X 236 (1 : Int32) at_235 rfl rfl ?_
        refine own_goto X 240 at_236 (by decide) (by decide) ?_
        refine own_istore X 242 #[.val (.int pa), .val (.int pb), .val (.int pc), .val (.int (Int32.ofNat i.val)), .val (.int (2 : Int32)), .val (.int (1 : Int32)), .val (.int (0 : Int32)), .val (.int (own_arc (6 : Int32) (Int32.ofNat i.val))), .val (.ref b92), .val (.ref b98), .val (.int (1 : Int32)), .val (.int (1 : Int32)), .val (.int (-1 : Int32)), .val (.int (1 : Int32)), .val (.int (5 : Int32)), .val (.int ((0 : Int32) + (5 : Int32))), .val (.int (1 : Int32))] at_240 rfl rfl ?_
        refine own_iload X 244 (1 : Int32) at_242 rfl rfl ?_
        refine own_ifN X 247 at_244 rfl (XT.i0_eq_f (by decide)) ?_
        refine own_iload X 249 (1 : Int32) at_247 rfl rfl ?_
        refine own_ifN X 252 at_249 rfl (XT.i0_eq_f (by decide)) ?_
        refine own_iload X 254 (1 : Int32) at_252 rfl rfl ?_
        refine own_ifN X 257 at_254 rfl (XT.i0_eq_f (by decide)) ?_
        refine own_iload X 259 (1 : Int32) at_257 rfl rfl ?_
        refine own_ifN X 262 at_259 rfl (XT.i0_eq_f (by decide)) ?_
        refine own_iconst X 263 (1 : Int32) at_262 rfl rfl ?_
        refine own_goto X 267 at_263 (by decide) (by decide) ?_
        exact own_retN X .boolean at_267 rfl (by simp) (by decide) (by decide) (by decide)
      · refine own_ifN X 35 at_32 rfl (XT.i0_eq_f hc32) ?_
        refine own_iconst X 36 (1 : Int32) at_35 rfl rfl ?_
        refine own_goto X 40 at_36 (by decide) (by decide) ?_
        refine own_istore X 42 #[.val (.int pa), .val (.int pb), .val (.int pc), .val (.int (Int32.ofNat i.val)), .val (.int (2 : Int32)), .val (.int (1 : Int32)), .val (.int (1 : Int32)), .unset, .unset, .unset, .unset, .unset, .unset, .unset, .unset, .unset, .unset] at_40 rfl rfl ?_
        refine own_iload X 44 (2 : Int32) at_42 rfl rfl ?_
        refine own_iconst X 45 (1 : Int32) at_44 rfl rfl ?_
        refine own_icY X 51 at_45 (by decide) (by decide) (XT.ii_ne_t (by decide)) ?_
        refine own_iload X 53 (2 : Int32) at_51 rfl rfl ?_
        refine own_ifY X 59 at_53 (by decide) (by decide) (XT.i0_ne_t (by decide)) ?_
        refine own_iloadN X 60 (Int32.ofNat i.val) at_59 rfl rfl ?_
        refine own_iload X 62 (2 : Int32) at_60 rfl rfl ?_
        refine own_iload X 64 (1 : Int32) at_62 rfl rfl ?_
        refine own_iload X 66 (1 : Int32) at_64 rfl rfl ?_
        refine own_callS X 69 [(.int (Int32.ofNat i.val)), (.int (2 : Int32)), (.int (1 : Int32)), (.int (1 : Int32))] [] at_66 rfl (hw _ (List.mem_of_getElem? (i := 1) rfl)) (hw _ (List.mem_of_getElem? (i := 2) rfl)) (hw _ (List.mem_of_getElem? (i := 3) rfl)) (hw _ (List.mem_of_getElem? (i := 4) rfl)) (by decide) (own_marc l Z a0 hw (Int32.ofNat i.val) (2 : Int32) (1 : Int32) (1 : Int32) av kc 11 (7 : Int32) h0 n0 X.sz OL z_s z_A (by decide) (by decide) rfl) (fun _ _ q => Nat.le_of_eq (congrArg Array.size q.1.symm)) rfl own_pd3 rfl rfl rfl (by decide) (Nat.le_of_ble_eq_true rfl) (by decide) (by decide) ?_
        rintro v66 T h_ X ⟨eh_, rfl⟩
        rw [eh_] at X
        show own_Ends p e below _ (T.setTop (mkF m 69 #[.val (.int pa), .val (.int pb), .val (.int pc), .val (.int (Int32.ofNat i.val)), .val (.int (2 : Int32)), .val (.int (1 : Int32)), .val (.int (1 : Int32)), .unset, .unset, .unset, .unset, .unset, .unset, .unset, .unset, .unset, .unset] [(.int (own_arc (7 : Int32) (Int32.ofNat i.val)))]))
        refine own_istore X 71 #[.val (.int pa), .val (.int pb), .val (.int pc), .val (.int (Int32.ofNat i.val)), .val (.int (2 : Int32)), .val (.int (1 : Int32)), .val (.int (1 : Int32)), .val (.int (own_arc (7 : Int32) (Int32.ofNat i.val))), .unset, .unset, .unset, .unset, .unset, .unset, .unset, .unset, .unset] at_69 rfl rfl ?_
        refine own_iconst X 72 (4 : Int32) at_71 rfl rfl ?_
        refine own_newP X 74 4 4 at_72 rfl (hw _ (List.mem_of_getElem? (i := 7) rfl)) (by decide) (by decide) (by decide) (by decide) (by decide) (by decide) ?_
        intro T h100 b101 kc_b101 g_b101 X E_h100 A_b101
        have zs_h100 : h0.size ≤ h100.size := E_h100.1
        have OL := OL.ext E_h100
        have lo_b101 : h0.size ≤ b101 := Nat.le_of_eq g_b101.symm
        have hi_b101 : h100.size > b101 := A_b101.lt
        have A_b101 : own_A Z h100 b101 kc_b101 .byte [(.int (0 : Int32)), (.int (0 : Int32)), (.int (0 : Int32)), (.int (0 : Int32))] := A_b101
        refine own_dup X 75 at_74 rfl rfl ?_
        refine own_iconst X 76 (0 : Int32) at_75 rfl rfl ?_
        refine own_iload X 78 (own_arc (7 : Int32) (Int32.ofNat i.val)) at_76 rfl rfl ?_
        refine own_bastore X 79 0 at_78 rfl A_b101 (by decide) (by decide) (Nat.le_of_ble_eq_true rfl) (by omega) ?_
        intro T h102 X W_h102
        have nw_h102 : own_A Z h102 b101 kc_b101 .byte [(.int (nar .byte (own_arc (7 : Int32) (Int32.ofNat i.val)))), (.int (0 : Int32)), (.int (0 : Int32)), (.int (0 : Int32))] := A_b101.same W_h102 (fits_nar_byte _)
        have zs_h102 : h100.size ≤ h102.size := (Nat.le_of_eq W_h102.size.symm)
        have OL := OL.wr W_h102 (by omega)
        have A_b101 := nw_h102
        refine own_dup X 80 at_79 rfl rfl ?_
        refine own_iconst X 81 (1 : Int32) at_80 rfl rfl ?_
        refine own_iconst X 82 (2 : Int32) at_81 rfl rfl ?_
        refine own_bastore X 83 1 at_82 rfl A_b101 (by decide) (by decide) (Nat.le_of_ble_eq_true rfl) (by omega) ?_
        intro T h103 X W_h103
        have nw_h103 : own_A Z h103 b101 kc_b101 .byte [(.int (nar .byte (own_arc (7 : Int32) (Int32.ofNat i.val)))), (.int (nar .byte (2 : Int32))), (.int (0 : Int32)), (.int (0 : Int32))] := A_b101.same W_h103 (fits_nar_byte _)
        have zs_h103 : h102.size ≤ h103.size := (Nat.le_of_eq W_h103.size.symm)
        have OL := OL.wr W_h103 (by omega)
        have A_b101 := nw_h103
        refine own_dup X 84 at_83 rfl rfl ?_
        refine own_iconst X 85 (2 : Int32) at_84 rfl rfl ?_
        refine own_iconst X 86 (0 : Int32) at_85 rfl rfl ?_
        refine own_bastore X 87 2 at_86 rfl A_b101 (by decide) (by decide) (Nat.le_of_ble_eq_true rfl) (by omega) ?_
        intro T h104 X W_h104
        have nw_h104 : own_A Z h104 b101 kc_b101 .byte [(.int (nar .byte (own_arc (7 : Int32) (Int32.ofNat i.val)))), (.int (nar .byte (2 : Int32))), (.int (nar .byte (0 : Int32))), (.int (0 : Int32))] := A_b101.same W_h104 (fits_nar_byte _)
        have zs_h104 : h103.size ≤ h104.size := (Nat.le_of_eq W_h104.size.symm)
        have OL := OL.wr W_h104 (by omega)
        have A_b101 := nw_h104
        refine own_dup X 88 at_87 rfl rfl ?_
        refine own_iconst X 89 (3 : Int32) at_88 rfl rfl ?_
        refine own_bipush X 91 (10 : Int32) at_89 rfl (by decide) ?_
        refine own_bastore X 92 3 at_91 rfl A_b101 (by decide) (by decide) (Nat.le_of_ble_eq_true rfl) (by omega) ?_
        intro T h105 X W_h105
        have nw_h105 : own_A Z h105 b101 kc_b101 .byte [(.int (nar .byte (own_arc (7 : Int32) (Int32.ofNat i.val)))), (.int (nar .byte (2 : Int32))), (.int (nar .byte (0 : Int32))), (.int (nar .byte (10 : Int32)))] := A_b101.same W_h105 (fits_nar_byte _)
        have zs_h105 : h104.size ≤ h105.size := (Nat.le_of_eq W_h105.size.symm)
        have OL := OL.wr W_h105 (by omega)
        have A_b101 := nw_h105
        have A_b101 : own_A Z h105 b101 kc_b101 .byte [(.int (own_arc (7 : Int32) (Int32.ofNat i.val))), (.int 2), (.int 0), (.int 10)] := by have q := own_narb ((((7 : Int32) <<< (5 &&& 31)) ||| (Int32.ofNat i.val))); simpa only [own_arc, q, show nar .byte (2 : Int32) = 2 from by decide, show nar .byte (0 : Int32) = 0 from by decide, show nar .byte (10 : Int32) = 10 from by decide] using A_b101
        refine own_astore X 94 #[.val (.int pa), .val (.int pb), .val (.int pc), .val (.int (Int32.ofNat i.val)), .val (.int (2 : Int32)), .val (.int (1 : Int32)), .val (.int (1 : Int32)), .val (.int (own_arc (7 : Int32) (Int32.ofNat i.val))), .val (.ref b101), .unset, .unset, .unset, .unset, .unset, .unset, .unset, .unset] at_92 rfl rfl rfl ?_
        refine own_new X 97 at_94 rfl (hw _ (List.mem_of_getElem? (i := 8) rfl)) (hw _ (List.mem_of_getElem? (i := 9) rfl)) (hw _ (List.mem_of_getElem? (i := 3) rfl)) (by decide) (by decide) ?_
        intro T h106 b107 g_b107 X E_h106 A_b107 D_b107
        have zs_h106 : h105.size ≤ h106.size := E_h106.1
        have OL := OL.ext E_h106
        have A_b101 := A_b101.ext E_h106
        have lo_b107 : h105.size ≤ b107 := Nat.le_of_eq g_b107.symm
        have hi_b107 : h106.size > b107 := A_b107.lt
        have F_bytes_b107 : Fld Z h106 b107 "com/example/radix26/radix26/internal/trie/FrozenNodes" "bytes" "[B" .null := D_b107 (Or.inr (hw _ (List.mem_of_getElem? (i := 17) rfl))) (ty := (.array .byte)) (by decide)
        refine own_dup X 98 at_97 rfl rfl ?_
        refine own_aload X 100 (.ref b101) at_98 rfl rfl rfl ?_
        refine own_init X 103 [(.ref b101)] [(.ref b107)] at_100 rfl (hw _ (List.mem_of_getElem? (i := 10) rfl)) (hw _ (List.mem_of_getElem? (i := 11) rfl)) (hw _ (List.mem_of_getElem? (i := 3) rfl)) (hw _ (List.mem_of_getElem? (i := 12) rfl)) (by decide) rfl (own_mini l Z a0 hw b107 b101 h106 n0 X.sz F_bytes_b107 A_b107 (by omega)) (fun _ _ q => q.1.1) rfl own_pd4 rfl rfl rfl (by decide) (Nat.le_of_ble_eq_true rfl) (by decide) (by decide) ?_
        rintro v100 T h108 X ⟨K_, rfl, Fi_⟩
        have zs_h108 : h106.size ≤ h108.size := K_.1
        have OL := OL.keep K_ (allS (by omega) all0)
        have A_b101 := A_b101.keep K_ (ninS (by show @Ne Nat _ _; omega) nin0)
        have A_b107 := A_b107.keep K_
        have F_bytes_b107 := Fi_
        show own_Ends p e below _ (T.setTop (mkF m 103 #[.val (.int pa), .val (.int pb), .val (.int pc), .val (.int (Int32.ofNat i.val)), .val (.int (2 : Int32)), .val (.int (1 : Int32)), .val (.int (1 : Int32)), .val (.int (own_arc (7 : Int32) (Int32.ofNat i.val))), .val (.ref b101), .unset, .unset, .unset, .unset, .unset, .unset, .unset, .unset] [(.ref b107)]))
        refine own_astore X 105 #[.val (.int pa), .val (.int pb), .val (.int pc), .val (.int (Int32.ofNat i.val)), .val (.int (2 : Int32)), .val (.int (1 : Int32)), .val (.int (1 : Int32)), .val (.int (own_arc (7 : Int32) (Int32.ofNat i.val))), .val (.ref b101), .val (.ref b107), .unset, .unset, .unset, .unset, .unset, .unset, .unset] at_103 rfl rfl rfl ?_
        refine own_aload X 107 (.ref b107) at_105 rfl rfl rfl ?_
        refine own_iconst X 108 (0 : Int32) at_107 rfl rfl ?_
        refine own_callV X 111 [(.int (0 : Int32))] [] at_108 rfl (hw _ (List.mem_of_getElem? (i := 18) rfl)) (hw _ (List.mem_of_getElem? (i := 19) rfl)) (own_nf X.2.2.2.2.1 (hw _ (List.mem_of_getElem? (i := 21) rfl))) (hw _ (List.mem_of_getElem? (i := 21) rfl)) (hw _ (List.mem_of_getElem? (i := 20) rfl)) (hw _ (List.mem_of_getElem? (i := 3) rfl)) (hw _ (List.mem_of_getElem? (i := 22) rfl)) (by decide) A_b107 (own_mindex l Z a0 hw b107 (0 : Int32) b101 kc_b101 (own_arc (7 : Int32) (Int32.ofNat i.val)) h108 n0 X.sz F_bytes_b107 A_b107 A_b101 rfl) (fun _ _ q => Nat.le_of_eq (congrArg Array.size q.1.symm)) rfl own_pd0 rfl rfl rfl (by decide) (Nat.le_of_ble_eq_true rfl) (by decide) (by decide) ?_
        rintro v108 T h_ X ⟨eh_, rfl⟩
        rw [eh_] at X
        show own_Ends p e below _ (T.setTop (mkF m 111 #[.val (.int pa), .val (.int pb), .val (.int pc), .val (.int (Int32.ofNat i.val)), .val (.int (2 : Int32)), .val (.int (1 : Int32)), .val (.int (1 : Int32)), .val (.int (own_arc (7 : Int32) (Int32.ofNat i.val))), .val (.ref b101), .val (.ref b107), .unset, .unset, .unset, .unset, .unset, .unset, .unset] [(.int ((own_arc (7 : Int32) (Int32.ofNat i.val)) &&& 31))]))
        rw [own_arc_ix_7 i]
        refine own_iloadN X 112 (Int32.ofNat i.val) at_111 rfl rfl ?_
        refine own_icN X 115 at_112 rfl (XT.ii_ne_f rfl) ?_
        refine own_iconst X 116 (1 : Int32) at_115 rfl rfl ?_
        refine own_goto X 120 at_116 (by decide) (by decide) ?_
        refine own_istore X 122 #[.val (.int pa), .val (.int pb), .val (.int pc), .val (.int (Int32.ofNat i.val)), .val (.int (2 : Int32)), .val (.int (1 : Int32)), .val (.int (1 : Int32)), .val (.int (own_arc (7 : Int32) (Int32.ofNat i.val))), .val (.ref b101), .val (.ref b107), .val (.int (1 : Int32)), .unset, .unset, .unset, .unset, .unset, .unset] at_120 rfl rfl ?_
        refine own_aload X 124 (.ref b107) at_122 rfl rfl rfl ?_
        refine own_iconst X 125 (0 : Int32) at_124 rfl rfl ?_
        refine own_callV X 128 [(.int (0 : Int32))] [] at_125 rfl (hw _ (List.mem_of_getElem? (i := 23) rfl)) (hw _ (List.mem_of_getElem? (i := 24) rfl)) (own_nf X.2.2.2.2.1 (hw _ (List.mem_of_getElem? (i := 26) rfl))) (hw _ (List.mem_of_getElem? (i := 26) rfl)) (hw _ (List.mem_of_getElem? (i := 25) rfl)) (hw _ (List.mem_of_getElem? (i := 3) rfl)) (hw _ (List.mem_of_getElem? (i := 27) rfl)) (by decide) A_b107 (own_misw l Z a0 hw b107 (0 : Int32) b101 kc_b101 (own_arc (7 : Int32) (Int32.ofNat i.val)) h108 n0 X.sz F_bytes_b107 A_b107 A_b101 rfl) (fun _ _ q => Nat.le_of_eq (congrArg Array.size q.1.symm)) rfl own_pd2 rfl rfl rfl (by decide) (Nat.le_of_ble_eq_true rfl) (by decide) (by decide) ?_
        rintro v125 T h_ X ⟨eh_, rfl⟩
        rw [eh_] at X
        show own_Ends p e below _ (T.setTop (mkF m 128 #[.val (.int pa), .val (.int pb), .val (.int pc), .val (.int (Int32.ofNat i.val)), .val (.int (2 : Int32)), .val (.int (1 : Int32)), .val (.int (1 : Int32)), .val (.int (own_arc (7 : Int32) (Int32.ofNat i.val))), .val (.ref b101), .val (.ref b107), .val (.int (1 : Int32)), .unset, .unset, .unset, .unset, .unset, .unset] [(.int (own_is 173 (own_kind (own_arc (7 : Int32) (Int32.ofNat i.val)))))]))
        rw [own_arc_kind_7 i]
        rw [show own_is 173 (7 : Int32) = (1 : Int32) from by decide]
        refine own_iload X 130 (1 : Int32) at_128 rfl rfl ?_
        refine own_icN X 133 at_130 rfl (XT.ii_ne_f (by decide)) ?_
        refine own_iconst X 134 (1 : Int32) at_133 rfl rfl ?_
        refine own_goto X 138 at_134 (by decide) (by decide) ?_
        refine own_istore X 140 #[.val (.int pa), .val (.int pb), .val (.int pc), .val (.int (Int32.ofNat i.val)), .val (.int (2 : Int32)), .val (.int (1 : Int32)), .val (.int (1 : Int32)), .val (.int (own_arc (7 : Int32) (Int32.ofNat i.val))), .val (.ref b101), .val (.ref b107), .val (.int (1 : Int32)), .val (.int (1 : Int32)), .unset, .unset, .unset, .unset, .unset] at_138 rfl rfl ?_
        refine own_iload X 142 (1 : Int32) at_140 rfl rfl ?_
        refine own_ifN X 145 at_142 rfl (XT.i0_eq_f (by decide)) ?_
        refine own_iconst X 146 (-1 : Int32) at_145 rfl rfl ?_
        refine own_istore X 148 #[.val (.int pa), .val (.int pb), .val (.int pc), .val (.int (Int32.ofNat i.val)), .val (.int (2 : Int32)), .val (.int (1 : Int32)), .val (.int (1 : Int32)), .val (.int (own_arc (7 : Int32) (Int32.ofNat i.val))), .val (.ref b101), .val (.ref b107), .val (.int (1 : Int32)), .val (.int (1 : Int32)), .val (.int (-1 : Int32)), .unset, .unset, .unset, .unset] at_146 rfl rfl ?_
        refine own_goto X 165 at_148 (by decide) (by decide) ?_
        refine own_aload X 167 (.ref b107) at_165 rfl rfl rfl ?_
        refine own_iconst X 168 (0 : Int32) at_167 rfl rfl ?_
        refine own_callV X 171 [(.int (0 : Int32))] [] at_168 rfl (hw _ (List.mem_of_getElem? (i := 35) rfl)) (hw _ (List.mem_of_getElem? (i := 36) rfl)) (own_nf X.2.2.2.2.1 (hw _ (List.mem_of_getElem? (i := 38) rfl))) (hw _ (List.mem_of_getElem? (i := 38) rfl)) (hw _ (List.mem_of_getElem? (i := 37) rfl)) (hw _ (List.mem_of_getElem? (i := 3) rfl)) (hw _ (List.mem_of_getElem? (i := 39) rfl)) (by decide) A_b107 (own_mns l Z a0 hw b107 (0 : Int32) b101 kc_b101 (own_arc (7 : Int32) (Int32.ofNat i.val)) h108 n0 X.sz F_bytes_b107 A_b107 A_b101 rfl) (fun _ _ q => Nat.le_of_eq (congrArg Array.size q.1.symm)) rfl own_pd0 rfl rfl rfl (by decide) (Nat.le_of_ble_eq_true rfl) (by decide) (by decide) ?_
        rintro v168 T h_ X ⟨eh_, rfl⟩
        rw [eh_] at X
        show own_Ends p e below _ (T.setTop (mkF m 171 #[.val (.int pa), .val (.int pb), .val (.int pc), .val (.int (Int32.ofNat i.val)), .val (.int (2 : Int32)), .val (.int (1 : Int32)), .val (.int (1 : Int32)), .val (.int (own_arc (7 : Int32) (Int32.ofNat i.val))), .val (.ref b101), .val (.ref b107), .val (.int (1 : Int32)), .val (.int (1 : Int32)), .val (.int (-1 : Int32)), .unset, .unset, .unset, .unset] [(.int (own_ns (own_kind (own_arc (7 : Int32) (Int32.ofNat i.val)))))]))
        rw [own_arc_kind_7 i]
        rw [show own_ns (7 : Int32) = (-1 : Int32) from by decide]
        refine own_iload X 173 (-1 : Int32) at_171 rfl rfl ?_
        refine own_icN X 176 at_173 rfl (XT.ii_ne_f (by decide)) ?_
        refine own_iconst X 177 (1 : Int32) at_176 rfl rfl ?_
        refine own_goto X 181 at_177 (by decide) (by decide) ?_
        refine own_istore X 183 #[.val (.int pa), .val (.int pb), .val (.int pc), .val (.int (Int32.ofNat i.val)), .val (.int (2 : Int32)), .val (.int (1 : Int32)), .val (.int (1 : Int32)), .val (.int (own_arc (7 : Int32) (Int32.ofNat i.val))), .val (.ref b101), .val (.ref b107), .val (.int (1 : Int32)), .val (.int (1 : Int32)), .val (.int (-1 : Int32)), .val (.int (1 : Int32)), .unset, .unset, .unset] at_181 rfl rfl ?_
        refine own_iload X 185 (2 : Int32) at_183 rfl rfl ?_
        refine own_ifY X 194 at_185 (by decide) (by decide) (XT.i0_ne_t (by decide)) ?_
        refine own_iload X 196 (2 : Int32) at_194 rfl rfl ?_
        refine own_iconst X 197 (1 : Int32) at_196 rfl rfl ?_
        refine own_icY X 206 at_197 (by decide) (by decide) (XT.ii_ne_t (by decide)) ?_
        refine own_iconst X 207 (5 : Int32) at_206 rfl rfl ?_
        refine own_istore X 209 #[.val (.int pa), .val (.int pb), .val (.int pc), .val (.int (Int32.ofNat i.val)), .val (.int (2 : Int32)), .val (.int (1 : Int32)), .val (.int (1 : Int32)), .val (.int (own_arc (7 : Int32) (Int32.ofNat i.val))), .val (.ref b101), .val (.ref b107), .val (.int (1 : Int32)), .val (.int (1 : Int32)), .val (.int (-1 : Int32)), .val (.int (1 : Int32)), .val (.int (5 : Int32)), .unset, .unset] at_207 rfl rfl ?_
        refine own_iload X 211 (1 : Int32) at_209 rfl rfl ?_
        refine own_ifN X 214 at_211 rfl (XT.i0_eq_f (by decide)) ?_
        refine own_iconst X 215 (1 : Int32) at_214 rfl rfl ?_
        refine own_goto X 219 at_215 (by decide) (by decide) ?_
        refine own_iload X 221 (5 : Int32) at_219 rfl rfl ?_
        refine own_iadd X 222 at_221 rfl ?_
        refine own_istore X 224 #[.val (.int pa), .val (.int pb), .val (.int pc), .val (.int (Int32.ofNat i.val)), .val (.int (2 : Int32)), .val (.int (1 : Int32)), .val (.int (1 : Int32)), .val (.int (own_arc (7 : Int32) (Int32.ofNat i.val))), .val (.ref b101), .val (.ref b107), .val (.int (1 : Int32)), .val (.int (1 : Int32)), .val (.int (-1 : Int32)), .val (.int (1 : Int32)), .val (.int (5 : Int32)), .val (.int ((1 : Int32) + (5 : Int32))), .unset] at_222 rfl rfl ?_
        refine own_aload X 226 (.ref b107) at_224 rfl rfl rfl ?_
        refine own_iconst X 227 (0 : Int32) at_226 rfl rfl ?_
        refine own_callV X 230 [(.int (0 : Int32))] [] at_227 rfl (hw _ (List.mem_of_getElem? (i := 40) rfl)) (hw _ (List.mem_of_getElem? (i := 41) rfl)) (own_nf X.2.2.2.2.1 (hw _ (List.mem_of_getElem? (i := 43) rfl))) (hw _ (List.mem_of_getElem? (i := 43) rfl)) (hw _ (List.mem_of_getElem? (i := 42) rfl)) (hw _ (List.mem_of_getElem? (i := 3) rfl)) (hw _ (List.mem_of_getElem? (i := 44) rfl)) (by decide) A_b107 (own_mcount l Z a0 hw b107 (0 : Int32) b101 kc_b101 (own_arc (7 : Int32) (Int32.ofNat i.val)) h108 n0 X.sz F_bytes_b107 A_b107 A_b101 rfl ⟨⟨7, by decide⟩, own_arc_kind_7 i⟩) (fun _ _ q => Nat.le_of_eq (congrArg Array.size q.1.symm)) rfl own_pd0 rfl rfl rfl (by decide) (Nat.le_of_ble_eq_true rfl) (by decide) (by decide) ?_
        rintro v227 T h_ X ⟨eh_, rfl⟩
        rw [eh_] at X
        show own_Ends p e below _ (T.setTop (mkF m 230 #[.val (.int pa), .val (.int pb), .val (.int pc), .val (.int (Int32.ofNat i.val)), .val (.int (2 : Int32)), .val (.int (1 : Int32)), .val (.int (1 : Int32)), .val (.int (own_arc (7 : Int32) (Int32.ofNat i.val))), .val (.ref b101), .val (.ref b107), .val (.int (1 : Int32)), .val (.int (1 : Int32)), .val (.int (-1 : Int32)), .val (.int (1 : Int32)), .val (.int (5 : Int32)), .val (.int ((1 : Int32) + (5 : Int32))), .unset] [(.int (own_count (own_kind (own_arc (7 : Int32) (Int32.ofNat i.val)))))]))
        rw [own_arc_kind_7 i]
        rw [show own_count (7 : Int32) = (6 : Int32) from by decide]
        refine own_iload X 232 ((1 : Int32) + (5 : Int32)) at_230 rfl rfl ?_
        refine own_icN X 235 at_232 rfl (XT.ii_ne_f (by decide)) ?_
        refine own_iconst X 236 (1 : Int32) at_235 rfl rfl ?_
        refine own_goto X 240 at_236 (by decide) (by decide) ?_
        refine own_istore X 242 #[.val (.int pa), .val (.int pb), .val (.int pc), .val (.int (Int32.ofNat i.val)), .val (.int (2 : Int32)), .val (.int (1 : Int32)), .val (.int (1 : Int32)), .val (.int (own_arc (7 : Int32) (Int32.ofNat i.val))), .val (.ref b101), .val (.ref b107), .val (.int (1 : Int32)), .val (.int (1 : Int32)), .val (.int (-1 : Int32)), .val (.int (1 : Int32)), .val (.int (5 : Int32)), .val (.int ((1 : Int32) + (5 : Int32))), .val (.int (1 : Int32))] at_240 rfl rfl ?_
        refine own_iload X 244 (1 : Int32) at_242 rfl rfl ?_
        refine own_ifN X 247 at_244 rfl (XT.i0_eq_f (by decide)) ?_
        refine own_iload X 249 (1 : Int32) at_247 rfl rfl ?_
        refine own_ifN X 252 at_249 rfl (XT.i0_eq_f (by decide)) ?_
        refine own_iload X 254 (1 : Int32) at_252 rfl rfl ?_
        refine own_ifN X 257 at_254 rfl (XT.i0_eq_f (by decide)) ?_
        refine own_iload X 259 (1 : Int32) at_257 rfl rfl ?_
        refine own_ifN X 262 at_259 rfl (XT.i0_eq_f (by decide)) ?_
        refine own_iconst X 263 (1 : Int32) at_262 rfl rfl ?_
        refine own_goto X 267 at_263 (by decide) (by decide) ?_
        exact own_retN X .boolean at_267 rfl (by simp) (by decide) (by decide) (by decide)
set_option maxRecDepth 65536 in
set_option maxHeartbeats 40000000 in
theorem comes_1 {Post : Tables → Env → Array Value → State → Outcome → State → Prop} (hpost : ∀ tb e args s v u, (limb_1_1.after args s (.returned v) u = true ∧ limb_1_2.after args s (.returned v) u = true ∧ True) → FrameEnd s (.returned v) u (Jvm.fieldLocs frame_1_writes args s ++ Jvm.arrayLocs frame_1_arrays args s ++ Jvm.staticLocs frame_1_statics s) 16 128 → Post tb e args s (.returned v) u) :
    ArmFor flags0 classFile x code maxLocals ret World_1 tables_1 room_1 Calls_1 rest_1 Pre_1 Post := by
  intro l hfl _ _ p e ha hc hk s m args below hf hA hF happ hP
  obtain ⟨hcalls, hrest, hpre⟩ := hP
  obtain ⟨-, -, -, hnamed, -, -, -, hat⟩ := (Spec.applies_iff hf).mp happ
  obtain ⟨hg, hn⟩ := and_e (Cond.before_iff.mp (show (Jvm.Cond.and given_1 narrow_1).before args s = true from hpre))
  obtain ⟨hcount, hg0⟩ := and_e hg
  obtain ⟨ha0, hg1⟩ := and_e hg0
  obtain ⟨ha1, hg2⟩ := and_e hg1
  have ha2 := hg2
  obtain ⟨w0, w1, w2, rfl⟩ : ∃ w0 w1 w2 : Value, args = #[w0, w1, w2] := by
    have hs : args.size = 3 := by simpa [Cond.value, given_1] using hcount
    obtain ⟨L⟩ := args
    match L, hs with
    | [w0, w1, w2], _ => exact ⟨w0, w1, w2, rfl⟩
  have hw := fun d (hd : d ∈ tables_1) => atoms_spec (ws := Jvm.Cond.code x code maxLocals ret :: tables_1) hat d (List.mem_cons_of_mem _ hd)
  have hfit : Fit s := fun {y c} hc i hi => by
    obtain ⟨ha, rfl⟩ := Array.getElem?_eq_some_iff.mp hc
    have q := List.all_eq_true.mp ((Array.all_eq_true_iff_forall_mem.mp hF) _ (Array.getElem_mem ha)) i (List.mem_range.mpr hi)
    simpa [Array.getElem?_eq_getElem hi] using q
  obtain ⟨i0, ei0⟩ := is_v ha0
  obtain rfl : w0 = (.int i0) := Option.some.inj ei0
  obtain ⟨i1, ei1⟩ := is_v ha1
  obtain rfl : w1 = (.int i1) := Option.some.inj ei1
  obtain ⟨i2, ei2⟩ := is_v ha2
  obtain rfl : w2 = (.int i2) := Option.some.inj ei2
  obtain ⟨hn1, hn2⟩ := and_e hn
  obtain ⟨av, ev⟩ := arr_v hn1
  have S1 := Sta.start ev (Or.inr ⟨(hw _ (List.mem_of_getElem? (i := 3) rfl)), (hw _ (List.mem_of_getElem? (i := 6) rfl))⟩)
  obtain ⟨hl, he⟩ := and_e hn2
  obtain ⟨q0, he⟩ := and_e he
  obtain ⟨q1, he⟩ := and_e he
  obtain ⟨q2, he⟩ := and_e he
  obtain ⟨q3, he⟩ := and_e he
  obtain ⟨q4, he⟩ := and_e he
  obtain ⟨q5, he⟩ := and_e he
  obtain ⟨q6, he⟩ := and_e he
  obtain ⟨q7, he⟩ := and_e he
  obtain ⟨q8, he⟩ := and_e he
  obtain ⟨q9, he⟩ := and_e he
  obtain ⟨q10, he⟩ := and_e he
  have q11 := he
  replace q0 := own_eqInt q0
  replace q1 := own_eqInt q1
  replace q2 := own_eqInt q2
  replace q3 := own_eqInt q3
  replace q4 := own_eqInt q4
  replace q5 := own_eqInt q5
  replace q6 := own_eqInt q6
  replace q7 := own_eqInt q7
  replace q8 := own_eqInt q8
  replace q9 := own_eqInt q9
  replace q10 := own_eqInt q10
  replace q11 := own_eqInt q11
  obtain ⟨kc, A1⟩ := own_A_start (vs := [(.int (-1 : Int32)), (.int (0 : Int32)), (.int (-1 : Int32)), (.int (3 : Int32)), (.int (-1 : Int32)), (.int (-1 : Int32)), (.int (4 : Int32)), (.int (5 : Int32)), (.int (1 : Int32)), (.int (2 : Int32)), (.int (6 : Int32)), (.int (7 : Int32))]) hfit ev hn1 hl (by decide) (by
    intro i v hi
    rcases i with _ | _ | _ | _ | _ | _ | _ | _ | _ | _ | _ | _ | i <;> simp at hi <;> subst hi <;> assumption)
  obtain ⟨n, o, h1, h2, h3, _, L, rfl, ⟨rfl, N⟩, hq⟩ := own_m0 l s _ hw i0 i1 i2 av kc s.heap s.heap.size (Nat.le_refl _) (Old.start s) S1 A1 tables_1 p e ha hc hk s m _ below hf ((Spec.applies_iff_loose hf).mp happ).1 ⟨rfl, State.Warmed39.refl s, rfl⟩ trivial
  refine ⟨n, _, h1, h2, h3, hpost _ _ _ _ _ _ ⟨Cond.after_iff.mpr rfl, Cond.after_iff.mpr (eq_i res_at (Term.int_eval (1)) rfl), trivial⟩ ⟨hq.1, hq.2.1, (hq.2.2.sift fun y hy => Or.inr (N y hy)).mono (by decide) (by decide)⟩⟩
theorem main_1_1 : Claimed_1_1 := comes_1 fun _ _ _ _ _ _ h hF => ⟨h.1, hF⟩
theorem main_1_2 : Claimed_1_2 := comes_1 fun _ _ _ _ _ _ h hF => ⟨h.2.1, hF⟩
end Jvm.Pilot.@@N@@
namespace Jvm.Pilot.@@N@@
open Jvm Jvm.ClassFile Sem Op Lib Jvm.Free Jvm.Stand Jvm.Pilot.@@N@@.Jvm.D
/-! MADE BY PROGRAM (witnessworld.py) out of the Statement's table words and the real class files: 10 classes; the members and pool entries that the words name. The judged class is class 1, her method 1. -/
namespace start1
open Jvm.ClassFile
def u (s : String) : CpInfo := .utf8 (stringToUtf16 s)
/-- a pool by its gaps: so many unusable entries, then the entry; so many at the end -/
def gap : Nat → List CpInfo → List CpInfo
  | 0, r => r
  | n + 1, r => .unusable :: gap n r
def poolList (es : List (Nat × CpInfo)) (last : Nat) : List CpInfo := es.foldr (fun e r => gap e.1 (e.2 :: r)) (gap last [])
def pool (es : List (Nat × CpInfo)) (last : Nat) : Array CpInfo := ⟨poolList es last⟩
def fileOf (pool : Array CpInfo) (this : Nat) (attrs : Array Attribute := #[]) (ms : Array MethodInfo := #[]) (fl : Nat := 33) (sup : Nat := 0) (ifs : Array Nat := #[]) (fds : Array FieldInfo := #[]) : ClassFile where
  minorVersion := 0
  majorVersion := 65
  constantPool := pool
  accessFlags := fl
  thisClass := this
  superClass := sup
  interfaces := ifs
  fields := fds
  methods := ms
  attributes := attrs
def plain (name : String) (sup : Option ClassId) : Class where
  name := name
  kind := .ordinary
  loader := none
  accessFlags := 33
  super := sup
  interfaces := #[]
  cf := none
  fields := #[]
  methods := #[]
  instanceTypes := #[]
  staticTypes := #[]
  resolved := #[]
  callSites := []
  init := .initialized
  statics := none
  mirror := none

def pool0 : Array CpInfo := pool [(5, u "<init>"), (0, u "()V"), (1, .class_ 10), (1, u "java/lang/Object")] 113

def k0c0 : Code := { maxStack := 0, maxLocals := 1, code := object_method_1_code, exceptionTable := #[], attributes := #[] }
def k0m0 : Method := { name := "<init>", desc := "()V", sig := { parameters := [], returnType := none }, accessFlags := 1, code := some k0c0 }
/-- java/lang/Object -/
def k0 : Class := { plain "java/lang/Object" none with
  accessFlags := 33
  interfaces := #[]
  cf := some (fileOf pool0 8 #[] #[{ accessFlags := 1, nameIndex := 5, descriptorIndex := 6, attributes := #[] }] 33 0 #[] #[])
  fields := #[]
  methods := #[k0m0]
  instanceTypes := #[]
  staticTypes := #[]
  resolved := Array.replicate 124 none
  statics := none }

def pool1 : Array CpInfo := pool [(2, .class_ 4), (1, u "java/lang/Object"), (0, u "<init>"), (0, u "()V"), (0, .integer 2147483647), (0, .class_ 9), (0, u "com/example/radix26/radix26/internal/trie/FrozenNodes"), (0, .methodref 8 11), (0, .nameAndType 12 13), (0, u "arcByte"), (0, u "(IIZZ)B"), (0, .methodref 8 15), (0, .nameAndType 5 16), (0, u "([B)V"), (0, .methodref 8 18), (0, .nameAndType 19 20), (0, u "index"), (0, u "(I)I"), (0, .methodref 8 22), (0, .nameAndType 23 24), (0, u "isWord"), (0, u "(I)Z"), (0, .methodref 8 26), (0, .nameAndType 27 20), (0, u "nextSibling"), (0, .methodref 8 29), (0, .nameAndType 30 20), (0, u "count"), (0, .class_ 32), (0, u "com/example/radix26/radix26/internal/trie/FrozenNodesArcBytePinLaw"), (2, u "law"), (0, u "(III)Z")] 5

def k1m0 : Method := { name := "<init>", desc := "()V", sig := { parameters := [], returnType := none }, accessFlags := 1, code := none }
def k1c1 : Code := { maxStack := 4, maxLocals := 17, code := code, exceptionTable := #[], attributes := #[] }
def k1m1 : Method := { name := "law", desc := "(III)Z", sig := { parameters := [.int, .int, .int], returnType := some .boolean }, accessFlags := 9, code := some k1c1 }
/-- com/example/radix26/radix26/internal/trie/FrozenNodesArcBytePinLaw -/
def k1 : Class := { plain "com/example/radix26/radix26/internal/trie/FrozenNodesArcBytePinLaw" (some 0) with
  accessFlags := 49
  interfaces := #[]
  cf := some (fileOf pool1 31 #[] #[{ accessFlags := 1, nameIndex := 5, descriptorIndex := 6, attributes := #[] }, { accessFlags := 9, nameIndex := 35, descriptorIndex := 36, attributes := #[] }] 49 2 #[] #[])
  fields := #[]
  methods := #[k1m0, k1m1]
  instanceTypes := #[]
  staticTypes := #[]
  resolved := Array.replicate 42 none
  statics := none }

def pool2 : Array CpInfo := pool [(2, .class_ 4), (1, u "com/example/radix26/radix26/internal/trie/TrieNodes"), (6, .class_ 12), (0, u "java/lang/Object"), (0, u "ROOT"), (0, u "I"), (2, u "NONE")] 19

/-- com/example/radix26/radix26/internal/trie/TrieNodes -/
def k2 : Class := { plain "com/example/radix26/radix26/internal/trie/TrieNodes" (some 0) with
  accessFlags := 1536
  interfaces := #[]
  cf := some (fileOf pool2 2 #[] #[] 1536 11 #[] #[{ accessFlags := 25, nameIndex := 13, descriptorIndex := 14, attributes := #[] }, { accessFlags := 25, nameIndex := 17, descriptorIndex := 14, attributes := #[] }])
  fields := #[{ name := "ROOT", type := .int, accessFlags := 25, slot := 0, constantValue := 0 }, { name := "NONE", type := .int, accessFlags := 25, slot := 1, constantValue := 0 }]
  methods := #[]
  instanceTypes := #[]
  staticTypes := #[.int, .int]
  resolved := Array.replicate 37 none
  statics := none }

def pool3 : Array CpInfo := pool [(1, .class_ 2), (0, u "com/example/radix26/radix26/internal/trie/FrozenNodes"), (0, .methodref 4 5), (0, .class_ 6), (0, .nameAndType 7 8), (0, u "java/lang/Object"), (0, u "<init>"), (0, u "()V"), (0, .fieldref 1 10), (0, .nameAndType 11 12), (0, u "bytes"), (0, u "[B"), (0, .fieldref 1 14), (0, .nameAndType 15 16), (0, u "KINDS"), (0, u "[I"), (2, u "index"), (0, u "(I)I"), (0, .methodref 1 22), (0, .nameAndType 23 20), (0, u "kind"), (0, .methodref 1 25), (0, .nameAndType 26 27), (0, u "is"), (0, u "(II)Z"), (4, .class_ 33), (0, u "com/example/radix26/radix26/internal/trie/TrieNodes"), (0, .methodref 1 35), (0, .nameAndType 36 20), (0, u "pastNumber"), (0, .methodref 1 38), (0, .nameAndType 39 20), (0, u "state"), (10, u "nextSibling"), (19, .methodref 1 71), (0, .nameAndType 72 73), (0, u "isWord"), (0, u "(I)Z"), (0, .methodref 1 75), (0, .nameAndType 76 20), (0, u "number"), (0, u "NOWHERE"), (0, u "I"), (2, u "AFTER"), (1, u "AWAY"), (1, u "INDEXED"), (0, u "MASK_BYTES"), (1, u "LETTER_BITS"), (1, u "LETTER"), (1, u "END"), (0, u "FAR"), (0, u "FAR_WORD"), (0, u "END_LAST"), (1, u "NEXT"), (0, u "NEXT_WORD"), (0, u "FAR_LAST"), (1, u "FAR_LAST_WORD"), (1, u "WORD_KINDS"), (1, u "NEXT_KINDS"), (1, u "FAR_KINDS"), (1, u "([B)V"), (2, u "arcByte"), (0, u "(IIZZ)B"), (6, u "count")] 4

def k3c0 : Code := { maxStack := 2, maxLocals := 2, code := prog_24_method_1_code, exceptionTable := #[], attributes := #[] }
def k3m0 : Method := { name := "<init>", desc := "([B)V", sig := { parameters := [(.array .byte)], returnType := none }, accessFlags := 0, code := some k3c0 }
def k3c1 : Code := { maxStack := 3, maxLocals := 5, code := prog_24_method_2_code, exceptionTable := #[], attributes := #[] }
def k3m1 : Method := { name := "arcByte", desc := "(IIZZ)B", sig := { parameters := [.int, .int, .boolean, .boolean], returnType := some .byte }, accessFlags := 8, code := some k3c1 }
def k3c2 : Code := { maxStack := 2, maxLocals := 2, code := prog_24_method_3_code, exceptionTable := #[], attributes := #[] }
def k3m2 : Method := { name := "index", desc := "(I)I", sig := { parameters := [.int], returnType := some .int }, accessFlags := 1, code := some k3c2 }
def k3c3 : Code := { maxStack := 3, maxLocals := 2, code := prog_24_method_5_code, exceptionTable := #[], attributes := #[] }
def k3m3 : Method := { name := "isWord", desc := "(I)Z", sig := { parameters := [.int], returnType := some .boolean }, accessFlags := 1, code := some k3c3 }
def k3c4 : Code := { maxStack := 3, maxLocals := 4, code := prog_24_method_7_code, exceptionTable := #[], attributes := #[] }
def k3m4 : Method := { name := "nextSibling", desc := "(I)I", sig := { parameters := [.int], returnType := some .int }, accessFlags := 1, code := some k3c4 }
def k3c5 : Code := { maxStack := 3, maxLocals := 4, code := prog_24_method_11_code, exceptionTable := #[], attributes := #[] }
def k3m5 : Method := { name := "count", desc := "(I)I", sig := { parameters := [.int], returnType := some .int }, accessFlags := 1, code := some k3c5 }
def k3c6 : Code := { maxStack := 2, maxLocals := 2, code := prog_24_method_13_code, exceptionTable := #[], attributes := #[] }
def k3m6 : Method := { name := "kind", desc := "(I)I", sig := { parameters := [.int], returnType := some .int }, accessFlags := 2, code := some k3c6 }
def k3c7 : Code := { maxStack := 2, maxLocals := 2, code := prog_24_method_14_code, exceptionTable := #[], attributes := #[] }
def k3m7 : Method := { name := "is", desc := "(II)Z", sig := { parameters := [.int, .int], returnType := some .boolean }, accessFlags := 10, code := some k3c7 }
def k3c8 : Code := { maxStack := 4, maxLocals := 4, code := prog_24_method_15_code, exceptionTable := #[], attributes := #[] }
def k3m8 : Method := { name := "state", desc := "(I)I", sig := { parameters := [.int], returnType := some .int }, accessFlags := 2, code := some k3c8 }
def k3c9 : Code := { maxStack := 3, maxLocals := 6, code := prog_24_method_16_code, exceptionTable := #[], attributes := #[] }
def k3m9 : Method := { name := "number", desc := "(I)I", sig := { parameters := [.int], returnType := some .int }, accessFlags := 2, code := some k3c9 }
def k3c10 : Code := { maxStack := 2, maxLocals := 3, code := prog_24_method_17_code, exceptionTable := #[], attributes := #[] }
def k3m10 : Method := { name := "pastNumber", desc := "(I)I", sig := { parameters := [.int], returnType := some .int }, accessFlags := 2, code := some k3c10 }
/-- com/example/radix26/radix26/internal/trie/FrozenNodes -/
def k3 : Class := { plain "com/example/radix26/radix26/internal/trie/FrozenNodes" (some 0) with
  accessFlags := 48
  interfaces := #[2]
  cf := some (fileOf pool3 1 #[] #[{ accessFlags := 0, nameIndex := 7, descriptorIndex := 109, attributes := #[] }, { accessFlags := 8, nameIndex := 112, descriptorIndex := 113, attributes := #[] }, { accessFlags := 1, nameIndex := 19, descriptorIndex := 20, attributes := #[] }, { accessFlags := 1, nameIndex := 72, descriptorIndex := 73, attributes := #[] }, { accessFlags := 1, nameIndex := 50, descriptorIndex := 20, attributes := #[] }, { accessFlags := 1, nameIndex := 120, descriptorIndex := 20, attributes := #[] }, { accessFlags := 2, nameIndex := 23, descriptorIndex := 20, attributes := #[] }, { accessFlags := 10, nameIndex := 26, descriptorIndex := 27, attributes := #[] }, { accessFlags := 2, nameIndex := 39, descriptorIndex := 20, attributes := #[] }, { accessFlags := 2, nameIndex := 76, descriptorIndex := 20, attributes := #[] }, { accessFlags := 2, nameIndex := 36, descriptorIndex := 20, attributes := #[] }] 48 4 #[32] #[{ accessFlags := 24, nameIndex := 77, descriptorIndex := 78, attributes := #[] }, { accessFlags := 24, nameIndex := 81, descriptorIndex := 78, attributes := #[] }, { accessFlags := 24, nameIndex := 83, descriptorIndex := 78, attributes := #[] }, { accessFlags := 24, nameIndex := 85, descriptorIndex := 78, attributes := #[] }, { accessFlags := 24, nameIndex := 86, descriptorIndex := 78, attributes := #[] }, { accessFlags := 26, nameIndex := 88, descriptorIndex := 78, attributes := #[] }, { accessFlags := 26, nameIndex := 90, descriptorIndex := 78, attributes := #[] }, { accessFlags := 26, nameIndex := 92, descriptorIndex := 78, attributes := #[] }, { accessFlags := 26, nameIndex := 93, descriptorIndex := 78, attributes := #[] }, { accessFlags := 26, nameIndex := 94, descriptorIndex := 78, attributes := #[] }, { accessFlags := 26, nameIndex := 95, descriptorIndex := 78, attributes := #[] }, { accessFlags := 26, nameIndex := 97, descriptorIndex := 78, attributes := #[] }, { accessFlags := 26, nameIndex := 98, descriptorIndex := 78, attributes := #[] }, { accessFlags := 26, nameIndex := 99, descriptorIndex := 78, attributes := #[] }, { accessFlags := 26, nameIndex := 101, descriptorIndex := 78, attributes := #[] }, { accessFlags := 26, nameIndex := 103, descriptorIndex := 78, attributes := #[] }, { accessFlags := 26, nameIndex := 105, descriptorIndex := 78, attributes := #[] }, { accessFlags := 26, nameIndex := 107, descriptorIndex := 78, attributes := #[] }, { accessFlags := 26, nameIndex := 15, descriptorIndex := 16, attributes := #[] }, { accessFlags := 18, nameIndex := 11, descriptorIndex := 12, attributes := #[] }])
  fields := #[{ name := "NOWHERE", type := .int, accessFlags := 24, slot := 0, constantValue := 0 }, { name := "AFTER", type := .int, accessFlags := 24, slot := 1, constantValue := 0 }, { name := "AWAY", type := .int, accessFlags := 24, slot := 2, constantValue := 0 }, { name := "INDEXED", type := .int, accessFlags := 24, slot := 3, constantValue := 0 }, { name := "MASK_BYTES", type := .int, accessFlags := 24, slot := 4, constantValue := 0 }, { name := "LETTER_BITS", type := .int, accessFlags := 26, slot := 5, constantValue := 0 }, { name := "LETTER", type := .int, accessFlags := 26, slot := 6, constantValue := 0 }, { name := "END", type := .int, accessFlags := 26, slot := 7, constantValue := 0 }, { name := "FAR", type := .int, accessFlags := 26, slot := 8, constantValue := 0 }, { name := "FAR_WORD", type := .int, accessFlags := 26, slot := 9, constantValue := 0 }, { name := "END_LAST", type := .int, accessFlags := 26, slot := 10, constantValue := 0 }, { name := "NEXT", type := .int, accessFlags := 26, slot := 11, constantValue := 0 }, { name := "NEXT_WORD", type := .int, accessFlags := 26, slot := 12, constantValue := 0 }, { name := "FAR_LAST", type := .int, accessFlags := 26, slot := 13, constantValue := 0 }, { name := "FAR_LAST_WORD", type := .int, accessFlags := 26, slot := 14, constantValue := 0 }, { name := "WORD_KINDS", type := .int, accessFlags := 26, slot := 15, constantValue := 0 }, { name := "NEXT_KINDS", type := .int, accessFlags := 26, slot := 16, constantValue := 0 }, { name := "FAR_KINDS", type := .int, accessFlags := 26, slot := 17, constantValue := 0 }, { name := "KINDS", type := (.array .int), accessFlags := 26, slot := 18, constantValue := 0 }, { name := "bytes", type := (.array .byte), accessFlags := 18, slot := 0, constantValue := 0 }]
  methods := #[k3m0, k3m1, k3m2, k3m3, k3m4, k3m5, k3m6, k3m7, k3m8, k3m9, k3m10]
  instanceTypes := #[(.array .byte)]
  staticTypes := #[.int, .int, .int, .int, .int, .int, .int, .int, .int, .int, .int, .int, .int, .int, .int, .int, .int, .int, (.array .int)]
  resolved := Array.replicate 125 none
  statics := some 0 }

def pool4 : Array CpInfo := pool [(1, u "java/lang/Cloneable"), (0, .class_ 1), (0, u "java/lang/Object"), (0, .class_ 3)] 3

/-- java/lang/Cloneable -/
def k4 : Class := { plain "java/lang/Cloneable" (some 0) with
  accessFlags := 1537
  interfaces := #[]
  cf := some (fileOf pool4 2 #[] #[] 1537 4 #[] #[])
  fields := #[]
  methods := #[]
  instanceTypes := #[]
  staticTypes := #[]
  resolved := Array.replicate 8 none
  statics := none }

def pool5 : Array CpInfo := pool [(1, u "java/io/Serializable"), (0, .class_ 1), (0, u "java/lang/Object"), (0, .class_ 3)] 3

/-- java/io/Serializable -/
def k5 : Class := { plain "java/io/Serializable" (some 0) with
  accessFlags := 1537
  interfaces := #[]
  cf := some (fileOf pool5 2 #[] #[] 1537 4 #[] #[])
  fields := #[]
  methods := #[]
  instanceTypes := #[]
  staticTypes := #[]
  resolved := Array.replicate 8 none
  statics := none }

/-- the primitive byte -/
def k6 : Class := { plain "byte" none with kind := .primitive 'B', accessFlags := 0x411 }
/-- [B -/
def k7 : Class := { plain "[B" (some 0) with kind := .array 6 .byte, interfaces := #[4, 5], accessFlags := 1041 }

/-- the primitive int -/
def k8 : Class := { plain "int" none with kind := .primitive 'I', accessFlags := 0x411 }
/-- [I -/
def k9 : Class := { plain "[I" (some 0) with kind := .array 8 .int, interfaces := #[4, 5], accessFlags := 1041 }

def heap : Heap := #[{ cls := 3, slots := #[.int 0, .int 0, .int 0, .int 0, .int 0, .int 0, .int 0, .int 0, .int 0, .int 0, .int 0, .int 0, .int 0, .int 0, .int 0, .int 0, .int 0, .int 0, .ref 1], vm := .statics 3 },
  { cls := 9, slots := #[.int (-1), .int 0, .int (-1), .int 3, .int (-1), .int (-1), .int 4, .int 5, .int 1, .int 2, .int 6, .int 7], vm := .none }]
def classes : Array Class := #[k0, k1, k2, k3, k4, k5, k6, k7, k8, k9]
def interned : List (Array UInt16 × Addr) := []
def slotsUsed : Nat := 31
def theMethod : MethodId := ⟨1, 1⟩
def args0 : Array Value := #[.int 3, .int 2, .int 1]
def aboutOver (below : List Frame) : State where
  vm := { classes := classes, interned := interned.toArray }
  heap := heap
  slotsUsed := slotsUsed
  threads := #[{ frames := .invoking theMethod args0 :: below }]
def below0 : List Frame := [.native { method := ⟨0, 0⟩, args := #[] }]
def about1 : State := aboutOver below0
def p0 : Program := .bare "" "" ""
def e0 : Env := launch0.env 0 0 0
theorem w_frames : about1.frames = Frame.invoking theMethod args0 :: below0 := rfl
set_option maxRecDepth 65536 in
theorem w_args : argsFit about1.vm theMethod args0 = true := by decide +kernel
set_option maxRecDepth 65536 in
theorem w_heap : heapFits about1 = true := by decide +kernel
set_option maxRecDepth 65536 in
theorem w_runnable : about1.curStatus? = some .runnable := by decide +kernel
set_option maxRecDepth 65536 in
theorem w_alone : about1.alone = true := by decide +kernel
set_option maxRecDepth 65536 in
theorem w_named : about1.methodNamed? x = some theMethod := by decide +kernel
set_option maxRecDepth 65536 in
theorem w_hears : about1.hears theMethod below0 = true := by decide +kernel
set_option maxRecDepth 65536 in
theorem w_ripe : about1.ripe theMethod args0 below0 = true := by decide +kernel
theorem w_running : about1.status = .running := rfl
set_option maxRecDepth 65536 in
theorem w_room : about1.hasRoom e0.platform room_1 = true :=
  launch0.hasRoom_least _ room_1 (by decide +kernel) (by decide +kernel) (by decide +kernel) (by decide +kernel) (by decide +kernel) (by decide +kernel)
theorem allAtoms_all (ts : List Jvm.Cond) (a : Array Jvm.Value) (st : Jvm.State) : (allAtoms ts).before a st = ts.all (fun c => c.before a st) := by
  induction ts with
  | nil => rfl
  | cons c t ih =>
    show (Jvm.Cond.and c (allAtoms t)).before a st = _
    rw [Jvm.Cond.before_and, ih, List.all_cons]
def words1 : List Jvm.Cond := Jvm.Cond.code x code maxLocals ret :: tables_1
/-- a 'code' word, met by the world's own term for the bytes: nothing is compared byte by byte -/
theorem code_word {y : MethodName} {bytes : ByteArray} {mx : Nat} {rt : Option FieldType} {a : Array Value} {s : State} {m : MethodId} {meth : Method} {c : Code} (h1 : s.methodNamed? y = some m) (h2 : s.vm.method? m = some meth) (h3 : meth.code = some c) (h4 : c.code = bytes)
    (h5 : (c.maxLocals == mx && c.exceptionTable.isEmpty && decide (c.maxStack ≤ mostOperands) && decide (meth.sig.returnType = rt) && !meth.locks && decide (parseMethodDescriptor y.desc = some meth.sig)) = true) : (Jvm.Cond.code y bytes mx rt).before a s = true := by
  simp only [Bool.and_eq_true, beq_iff_eq, Bool.not_eq_true', decide_eq_true_eq] at h5
  obtain ⟨⟨⟨⟨⟨g1, g2⟩, g3⟩, g4⟩, g5⟩, g6⟩ := h5
  simp [Cond.before, Cond.holds, Cond.value, h1, h2, h3, h4, g1, g2, g3, g4, g5, g6]
def isCode : Jvm.Cond → Bool
  | .code _ _ _ _ => true
  | _ => false
theorem all_split {L : List Jvm.Cond} {P : Jvm.Cond → Bool} (h1 : L.all (fun c => isCode c || P c) = true) (h2 : ∀ c ∈ L.filter isCode, P c = true) : L.all P = true := by
  refine List.all_eq_true.mpr fun c hc => ?_
  have h := List.all_eq_true.mp h1 c hc
  rcases Bool.eq_false_or_eq_true (isCode c) with hi | hi
  · exact h2 c (List.mem_filter.mpr ⟨hc, hi⟩)
  · simpa [hi] using h
set_option maxRecDepth 65536 in
theorem w_c0 : (Jvm.Cond.code x code maxLocals ret).before args0 about1 = true := code_word (m := ⟨1, 1⟩) (meth := k1m1) (c := k1c1) (by decide +kernel) rfl rfl rfl (by decide +kernel)
set_option maxRecDepth 65536 in
theorem w_c1 : (Jvm.Cond.code ({ cls := "com/example/radix26/radix26/internal/trie/FrozenNodes", name := "arcByte", desc := "(IIZZ)B" } : Jvm.MethodName) prog_24_method_2_code (5 : Nat) (Option.some Jvm.ClassFile.FieldType.byte)).before args0 about1 = true := code_word (m := ⟨3, 1⟩) (meth := k3m1) (c := k3c1) (by decide +kernel) rfl rfl rfl (by decide +kernel)
set_option maxRecDepth 65536 in
theorem w_c2 : (Jvm.Cond.code ({ cls := "com/example/radix26/radix26/internal/trie/FrozenNodes", name := "<init>", desc := "([B)V" } : Jvm.MethodName) prog_24_method_1_code (2 : Nat) (Option.none : Option Jvm.ClassFile.FieldType)).before args0 about1 = true := code_word (m := ⟨3, 0⟩) (meth := k3m0) (c := k3c0) (by decide +kernel) rfl rfl rfl (by decide +kernel)
set_option maxRecDepth 65536 in
theorem w_c3 : (Jvm.Cond.code ({ cls := "java/lang/Object", name := "<init>", desc := "()V" } : Jvm.MethodName) object_method_1_code (1 : Nat) (Option.none : Option Jvm.ClassFile.FieldType)).before args0 about1 = true := code_word (m := ⟨0, 0⟩) (meth := k0m0) (c := k0c0) (by decide +kernel) rfl rfl rfl (by decide +kernel)
set_option maxRecDepth 65536 in
theorem w_c4 : (Jvm.Cond.code ({ cls := "com/example/radix26/radix26/internal/trie/FrozenNodes", name := "index", desc := "(I)I" } : Jvm.MethodName) prog_24_method_3_code (2 : Nat) (Option.some Jvm.ClassFile.FieldType.int)).before args0 about1 = true := code_word (m := ⟨3, 2⟩) (meth := k3m2) (c := k3c2) (by decide +kernel) rfl rfl rfl (by decide +kernel)
set_option maxRecDepth 65536 in
theorem w_c5 : (Jvm.Cond.code ({ cls := "com/example/radix26/radix26/internal/trie/FrozenNodes", name := "isWord", desc := "(I)Z" } : Jvm.MethodName) prog_24_method_5_code (2 : Nat) (Option.some Jvm.ClassFile.FieldType.boolean)).before args0 about1 = true := code_word (m := ⟨3, 3⟩) (meth := k3m3) (c := k3c3) (by decide +kernel) rfl rfl rfl (by decide +kernel)
set_option maxRecDepth 65536 in
theorem w_c6 : (Jvm.Cond.code ({ cls := "com/example/radix26/radix26/internal/trie/FrozenNodes", name := "kind", desc := "(I)I" } : Jvm.MethodName) prog_24_method_13_code (2 : Nat) (Option.some Jvm.ClassFile.FieldType.int)).before args0 about1 = true := code_word (m := ⟨3, 6⟩) (meth := k3m6) (c := k3c6) (by decide +kernel) rfl rfl rfl (by decide +kernel)
set_option maxRecDepth 65536 in
theorem w_c7 : (Jvm.Cond.code ({ cls := "com/example/radix26/radix26/internal/trie/FrozenNodes", name := "is", desc := "(II)Z" } : Jvm.MethodName) prog_24_method_14_code (2 : Nat) (Option.some Jvm.ClassFile.FieldType.boolean)).before args0 about1 = true := code_word (m := ⟨3, 7⟩) (meth := k3m7) (c := k3c7) (by decide +kernel) rfl rfl rfl (by decide +kernel)
set_option maxRecDepth 65536 in
theorem w_c8 : (Jvm.Cond.code ({ cls := "com/example/radix26/radix26/internal/trie/FrozenNodes", name := "nextSibling", desc := "(I)I" } : Jvm.MethodName) prog_24_method_7_code (4 : Nat) (Option.some Jvm.ClassFile.FieldType.int)).before args0 about1 = true := code_word (m := ⟨3, 4⟩) (meth := k3m4) (c := k3c4) (by decide +kernel) rfl rfl rfl (by decide +kernel)
set_option maxRecDepth 65536 in
theorem w_c9 : (Jvm.Cond.code ({ cls := "com/example/radix26/radix26/internal/trie/FrozenNodes", name := "count", desc := "(I)I" } : Jvm.MethodName) prog_24_method_11_code (4 : Nat) (Option.some Jvm.ClassFile.FieldType.int)).before args0 about1 = true := code_word (m := ⟨3, 5⟩) (meth := k3m5) (c := k3c5) (by decide +kernel) rfl rfl rfl (by decide +kernel)
set_option maxRecDepth 65536 in
theorem w_c10 : (Jvm.Cond.code ({ cls := "com/example/radix26/radix26/internal/trie/FrozenNodes", name := "state", desc := "(I)I" } : Jvm.MethodName) prog_24_method_15_code (4 : Nat) (Option.some Jvm.ClassFile.FieldType.int)).before args0 about1 = true := code_word (m := ⟨3, 8⟩) (meth := k3m8) (c := k3c8) (by decide +kernel) rfl rfl rfl (by decide +kernel)
set_option maxRecDepth 65536 in
theorem w_c11 : (Jvm.Cond.code ({ cls := "com/example/radix26/radix26/internal/trie/FrozenNodes", name := "number", desc := "(I)I" } : Jvm.MethodName) prog_24_method_16_code (6 : Nat) (Option.some Jvm.ClassFile.FieldType.int)).before args0 about1 = true := code_word (m := ⟨3, 9⟩) (meth := k3m9) (c := k3c9) (by decide +kernel) rfl rfl rfl (by decide +kernel)
set_option maxRecDepth 65536 in
theorem w_c12 : (Jvm.Cond.code ({ cls := "com/example/radix26/radix26/internal/trie/FrozenNodes", name := "pastNumber", desc := "(I)I" } : Jvm.MethodName) prog_24_method_17_code (3 : Nat) (Option.some Jvm.ClassFile.FieldType.int)).before args0 about1 = true := code_word (m := ⟨3, 10⟩) (meth := k3m10) (c := k3c10) (by decide +kernel) rfl rfl rfl (by decide +kernel)
def codes1 : List Jvm.Cond := [Jvm.Cond.code x code maxLocals ret, Jvm.Cond.code ({ cls := "com/example/radix26/radix26/internal/trie/FrozenNodes", name := "arcByte", desc := "(IIZZ)B" } : Jvm.MethodName) prog_24_method_2_code (5 : Nat) (Option.some Jvm.ClassFile.FieldType.byte), Jvm.Cond.code ({ cls := "com/example/radix26/radix26/internal/trie/FrozenNodes", name := "<init>", desc := "([B)V" } : Jvm.MethodName) prog_24_method_1_code (2 : Nat) (Option.none : Option Jvm.ClassFile.FieldType), Jvm.Cond.code ({ cls := "java/lang/Object", name := "<init>", desc := "()V" } : Jvm.MethodName) object_method_1_code (1 : Nat) (Option.none : Option Jvm.ClassFile.FieldType), Jvm.Cond.code ({ cls := "com/example/radix26/radix26/internal/trie/FrozenNodes", name := "index", desc := "(I)I" } : Jvm.MethodName) prog_24_method_3_code (2 : Nat) (Option.some Jvm.ClassFile.FieldType.int), Jvm.Cond.code ({ cls := "com/example/radix26/radix26/internal/trie/FrozenNodes", name := "isWord", desc := "(I)Z" } : Jvm.MethodName) prog_24_method_5_code (2 : Nat) (Option.some Jvm.ClassFile.FieldType.boolean), Jvm.Cond.code ({ cls := "com/example/radix26/radix26/internal/trie/FrozenNodes", name := "kind", desc := "(I)I" } : Jvm.MethodName) prog_24_method_13_code (2 : Nat) (Option.some Jvm.ClassFile.FieldType.int), Jvm.Cond.code ({ cls := "com/example/radix26/radix26/internal/trie/FrozenNodes", name := "is", desc := "(II)Z" } : Jvm.MethodName) prog_24_method_14_code (2 : Nat) (Option.some Jvm.ClassFile.FieldType.boolean), Jvm.Cond.code ({ cls := "com/example/radix26/radix26/internal/trie/FrozenNodes", name := "nextSibling", desc := "(I)I" } : Jvm.MethodName) prog_24_method_7_code (4 : Nat) (Option.some Jvm.ClassFile.FieldType.int), Jvm.Cond.code ({ cls := "com/example/radix26/radix26/internal/trie/FrozenNodes", name := "count", desc := "(I)I" } : Jvm.MethodName) prog_24_method_11_code (4 : Nat) (Option.some Jvm.ClassFile.FieldType.int), Jvm.Cond.code ({ cls := "com/example/radix26/radix26/internal/trie/FrozenNodes", name := "state", desc := "(I)I" } : Jvm.MethodName) prog_24_method_15_code (4 : Nat) (Option.some Jvm.ClassFile.FieldType.int), Jvm.Cond.code ({ cls := "com/example/radix26/radix26/internal/trie/FrozenNodes", name := "number", desc := "(I)I" } : Jvm.MethodName) prog_24_method_16_code (6 : Nat) (Option.some Jvm.ClassFile.FieldType.int), Jvm.Cond.code ({ cls := "com/example/radix26/radix26/internal/trie/FrozenNodes", name := "pastNumber", desc := "(I)I" } : Jvm.MethodName) prog_24_method_17_code (3 : Nat) (Option.some Jvm.ClassFile.FieldType.int)]
set_option maxRecDepth 65536 in
theorem codes_eq : words1.filter isCode = codes1 := rfl
theorem w_codes : ∀ c ∈ words1.filter isCode, c.before args0 about1 = true := by
  rw [codes_eq]
  intro c hc
  simp only [codes1, List.mem_cons, List.not_mem_nil, or_false] at hc
  rcases hc with rfl | rfl | rfl | rfl | rfl | rfl | rfl | rfl | rfl | rfl | rfl | rfl | rfl
  · exact w_c0
  · exact w_c1
  · exact w_c2
  · exact w_c3
  · exact w_c4
  · exact w_c5
  · exact w_c6
  · exact w_c7
  · exact w_c8
  · exact w_c9
  · exact w_c10
  · exact w_c11
  · exact w_c12
set_option maxRecDepth 65536 in
theorem w_t1 : (words1.take 24).all (fun c => isCode c || c.before args0 about1) = true := by decide +kernel
set_option maxRecDepth 65536 in
theorem w_t2 : ((words1.drop 24).take 24).all (fun c => isCode c || c.before args0 about1) = true := by decide +kernel
set_option maxRecDepth 65536 in
theorem w_t3 : ((words1.drop 24).drop 24).all (fun c => isCode c || c.before args0 about1) = true := by decide +kernel
theorem w_tables : (allAtoms (Jvm.Cond.code x code maxLocals ret :: tables_1)).before args0 about1 = true := by
  rw [allAtoms_all]
  show words1.all (fun c => c.before args0 about1) = true
  refine all_split ?_ w_codes
  rw [← List.take_append_drop 24 words1, List.all_append, w_t1, ← List.take_append_drop 24 (words1.drop 24), List.all_append, w_t2, w_t3]
  rfl
set_option maxRecDepth 65536 in
theorem w_case : (Jvm.Cond.and given_1 narrow_1).before args0 about1 = true := by decide +kernel
theorem w_applies : (headSpec (Jvm.Cond.code x code maxLocals ret :: tables_1) room_1).applies x e0.platform about1 = true :=
  (Spec.applies_iff w_frames).mpr ⟨w_running, w_runnable, w_alone, w_named, w_hears, w_ripe, w_room, w_tables⟩
theorem atStart : AtStart classFile x code maxLocals ret World_1 tables_1 room_1 Calls_1 rest_1 Pre_1 launch0 p0 e0 about1 theMethod args0 below0 :=
  ⟨lists_1, trivial, launch0.admits_env _ _ _, launch0.least_env, fairChoices_fair.cas, fairChoices_fair.clock, w_frames, w_args, w_heap, w_applies, trivial, trivial, w_case⟩
end start1
theorem witness_1 : WitnessClaimed_1 := ⟨start1.p0, start1.e0, start1.about1, start1.theMethod, start1.args0, start1.below0, start1.atStart⟩
end Jvm.Pilot.@@N@@
