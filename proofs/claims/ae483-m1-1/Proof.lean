import JvmDerived
import JvmDerived.Pilot.@@N@@Statement
import JvmDerived.Pilot.@@N@@Code
set_option linter.unusedVariables false
set_option linter.unusedSimpArgs false
namespace Jvm.Pilot.@@N@@
open Jvm Jvm.ClassFile Sem Op Lib Jvm.Free Jvm.Stand Jvm.LawKit Jvm.RoadKit Bundle Jvm.Pilot.@@N@@.Jvm.D
section OwnRet
variable {p : Program} {l : Launch} {e : Env} {R : Room} {s : State} {m : MethodId} {args : Array Value} {below : List Frame} {meth : Method} {c : Code} {T : State} {locs : List Loc} {cells slots : Nat}
theorem own_retI0 (X : Stand p l e R s m args below meth c T locs cells slots) (hx : p.tables.exec = Jvm.exec) {pc : Nat} {Ls : Array Slot} {z : Int32} {rest : List Value} (hret : meth.sig.returnType = some .int) (hd : decode c.code pc = .ok (.ireturn, 1)) {fs : List Frame}
    (hl : ∀ (f : JFrame) (acts : List Action), f.method = m → f.locked = none → f.entered = [] → (doReturn e (T.setTop f) acts (some (.int z))).1 = T.setFrames fs) : Steps p.tables e below (T.setTop (mkF m pc Ls (.int z :: rest))) (T.setFrames fs) :=
  retOut X hx hret rfl (Or.inl ⟨rfl, Or.inl rfl, z, rfl⟩) hd hl
end OwnRet
/-- the array at a: of component type ty, its class k, and just these components -/
def own_A (Z : State) (h : Heap) (a : Addr) (kc : ClassId) (ty : FieldType) (vs : List Value) : Prop := ∃ c : Cell, Arr Z h a c ty ∧ c.cls = kc ∧ c.slots.toList = vs ∧ vs.length < 2 ^ 31 ∧ ∀ v ∈ vs, fits ty v = true
section OwnArr
variable {Z : State} {h h' : Heap} {a b : Addr} {kc : ClassId} {ty : FieldType} {vs : List Value} {sl : Nat} {v w : Value} {ws : List Addr}
theorem own_A.lt (F : own_A Z h a kc ty vs) : a < h.size := by obtain ⟨c, A, -⟩ := F; exact A.lt
theorem own_A.ext (F : own_A Z h a kc ty vs) (E : Ext h h') : own_A Z h' a kc ty vs := by obtain ⟨c, A, r⟩ := F; exact ⟨c, A.ext E, r⟩
theorem own_A.other (F : own_A Z h b kc ty vs) (W : Wr h h' a sl v) (q : b ≠ a) : own_A Z h' b kc ty vs := by obtain ⟨c, A, r⟩ := F; exact ⟨c, A.other W q, r⟩
theorem own_A.keep (F : own_A Z h a kc ty vs) (K : Keep h h' ws) (q : a ∉ ws) : own_A Z h' a kc ty vs := by obtain ⟨c, A, r⟩ := F; exact ⟨c, ⟨K.2.1 a c A.1 q, A.2⟩, r⟩
theorem own_A.same (F : own_A Z h a kc ty vs) (W : Wr h h' a sl v) (hf : fits ty v = true) : own_A Z h' a kc ty (vs.set sl v) := by
  obtain ⟨c, A, r1, r2, r3, r4⟩ := F
  refine ⟨_, A.same W, r1, by show (c.slots.setIfInBounds sl v).toList = _; rw [Array.toList_setIfInBounds, r2], by simpa using r3, fun u hu => ?_⟩
  rcases List.mem_or_eq_of_mem_set hu with q | q
  · exact r4 u q
  · exact q ▸ hf
theorem own_in {c : Cell} {j : Int32} {i : Nat} (r2 : c.slots.toList = vs) (hj : j.toNatClampNeg = i) (hj0 : ¬ j < 0) (hi : i < vs.length) : ¬ (j < 0 ∨ c.slots.size ≤ j.toNatClampNeg) := by
  rintro (q | q)
  · exact hj0 q
  · rw [hj, ← Array.length_toList, r2] at q; omega
theorem own_Ins_keep {C : String} (F : Ins Z h a C true) (K : Keep h h' ws) : Ins Z h' a C true := by
  obtain ⟨cell, cT, h1, h2, h3⟩ := F
  obtain ⟨c', q, r1, r2, -⟩ := K.2.2 a cell h1
  exact ⟨c', cT, q, h2, by rw [r1, r2]; exact h3⟩
theorem own_Sta_keep0 {C nm d : String} (F : Sta Z h C nm d v) (K : Keep h h' []) : Sta Z h' C nm d v := by
  obtain ⟨cf, i, k, f, st, cell, h1, h2, h3, h4, h5, r⟩ := F
  exact ⟨cf, i, k, f, st, cell, h1, h2, h3, h4, K.2.1 st cell h5 nin0, r⟩
theorem own_Sto {x : Addr} {C : String} (F : own_A Z h a kc ty vs) (O : Ovr Z kc C) (I : Ins Z h x C true) : Sto Z h a (.ref x) := by
  obtain ⟨c, A, r, -⟩ := F
  exact Sto.ofV A r O I
theorem own_Sto_keep (F : Sto Z h a v) (K : Keep h h' ws) : Sto Z h' a v := F.imp id fun ⟨c1, c2, k, kv, kc, cp, t, y, h1, h2, h3, h4, h5, h6, h7, h8, h9⟩ => by
  obtain ⟨c1', q1, r1, -, -⟩ := K.2.2 _ _ h1
  obtain ⟨c2', q2, r2, r3, -⟩ := K.2.2 _ _ h6
  exact ⟨c1', c2', k, kv, kc, cp, t, y, q1, by rw [r1]; exact h2, h3, h4, h5, q2, by rw [r3]; exact h7, by rw [r2]; exact h8, by rw [r2]; exact h9⟩
end OwnArr
section OwnKit
variable {p : Program} {l : Launch} {e : Env} {R : Room} {s : State} {m : MethodId} {args : Array Value} {below : List Frame} {meth : Method} {c : Code} {Z T : State} {n0 ml k n : Nat} {y : MethodName} {bytes : ByteArray} {ret : Option FieldType} {h : Heap} {a0 : Array Value} {G : State → Outcome → Prop} {Ls : Array Slot} {st : List Value} {pc : Nat}
/-- the run from this state ends, and G holds of the end -/
def own_Ends (p : Program) (e : Env) (below : List Frame) (G : State → Outcome → Prop) (S : State) : Prop := ∃ s₂ o, Steps p.tables e below S s₂ ∧ s₂.status = .running ∧ Ended s₂ below o ∧ G s₂ o
/-- what a method's end must say -/
def own_Fin (s : State) (n0 C S : Nat) (Q : Option Value → Heap → Prop) (s₂ : State) (o : Outcome) : Prop := ∃ v L, o = .returned v ∧ (Q v s₂.heap ∧ Fr n0 L) ∧ FrameEnd s o s₂ L C S
/-- where a walk stands: the state T, its heap h, k cells and n slots spent, nothing old written -/
def own_W (p : Program) (l : Launch) (e : Env) (R : Room) (s : State) (m : MethodId) (args : Array Value) (below : List Frame) (meth : Method) (c : Code) (Z : State) (n0 : Nat) (y : MethodName) (bytes : ByteArray) (ml : Nat) (ret : Option FieldType) (T : State) (h : Heap) (k n : Nat) : Prop :=
  (∃ locs, Stand p l e R s m args below meth c T locs k n ∧ Fr n0 locs) ∧ T.heap = h ∧ n0 ≤ h.size ∧ p.tables.exec = Jvm.exec ∧ Z.Warmed39 s.vm ∧ c.code = bytes ∧ c.maxLocals = ml ∧ s.vm.findClass y.cls = some m.cls ∧ meth.sig.returnType = ret ∧ meth.locks = false ∧ meth.name = y.name
/-- a body's contract: called with as' over the heap h it returns, Q holds of what it returns and of the heap that it leaves -/
def own_Met (l : Launch) (y : MethodName) (bytes : ByteArray) (ml : Nat) (ret : Option FieldType) (rm : Room) (Z : State) (as' : Array Value) (h : Heap) (n0 : Nat) (Q : Option Value → Heap → Prop) : Prop :=
  ∀ ws, MetFree l y (head1 (Jvm.Cond.code y bytes ml ret :: ws) rm) (fun a U => a = as' ∧ Z.Warmed39 U.vm ∧ U.heap = h) (fun _ _ _ _ _ => True) (fun _ U o U' => ∃ v L, o = .returned v ∧ (Q v U'.heap ∧ Fr n0 L) ∧ FrameEnd U o U' L rm.cells rm.slots)
theorem own_pre {S S' : State} (f : ∀ t, Steps p.tables e below S' t → Steps p.tables e below S t) (K : own_Ends p e below G S') : own_Ends p e below G S := by
  obtain ⟨s2, o, h1, h2⟩ := K
  exact ⟨s2, o, f _ h1, h2⟩
theorem own_W.more {k' n' : Nat} (X : own_W p l e R s m args below meth c Z n0 y bytes ml ret T h k n) (hk : k ≤ k') (hn : n ≤ n') : own_W p l e R s m args below meth c Z n0 y bytes ml ret T h k' n' := by
  obtain ⟨⟨locs, Y, N⟩, r⟩ := X
  exact ⟨⟨locs, Y.more hk hn, N⟩, r⟩
theorem own_W.sz (X : own_W p l e R s m args below meth c Z n0 y bytes ml ret T h k n) : n0 ≤ h.size := X.2.2.1
theorem own_met {rm : Room} {as' : Array Value} {Q : Option Value → Heap → Prop} (hpl : plainFor y = true) (hs0 : n0 ≤ h.size) (hef : ∀ m, entryFrame m as' ml = mkF m 0 Ls [])
    (body : ∀ (p : Program) (e : Env) (s : State) (m : MethodId) (below : List Frame) (meth : Method) (c : Code) (T : State), own_W p l e rm s m as' below meth c Z n0 y bytes ml ret T h 0 0 → own_Ends p e below (own_Fin s n0 rm.cells rm.slots Q) (T.setTop (mkF m 0 Ls []))) :
    own_Met l y bytes ml ret rm Z as' h n0 Q := by
  intro ws
  refine MetFree.of_bodySF hpl hisR ?_
  intro p e s m args below meth c s₁ Bd hml0 hP hK
  obtain ⟨rfl, hZ, hh⟩ := hP
  obtain ⟨s2, o, h1, h2, h3, h4⟩ := body p e s m below meth c s₁ ⟨⟨[], Stand.of_body Bd, Fr.nil n0⟩, by rw [← hh, Bd.state]; rfl, hs0, Bd.exec, hZ, Bd.bytes, hml0, findClass_of_methodNamed Bd.named, Bd.returns, Bd.notSynchronized, (name_of_methodNamed Bd.named Bd.method).1⟩
  exact ⟨s2, o, castTop (hef m) h1, h2, h3, h4⟩
theorem own_iloadN (X : own_W p l e R s m args below meth c Z n0 y bytes ml ret T h k n) (q : Nat) {i : Fin 4} (x : Int32) (hd : decode bytes pc = .ok (.iload_n i, 1)) (hq : pc + 1 = q) (hl : Ls[i.val]? = some (.val (.int x))) (K : own_Ends p e below G (T.setTop (mkF m q Ls (.int x :: st)))) : own_Ends p e below G (T.setTop (mkF m pc Ls st)) := by
  subst hq
  obtain ⟨⟨locs, Y, N⟩, eT, hs0, hx, hZ, hby, hml, hown, hret, hlk, hnm⟩ := X
  exact own_pre (fun t K => XS.iloadN Y.here hx rfl (hb hby hd) hl K) K
theorem own_iload (X : own_W p l e R s m args below meth c Z n0 y bytes ml ret T h k n) (q : Nat) {i : Nat} (x : Int32) (hd : decode bytes pc = .ok (.iload i, 2)) (hq : pc + 2 = q) (hl : Ls[i]? = some (.val (.int x))) (K : own_Ends p e below G (T.setTop (mkF m q Ls (.int x :: st)))) : own_Ends p e below G (T.setTop (mkF m pc Ls st)) := by
  subst hq
  obtain ⟨⟨locs, Y, N⟩, eT, hs0, hx, hZ, hby, hml, hown, hret, hlk, hnm⟩ := X
  exact own_pre (fun t K => XS.iload Y.here hx rfl (hb hby hd) hl K) K
theorem own_lloadN (X : own_W p l e R s m args below meth c Z n0 y bytes ml ret T h k n) (q : Nat) {i : Fin 4} (x : Int64) (hd : decode bytes pc = .ok (.lload_n i, 1)) (hq : pc + 1 = q) (hl : Ls[i.val]? = some (.val (.long x))) (K : own_Ends p e below G (T.setTop (mkF m q Ls (.long x :: st)))) : own_Ends p e below G (T.setTop (mkF m pc Ls st)) := by
  subst hq
  obtain ⟨⟨locs, Y, N⟩, eT, hs0, hx, hZ, hby, hml, hown, hret, hlk, hnm⟩ := X
  exact own_pre (fun t K => XS.lloadN Y.here hx rfl (hb hby hd) hl K) K
theorem own_lload (X : own_W p l e R s m args below meth c Z n0 y bytes ml ret T h k n) (q : Nat) {i : Nat} (x : Int64) (hd : decode bytes pc = .ok (.lload i, 2)) (hq : pc + 2 = q) (hl : Ls[i]? = some (.val (.long x))) (K : own_Ends p e below G (T.setTop (mkF m q Ls (.long x :: st)))) : own_Ends p e below G (T.setTop (mkF m pc Ls st)) := by
  subst hq
  obtain ⟨⟨locs, Y, N⟩, eT, hs0, hx, hZ, hby, hml, hown, hret, hlk, hnm⟩ := X
  exact own_pre (fun t K => XS.lload Y.here hx rfl (hb hby hd) hl K) K
theorem own_aloadN (X : own_W p l e R s m args below meth c Z n0 y bytes ml ret T h k n) (q : Nat) {i : Fin 4} (x : Value) (hd : decode bytes pc = .ok (.aload_n i, 1)) (hq : pc + 1 = q) (hl : Ls[i.val]? = some (.val x)) (hv : x.isRef = true) (K : own_Ends p e below G (T.setTop (mkF m q Ls (x :: st)))) : own_Ends p e below G (T.setTop (mkF m pc Ls st)) := by
  subst hq
  obtain ⟨⟨locs, Y, N⟩, eT, hs0, hx, hZ, hby, hml, hown, hret, hlk, hnm⟩ := X
  exact own_pre (fun t K => XS.aloadN Y.here hx rfl (hb hby hd) hl hv K) K
theorem own_aload (X : own_W p l e R s m args below meth c Z n0 y bytes ml ret T h k n) (q : Nat) {i : Nat} (x : Value) (hd : decode bytes pc = .ok (.aload i, 2)) (hq : pc + 2 = q) (hl : Ls[i]? = some (.val x)) (hv : x.isRef = true) (K : own_Ends p e below G (T.setTop (mkF m q Ls (x :: st)))) : own_Ends p e below G (T.setTop (mkF m pc Ls st)) := by
  subst hq
  obtain ⟨⟨locs, Y, N⟩, eT, hs0, hx, hZ, hby, hml, hown, hret, hlk, hnm⟩ := X
  exact own_pre (fun t K => XS.aload Y.here hx rfl (hb hby hd) hl hv K) K
theorem own_istoreN (X : own_W p l e R s m args below meth c Z n0 y bytes ml ret T h k n) (q : Nat) {i : Fin 4} {x : Int32} (l' : Array Slot) (hd : decode bytes pc = .ok (.istore_n i, 1)) (hq : pc + 1 = q) (hl : storeLocals Ls i.val (.int x) = some l') (K : own_Ends p e below G (T.setTop (mkF m q l' st))) : own_Ends p e below G (T.setTop (mkF m pc Ls (.int x :: st))) := by
  subst hq
  obtain ⟨⟨locs, Y, N⟩, eT, hs0, hx, hZ, hby, hml, hown, hret, hlk, hnm⟩ := X
  exact own_pre (fun t K => XS.istoreN Y.here hx rfl (hb hby hd) rfl hl K) K
theorem own_istore (X : own_W p l e R s m args below meth c Z n0 y bytes ml ret T h k n) (q : Nat) {i : Nat} {x : Int32} (l' : Array Slot) (hd : decode bytes pc = .ok (.istore i, 2)) (hq : pc + 2 = q) (hl : storeLocals Ls i (.int x) = some l') (K : own_Ends p e below G (T.setTop (mkF m q l' st))) : own_Ends p e below G (T.setTop (mkF m pc Ls (.int x :: st))) := by
  subst hq
  obtain ⟨⟨locs, Y, N⟩, eT, hs0, hx, hZ, hby, hml, hown, hret, hlk, hnm⟩ := X
  exact own_pre (fun t K => XS.istore Y.here hx rfl (hb hby hd) rfl hl K) K
theorem own_lstoreN (X : own_W p l e R s m args below meth c Z n0 y bytes ml ret T h k n) (q : Nat) {i : Fin 4} {x : Int64} (l' : Array Slot) (hd : decode bytes pc = .ok (.lstore_n i, 1)) (hq : pc + 1 = q) (hl : storeLocals Ls i.val (.long x) = some l') (K : own_Ends p e below G (T.setTop (mkF m q l' st))) : own_Ends p e below G (T.setTop (mkF m pc Ls (.long x :: st))) := by
  subst hq
  obtain ⟨⟨locs, Y, N⟩, eT, hs0, hx, hZ, hby, hml, hown, hret, hlk, hnm⟩ := X
  exact own_pre (fun t K => XS.lstoreN Y.here hx rfl (hb hby hd) rfl hl K) K
theorem own_lstore (X : own_W p l e R s m args below meth c Z n0 y bytes ml ret T h k n) (q : Nat) {i : Nat} {x : Int64} (l' : Array Slot) (hd : decode bytes pc = .ok (.lstore i, 2)) (hq : pc + 2 = q) (hl : storeLocals Ls i (.long x) = some l') (K : own_Ends p e below G (T.setTop (mkF m q l' st))) : own_Ends p e below G (T.setTop (mkF m pc Ls (.long x :: st))) := by
  subst hq
  obtain ⟨⟨locs, Y, N⟩, eT, hs0, hx, hZ, hby, hml, hown, hret, hlk, hnm⟩ := X
  exact own_pre (fun t K => XS.lstore Y.here hx rfl (hb hby hd) rfl hl K) K
theorem own_astoreN (X : own_W p l e R s m args below meth c Z n0 y bytes ml ret T h k n) (q : Nat) {i : Fin 4} {x : Value} (l' : Array Slot) (hd : decode bytes pc = .ok (.astore_n i, 1)) (hq : pc + 1 = q) (hv : x.isRef = true) (hl : storeLocals Ls i.val x = some l') (K : own_Ends p e below G (T.setTop (mkF m q l' st))) : own_Ends p e below G (T.setTop (mkF m pc Ls (x :: st))) := by
  subst hq
  obtain ⟨⟨locs, Y, N⟩, eT, hs0, hx, hZ, hby, hml, hown, hret, hlk, hnm⟩ := X
  exact own_pre (fun t K => XS.astoreN Y.here hx rfl (hb hby hd) rfl hv hl K) K
theorem own_astore (X : own_W p l e R s m args below meth c Z n0 y bytes ml ret T h k n) (q : Nat) {i : Nat} {x : Value} (l' : Array Slot) (hd : decode bytes pc = .ok (.astore i, 2)) (hq : pc + 2 = q) (hv : x.isRef = true) (hl : storeLocals Ls i x = some l') (K : own_Ends p e below G (T.setTop (mkF m q l' st))) : own_Ends p e below G (T.setTop (mkF m pc Ls (x :: st))) := by
  subst hq
  obtain ⟨⟨locs, Y, N⟩, eT, hs0, hx, hZ, hby, hml, hown, hret, hlk, hnm⟩ := X
  exact own_pre (fun t K => XS.astore Y.here hx rfl (hb hby hd) rfl hv hl K) K
theorem own_iconst (X : own_W p l e R s m args below meth c Z n0 y bytes ml ret T h k n) (q : Nat) {i : Int} (x : Int32) (hd : decode bytes pc = .ok (.iconst i, 1)) (hq : pc + 1 = q) (hv : Int32.ofInt i = x) (K : own_Ends p e below G (T.setTop (mkF m q Ls (.int x :: st)))) : own_Ends p e below G (T.setTop (mkF m pc Ls st)) := by
  subst hq
  obtain ⟨⟨locs, Y, N⟩, eT, hs0, hx, hZ, hby, hml, hown, hret, hlk, hnm⟩ := X
  exact own_pre (fun t K => XT.iconstV Y.here hx rfl x (hb hby hd) hv K) K
theorem own_bipush (X : own_W p l e R s m args below meth c Z n0 y bytes ml ret T h k n) (q : Nat) {i : Int} (x : Int32) (hd : decode bytes pc = .ok (.bipush i, 2)) (hq : pc + 2 = q) (hv : (Int8.ofInt i).toInt32 = x) (K : own_Ends p e below G (T.setTop (mkF m q Ls (.int x :: st)))) : own_Ends p e below G (T.setTop (mkF m pc Ls st)) := by
  subst hq
  obtain ⟨⟨locs, Y, N⟩, eT, hs0, hx, hZ, hby, hml, hown, hret, hlk, hnm⟩ := X
  exact own_pre (fun t K => XT.bipushV Y.here hx rfl x (hb hby hd) hv K) K
theorem own_sipush (X : own_W p l e R s m args below meth c Z n0 y bytes ml ret T h k n) (q : Nat) {i : Int} (x : Int32) (hd : decode bytes pc = .ok (.sipush i, 3)) (hq : pc + 3 = q) (hv : (Int16.ofInt i).toInt32 = x) (K : own_Ends p e below G (T.setTop (mkF m q Ls (.int x :: st)))) : own_Ends p e below G (T.setTop (mkF m pc Ls st)) := by
  subst hq
  obtain ⟨⟨locs, Y, N⟩, eT, hs0, hx, hZ, hby, hml, hown, hret, hlk, hnm⟩ := X
  exact own_pre (fun t K => XT.sipushV Y.here hx rfl x (hb hby hd) hv K) K
theorem own_lconst (X : own_W p l e R s m args below meth c Z n0 y bytes ml ret T h k n) (q : Nat) {i : Fin 2} (x : Int64) (hd : decode bytes pc = .ok (.lconst i, 1)) (hq : pc + 1 = q) (hv : Int64.ofNat i = x) (K : own_Ends p e below G (T.setTop (mkF m q Ls (.long x :: st)))) : own_Ends p e below G (T.setTop (mkF m pc Ls st)) := by
  subst hq
  obtain ⟨⟨locs, Y, N⟩, eT, hs0, hx, hZ, hby, hml, hown, hret, hlk, hnm⟩ := X
  exact own_pre (fun t K => XT.lconstV Y.here hx rfl x (hb hby hd) hv K) K
theorem own_anull (X : own_W p l e R s m args below meth c Z n0 y bytes ml ret T h k n) (q : Nat)  (hd : decode bytes pc = .ok (.aconst_null, 1)) (hq : pc + 1 = q)  (K : own_Ends p e below G (T.setTop (mkF m q Ls (.null :: st)))) : own_Ends p e below G (T.setTop (mkF m pc Ls st)) := by
  subst hq
  obtain ⟨⟨locs, Y, N⟩, eT, hs0, hx, hZ, hby, hml, hown, hret, hlk, hnm⟩ := X
  exact own_pre (fun t K => XS.aconstNull Y.here hx rfl (hb hby hd) K) K
theorem own_ldcI (X : own_W p l e R s m args below meth c Z n0 y bytes ml ret T h k n) (q : Nat) {i : Nat} {x : Int32} (hd : decode bytes pc = .ok (.ldc i, 2)) (hq : pc + 2 = q) (w : (Jvm.Cond.constant y.cls i x).before a0 Z = true) (K : own_Ends p e below G (T.setTop (mkF m q Ls (.int x :: st)))) : own_Ends p e below G (T.setTop (mkF m pc Ls st)) := by
  subst hq
  obtain ⟨⟨locs, Y, N⟩, eT, hs0, hx, hZ, hby, hml, hown, hret, hlk, hnm⟩ := X
  exact own_pre (fun t K => Y.ldcI hx hown (mvT hZ w) rfl (hb hby hd) K) K
theorem own_ldcwI (X : own_W p l e R s m args below meth c Z n0 y bytes ml ret T h k n) (q : Nat) {i : Nat} {x : Int32} (hd : decode bytes pc = .ok (.ldc_w i, 3)) (hq : pc + 3 = q) (w : (Jvm.Cond.constant y.cls i x).before a0 Z = true) (K : own_Ends p e below G (T.setTop (mkF m q Ls (.int x :: st)))) : own_Ends p e below G (T.setTop (mkF m pc Ls st)) := by
  subst hq
  obtain ⟨⟨locs, Y, N⟩, eT, hs0, hx, hZ, hby, hml, hown, hret, hlk, hnm⟩ := X
  exact own_pre (fun t K => Y.ldcWI hx hown (mvT hZ w) rfl (hb hby hd) K) K
theorem own_ldc2J (X : own_W p l e R s m args below meth c Z n0 y bytes ml ret T h k n) (q : Nat) {i : Nat} {x : Int64} (hd : decode bytes pc = .ok (.ldc2_w i, 3)) (hq : pc + 3 = q) (w : (Jvm.Cond.constantLong y.cls i x).before a0 Z = true) (K : own_Ends p e below G (T.setTop (mkF m q Ls (.long x :: st)))) : own_Ends p e below G (T.setTop (mkF m pc Ls st)) := by
  subst hq
  obtain ⟨⟨locs, Y, N⟩, eT, hs0, hx, hZ, hby, hml, hown, hret, hlk, hnm⟩ := X
  exact own_pre (fun t K => Y.ldc2J hx hown (mvT hZ w) rfl (hb hby hd) K) K
theorem own_iadd (X : own_W p l e R s m args below meth c Z n0 y bytes ml ret T h k n) (q : Nat) {x z : Int32} (hd : decode bytes pc = .ok (.iadd, 1)) (hq : pc + 1 = q)  (K : own_Ends p e below G (T.setTop (mkF m q Ls (.int (x + z) :: st)))) : own_Ends p e below G (T.setTop (mkF m pc Ls (.int z :: .int x :: st))) := by
  subst hq
  obtain ⟨⟨locs, Y, N⟩, eT, hs0, hx, hZ, hby, hml, hown, hret, hlk, hnm⟩ := X
  exact own_pre (fun t K => XS.iadd Y.here hx rfl (hb hby hd) rfl K) K
theorem own_isub (X : own_W p l e R s m args below meth c Z n0 y bytes ml ret T h k n) (q : Nat) {x z : Int32} (hd : decode bytes pc = .ok (.isub, 1)) (hq : pc + 1 = q)  (K : own_Ends p e below G (T.setTop (mkF m q Ls (.int (x - z) :: st)))) : own_Ends p e below G (T.setTop (mkF m pc Ls (.int z :: .int x :: st))) := by
  subst hq
  obtain ⟨⟨locs, Y, N⟩, eT, hs0, hx, hZ, hby, hml, hown, hret, hlk, hnm⟩ := X
  exact own_pre (fun t K => XS.isub Y.here hx rfl (hb hby hd) rfl K) K
theorem own_imul (X : own_W p l e R s m args below meth c Z n0 y bytes ml ret T h k n) (q : Nat) {x z : Int32} (hd : decode bytes pc = .ok (.imul, 1)) (hq : pc + 1 = q)  (K : own_Ends p e below G (T.setTop (mkF m q Ls (.int (x * z) :: st)))) : own_Ends p e below G (T.setTop (mkF m pc Ls (.int z :: .int x :: st))) := by
  subst hq
  obtain ⟨⟨locs, Y, N⟩, eT, hs0, hx, hZ, hby, hml, hown, hret, hlk, hnm⟩ := X
  exact own_pre (fun t K => XS.imul Y.here hx rfl (hb hby hd) rfl K) K
theorem own_iand (X : own_W p l e R s m args below meth c Z n0 y bytes ml ret T h k n) (q : Nat) {x z : Int32} (hd : decode bytes pc = .ok (.iand, 1)) (hq : pc + 1 = q)  (K : own_Ends p e below G (T.setTop (mkF m q Ls (.int (x &&& z) :: st)))) : own_Ends p e below G (T.setTop (mkF m pc Ls (.int z :: .int x :: st))) := by
  subst hq
  obtain ⟨⟨locs, Y, N⟩, eT, hs0, hx, hZ, hby, hml, hown, hret, hlk, hnm⟩ := X
  exact own_pre (fun t K => XS.iand Y.here hx rfl (hb hby hd) rfl K) K
theorem own_ior (X : own_W p l e R s m args below meth c Z n0 y bytes ml ret T h k n) (q : Nat) {x z : Int32} (hd : decode bytes pc = .ok (.ior, 1)) (hq : pc + 1 = q)  (K : own_Ends p e below G (T.setTop (mkF m q Ls (.int (x ||| z) :: st)))) : own_Ends p e below G (T.setTop (mkF m pc Ls (.int z :: .int x :: st))) := by
  subst hq
  obtain ⟨⟨locs, Y, N⟩, eT, hs0, hx, hZ, hby, hml, hown, hret, hlk, hnm⟩ := X
  exact own_pre (fun t K => XS.ior Y.here hx rfl (hb hby hd) rfl K) K
theorem own_ixor (X : own_W p l e R s m args below meth c Z n0 y bytes ml ret T h k n) (q : Nat) {x z : Int32} (hd : decode bytes pc = .ok (.ixor, 1)) (hq : pc + 1 = q)  (K : own_Ends p e below G (T.setTop (mkF m q Ls (.int (x ^^^ z) :: st)))) : own_Ends p e below G (T.setTop (mkF m pc Ls (.int z :: .int x :: st))) := by
  subst hq
  obtain ⟨⟨locs, Y, N⟩, eT, hs0, hx, hZ, hby, hml, hown, hret, hlk, hnm⟩ := X
  exact own_pre (fun t K => XS.ixor Y.here hx rfl (hb hby hd) rfl K) K
theorem own_ishl (X : own_W p l e R s m args below meth c Z n0 y bytes ml ret T h k n) (q : Nat) {x z : Int32} (hd : decode bytes pc = .ok (.ishl, 1)) (hq : pc + 1 = q)  (K : own_Ends p e below G (T.setTop (mkF m q Ls (.int (x <<< (z &&& 31)) :: st)))) : own_Ends p e below G (T.setTop (mkF m pc Ls (.int z :: .int x :: st))) := by
  subst hq
  obtain ⟨⟨locs, Y, N⟩, eT, hs0, hx, hZ, hby, hml, hown, hret, hlk, hnm⟩ := X
  exact own_pre (fun t K => XS.ishl Y.here hx rfl (hb hby hd) rfl K) K
theorem own_ishr (X : own_W p l e R s m args below meth c Z n0 y bytes ml ret T h k n) (q : Nat) {x z : Int32} (hd : decode bytes pc = .ok (.ishr, 1)) (hq : pc + 1 = q)  (K : own_Ends p e below G (T.setTop (mkF m q Ls (.int (x >>> (z &&& 31)) :: st)))) : own_Ends p e below G (T.setTop (mkF m pc Ls (.int z :: .int x :: st))) := by
  subst hq
  obtain ⟨⟨locs, Y, N⟩, eT, hs0, hx, hZ, hby, hml, hown, hret, hlk, hnm⟩ := X
  exact own_pre (fun t K => XS.ishr Y.here hx rfl (hb hby hd) rfl K) K
theorem own_iushr (X : own_W p l e R s m args below meth c Z n0 y bytes ml ret T h k n) (q : Nat) {x z : Int32} (hd : decode bytes pc = .ok (.iushr, 1)) (hq : pc + 1 = q)  (K : own_Ends p e below G (T.setTop (mkF m q Ls (.int (XT.ushr x z) :: st)))) : own_Ends p e below G (T.setTop (mkF m pc Ls (.int z :: .int x :: st))) := by
  subst hq
  obtain ⟨⟨locs, Y, N⟩, eT, hs0, hx, hZ, hby, hml, hown, hret, hlk, hnm⟩ := X
  exact own_pre (fun t K => XT.iushr Y.here hx rfl (hb hby hd) rfl K) K
theorem own_idiv (X : own_W p l e R s m args below meth c Z n0 y bytes ml ret T h k n) (q : Nat) {x z : Int32} (hd : decode bytes pc = .ok (.idiv, 1)) (hq : pc + 1 = q) (hz : z ≠ 0) (K : own_Ends p e below G (T.setTop (mkF m q Ls (.int (x / z) :: st)))) : own_Ends p e below G (T.setTop (mkF m pc Ls (.int z :: .int x :: st))) := by
  subst hq
  obtain ⟨⟨locs, Y, N⟩, eT, hs0, hx, hZ, hby, hml, hown, hret, hlk, hnm⟩ := X
  exact own_pre (fun t K => XS.idiv Y.here hx rfl (hb hby hd) rfl hz K) K
theorem own_irem (X : own_W p l e R s m args below meth c Z n0 y bytes ml ret T h k n) (q : Nat) {x z : Int32} (hd : decode bytes pc = .ok (.irem, 1)) (hq : pc + 1 = q) (hz : z ≠ 0) (K : own_Ends p e below G (T.setTop (mkF m q Ls (.int (x % z) :: st)))) : own_Ends p e below G (T.setTop (mkF m pc Ls (.int z :: .int x :: st))) := by
  subst hq
  obtain ⟨⟨locs, Y, N⟩, eT, hs0, hx, hZ, hby, hml, hown, hret, hlk, hnm⟩ := X
  exact own_pre (fun t K => iremM Y hx rfl (hb hby hd) rfl hz K) K
theorem own_ineg (X : own_W p l e R s m args below meth c Z n0 y bytes ml ret T h k n) (q : Nat) {x : Int32} (hd : decode bytes pc = .ok (.ineg, 1)) (hq : pc + 1 = q)  (K : own_Ends p e below G (T.setTop (mkF m q Ls (.int (-x) :: st)))) : own_Ends p e below G (T.setTop (mkF m pc Ls (.int x :: st))) := by
  subst hq
  obtain ⟨⟨locs, Y, N⟩, eT, hs0, hx, hZ, hby, hml, hown, hret, hlk, hnm⟩ := X
  exact own_pre (fun t K => XS.ineg Y.here hx rfl (hb hby hd) rfl K) K
theorem own_i2b (X : own_W p l e R s m args below meth c Z n0 y bytes ml ret T h k n) (q : Nat) {x : Int32} (hd : decode bytes pc = .ok (.i2b, 1)) (hq : pc + 1 = q)  (K : own_Ends p e below G (T.setTop (mkF m q Ls (.int (x.toInt8.toInt32) :: st)))) : own_Ends p e below G (T.setTop (mkF m pc Ls (.int x :: st))) := by
  subst hq
  obtain ⟨⟨locs, Y, N⟩, eT, hs0, hx, hZ, hby, hml, hown, hret, hlk, hnm⟩ := X
  exact own_pre (fun t K => XS.i2b Y.here hx rfl (hb hby hd) rfl K) K
theorem own_i2s (X : own_W p l e R s m args below meth c Z n0 y bytes ml ret T h k n) (q : Nat) {x : Int32} (hd : decode bytes pc = .ok (.i2s, 1)) (hq : pc + 1 = q)  (K : own_Ends p e below G (T.setTop (mkF m q Ls (.int (x.toInt16.toInt32) :: st)))) : own_Ends p e below G (T.setTop (mkF m pc Ls (.int x :: st))) := by
  subst hq
  obtain ⟨⟨locs, Y, N⟩, eT, hs0, hx, hZ, hby, hml, hown, hret, hlk, hnm⟩ := X
  exact own_pre (fun t K => XS.i2s Y.here hx rfl (hb hby hd) rfl K) K
theorem own_i2c (X : own_W p l e R s m args below meth c Z n0 y bytes ml ret T h k n) (q : Nat) {x : Int32} (hd : decode bytes pc = .ok (.i2c, 1)) (hq : pc + 1 = q)  (K : own_Ends p e below G (T.setTop (mkF m q Ls (.int (x.toUInt32.toUInt16.toUInt32.toInt32) :: st)))) : own_Ends p e below G (T.setTop (mkF m pc Ls (.int x :: st))) := by
  subst hq
  obtain ⟨⟨locs, Y, N⟩, eT, hs0, hx, hZ, hby, hml, hown, hret, hlk, hnm⟩ := X
  exact own_pre (fun t K => XS.i2c Y.here hx rfl (hb hby hd) rfl K) K
theorem own_i2l (X : own_W p l e R s m args below meth c Z n0 y bytes ml ret T h k n) (q : Nat) {x : Int32} (hd : decode bytes pc = .ok (.i2l, 1)) (hq : pc + 1 = q)  (K : own_Ends p e below G (T.setTop (mkF m q Ls (.long x.toInt64 :: st)))) : own_Ends p e below G (T.setTop (mkF m pc Ls (.int x :: st))) := by
  subst hq
  obtain ⟨⟨locs, Y, N⟩, eT, hs0, hx, hZ, hby, hml, hown, hret, hlk, hnm⟩ := X
  exact own_pre (fun t K => XS.i2l Y.here hx rfl (hb hby hd) rfl K) K
theorem own_l2i (X : own_W p l e R s m args below meth c Z n0 y bytes ml ret T h k n) (q : Nat) {x : Int64} (hd : decode bytes pc = .ok (.l2i, 1)) (hq : pc + 1 = q)  (K : own_Ends p e below G (T.setTop (mkF m q Ls (.int x.toInt32 :: st)))) : own_Ends p e below G (T.setTop (mkF m pc Ls (.long x :: st))) := by
  subst hq
  obtain ⟨⟨locs, Y, N⟩, eT, hs0, hx, hZ, hby, hml, hown, hret, hlk, hnm⟩ := X
  exact own_pre (fun t K => XS.l2i Y.here hx rfl (hb hby hd) rfl K) K
theorem own_ladd (X : own_W p l e R s m args below meth c Z n0 y bytes ml ret T h k n) (q : Nat) {x z : Int64} (hd : decode bytes pc = .ok (.ladd, 1)) (hq : pc + 1 = q)  (K : own_Ends p e below G (T.setTop (mkF m q Ls (.long (x + z) :: st)))) : own_Ends p e below G (T.setTop (mkF m pc Ls (.long z :: .long x :: st))) := by
  subst hq
  obtain ⟨⟨locs, Y, N⟩, eT, hs0, hx, hZ, hby, hml, hown, hret, hlk, hnm⟩ := X
  exact own_pre (fun t K => XS.ladd Y.here hx rfl (hb hby hd) rfl K) K
theorem own_lsub (X : own_W p l e R s m args below meth c Z n0 y bytes ml ret T h k n) (q : Nat) {x z : Int64} (hd : decode bytes pc = .ok (.lsub, 1)) (hq : pc + 1 = q)  (K : own_Ends p e below G (T.setTop (mkF m q Ls (.long (x - z) :: st)))) : own_Ends p e below G (T.setTop (mkF m pc Ls (.long z :: .long x :: st))) := by
  subst hq
  obtain ⟨⟨locs, Y, N⟩, eT, hs0, hx, hZ, hby, hml, hown, hret, hlk, hnm⟩ := X
  exact own_pre (fun t K => XS.lsub Y.here hx rfl (hb hby hd) rfl K) K
theorem own_lmul (X : own_W p l e R s m args below meth c Z n0 y bytes ml ret T h k n) (q : Nat) {x z : Int64} (hd : decode bytes pc = .ok (.lmul, 1)) (hq : pc + 1 = q)  (K : own_Ends p e below G (T.setTop (mkF m q Ls (.long (x * z) :: st)))) : own_Ends p e below G (T.setTop (mkF m pc Ls (.long z :: .long x :: st))) := by
  subst hq
  obtain ⟨⟨locs, Y, N⟩, eT, hs0, hx, hZ, hby, hml, hown, hret, hlk, hnm⟩ := X
  exact own_pre (fun t K => XS.lmul Y.here hx rfl (hb hby hd) rfl K) K
theorem own_land (X : own_W p l e R s m args below meth c Z n0 y bytes ml ret T h k n) (q : Nat) {x z : Int64} (hd : decode bytes pc = .ok (.land, 1)) (hq : pc + 1 = q)  (K : own_Ends p e below G (T.setTop (mkF m q Ls (.long (x &&& z) :: st)))) : own_Ends p e below G (T.setTop (mkF m pc Ls (.long z :: .long x :: st))) := by
  subst hq
  obtain ⟨⟨locs, Y, N⟩, eT, hs0, hx, hZ, hby, hml, hown, hret, hlk, hnm⟩ := X
  exact own_pre (fun t K => XS.land Y.here hx rfl (hb hby hd) rfl K) K
theorem own_lor (X : own_W p l e R s m args below meth c Z n0 y bytes ml ret T h k n) (q : Nat) {x z : Int64} (hd : decode bytes pc = .ok (.lor, 1)) (hq : pc + 1 = q)  (K : own_Ends p e below G (T.setTop (mkF m q Ls (.long (x ||| z) :: st)))) : own_Ends p e below G (T.setTop (mkF m pc Ls (.long z :: .long x :: st))) := by
  subst hq
  obtain ⟨⟨locs, Y, N⟩, eT, hs0, hx, hZ, hby, hml, hown, hret, hlk, hnm⟩ := X
  exact own_pre (fun t K => XS.lor Y.here hx rfl (hb hby hd) rfl K) K
theorem own_lxor (X : own_W p l e R s m args below meth c Z n0 y bytes ml ret T h k n) (q : Nat) {x z : Int64} (hd : decode bytes pc = .ok (.lxor, 1)) (hq : pc + 1 = q)  (K : own_Ends p e below G (T.setTop (mkF m q Ls (.long (x ^^^ z) :: st)))) : own_Ends p e below G (T.setTop (mkF m pc Ls (.long z :: .long x :: st))) := by
  subst hq
  obtain ⟨⟨locs, Y, N⟩, eT, hs0, hx, hZ, hby, hml, hown, hret, hlk, hnm⟩ := X
  exact own_pre (fun t K => XS.lxor Y.here hx rfl (hb hby hd) rfl K) K
theorem own_lushr (X : own_W p l e R s m args below meth c Z n0 y bytes ml ret T h k n) (q : Nat) {x : Int64} {z : Int32} (hd : decode bytes pc = .ok (.lushr, 1)) (hq : pc + 1 = q)  (K : own_Ends p e below G (T.setTop (mkF m q Ls (.long (XT.ushrL x z) :: st)))) : own_Ends p e below G (T.setTop (mkF m pc Ls (.int z :: .long x :: st))) := by
  subst hq
  obtain ⟨⟨locs, Y, N⟩, eT, hs0, hx, hZ, hby, hml, hown, hret, hlk, hnm⟩ := X
  exact own_pre (fun t K => XT.lushr Y.here hx rfl (hb hby hd) rfl K) K
theorem own_ldiv (X : own_W p l e R s m args below meth c Z n0 y bytes ml ret T h k n) (q : Nat) {x z : Int64} (hd : decode bytes pc = .ok (.ldiv, 1)) (hq : pc + 1 = q) (hz : z ≠ 0) (K : own_Ends p e below G (T.setTop (mkF m q Ls (.long (x / z) :: st)))) : own_Ends p e below G (T.setTop (mkF m pc Ls (.long z :: .long x :: st))) := by
  subst hq
  obtain ⟨⟨locs, Y, N⟩, eT, hs0, hx, hZ, hby, hml, hown, hret, hlk, hnm⟩ := X
  exact own_pre (fun t K => XS.ldiv Y.here hx rfl (hb hby hd) rfl hz K) K
theorem own_lrem (X : own_W p l e R s m args below meth c Z n0 y bytes ml ret T h k n) (q : Nat) {x z : Int64} (hd : decode bytes pc = .ok (.lrem, 1)) (hq : pc + 1 = q) (hz : z ≠ 0) (K : own_Ends p e below G (T.setTop (mkF m q Ls (.long (x - (x / z) * z) :: st)))) : own_Ends p e below G (T.setTop (mkF m pc Ls (.long z :: .long x :: st))) := by
  subst hq
  obtain ⟨⟨locs, Y, N⟩, eT, hs0, hx, hZ, hby, hml, hown, hret, hlk, hnm⟩ := X
  exact own_pre (fun t K => XS.lrem Y.here hx rfl (hb hby hd) rfl hz K) K
theorem own_lneg (X : own_W p l e R s m args below meth c Z n0 y bytes ml ret T h k n) (q : Nat) {x : Int64} (hd : decode bytes pc = .ok (.lneg, 1)) (hq : pc + 1 = q)  (K : own_Ends p e below G (T.setTop (mkF m q Ls (.long (-x) :: st)))) : own_Ends p e below G (T.setTop (mkF m pc Ls (.long x :: st))) := by
  subst hq
  obtain ⟨⟨locs, Y, N⟩, eT, hs0, hx, hZ, hby, hml, hown, hret, hlk, hnm⟩ := X
  exact own_pre (fun t K => XS.lneg Y.here hx rfl (hb hby hd) rfl K) K
theorem own_lcmp (X : own_W p l e R s m args below meth c Z n0 y bytes ml ret T h k n) (q : Nat) {x z : Int64} (hd : decode bytes pc = .ok (.lcmp, 1)) (hq : pc + 1 = q)  (K : own_Ends p e below G (T.setTop (mkF m q Ls (.int (XT.cmpL x z) :: st)))) : own_Ends p e below G (T.setTop (mkF m pc Ls (.long z :: .long x :: st))) := by
  subst hq
  obtain ⟨⟨locs, Y, N⟩, eT, hs0, hx, hZ, hby, hml, hown, hret, hlk, hnm⟩ := X
  exact own_pre (fun t K => XT.lcmp Y.here hx rfl (hb hby hd) rfl K) K
theorem own_iinc (X : own_W p l e R s m args below meth c Z n0 y bytes ml ret T h k n) (q : Nat) {i : Nat} {cst : Int} {x : Int32} (v : Int32) (l' : Array Slot) (hd : decode bytes pc = .ok (.iinc i cst, 3)) (hq : pc + 3 = q) (hv : Int32.ofInt cst = v) (hl : Ls[i]? = some (.val (.int x))) (hl' : storeLocals Ls i (.int (x + v)) = some l') (K : own_Ends p e below G (T.setTop (mkF m q l' st))) : own_Ends p e below G (T.setTop (mkF m pc Ls st)) := by
  subst hq
  obtain ⟨⟨locs, Y, N⟩, eT, hs0, hx, hZ, hby, hml, hown, hret, hlk, hnm⟩ := X
  exact own_pre (fun t K => XT.iincV Y.here hx rfl v (hb hby hd) hv hl hl' K) K
theorem own_dup (X : own_W p l e R s m args below meth c Z n0 y bytes ml ret T h k n) (q : Nat) {x : Value} (hd : decode bytes pc = .ok (.dup, 1)) (hq : pc + 1 = q) (hc : x.category = 1) (K : own_Ends p e below G (T.setTop (mkF m q Ls (x :: x :: st)))) : own_Ends p e below G (T.setTop (mkF m pc Ls (x :: st))) := by
  subst hq
  obtain ⟨⟨locs, Y, N⟩, eT, hs0, hx, hZ, hby, hml, hown, hret, hlk, hnm⟩ := X
  exact own_pre (fun t K => XS.dup Y.here hx rfl (hb hby hd) rfl hc K) K
theorem own_dupX1 (X : own_W p l e R s m args below meth c Z n0 y bytes ml ret T h k n) (q : Nat) {x z : Value} (hd : decode bytes pc = .ok (.dup_x1, 1)) (hq : pc + 1 = q) (hc : x.category = 1) (hc' : z.category = 1) (K : own_Ends p e below G (T.setTop (mkF m q Ls (x :: z :: x :: st)))) : own_Ends p e below G (T.setTop (mkF m pc Ls (x :: z :: st))) := by
  subst hq
  obtain ⟨⟨locs, Y, N⟩, eT, hs0, hx, hZ, hby, hml, hown, hret, hlk, hnm⟩ := X
  exact own_pre (fun t K => XS.dupX1 Y.here hx rfl (hb hby hd) rfl hc hc' K) K
theorem own_dup2 (X : own_W p l e R s m args below meth c Z n0 y bytes ml ret T h k n) (q : Nat) {x z : Value} (hd : decode bytes pc = .ok (.dup2, 1)) (hq : pc + 1 = q) (hc : x.category = 1) (hc' : z.category = 1) (K : own_Ends p e below G (T.setTop (mkF m q Ls (x :: z :: x :: z :: st)))) : own_Ends p e below G (T.setTop (mkF m pc Ls (x :: z :: st))) := by
  subst hq
  obtain ⟨⟨locs, Y, N⟩, eT, hs0, hx, hZ, hby, hml, hown, hret, hlk, hnm⟩ := X
  exact own_pre (fun t K => XT.dup2 Y.here hx rfl (hb hby hd) rfl hc hc' K) K
theorem own_dup2L (X : own_W p l e R s m args below meth c Z n0 y bytes ml ret T h k n) (q : Nat) {x : Int64} (hd : decode bytes pc = .ok (.dup2, 1)) (hq : pc + 1 = q)  (K : own_Ends p e below G (T.setTop (mkF m q Ls (.long x :: .long x :: st)))) : own_Ends p e below G (T.setTop (mkF m pc Ls (.long x :: st))) := by
  subst hq
  obtain ⟨⟨locs, Y, N⟩, eT, hs0, hx, hZ, hby, hml, hown, hret, hlk, hnm⟩ := X
  exact own_pre (fun t K => XT.dup2L Y.here hx rfl (hb hby hd) rfl K) K
theorem own_pop (X : own_W p l e R s m args below meth c Z n0 y bytes ml ret T h k n) (q : Nat) {x : Value} (hd : decode bytes pc = .ok (.pop, 1)) (hq : pc + 1 = q) (hc : x.category = 1) (K : own_Ends p e below G (T.setTop (mkF m q Ls st))) : own_Ends p e below G (T.setTop (mkF m pc Ls (x :: st))) := by
  subst hq
  obtain ⟨⟨locs, Y, N⟩, eT, hs0, hx, hZ, hby, hml, hown, hret, hlk, hnm⟩ := X
  exact own_pre (fun t K => XS.pop Y.here hx rfl (hb hby hd) rfl hc K) K
theorem own_goto (X : own_W p l e R s m args below meth c Z n0 y bytes ml ret T h k n) (q : Nat) {o : Int}  (hd : decode bytes pc = .ok (.goto o, 3)) (ho : 0 ≤ (pc : Int) + o) (hq : ((pc : Int) + o).toNat = q)  (K : own_Ends p e below G (T.setTop (mkF m q Ls st))) : own_Ends p e below G (T.setTop (mkF m pc Ls st)) := by
  obtain ⟨⟨locs, Y, N⟩, eT, hs0, hx, hZ, hby, hml, hown, hret, hlk, hnm⟩ := X
  exact own_pre (fun t K => XS.goto Y.here hx rfl rfl (hb hby hd) ho hq K) K
theorem own_ifY (X : own_W p l e R s m args below meth c Z n0 y bytes ml ret T h k n) (q : Nat) {o : Int} {cd : ClassFile.Cond} {x : Int32} (hd : decode bytes pc = .ok (.ifCond cd o, 3)) (ho : 0 ≤ (pc : Int) + o) (hq : ((pc : Int) + o).toNat = q) (hc : ifCond.holds cd x = true) (K : own_Ends p e below G (T.setTop (mkF m q Ls st))) : own_Ends p e below G (T.setTop (mkF m pc Ls (.int x :: st))) := by
  obtain ⟨⟨locs, Y, N⟩, eT, hs0, hx, hZ, hby, hml, hown, hret, hlk, hnm⟩ := X
  exact own_pre (fun t K => XS.ifYes Y.here hx rfl rfl (hb hby hd) rfl hc ho hq K) K
theorem own_ifN (X : own_W p l e R s m args below meth c Z n0 y bytes ml ret T h k n) (q : Nat) {o : Int} {cd : ClassFile.Cond} {x : Int32} (hd : decode bytes pc = .ok (.ifCond cd o, 3)) (hq : pc + 3 = q) (hc : ifCond.holds cd x = false) (K : own_Ends p e below G (T.setTop (mkF m q Ls st))) : own_Ends p e below G (T.setTop (mkF m pc Ls (.int x :: st))) := by
  subst hq
  obtain ⟨⟨locs, Y, N⟩, eT, hs0, hx, hZ, hby, hml, hown, hret, hlk, hnm⟩ := X
  exact own_pre (fun t K => XS.ifNo Y.here hx rfl (hb hby hd) rfl hc K) K
theorem own_icY (X : own_W p l e R s m args below meth c Z n0 y bytes ml ret T h k n) (q : Nat) {o : Int} {cd : ClassFile.Cond} {x z : Int32} (hd : decode bytes pc = .ok (.if_icmp cd o, 3)) (ho : 0 ≤ (pc : Int) + o) (hq : ((pc : Int) + o).toNat = q) (hc : if_icmp.holds cd x z = true) (K : own_Ends p e below G (T.setTop (mkF m q Ls st))) : own_Ends p e below G (T.setTop (mkF m pc Ls (.int z :: .int x :: st))) := by
  obtain ⟨⟨locs, Y, N⟩, eT, hs0, hx, hZ, hby, hml, hown, hret, hlk, hnm⟩ := X
  exact own_pre (fun t K => XS.icmpYes Y.here hx rfl rfl (hb hby hd) rfl hc ho hq K) K
theorem own_icN (X : own_W p l e R s m args below meth c Z n0 y bytes ml ret T h k n) (q : Nat) {o : Int} {cd : ClassFile.Cond} {x z : Int32} (hd : decode bytes pc = .ok (.if_icmp cd o, 3)) (hq : pc + 3 = q) (hc : if_icmp.holds cd x z = false) (K : own_Ends p e below G (T.setTop (mkF m q Ls st))) : own_Ends p e below G (T.setTop (mkF m pc Ls (.int z :: .int x :: st))) := by
  subst hq
  obtain ⟨⟨locs, Y, N⟩, eT, hs0, hx, hZ, hby, hml, hown, hret, hlk, hnm⟩ := X
  exact own_pre (fun t K => XS.icmpNo Y.here hx rfl (hb hby hd) rfl hc K) K
theorem own_nullY (X : own_W p l e R s m args below meth c Z n0 y bytes ml ret T h k n) (q : Nat) {o : Int}  (hd : decode bytes pc = .ok (.ifnull o, 3)) (ho : 0 ≤ (pc : Int) + o) (hq : ((pc : Int) + o).toNat = q)  (K : own_Ends p e below G (T.setTop (mkF m q Ls st))) : own_Ends p e below G (T.setTop (mkF m pc Ls (.null :: st))) := by
  obtain ⟨⟨locs, Y, N⟩, eT, hs0, hx, hZ, hby, hml, hown, hret, hlk, hnm⟩ := X
  exact own_pre (fun t K => XS.ifnullYes Y.here hx rfl rfl (hb hby hd) rfl ho hq K) K
theorem own_nullN (X : own_W p l e R s m args below meth c Z n0 y bytes ml ret T h k n) (q : Nat) {o : Int} {b : Addr} (hd : decode bytes pc = .ok (.ifnull o, 3)) (hq : pc + 3 = q)  (K : own_Ends p e below G (T.setTop (mkF m q Ls st))) : own_Ends p e below G (T.setTop (mkF m pc Ls (.ref b :: st))) := by
  subst hq
  obtain ⟨⟨locs, Y, N⟩, eT, hs0, hx, hZ, hby, hml, hown, hret, hlk, hnm⟩ := X
  exact own_pre (fun t K => XS.ifnullNo Y.here hx rfl (hb hby hd) rfl K) K
theorem own_nonnullY (X : own_W p l e R s m args below meth c Z n0 y bytes ml ret T h k n) (q : Nat) {o : Int} {b : Addr} (hd : decode bytes pc = .ok (.ifnonnull o, 3)) (ho : 0 ≤ (pc : Int) + o) (hq : ((pc : Int) + o).toNat = q)  (K : own_Ends p e below G (T.setTop (mkF m q Ls st))) : own_Ends p e below G (T.setTop (mkF m pc Ls (.ref b :: st))) := by
  obtain ⟨⟨locs, Y, N⟩, eT, hs0, hx, hZ, hby, hml, hown, hret, hlk, hnm⟩ := X
  exact own_pre (fun t K => XS.ifnonnullYes Y.here hx rfl rfl (hb hby hd) rfl ho hq K) K
theorem own_nonnullN (X : own_W p l e R s m args below meth c Z n0 y bytes ml ret T h k n) (q : Nat) {o : Int}  (hd : decode bytes pc = .ok (.ifnonnull o, 3)) (hq : pc + 3 = q)  (K : own_Ends p e below G (T.setTop (mkF m q Ls st))) : own_Ends p e below G (T.setTop (mkF m pc Ls (.null :: st))) := by
  subst hq
  obtain ⟨⟨locs, Y, N⟩, eT, hs0, hx, hZ, hby, hml, hown, hret, hlk, hnm⟩ := X
  exact own_pre (fun t K => XS.ifnonnullNo Y.here hx rfl (hb hby hd) rfl K) K
theorem own_acY (X : own_W p l e R s m args below meth c Z n0 y bytes ml ret T h k n) (q : Nat) {o : Int} {cd : ClassFile.ACond} {x z : Value} (hd : decode bytes pc = .ok (.if_acmp cd o, 3)) (ho : 0 ≤ (pc : Int) + o) (hq : ((pc : Int) + o).toNat = q) (hx' : x.isRef = true) (hz' : z.isRef = true) (hc : XT.acmp cd x z = true) (K : own_Ends p e below G (T.setTop (mkF m q Ls st))) : own_Ends p e below G (T.setTop (mkF m pc Ls (z :: x :: st))) := by
  obtain ⟨⟨locs, Y, N⟩, eT, hs0, hx, hZ, hby, hml, hown, hret, hlk, hnm⟩ := X
  exact own_pre (fun t K => XT.acmpYes Y.here hx rfl rfl (hb hby hd) rfl hx' hz' hc ho hq K) K
theorem own_acN (X : own_W p l e R s m args below meth c Z n0 y bytes ml ret T h k n) (q : Nat) {o : Int} {cd : ClassFile.ACond} {x z : Value} (hd : decode bytes pc = .ok (.if_acmp cd o, 3)) (hq : pc + 3 = q) (hx' : x.isRef = true) (hz' : z.isRef = true) (hc : XT.acmp cd x z = false) (K : own_Ends p e below G (T.setTop (mkF m q Ls st))) : own_Ends p e below G (T.setTop (mkF m pc Ls (z :: x :: st))) := by
  subst hq
  obtain ⟨⟨locs, Y, N⟩, eT, hs0, hx, hZ, hby, hml, hown, hret, hlk, hnm⟩ := X
  exact own_pre (fun t K => XT.acmpNo Y.here hx rfl (hb hby hd) rfl hx' hz' hc K) K
theorem own_getF (X : own_W p l e R s m args below meth c Z n0 y bytes ml ret T h k n) (q : Nat) {R0 O nm d : String} {i : Nat} {a : Addr} {v : Value} (hd : decode bytes pc = .ok (.getfield i, 3)) (hq : pc + 3 = q) (w : (Jvm.Cond.fieldLink y.cls i R0 nm d).before a0 Z = true) (via : Via Z R0 O nm d) (F : Fld Z h a O nm d v)
    (K : ∀ T', own_W p l e R s m args below meth c Z n0 y bytes ml ret T' h k n → own_Ends p e below G (T'.setTop (mkF m q Ls (v :: st)))) : own_Ends p e below G (T.setTop (mkF m pc Ls (.ref a :: st))) := by
  subst hq
  obtain ⟨⟨locs, Y, N⟩, eT, hs0, hx, hZ, hby, hml, hown, hret, hlk, hnm⟩ := X
  obtain ⟨T1, Y1, e1, st1⟩ := getF Y hx hZ hown (host := "") (Or.inl w) via eT F (g := mkF m pc Ls (.ref a :: st)) rfl rfl (hb hby hd)
  exact own_pre st1 (K T1 ⟨⟨locs, Y1, N⟩, e1, hs0, hx, hZ, hby, hml, hown, hret, hlk, hnm⟩)
theorem own_getFN (X : own_W p l e R s m args below meth c Z n0 y bytes ml ret T h k n) (q : Nat) {R0 O nm d host : String} {i : Nat} {a : Addr} {v : Value} (hd : decode bytes pc = .ok (.getfield i, 3)) (hq : pc + 3 = q) (w : (Jvm.Cond.fieldLinkNest y.cls i R0 nm d host).before a0 Z = true) (via : Via Z R0 O nm d) (F : Fld Z h a O nm d v)
    (K : ∀ T', own_W p l e R s m args below meth c Z n0 y bytes ml ret T' h k n → own_Ends p e below G (T'.setTop (mkF m q Ls (v :: st)))) : own_Ends p e below G (T.setTop (mkF m pc Ls (.ref a :: st))) := by
  subst hq
  obtain ⟨⟨locs, Y, N⟩, eT, hs0, hx, hZ, hby, hml, hown, hret, hlk, hnm⟩ := X
  obtain ⟨T1, Y1, e1, st1⟩ := getF Y hx hZ hown (Or.inr w) via eT F (g := mkF m pc Ls (.ref a :: st)) rfl rfl (hb hby hd)
  exact own_pre st1 (K T1 ⟨⟨locs, Y1, N⟩, e1, hs0, hx, hZ, hby, hml, hown, hret, hlk, hnm⟩)
theorem own_getS (X : own_W p l e R s m args below meth c Z n0 y bytes ml ret T h k n) (q : Nat) {R0 O nm d : String} {i : Nat} {v : Value} (hd : decode bytes pc = .ok (.getstatic i, 3)) (hq : pc + 3 = q) (w : (Jvm.Cond.fieldLink y.cls i R0 nm d).before a0 Z = true) (via : Via Z R0 O nm d) (F : Sta Z h O nm d v)
    (K : ∀ T', own_W p l e R s m args below meth c Z n0 y bytes ml ret T' h k n → own_Ends p e below G (T'.setTop (mkF m q Ls (v :: st)))) : own_Ends p e below G (T.setTop (mkF m pc Ls st)) := by
  subst hq
  obtain ⟨⟨locs, Y, N⟩, eT, hs0, hx, hZ, hby, hml, hown, hret, hlk, hnm⟩ := X
  obtain ⟨T1, Y1, e1, st1⟩ := getS2 Y hx hZ hown (host := "") (Or.inl w) via eT F (g := mkF m pc Ls st) rfl (hb hby hd)
  exact own_pre st1 (K T1 ⟨⟨locs, Y1, N⟩, e1, hs0, hx, hZ, hby, hml, hown, hret, hlk, hnm⟩)
theorem own_getSN (X : own_W p l e R s m args below meth c Z n0 y bytes ml ret T h k n) (q : Nat) {R0 O nm d host : String} {i : Nat} {v : Value} (hd : decode bytes pc = .ok (.getstatic i, 3)) (hq : pc + 3 = q) (w : (Jvm.Cond.fieldLinkNest y.cls i R0 nm d host).before a0 Z = true) (via : Via Z R0 O nm d) (F : Sta Z h O nm d v)
    (K : ∀ T', own_W p l e R s m args below meth c Z n0 y bytes ml ret T' h k n → own_Ends p e below G (T'.setTop (mkF m q Ls (v :: st)))) : own_Ends p e below G (T.setTop (mkF m pc Ls st)) := by
  subst hq
  obtain ⟨⟨locs, Y, N⟩, eT, hs0, hx, hZ, hby, hml, hown, hret, hlk, hnm⟩ := X
  obtain ⟨T1, Y1, e1, st1⟩ := getS2 Y hx hZ hown (Or.inr w) via eT F (g := mkF m pc Ls st) rfl (hb hby hd)
  exact own_pre st1 (K T1 ⟨⟨locs, Y1, N⟩, e1, hs0, hx, hZ, hby, hml, hown, hret, hlk, hnm⟩)
theorem own_putF (X : own_W p l e R s m args below meth c Z n0 y bytes ml ret T h k n) (q : Nat) {R0 O nm d C : String} {i kk : Nat} (ty : FieldType) {a : Addr} {v old : Value} (hd : decode bytes pc = .ok (.putfield i, 3)) (hq : pc + 3 = q) (w : (Jvm.Cond.fieldLink y.cls i R0 nm d).before a0 Z = true) (via : Via Z R0 O nm d) (F : Fld Z h a O nm d old) (E : Exa Z h a C)
    (L : (Jvm.Cond.lays C O nm d).before a0 Z = true ∨ ((Jvm.Cond.laysFinal C O nm d).before a0 Z = true ∧ y.cls = O ∧ y.name = "<init>")) (wi : (Jvm.Cond.instantiable C kk).before a0 Z = true) (hty : parseFieldDescriptor d = some ty) (hn : narrow ty v = v) (hf : fits ty v = true) (hnew : n0 ≤ a)
    (K : ∀ T' h', own_W p l e R s m args below meth c Z n0 y bytes ml ret T' h' k n → Wr h h' a (Jvm.RoadKit.slotOf Z O nm d) v → own_Ends p e below G (T'.setTop (mkF m q Ls st))) : own_Ends p e below G (T.setTop (mkF m pc Ls (v :: .ref a :: st))) := by
  subst hq
  obtain ⟨⟨locs, Y, N⟩, eT, hs0, hx, hZ, hby, hml, hown, hret, hlk, hnm⟩ := X
  obtain ⟨T1, h1, Y1, e1, W1, st1⟩ := putF Y hx hZ hown (host := "") (Or.inl w) via eT F E (L.imp id fun z => ⟨z.1, z.2.1, hnm.trans z.2.2⟩) wi hty hn hf (g := mkF m pc Ls (v :: .ref a :: st)) rfl rfl (hb hby hd)
  exact own_pre st1 (K T1 h1 ⟨⟨_, Y1, Fr.snoc Y1 N hnew⟩, e1, (by rw [W1.size]; exact hs0), hx, hZ, hby, hml, hown, hret, hlk, hnm⟩ W1)
theorem own_putFN (X : own_W p l e R s m args below meth c Z n0 y bytes ml ret T h k n) (q : Nat) {R0 O nm d C : String} {i kk : Nat} (ty : FieldType) {a : Addr} {v v' old : Value} (hd : decode bytes pc = .ok (.putfield i, 3)) (hq : pc + 3 = q) (w : (Jvm.Cond.fieldLink y.cls i R0 nm d).before a0 Z = true) (via : Via Z R0 O nm d) (F : Fld Z h a O nm d old) (E : Exa Z h a C)
    (L : (Jvm.Cond.lays C O nm d).before a0 Z = true ∨ ((Jvm.Cond.laysFinal C O nm d).before a0 Z = true ∧ y.cls = O ∧ y.name = "<init>")) (wi : (Jvm.Cond.instantiable C kk).before a0 Z = true) (hty : parseFieldDescriptor d = some ty) (hn : narrow ty v = v') (hf : fits ty v' = true) (hnew : n0 ≤ a)
    (K : ∀ T' h', own_W p l e R s m args below meth c Z n0 y bytes ml ret T' h' k n → Wr h h' a (Jvm.RoadKit.slotOf Z O nm d) v' → own_Ends p e below G (T'.setTop (mkF m q Ls st))) : own_Ends p e below G (T.setTop (mkF m pc Ls (v :: .ref a :: st))) := by
  subst hq
  obtain ⟨⟨locs, Y, N⟩, eT, hs0, hx, hZ, hby, hml, hown, hret, hlk, hnm⟩ := X
  obtain ⟨T1, h1, Y1, e1, W1, st1⟩ := putFN Y hx hZ hown w via eT F E (L.imp id fun z => ⟨z.1, z.2.1, hnm.trans z.2.2⟩) wi hty hn hf (g := mkF m pc Ls (v :: .ref a :: st)) rfl rfl (hb hby hd)
  exact own_pre st1 (K T1 h1 ⟨⟨_, Y1, Fr.snoc Y1 N hnew⟩, e1, (by rw [W1.size]; exact hs0), hx, hZ, hby, hml, hown, hret, hlk, hnm⟩ W1)
theorem own_new (X : own_W p l e R s m args below meth c Z n0 y bytes ml ret T h k n) (q : Nat) {C : String} {i sl : Nat} (hd : decode bytes pc = .ok (.new i, 3)) (hq : pc + 3 = q) (w : (Jvm.Cond.classLink y.cls i C).before a0 Z = true) (wi : (Jvm.Cond.instantiable C sl).before a0 Z = true) (wz : (Jvm.Cond.initialized C).before a0 Z = true) (hc : k + 1 ≤ R.cells) (hl : n + sl ≤ R.slots)
    (K : ∀ T' h' a, a = h.size → own_W p l e R s m args below meth c Z n0 y bytes ml ret T' h' (k + 1) (n + sl) → Ext h h' → Exa Z h' a C → (∀ {O nm d : String} {ty : FieldType}, Laid Z a0 C O nm d → parseFieldDescriptor d = some ty → Fld Z h' a O nm d (defaultValue ty)) → own_Ends p e below G (T'.setTop (mkF m q Ls (.ref a :: st)))) : own_Ends p e below G (T.setTop (mkF m pc Ls st)) := by
  subst hq
  obtain ⟨⟨locs, Y, N⟩, eT, hs0, hx, hZ, hby, hml, hown, hret, hlk, hnm⟩ := X
  obtain ⟨T1, h1, Y1, e1, E1, A1, D1, -, st1⟩ := newO Y hx hZ hown w wi wz eT (g := mkF m pc Ls st) rfl (hb hby hd) hc hl
  exact own_pre st1 (K T1 h1 _ rfl ⟨⟨locs, Y1, N⟩, e1, (Nat.le_trans hs0 E1.1), hx, hZ, hby, hml, hown, hret, hlk, hnm⟩ E1 A1 D1)
theorem own_castY (X : own_W p l e R s m args below meth c Z n0 y bytes ml ret T h k n) (q : Nat) {C : String} {i : Nat} {a : Addr} (hd : decode bytes pc = .ok (.checkcast i, 3)) (hq : pc + 3 = q) (w : (Jvm.Cond.classLink y.cls i C).before a0 Z = true) (F : Ins Z h a C true)
    (K : ∀ T', own_W p l e R s m args below meth c Z n0 y bytes ml ret T' h k n → own_Ends p e below G (T'.setTop (mkF m q Ls (.ref a :: st)))) : own_Ends p e below G (T.setTop (mkF m pc Ls (.ref a :: st))) := by
  subst hq
  obtain ⟨⟨locs, Y, N⟩, eT, hs0, hx, hZ, hby, hml, hown, hret, hlk, hnm⟩ := X
  obtain ⟨T1, Y1, e1, st1⟩ := castY Y hx hZ hown w eT F (g := mkF m pc Ls (.ref a :: st)) rfl rfl (hb hby hd)
  exact own_pre st1 (K T1 ⟨⟨locs, Y1, N⟩, e1, hs0, hx, hZ, hby, hml, hown, hret, hlk, hnm⟩)
theorem own_castNull (X : own_W p l e R s m args below meth c Z n0 y bytes ml ret T h k n) (q : Nat) {i : Nat} (hd : decode bytes pc = .ok (.checkcast i, 3)) (hq : pc + 3 = q) (K : own_Ends p e below G (T.setTop (mkF m q Ls (.null :: st)))) : own_Ends p e below G (T.setTop (mkF m pc Ls (.null :: st))) := by
  subst hq
  obtain ⟨⟨locs, Y, N⟩, eT, hs0, hx, hZ, hby, hml, hown, hret, hlk, hnm⟩ := X
  exact own_pre (fun t K => Y.checkcastNull hx (g := mkF m pc Ls (.null :: st)) rfl rfl (hb hby hd) t K) K
theorem own_instY (X : own_W p l e R s m args below meth c Z n0 y bytes ml ret T h k n) (q : Nat) {C : String} {i : Nat} {a : Addr} (hd : decode bytes pc = .ok (.instanceof i, 3)) (hq : pc + 3 = q) (w : (Jvm.Cond.classLink y.cls i C).before a0 Z = true) (F : Ins Z h a C true)
    (K : ∀ T', own_W p l e R s m args below meth c Z n0 y bytes ml ret T' h k n → own_Ends p e below G (T'.setTop (mkF m q Ls (.int 1 :: st)))) : own_Ends p e below G (T.setTop (mkF m pc Ls (.ref a :: st))) := by
  subst hq
  obtain ⟨⟨locs, Y, N⟩, eT, hs0, hx, hZ, hby, hml, hown, hret, hlk, hnm⟩ := X
  obtain ⟨T1, Y1, e1, st1⟩ := instY Y hx hZ hown w eT F (g := mkF m pc Ls (.ref a :: st)) rfl rfl (hb hby hd)
  exact own_pre st1 (K T1 ⟨⟨locs, Y1, N⟩, e1, hs0, hx, hZ, hby, hml, hown, hret, hlk, hnm⟩)
theorem own_instNo (X : own_W p l e R s m args below meth c Z n0 y bytes ml ret T h k n) (q : Nat) {C D : String} {i : Nat} {a : Addr} (hd : decode bytes pc = .ok (.instanceof i, 3)) (hq : pc + 3 = q) (w : (Jvm.Cond.classLink y.cls i C).before a0 Z = true) (E : Exa Z h a D) (F : ∃ c t, Z.vm.findClass D = some c ∧ Z.vm.findClass C = some t ∧ Z.vm.assignable c t = false)
    (K : ∀ T', own_W p l e R s m args below meth c Z n0 y bytes ml ret T' h k n → own_Ends p e below G (T'.setTop (mkF m q Ls (.int 0 :: st)))) : own_Ends p e below G (T.setTop (mkF m pc Ls (.ref a :: st))) := by
  subst hq
  obtain ⟨⟨locs, Y, N⟩, eT, hs0, hx, hZ, hby, hml, hown, hret, hlk, hnm⟩ := X
  obtain ⟨T1, Y1, e1, st1⟩ := instNo Y hx hZ hown w eT E F (g := mkF m pc Ls (.ref a :: st)) rfl rfl (hb hby hd)
  exact own_pre st1 (K T1 ⟨⟨locs, Y1, N⟩, e1, hs0, hx, hZ, hby, hml, hown, hret, hlk, hnm⟩)
theorem own_initO (X : own_W p l e R s m args below meth c Z n0 y bytes ml ret T h k n) (q : Nat) {i : Nat} {a : Addr} (hd : decode bytes pc = .ok (.invokespecial i, 3)) (hq : pc + 3 = q) (w1 : (Jvm.Cond.methodLink y.cls i Lib.objectInit).before a0 Z = true) (w2 : (Jvm.Cond.instanceMethod Lib.objectInit).before a0 Z = true) (w3 : (Jvm.Cond.code Lib.objectInit ⟨#[0xb1]⟩ 1 none).before a0 Z = true)
    (hsz : Ls.size = ml) (hf : 1 ≤ R.frames) (hl : (st.map fun v => v.category).sum + 12 ≤ R.locals) (K : ∀ T', own_W p l e R s m args below meth c Z n0 y bytes ml ret T' h k n → own_Ends p e below G (T'.setTop (mkF m q Ls st))) : own_Ends p e below G (T.setTop (mkF m pc Ls (.ref a :: st))) := by
  subst hq
  obtain ⟨⟨locs, Y, N⟩, eT, hs0, hx, hZ, hby, hml, hown, hret, hlk, hnm⟩ := X
  obtain ⟨T1, Y1, e1, st1⟩ := initO Y hx hZ hown w1 w2 w3 eT (g := mkF m pc Ls (.ref a :: st)) rfl (hsz.trans hml.symm) rfl (hb hby hd) hf (W := (st.map fun v => v.category).sum) (by show 2 * 0 + _ ≤ _; omega) hl
  exact own_pre st1 (K T1 ⟨⟨locs, Y1, N⟩, e1, hs0, hx, hZ, hby, hml, hown, hret, hlk, hnm⟩)
theorem own_callS (X : own_W p l e R s m args below meth c Z n0 y bytes ml ret T h k n) (q : Nat) {y' : MethodName} {bytes' : ByteArray} {ml' : Nat} {ret' : Option FieldType} {rm : Room} {as' : Array Value} {Q : Option Value → Heap → Prop} {i : Nat} {ps : List FieldType} {rr : Option FieldType} (argsL rest : List Value) (hd : decode bytes pc = .ok (.invokestatic i, 3)) (hq : pc + 3 = q) (w1 : (Jvm.Cond.methodLink y.cls i y').before a0 Z = true) (w2 : (Jvm.Cond.static y').before a0 Z = true) (w3 : (Jvm.Cond.initialized y'.cls).before a0 Z = true) (w4 : (Jvm.Cond.code y' bytes' ml' ret').before a0 Z = true) (hy : y'.cls ≠ "java/lang/invoke/MethodHandle" ∧ y'.cls ≠ "java/lang/invoke/VarHandle")
    (M : own_Met l y' bytes' ml' ret' rm Z as' h n0 Q) (hkeep : ∀ v h', Q v h' → h.size ≤ h'.size) (has : as' = argsL.toArray) (hpd : parseMethodDescriptor y'.desc = some ⟨ps, rr⟩) (hlen : argsL.length = ps.length) (hst : st = argsL.reverse ++ rest) (hsz : Ls.size = ml) (hf : rm.frames + 1 ≤ R.frames) (hl : (rest.map fun v => v.category).sum + (ml' + 11) + rm.locals ≤ R.locals) (hck : k + rm.cells ≤ R.cells) (hcn : n + rm.slots ≤ R.slots)
    (K : ∀ v T' h', own_W p l e R s m args below meth c Z n0 y bytes ml ret T' h' (k + rm.cells) (n + rm.slots) → Q v h' → own_Ends p e below G (T'.setTop (mkF m q Ls (v.toList ++ rest)))) : own_Ends p e below G (T.setTop (mkF m pc Ls st)) := by
  subst hq has hst
  obtain ⟨⟨locs, Y, N⟩, eT, hs0, hx, hZ, hby, hml, hown, hret, hlk, hnm⟩ := X
  obtain ⟨v1, _, ⟨T1, L1, k1, n1⟩, -, Y1, ⟨Lc1, hQ1, l1, c1, s1⟩, st1⟩ := Jvm.LawKit.callS Y hx hown (mvT hZ w1) (mvT hZ w2) (mvT hZ w3) (mvT hZ w4) hy (backOf (Q := fun v h L => Q v h ∧ Fr n0 L) (W := (rest.map fun v => v.category).sum) (M []) hZ w4 w3 hf (by omega)) (g := mkF m pc Ls (argsL.reverse ++ rest)) rfl (hsz.trans hml.symm) (argsL := argsL) (rest := rest) (lenOf hpd hlen) rfl (by show 2 * 0 + _ ≤ _; omega) (hb hby hd) (fun _ _ => ⟨rfl, eT, hck, hcn⟩)
  dsimp only [Pt.U, Pt.locs, Pt.cells, Pt.slots] at Y1 l1 c1 s1 st1 hQ1
  subst l1 c1 s1
  exact own_pre st1 (K _ _ _ ⟨⟨_, Y1, Fr.app N hQ1.2⟩, rfl, Nat.le_trans hs0 (hkeep _ _ hQ1.1), hx, hZ, hby, hml, hown, hret, hlk, hnm⟩ hQ1.1)
theorem own_init (X : own_W p l e R s m args below meth c Z n0 y bytes ml ret T h k n) (q : Nat) {y' : MethodName} {bytes' : ByteArray} {ml' : Nat} {rm : Room} {as' : Array Value} {Q : Option Value → Heap → Prop} {i : Nat} {ps : List FieldType} {rr : Option FieldType} {a : Addr} (argsL rest : List Value) (hd : decode bytes pc = .ok (.invokespecial i, 3)) (hq : pc + 3 = q) (w1 : (Jvm.Cond.methodLink y.cls i y').before a0 Z = true) (w2 : (Jvm.Cond.instanceMethod y').before a0 Z = true) (w3 : (Jvm.Cond.initialized y'.cls).before a0 Z = true) (w4 : (Jvm.Cond.code y' bytes' ml' none).before a0 Z = true) (hy : y'.cls ≠ "java/lang/invoke/MethodHandle" ∧ y'.cls ≠ "java/lang/invoke/VarHandle") (hy1 : y'.name = "<init>")
    (M : own_Met l y' bytes' ml' none rm Z as' h n0 Q) (hkeep : ∀ v h', Q v h' → h.size ≤ h'.size) (has : as' = (.ref a :: argsL).toArray) (hpd : parseMethodDescriptor y'.desc = some ⟨ps, rr⟩) (hlen : argsL.length = ps.length) (hst : st = argsL.reverse ++ .ref a :: rest) (hsz : Ls.size = ml) (hf : rm.frames + 1 ≤ R.frames) (hl : (rest.map fun v => v.category).sum + (ml' + 11) + rm.locals ≤ R.locals) (hck : k + rm.cells ≤ R.cells) (hcn : n + rm.slots ≤ R.slots)
    (K : ∀ v T' h', own_W p l e R s m args below meth c Z n0 y bytes ml ret T' h' (k + rm.cells) (n + rm.slots) → Q v h' → own_Ends p e below G (T'.setTop (mkF m q Ls (v.toList ++ rest)))) : own_Ends p e below G (T.setTop (mkF m pc Ls st)) := by
  subst hq has hst
  obtain ⟨⟨locs, Y, N⟩, eT, hs0, hx, hZ, hby, hml, hown, hret, hlk, hnm⟩ := X
  obtain ⟨v1, _, ⟨T1, L1, k1, n1⟩, -, Y1, ⟨Lc1, hQ1, l1, c1, s1⟩, st1⟩ := Y.specialBack hx hy1 hown (mvT hZ w1) (mvT hZ w2) (mvT hZ w4) hy (backOf (Q := fun v h L => Q v h ∧ Fr n0 L) (W := (rest.map fun v => v.category).sum) (M []) hZ w4 w3 hf (by omega)) (g := mkF m pc Ls (argsL.reverse ++ .ref a :: rest)) rfl (hsz.trans hml.symm) (Steps.refl _) (a := a) (argsL := argsL) (rest := rest) (lenOf hpd hlen) rfl (by show 2 * 0 + _ ≤ _; omega) (hb hby hd) (fun _ _ => ⟨rfl, eT, hck, hcn⟩)
  dsimp only [Pt.U, Pt.locs, Pt.cells, Pt.slots] at Y1 l1 c1 s1 st1 hQ1
  subst l1 c1 s1
  exact own_pre (fun t K => st1.trans K) (K _ _ _ ⟨⟨_, Y1, Fr.app N hQ1.2⟩, rfl, Nat.le_trans hs0 (hkeep _ _ hQ1.1), hx, hZ, hby, hml, hown, hret, hlk, hnm⟩ hQ1.1)
theorem own_callV (X : own_W p l e R s m args below meth c Z n0 y bytes ml ret T h k n) (q : Nat) {y' : MethodName} {bytes' : ByteArray} {ml' : Nat} {ret' : Option FieldType} {rm : Room} {as' : Array Value} {Q : Option Value → Heap → Prop} {i : Nat} {ps : List FieldType} {rr : Option FieldType} {z : MethodName} {C : String} {a : Addr} (argsL rest : List Value) (hd : decode bytes pc = .ok (.invokevirtual i, 3)) (hq : pc + 3 = q) (w1 : (Jvm.Cond.methodLink y.cls i z).before a0 Z = true) (w2 : (Jvm.Cond.declares z).before a0 Z = true) (nf : NotFace s z) (w5 : (Jvm.Cond.selects C z y').before a0 Z = true) (w6 : (Jvm.Cond.instanceMethod y').before a0 Z = true) (w3 : (Jvm.Cond.initialized y'.cls).before a0 Z = true) (w4 : (Jvm.Cond.code y' bytes' ml' ret').before a0 Z = true) (hy : z.cls ≠ "java/lang/invoke/MethodHandle" ∧ z.cls ≠ "java/lang/invoke/VarHandle") (E : Exa Z h a C)
    (M : own_Met l y' bytes' ml' ret' rm Z as' h n0 Q) (hkeep : ∀ v h', Q v h' → h.size ≤ h'.size) (has : as' = (.ref a :: argsL).toArray) (hpd : parseMethodDescriptor z.desc = some ⟨ps, rr⟩) (hlen : argsL.length = ps.length) (hst : st = argsL.reverse ++ .ref a :: rest) (hsz : Ls.size = ml) (hf : rm.frames + 1 ≤ R.frames) (hl : (rest.map fun v => v.category).sum + (ml' + 11) + rm.locals ≤ R.locals) (hck : k + rm.cells ≤ R.cells) (hcn : n + rm.slots ≤ R.slots)
    (K : ∀ v T' h', own_W p l e R s m args below meth c Z n0 y bytes ml ret T' h' (k + rm.cells) (n + rm.slots) → Q v h' → own_Ends p e below G (T'.setTop (mkF m q Ls (v.toList ++ rest)))) : own_Ends p e below G (T.setTop (mkF m pc Ls st)) := by
  subst hq has hst
  obtain ⟨⟨locs, Y, N⟩, eT, hs0, hx, hZ, hby, hml, hown, hret, hlk, hnm⟩ := X
  obtain ⟨cq, kq, qa, qb, qc⟩ := isOf hZ eT E
  obtain ⟨v1, _, ⟨T1, L1, k1, n1⟩, -, Y1, ⟨Lc1, hQ1, l1, c1, s1⟩, st1⟩ := Y.virtualBack hx hown (mvT hZ w1) (mvT hZ w2) nf (mvT hZ w5) (mvT hZ w6) hy (backOf (Q := fun v h L => Q v h ∧ Fr n0 L) (W := (rest.map fun v => v.category).sum) (M []) hZ w4 w3 hf (by omega)) qa qc (g := mkF m pc Ls (argsL.reverse ++ .ref a :: rest)) rfl (hsz.trans hml.symm) (Steps.refl _) (argsL := argsL) (rest := rest) (lenOf hpd hlen) rfl (by show 2 * 0 + _ ≤ _; omega) (hb hby hd) (fun _ _ => ⟨rfl, eT, hck, hcn⟩)
  dsimp only [Pt.U, Pt.locs, Pt.cells, Pt.slots] at Y1 l1 c1 s1 st1 hQ1
  subst l1 c1 s1
  exact own_pre (fun t K => st1.trans K) (K _ _ _ ⟨⟨_, Y1, Fr.app N hQ1.2⟩, rfl, Nat.le_trans hs0 (hkeep _ _ hQ1.1), hx, hZ, hby, hml, hown, hret, hlk, hnm⟩ hQ1.1)
theorem own_nf {z : MethodName} {s : State} {C : String} (hZ : Z.Warmed39 s.vm) (w : (Jvm.Cond.selects C z z).before a0 Z = true) : NotFace s z := notFace_of_selects (args := #[]) (mvT hZ w)
theorem own_callI (X : own_W p l e R s m args below meth c Z n0 y bytes ml ret T h k n) (q : Nat) {y' : MethodName} {bytes' : ByteArray} {ml' : Nat} {ret' : Option FieldType} {rm : Room} {as' : Array Value} {Q : Option Value → Heap → Prop} {i : Nat} {ps : List FieldType} {rr : Option FieldType} {z : MethodName} {C : String} {cnt : Nat} {a : Addr} (argsL rest : List Value) (hd : decode bytes pc = .ok (.invokeinterface i cnt, 5)) (hq : pc + 5 = q) (w1 : (Jvm.Cond.methodLink y.cls i z).before a0 Z = true) (w2 : (Jvm.Cond.declares z).before a0 Z = true) (w7 : (Jvm.Cond.interfaceMethod z.cls z.cls z.name z.desc).before a0 Z = true) (hfa : ((Jvm.Cond.interfaceMethod z.cls z.cls z.name z.desc).onTables && (Jvm.Cond.interfaceMethod z.cls z.cls z.name z.desc).keepsFace) = true) (w5 : (Jvm.Cond.selects C z y').before a0 Z = true) (w6 : (Jvm.Cond.instanceMethod y').before a0 Z = true) (w8 : (Jvm.Cond.publicMethod y').before a0 Z = true) (w9 : (Jvm.Cond.unhidden C z.name z.desc).before a0 Z = true) (w10 : (Jvm.Cond.castable C z.cls).before a0 Z = true) (w3 : (Jvm.Cond.initialized y'.cls).before a0 Z = true) (w4 : (Jvm.Cond.code y' bytes' ml' ret').before a0 Z = true) (hy : z.cls ≠ "java/lang/invoke/MethodHandle" ∧ z.cls ≠ "java/lang/invoke/VarHandle") (E : Exa Z h a C)
    (M : own_Met l y' bytes' ml' ret' rm Z as' h n0 Q) (hkeep : ∀ v h', Q v h' → h.size ≤ h'.size) (has : as' = (.ref a :: argsL).toArray) (hpd : parseMethodDescriptor z.desc = some ⟨ps, rr⟩) (hlen : argsL.length = ps.length) (hst : st = argsL.reverse ++ .ref a :: rest) (hsz : Ls.size = ml) (hf : rm.frames + 1 ≤ R.frames) (hl : (rest.map fun v => v.category).sum + (ml' + 11) + rm.locals ≤ R.locals) (hck : k + rm.cells ≤ R.cells) (hcn : n + rm.slots ≤ R.slots)
    (K : ∀ v T' h', own_W p l e R s m args below meth c Z n0 y bytes ml ret T' h' (k + rm.cells) (n + rm.slots) → Q v h' → own_Ends p e below G (T'.setTop (mkF m q Ls (v.toList ++ rest)))) : own_Ends p e below G (T.setTop (mkF m pc Ls st)) := by
  subst hq has hst
  obtain ⟨⟨locs, Y, N⟩, eT, hs0, hx, hZ, hby, hml, hown, hret, hlk, hnm⟩ := X
  obtain ⟨cq, kq, qa, qb, qc⟩ := isOf hZ eT E
  obtain ⟨v1, _, ⟨T1, L1, k1, n1⟩, -, Y1, ⟨Lc1, hQ1, l1, c1, s1⟩, st1⟩ := Y.interfaceBack hx hown (mvT hZ w1) (mvT hZ w2) (mvT hZ w7 hfa) (mvT hZ w5) (mvT hZ w6) (mvT hZ w8) (mvT hZ w9) (mvT hZ w10) hy (backOf (Q := fun v h L => Q v h ∧ Fr n0 L) (W := (rest.map fun v => v.category).sum) (M []) hZ w4 w3 hf (by omega)) qa qb qc (g := mkF m pc Ls (argsL.reverse ++ .ref a :: rest)) rfl (hsz.trans hml.symm) (Steps.refl _) (argsL := argsL) (rest := rest) (lenOf hpd hlen) rfl (by show 2 * 0 + _ ≤ _; omega) (hb hby hd) (fun _ _ => ⟨rfl, eT, hck, hcn⟩)
  dsimp only [Pt.U, Pt.locs, Pt.cells, Pt.slots] at Y1 l1 c1 s1 st1 hQ1
  subst l1 c1 s1
  exact own_pre (fun t K => st1.trans K) (K _ _ _ ⟨⟨_, Y1, Fr.app N hQ1.2⟩, rfl, Nat.le_trans hs0 (hkeep _ _ hQ1.1), hx, hZ, hby, hml, hown, hret, hlk, hnm⟩ hQ1.1)
theorem own_ni_inst {Z : State} {C : String} {kk : Nat} {a0 : Array Value} (w : (Jvm.Cond.instantiable C kk).before a0 Z = true) : ∃ c k, Z.vm.findClass C = some c ∧ Z.vm.classes[c]? = some k ∧ k.isInterface = false := by
  obtain ⟨c, k, h1, h2, -, h4, -⟩ := Cond.instantiable_spec w
  exact ⟨c, k, h1, h2, (Bool.or_eq_false_iff.mp h4).1⟩
theorem own_ni_sel {Z : State} {C : String} {x y : MethodName} {a0 : Array Value} (w : (Jvm.Cond.selects C x y).before a0 Z = true) : ∃ c k, Z.vm.findClass y.cls = some c ∧ Z.vm.classes[c]? = some k ∧ k.isInterface = false := by
  obtain ⟨c, r, m, -, -, h3, -, k, h5, h6⟩ := Cond.selects_spec w
  exact ⟨_, k, findClass_of_methodNamed h3, h5, h6⟩
theorem own_selP {Z s : State} {y : MethodName} {a0 args : Array Value} (hZ : Z.Warmed39 s.vm) (hni : ∃ c k, Z.vm.findClass y.cls = some c ∧ Z.vm.classes[c]? = some k ∧ k.isInterface = false) (w6 : (Jvm.Cond.privateMethod y).before a0 Z = true) (w2 : (Jvm.Cond.instanceMethod y).before a0 Z = true) (hy : y.cls ≠ "java/lang/invoke/MethodHandle" ∧ y.cls ≠ "java/lang/invoke/VarHandle") : (Jvm.Cond.selects y.cls y y).before args s = true := by
  obtain ⟨c, k, h1, h2, h3⟩ := hni
  obtain ⟨k', q, z⟩ := hZ.alike.2.2 _ _ h2
  exact selects_self_of_private (by rw [hZ.alike.findClass]; exact h1) q (by rw [z]; exact h3) (Cond.privateMethod_at (mvP hZ w6 (args := #[]))) (mvT hZ w2) hy
theorem own_callP (X : own_W p l e R s m args below meth c Z n0 y bytes ml ret T h k n) (q : Nat) {y' : MethodName} {bytes' : ByteArray} {ml' : Nat} {ret' : Option FieldType} {rm : Room} {as' : Array Value} {Q : Option Value → Heap → Prop} {i : Nat} {ps : List FieldType} {rr : Option FieldType} {C : String} {a : Addr} (argsL rest : List Value) (hd : decode bytes pc = .ok (.invokevirtual i, 3)) (hq : pc + 3 = q) (w1 : (Jvm.Cond.methodLink y.cls i y').before a0 Z = true) (w2 : (Jvm.Cond.instanceMethod y').before a0 Z = true) (hni : ∃ c k, Z.vm.findClass y'.cls = some c ∧ Z.vm.classes[c]? = some k ∧ k.isInterface = false) (w6 : (Jvm.Cond.privateMethod y').before a0 Z = true) (w3 : (Jvm.Cond.initialized y'.cls).before a0 Z = true) (w4 : (Jvm.Cond.code y' bytes' ml' ret').before a0 Z = true) (hy : y'.cls ≠ "java/lang/invoke/MethodHandle" ∧ y'.cls ≠ "java/lang/invoke/VarHandle") (E : Exa Z h a C)
    (M : own_Met l y' bytes' ml' ret' rm Z as' h n0 Q) (hkeep : ∀ v h', Q v h' → h.size ≤ h'.size) (has : as' = (.ref a :: argsL).toArray) (hpd : parseMethodDescriptor y'.desc = some ⟨ps, rr⟩) (hlen : argsL.length = ps.length) (hst : st = argsL.reverse ++ .ref a :: rest) (hsz : Ls.size = ml) (hf : rm.frames + 1 ≤ R.frames) (hl : (rest.map fun v => v.category).sum + (ml' + 11) + rm.locals ≤ R.locals) (hck : k + rm.cells ≤ R.cells) (hcn : n + rm.slots ≤ R.slots)
    (K : ∀ v T' h', own_W p l e R s m args below meth c Z n0 y bytes ml ret T' h' (k + rm.cells) (n + rm.slots) → Q v h' → own_Ends p e below G (T'.setTop (mkF m q Ls (v.toList ++ rest)))) : own_Ends p e below G (T.setTop (mkF m pc Ls st)) := by
  subst hq has hst
  obtain ⟨⟨locs, Y, N⟩, eT, hs0, hx, hZ, hby, hml, hown, hret, hlk, hnm⟩ := X
  obtain ⟨cq, q1, q2⟩ := E.cell
  obtain ⟨v1, _, ⟨T1, L1, k1, n1⟩, -, Y1, ⟨Lc1, hQ1, l1, c1, s1⟩, st1⟩ := Y.privateBack hx hown (mvT hZ w1) (mvT hZ w2) (own_selP hZ hni w6 w2 hy) (Cond.privateMethod_at (mvP hZ w6 (args := #[]))) (mvT hZ w4) hy (backOf (Q := fun v h L => Q v h ∧ Fr n0 L) (W := (rest.map fun v => v.category).sum) (M []) hZ w4 w3 hf (by omega)) (g := mkF m pc Ls (argsL.reverse ++ .ref a :: rest)) rfl (hsz.trans hml.symm) (Steps.refl _) (a := a) (by rw [eT]; exact q1) q2 (argsL := argsL) (rest := rest) (lenOf hpd hlen) rfl (by show 2 * 0 + _ ≤ _; omega) (hb hby hd) (fun _ _ => ⟨rfl, eT, hck, hcn⟩)
  dsimp only [Pt.U, Pt.locs, Pt.cells, Pt.slots] at Y1 l1 c1 s1 st1 hQ1
  subst l1 c1 s1
  exact own_pre (fun t K => st1.trans K) (K _ _ _ ⟨⟨_, Y1, Fr.app N hQ1.2⟩, rfl, Nat.le_trans hs0 (hkeep _ _ hQ1.1), hx, hZ, hby, hml, hown, hret, hlk, hnm⟩ hQ1.1)
theorem own_retI (X : own_W p l e R s m args below meth c Z n0 y bytes ml ret T h k n) {C S : Nat} {Q : Option Value → Heap → Prop} {z : Int32} (hd : decode bytes pc = .ok (.ireturn, 1)) (hr0 : ret = some .int) (hk : k ≤ C) (hn : n ≤ S) (hQ : Q (some (.int z)) h) : own_Ends p e below (own_Fin s n0 C S Q) (T.setTop (mkF m pc Ls (.int z :: st))) := by
  obtain ⟨⟨locs, Y, N⟩, eT, hs0, hx, hZ, hby, hml, hown, hret, hlk, hnm⟩ := X
  obtain ⟨fs, hr, hrun, hended, hW, hsame⟩ := Y.leave (v := some (.int z)) (fun q => by rw [hret, hr0] at q; cases q) hlk
  exact ⟨_, _, own_retI0 Y hx (hret.trans hr0) (hb hby hd) hr, hrun, hended, _, _, rfl, ⟨by show Q _ T.heap; rw [eT]; exact hQ, N⟩, ⟨_, rfl⟩, hW, hsame.mono hk hn⟩
theorem own_retN (X : own_W p l e R s m args below meth c Z n0 y bytes ml ret T h k n) {C S : Nat} {Q : Option Value → Heap → Prop} {z : Int32} (t : FieldType) (hd : decode bytes pc = .ok (.ireturn, 1)) (hr0 : ret = some t) (ht : t = .boolean ∨ t = .byte ∨ t = .char ∨ t = .short) (hk : k ≤ C) (hn : n ≤ S) (hQ : Q (some (.int (nar t z))) h) : own_Ends p e below (own_Fin s n0 C S Q) (T.setTop (mkF m pc Ls (.int z :: st))) := by
  obtain ⟨⟨locs, Y, N⟩, eT, hs0, hx, hZ, hby, hml, hown, hret, hlk, hnm⟩ := X
  obtain ⟨fs, hr, hrun, hended, hW, hsame⟩ := Y.leave (v := some (.int (nar t z))) (fun q => by rw [hret, hr0] at q; cases q) hlk
  exact ⟨_, _, retN Y hx (hret.trans hr0) ht (hb hby hd) hr, hrun, hended, _, _, rfl, ⟨by show Q _ T.heap; rw [eT]; exact hQ, N⟩, ⟨_, rfl⟩, hW, hsame.mono hk hn⟩
theorem own_retJ (X : own_W p l e R s m args below meth c Z n0 y bytes ml ret T h k n) {C S : Nat} {Q : Option Value → Heap → Prop} {z : Int64} (hd : decode bytes pc = .ok (.lreturn, 1)) (hr0 : ret = some .long) (hk : k ≤ C) (hn : n ≤ S) (hQ : Q (some (.long z)) h) : own_Ends p e below (own_Fin s n0 C S Q) (T.setTop (mkF m pc Ls (.long z :: st))) := by
  obtain ⟨⟨locs, Y, N⟩, eT, hs0, hx, hZ, hby, hml, hown, hret, hlk, hnm⟩ := X
  obtain ⟨fs, hr, hrun, hended, hW, hsame⟩ := Y.leave (v := some (.long z)) (fun q => by rw [hret, hr0] at q; cases q) hlk
  exact ⟨_, _, retOut Y hx (hret.trans hr0) rfl (Or.inr (Or.inl ⟨rfl, rfl, z, rfl⟩)) (hb hby hd) hr, hrun, hended, _, _, rfl, ⟨by show Q _ T.heap; rw [eT]; exact hQ, N⟩, ⟨_, rfl⟩, hW, hsame.mono hk hn⟩
theorem own_retA (X : own_W p l e R s m args below meth c Z n0 y bytes ml ret T h k n) {C S : Nat} {Q : Option Value → Heap → Prop} {z : Value} (t : FieldType) (hd : decode bytes pc = .ok (.areturn, 1)) (hr0 : ret = some t) (ht : t.isReference = true) (hz : z.isRef = true) (hnz : narrow t z = z) (hk : k ≤ C) (hn : n ≤ S) (hQ : Q (some z) h) : own_Ends p e below (own_Fin s n0 C S Q) (T.setTop (mkF m pc Ls (z :: st))) := by
  obtain ⟨⟨locs, Y, N⟩, eT, hs0, hx, hZ, hby, hml, hown, hret, hlk, hnm⟩ := X
  obtain ⟨fs, hr, hrun, hended, hW, hsame⟩ := Y.leave (v := some z) (fun q => by rw [hret, hr0] at q; cases q) hlk
  exact ⟨_, _, retOut Y hx (hret.trans hr0) hnz (Or.inr (Or.inr (Or.inr (Or.inr ⟨rfl, ht, hz⟩)))) (hb hby hd) hr, hrun, hended, _, _, rfl, ⟨by show Q _ T.heap; rw [eT]; exact hQ, N⟩, ⟨_, rfl⟩, hW, hsame.mono hk hn⟩
theorem own_retV (X : own_W p l e R s m args below meth c Z n0 y bytes ml ret T h k n) {C S : Nat} {Q : Option Value → Heap → Prop} (hd : decode bytes pc = .ok (.return_, 1)) (hr0 : ret = none) (hk : k ≤ C) (hn : n ≤ S) (hQ : Q none h) : own_Ends p e below (own_Fin s n0 C S Q) (T.setTop (mkF m pc Ls [])) := by
  obtain ⟨⟨locs, Y, N⟩, eT, hs0, hx, hZ, hby, hml, hown, hret, hlk, hnm⟩ := X
  obtain ⟨fs, hr, hrun, hended, hW, hsame⟩ := Y.leave (v := none) (fun _ => rfl) hlk
  exact ⟨_, _, Y.returnOut hx (hret.trans hr0) (hb hby hd) hr, hrun, hended, _, _, rfl, ⟨by show Q _ T.heap; rw [eT]; exact hQ, N⟩, ⟨_, rfl⟩, hW, hsame.mono hk hn⟩
theorem own_iaload (X : own_W p l e R s m args below meth c Z n0 y bytes ml ret T h k n) (q : Nat) {a : Addr} {kc : ClassId} {vs : List Value} {j : Int32} (i : Nat) (v : Value) (hd : decode bytes pc = .ok (.iaload, 1)) (hq : pc + 1 = q) (F : own_A Z h a kc .int vs) (hj : j.toNatClampNeg = i) (hj0 : ¬ j < 0) (hv : vs[i]? = some v)
    (K : own_Ends p e below G (T.setTop (mkF m q Ls (v :: st)))) : own_Ends p e below G (T.setTop (mkF m pc Ls (.int j :: .ref a :: st))) := by
  subst hq
  obtain ⟨⟨locs, Y, N⟩, eT, hs0, hx, hZ, hby, hml, hown, hret, hlk, hnm⟩ := X
  obtain ⟨cl, A, r1, r2, r3, r4⟩ := F
  have hi : i < vs.length := (List.getElem?_eq_some_iff.mp hv).1
  exact own_pre (fun t K => Y.iaload hx (j := j) (v := v) (by rw [eT]; exact A.1) (State.isArrayOf_alike hZ.alike A.2.1) A.2.2 (own_in r2 hj hj0 hi) (by rw [hj, ← Array.getElem?_toList, r2]; exact hv) (g := mkF m pc Ls (.int j :: .ref a :: st)) rfl rfl (hb hby hd) t K) K
theorem own_caload (X : own_W p l e R s m args below meth c Z n0 y bytes ml ret T h k n) (q : Nat) {a : Addr} {kc : ClassId} {vs : List Value} {j : Int32} (i : Nat) (v : Value) (hd : decode bytes pc = .ok (.caload, 1)) (hq : pc + 1 = q) (F : own_A Z h a kc .char vs) (hj : j.toNatClampNeg = i) (hj0 : ¬ j < 0) (hv : vs[i]? = some v)
    (K : own_Ends p e below G (T.setTop (mkF m q Ls (v :: st)))) : own_Ends p e below G (T.setTop (mkF m pc Ls (.int j :: .ref a :: st))) := by
  subst hq
  obtain ⟨⟨locs, Y, N⟩, eT, hs0, hx, hZ, hby, hml, hown, hret, hlk, hnm⟩ := X
  obtain ⟨cl, A, r1, r2, r3, r4⟩ := F
  have hi : i < vs.length := (List.getElem?_eq_some_iff.mp hv).1
  exact own_pre (fun t K => Y.caload hx (j := j) (v := v) (by rw [eT]; exact A.1) (State.isArrayOf_alike hZ.alike A.2.1) A.2.2 (own_in r2 hj hj0 hi) (by rw [hj, ← Array.getElem?_toList, r2]; exact hv) (g := mkF m pc Ls (.int j :: .ref a :: st)) rfl rfl (hb hby hd) t K) K
theorem own_baload (X : own_W p l e R s m args below meth c Z n0 y bytes ml ret T h k n) (q : Nat) {a : Addr} {kc : ClassId} {vs : List Value} {j : Int32} (i : Nat) (v : Value) (hd : decode bytes pc = .ok (.baload, 1)) (hq : pc + 1 = q) (F : own_A Z h a kc .byte vs) (hj : j.toNatClampNeg = i) (hj0 : ¬ j < 0) (hv : vs[i]? = some v)
    (K : own_Ends p e below G (T.setTop (mkF m q Ls (v :: st)))) : own_Ends p e below G (T.setTop (mkF m pc Ls (.int j :: .ref a :: st))) := by
  subst hq
  obtain ⟨⟨locs, Y, N⟩, eT, hs0, hx, hZ, hby, hml, hown, hret, hlk, hnm⟩ := X
  obtain ⟨cl, A, r1, r2, r3, r4⟩ := F
  have hi : i < vs.length := (List.getElem?_eq_some_iff.mp hv).1
  exact own_pre (fun t K => Y.baloadBytes hx (j := j) (v := v) (by rw [eT]; exact A.1) (State.isArrayOf_alike hZ.alike A.2.1) A.2.2 (own_in r2 hj hj0 hi) (by rw [hj, ← Array.getElem?_toList, r2]; exact hv) (g := mkF m pc Ls (.int j :: .ref a :: st)) rfl rfl (hb hby hd) t K) K
theorem own_aaload (X : own_W p l e R s m args below meth c Z n0 y bytes ml ret T h k n) (q : Nat) {a : Addr} {kc : ClassId} {ty : FieldType} {vs : List Value} {j : Int32} (i : Nat) (v : Value) (hd : decode bytes pc = .ok (.aaload, 1)) (hq : pc + 1 = q) (F : own_A Z h a kc ty vs) (hj : j.toNatClampNeg = i) (hj0 : ¬ j < 0) (hv : vs[i]? = some v) (hty : ty.isReference = true)
    (K : own_Ends p e below G (T.setTop (mkF m q Ls (v :: st)))) : own_Ends p e below G (T.setTop (mkF m pc Ls (.int j :: .ref a :: st))) := by
  subst hq
  obtain ⟨⟨locs, Y, N⟩, eT, hs0, hx, hZ, hby, hml, hown, hret, hlk, hnm⟩ := X
  obtain ⟨cl, A, r1, r2, r3, r4⟩ := F
  have hi : i < vs.length := (List.getElem?_eq_some_iff.mp hv).1
  exact own_pre (fun t K => Y.aaload hx (j := j) (v := v) (by rw [eT]; exact A.1) (State.isArrayOf_alike hZ.alike A.2.1) hty A.2.2 (own_in r2 hj hj0 hi) (by rw [hj, ← Array.getElem?_toList, r2]; exact hv) (g := mkF m pc Ls (.int j :: .ref a :: st)) rfl rfl (hb hby hd) t K) K
theorem own_laload (X : own_W p l e R s m args below meth c Z n0 y bytes ml ret T h k n) (q : Nat) {a : Addr} {kc : ClassId} {vs : List Value} {j : Int32} (i : Nat) (v : Value) (hd : decode bytes pc = .ok (.laload, 1)) (hq : pc + 1 = q) (F : own_A Z h a kc .long vs) (hj : j.toNatClampNeg = i) (hj0 : ¬ j < 0) (hv : vs[i]? = some v)
    (K : own_Ends p e below G (T.setTop (mkF m q Ls (v :: st)))) : own_Ends p e below G (T.setTop (mkF m pc Ls (.int j :: .ref a :: st))) := by
  subst hq
  obtain ⟨⟨locs, Y, N⟩, eT, hs0, hx, hZ, hby, hml, hown, hret, hlk, hnm⟩ := X
  obtain ⟨cl, A, r1, r2, r3, r4⟩ := F
  have hi : i < vs.length := (List.getElem?_eq_some_iff.mp hv).1
  exact own_pre (fun t K => Y.laload hx (j := j) (v := v) (by rw [eT]; exact A.1) (State.isArrayOf_alike hZ.alike A.2.1) A.2.2 (own_in r2 hj hj0 hi) (by rw [hj, ← Array.getElem?_toList, r2]; exact hv) (g := mkF m pc Ls (.int j :: .ref a :: st)) rfl rfl (hb hby hd) t K) K
theorem own_len (X : own_W p l e R s m args below meth c Z n0 y bytes ml ret T h k n) (q : Nat) {a : Addr} {kc : ClassId} {ty : FieldType} {vs : List Value} (x : Int32) (hd : decode bytes pc = .ok (.arraylength, 1)) (hq : pc + 1 = q) (F : own_A Z h a kc ty vs) (hx' : vs.length.toInt32 = x)
    (K : own_Ends p e below G (T.setTop (mkF m q Ls (.int x :: st)))) : own_Ends p e below G (T.setTop (mkF m pc Ls (.ref a :: st))) := by
  subst hq hx'
  obtain ⟨⟨locs, Y, N⟩, eT, hs0, hx, hZ, hby, hml, hown, hret, hlk, hnm⟩ := X
  obtain ⟨cl, A, r1, r2, r3, r4⟩ := F
  have hl : vs.length = cl.slots.size := by rw [← r2, Array.length_toList]
  rw [hl] at K
  exact own_pre (fun t K => Y.arraylength hx (by rw [eT]; exact A.1) (State.isArrayOf_alike hZ.alike A.2.1) (g := mkF m pc Ls (.ref a :: st)) rfl rfl (hb hby hd) t K) K
theorem own_iastore (X : own_W p l e R s m args below meth c Z n0 y bytes ml ret T h k n) (q : Nat) {a : Addr} {kc : ClassId} {vs : List Value} {j : Int32} {x : Int32} (i : Nat) (hd : decode bytes pc = .ok (.iastore, 1)) (hq : pc + 1 = q) (F : own_A Z h a kc .int vs) (hj : j.toNatClampNeg = i) (hj0 : ¬ j < 0) (hi : i < vs.length) (hnew : n0 ≤ a)
    (K : ∀ T' h', own_W p l e R s m args below meth c Z n0 y bytes ml ret T' h' k n → Wr h h' a i (.int x) → own_Ends p e below G (T'.setTop (mkF m q Ls st))) : own_Ends p e below G (T.setTop (mkF m pc Ls (.int x :: .int j :: .ref a :: st))) := by
  subst hq
  obtain ⟨⟨locs, Y, N⟩, eT, hs0, hx, hZ, hby, hml, hown, hret, hlk, hnm⟩ := X
  obtain ⟨cl, A, r1, r2, r3, r4⟩ := F
  obtain ⟨T1, h1, Y1, e1, W1, st1⟩ := stI Y hx hZ eT A (j := j) (own_in r2 hj hj0 hi) (g := mkF m pc Ls (.int x :: .int j :: .ref a :: st)) rfl rfl (hb hby hd)
  exact own_pre st1 (K T1 h1 ⟨⟨_, Y1, Fr.snoc Y1 N hnew⟩, e1, (by rw [W1.size]; exact hs0), hx, hZ, hby, hml, hown, hret, hlk, hnm⟩ (hj ▸ W1))
theorem own_castore (X : own_W p l e R s m args below meth c Z n0 y bytes ml ret T h k n) (q : Nat) {a : Addr} {kc : ClassId} {vs : List Value} {j : Int32} {x : Int32} (i : Nat) (hd : decode bytes pc = .ok (.castore, 1)) (hq : pc + 1 = q) (F : own_A Z h a kc .char vs) (hj : j.toNatClampNeg = i) (hj0 : ¬ j < 0) (hi : i < vs.length) (hnew : n0 ≤ a)
    (K : ∀ T' h', own_W p l e R s m args below meth c Z n0 y bytes ml ret T' h' k n → Wr h h' a i (.int (nar .char x)) → own_Ends p e below G (T'.setTop (mkF m q Ls st))) : own_Ends p e below G (T.setTop (mkF m pc Ls (.int x :: .int j :: .ref a :: st))) := by
  subst hq
  obtain ⟨⟨locs, Y, N⟩, eT, hs0, hx, hZ, hby, hml, hown, hret, hlk, hnm⟩ := X
  obtain ⟨cl, A, r1, r2, r3, r4⟩ := F
  obtain ⟨T1, h1, Y1, e1, W1, st1⟩ := stC Y hx hZ eT A (j := j) (own_in r2 hj hj0 hi) (g := mkF m pc Ls (.int x :: .int j :: .ref a :: st)) rfl rfl (hb hby hd)
  exact own_pre st1 (K T1 h1 ⟨⟨_, Y1, Fr.snoc Y1 N hnew⟩, e1, (by rw [W1.size]; exact hs0), hx, hZ, hby, hml, hown, hret, hlk, hnm⟩ (hj ▸ W1))
theorem own_bastore (X : own_W p l e R s m args below meth c Z n0 y bytes ml ret T h k n) (q : Nat) {a : Addr} {kc : ClassId} {vs : List Value} {j : Int32} {x : Int32} (i : Nat) (hd : decode bytes pc = .ok (.bastore, 1)) (hq : pc + 1 = q) (F : own_A Z h a kc .byte vs) (hj : j.toNatClampNeg = i) (hj0 : ¬ j < 0) (hi : i < vs.length) (hnew : n0 ≤ a)
    (K : ∀ T' h', own_W p l e R s m args below meth c Z n0 y bytes ml ret T' h' k n → Wr h h' a i (.int (nar .byte x)) → own_Ends p e below G (T'.setTop (mkF m q Ls st))) : own_Ends p e below G (T.setTop (mkF m pc Ls (.int x :: .int j :: .ref a :: st))) := by
  subst hq
  obtain ⟨⟨locs, Y, N⟩, eT, hs0, hx, hZ, hby, hml, hown, hret, hlk, hnm⟩ := X
  obtain ⟨cl, A, r1, r2, r3, r4⟩ := F
  obtain ⟨T1, h1, Y1, e1, W1, st1⟩ := stB Y hx hZ eT A (j := j) (own_in r2 hj hj0 hi) (g := mkF m pc Ls (.int x :: .int j :: .ref a :: st)) rfl rfl (hb hby hd)
  exact own_pre st1 (K T1 h1 ⟨⟨_, Y1, Fr.snoc Y1 N hnew⟩, e1, (by rw [W1.size]; exact hs0), hx, hZ, hby, hml, hown, hret, hlk, hnm⟩ (hj ▸ W1))
theorem own_zastore (X : own_W p l e R s m args below meth c Z n0 y bytes ml ret T h k n) (q : Nat) {a : Addr} {kc : ClassId} {vs : List Value} {j : Int32} {x : Int32} (i : Nat) (hd : decode bytes pc = .ok (.bastore, 1)) (hq : pc + 1 = q) (F : own_A Z h a kc .boolean vs) (hj : j.toNatClampNeg = i) (hj0 : ¬ j < 0) (hi : i < vs.length) (hnew : n0 ≤ a)
    (K : ∀ T' h', own_W p l e R s m args below meth c Z n0 y bytes ml ret T' h' k n → Wr h h' a i (.int (nar .boolean x)) → own_Ends p e below G (T'.setTop (mkF m q Ls st))) : own_Ends p e below G (T.setTop (mkF m pc Ls (.int x :: .int j :: .ref a :: st))) := by
  subst hq
  obtain ⟨⟨locs, Y, N⟩, eT, hs0, hx, hZ, hby, hml, hown, hret, hlk, hnm⟩ := X
  obtain ⟨cl, A, r1, r2, r3, r4⟩ := F
  obtain ⟨T1, h1, Y1, e1, W1, st1⟩ := stZ Y hx hZ eT A (j := j) (own_in r2 hj hj0 hi) (g := mkF m pc Ls (.int x :: .int j :: .ref a :: st)) rfl rfl (hb hby hd)
  exact own_pre st1 (K T1 h1 ⟨⟨_, Y1, Fr.snoc Y1 N hnew⟩, e1, (by rw [W1.size]; exact hs0), hx, hZ, hby, hml, hown, hret, hlk, hnm⟩ (hj ▸ W1))
theorem own_lastore (X : own_W p l e R s m args below meth c Z n0 y bytes ml ret T h k n) (q : Nat) {a : Addr} {kc : ClassId} {vs : List Value} {j : Int32} {x : Int64} (i : Nat) (hd : decode bytes pc = .ok (.lastore, 1)) (hq : pc + 1 = q) (F : own_A Z h a kc .long vs) (hj : j.toNatClampNeg = i) (hj0 : ¬ j < 0) (hi : i < vs.length) (hnew : n0 ≤ a)
    (K : ∀ T' h', own_W p l e R s m args below meth c Z n0 y bytes ml ret T' h' k n → Wr h h' a i (.long x) → own_Ends p e below G (T'.setTop (mkF m q Ls st))) : own_Ends p e below G (T.setTop (mkF m pc Ls (.long x :: .int j :: .ref a :: st))) := by
  subst hq
  obtain ⟨⟨locs, Y, N⟩, eT, hs0, hx, hZ, hby, hml, hown, hret, hlk, hnm⟩ := X
  obtain ⟨cl, A, r1, r2, r3, r4⟩ := F
  obtain ⟨T1, h1, Y1, e1, W1, st1⟩ := stJ Y hx hZ eT A (j := j) (own_in r2 hj hj0 hi) (g := mkF m pc Ls (.long x :: .int j :: .ref a :: st)) rfl rfl (hb hby hd)
  exact own_pre st1 (K T1 h1 ⟨⟨_, Y1, Fr.snoc Y1 N hnew⟩, e1, (by rw [W1.size]; exact hs0), hx, hZ, hby, hml, hown, hret, hlk, hnm⟩ (hj ▸ W1))
theorem own_aastore (X : own_W p l e R s m args below meth c Z n0 y bytes ml ret T h k n) (q : Nat) {a : Addr} {kc : ClassId} {ty : FieldType} {vs : List Value} {j : Int32} {x : Value} (i : Nat) (hd : decode bytes pc = .ok (.aastore, 1)) (hq : pc + 1 = q) (F : own_A Z h a kc ty vs) (hj : j.toNatClampNeg = i) (hj0 : ¬ j < 0) (hi : i < vs.length) (hty : ty.isReference = true) (hS : Sto Z h a x) (hnew : n0 ≤ a)
    (K : ∀ T' h', own_W p l e R s m args below meth c Z n0 y bytes ml ret T' h' k n → Wr h h' a i x → own_Ends p e below G (T'.setTop (mkF m q Ls st))) : own_Ends p e below G (T.setTop (mkF m pc Ls (x :: .int j :: .ref a :: st))) := by
  subst hq
  obtain ⟨⟨locs, Y, N⟩, eT, hs0, hx, hZ, hby, hml, hown, hret, hlk, hnm⟩ := X
  obtain ⟨cl, A, r1, r2, r3, r4⟩ := F
  obtain ⟨T1, h1, Y1, e1, W1, st1⟩ := stR Y hx hZ eT A (j := j) (own_in r2 hj hj0 hi) hty hS (g := mkF m pc Ls (x :: .int j :: .ref a :: st)) rfl rfl (hb hby hd)
  exact own_pre st1 (K T1 h1 ⟨⟨_, Y1, Fr.snoc Y1 N hnew⟩, e1, (by rw [W1.size]; exact hs0), hx, hZ, hby, hml, hown, hret, hlk, hnm⟩ (hj ▸ W1))
theorem own_A_new {Z : State} {h : Heap} {a : Addr} {kc : ClassId} {ty : FieldType} {z : Int32} {N : Nat} (A : Arr Z h a (newA kc ty z) ty) (hz : ¬ z < 0) (hN : z.toNatClampNeg = N) (hf : fits ty (defaultValue ty) = true) : own_A Z h a kc ty (List.replicate N (defaultValue ty)) := by
  refine ⟨_, A, rfl, by simp [newA, hN], by rw [List.length_replicate, ← hN]; exact (back32 hz).2, fun v hv => ?_⟩
  rw [(List.mem_replicate.mp hv).2]; exact hf
theorem own_newP (X : own_W p l e R s m args below meth c Z n0 y bytes ml ret T h k n) (q : Nat) {aty : ArrayType} {z : Int32} (len cap : Nat) (hd : decode bytes pc = .ok (.newarray aty, 2)) (hq : pc + 2 = q) (w : (Jvm.Cond.arrayClass (newarray.typeOf aty)).before a0 Z = true) (hz : ¬ z < 0) (hN : z.toNatClampNeg = len) (hcap : len ≤ cap) (hb8 : cap * 8 ≤ 536870912) (hc : k + 1 ≤ R.cells) (hl : n + cap ≤ R.slots)
    (K : ∀ T' h' a kc, a = h.size → own_W p l e R s m args below meth c Z n0 y bytes ml ret T' h' (k + 1) (n + cap) → Ext h h' → own_A Z h' a kc (newarray.typeOf aty) (List.replicate len (defaultValue (newarray.typeOf aty))) → own_Ends p e below G (T'.setTop (mkF m q Ls (.ref a :: st)))) : own_Ends p e below G (T.setTop (mkF m pc Ls (.int z :: st))) := by
  subst hq
  obtain ⟨⟨locs, Y, N⟩, eT, hs0, hx, hZ, hby, hml, hown, hret, hlk, hnm⟩ := X
  obtain ⟨T1, h1, kc, Y1, e1, E1, A1, st1⟩ := newP Y hx hZ w eT (g := mkF m pc Ls (.int z :: st)) rfl (hb hby hd) rfl hz (cap := cap) (by omega) hb8 hc hl
  exact own_pre st1 (K T1 h1 _ kc rfl ⟨⟨locs, Y1, N⟩, e1, (Nat.le_trans hs0 E1.1), hx, hZ, hby, hml, hown, hret, hlk, hnm⟩ E1 (own_A_new A1 hz hN (by cases aty <;> rfl)))
theorem own_newR (X : own_W p l e R s m args below meth c Z n0 y bytes ml ret T h k n) (q : Nat) {C : String} {i : Nat} {z : Int32} (len cap : Nat) {ad : String} (hd : decode bytes pc = .ok (.anewarray i, 3)) (hq : pc + 3 = q) (w1 : (Jvm.Cond.classLink y.cls i C).before a0 Z = true) (w2 : (Jvm.Cond.arrayOver (.object C)).before a0 Z = true) (hz : ¬ z < 0) (hN : z.toNatClampNeg = len) (hcap : len ≤ cap) (hb8 : cap * 8 ≤ 536870912) (hc : k + 1 ≤ R.cells) (hl : n + cap ≤ R.slots) (had : "[" ++ (FieldType.object C).toString = ad)
    (K : ∀ T' h' a kc, a = h.size → own_W p l e R s m args below meth c Z n0 y bytes ml ret T' h' (k + 1) (n + cap) → Ext h h' → own_A Z h' a kc (.object C) (List.replicate len .null) → Ovr Z kc C → Exa Z h' a ad → own_Ends p e below G (T'.setTop (mkF m q Ls (.ref a :: st)))) : own_Ends p e below G (T.setTop (mkF m pc Ls (.int z :: st))) := by
  subst hq
  obtain ⟨⟨locs, Y, N⟩, eT, hs0, hx, hZ, hby, hml, hown, hret, hlk, hnm⟩ := X
  obtain ⟨T1, h1, kc, Y1, e1, E1, A1, X1, O1, st1⟩ := newRE Y hx hZ hown w1 w2 eT (g := mkF m pc Ls (.int z :: st)) rfl (hb hby hd) rfl hz (cap := cap) (by omega) hb8 hc hl had
  exact own_pre st1 (K T1 h1 _ kc rfl ⟨⟨locs, Y1, N⟩, e1, (Nat.le_trans hs0 E1.1), hx, hZ, hby, hml, hown, hret, hlk, hnm⟩ E1 (own_A_new A1 hz hN rfl) O1 X1)
theorem own_newPE (X : own_W p l e R s m args below meth c Z n0 y bytes ml ret T h k n) (q : Nat) {aty : ArrayType} {z : Int32} (len cap : Nat) {ad : String} (hd : decode bytes pc = .ok (.newarray aty, 2)) (hq : pc + 2 = q) (w : (Jvm.Cond.arrayClass (newarray.typeOf aty)).before a0 Z = true) (hz : ¬ z < 0) (hN : z.toNatClampNeg = len) (hcap : len ≤ cap) (hb8 : cap * 8 ≤ 536870912) (hc : k + 1 ≤ R.cells) (hl : n + cap ≤ R.slots) (had : "[" ++ (newarray.typeOf aty).toString = ad)
    (K : ∀ T' h' a kc, a = h.size → own_W p l e R s m args below meth c Z n0 y bytes ml ret T' h' (k + 1) (n + cap) → Ext h h' → own_A Z h' a kc (newarray.typeOf aty) (List.replicate len (defaultValue (newarray.typeOf aty))) → Exa Z h' a ad → own_Ends p e below G (T'.setTop (mkF m q Ls (.ref a :: st)))) : own_Ends p e below G (T.setTop (mkF m pc Ls (.int z :: st))) := by
  subst hq
  obtain ⟨⟨locs, Y, N⟩, eT, hs0, hx, hZ, hby, hml, hown, hret, hlk, hnm⟩ := X
  obtain ⟨T1, h1, kc, Y1, e1, E1, A1, X1, st1⟩ := newPE Y hx hZ w eT (g := mkF m pc Ls (.int z :: st)) rfl (hb hby hd) rfl hz (cap := cap) (by omega) hb8 hc hl had
  exact own_pre st1 (K T1 h1 _ kc rfl ⟨⟨locs, Y1, N⟩, e1, (Nat.le_trans hs0 E1.1), hx, hZ, hby, hml, hown, hret, hlk, hnm⟩ E1 (own_A_new A1 hz hN (by cases aty <;> rfl)) X1)
theorem own_newRA (X : own_W p l e R s m args below meth c Z n0 y bytes ml ret T h k n) (q : Nat) {C : String} {ty : FieldType} {i : Nat} {z : Int32} (len cap : Nat) {ad : String} (hd : decode bytes pc = .ok (.anewarray i, 3)) (hq : pc + 3 = q) (hC : (FieldType.array ty).toString = C) (w1 : (Jvm.Cond.classLink y.cls i C).before a0 Z = true) (w2 : (Jvm.Cond.arrayOver (.array ty)).before a0 Z = true) (hz : ¬ z < 0) (hN : z.toNatClampNeg = len) (hcap : len ≤ cap) (hb8 : cap * 8 ≤ 536870912) (hc : k + 1 ≤ R.cells) (hl : n + cap ≤ R.slots) (had : "[" ++ C = ad)
    (K : ∀ T' h' a kc, a = h.size → own_W p l e R s m args below meth c Z n0 y bytes ml ret T' h' (k + 1) (n + cap) → Ext h h' → own_A Z h' a kc (.array ty) (List.replicate len .null) → OvrA Z kc ty C → Exa Z h' a ad → own_Ends p e below G (T'.setTop (mkF m q Ls (.ref a :: st)))) : own_Ends p e below G (T.setTop (mkF m pc Ls (.int z :: st))) := by
  subst hq
  obtain ⟨⟨locs, Y, N⟩, eT, hs0, hx, hZ, hby, hml, hown, hret, hlk, hnm⟩ := X
  obtain ⟨T1, h1, kc, Y1, e1, E1, A1, X1, O1, st1⟩ := newRA Y hx hZ hown hC w1 w2 eT (g := mkF m pc Ls (.int z :: st)) rfl (hb hby hd) rfl hz (cap := cap) (by omega) hb8 hc hl had
  exact own_pre st1 (K T1 h1 _ kc rfl ⟨⟨locs, Y1, N⟩, e1, (Nat.le_trans hs0 E1.1), hx, hZ, hby, hml, hown, hret, hlk, hnm⟩ E1 (own_A_new A1 hz hN rfl) O1 X1)
theorem own_StoA {Z : State} {h : Heap} {a x : Addr} {kc : ClassId} {t0 ty : FieldType} {vs : List Value} {C : String} (F : own_A Z h a kc t0 vs) (O : OvrA Z kc ty C) (I : Ins Z h x C true) : Sto Z h a (.ref x) := by
  obtain ⟨c, A, r, -⟩ := F
  exact Sto.ofVA A r O I
theorem own_clone (X : own_W p l e R s m args below meth c Z n0 y bytes ml ret T h k n) (q : Nat) {i : Nat} {ad : String} {a : Addr} {kc : ClassId} {ty : FieldType} {vs : List Value} (cap : Nat) (hd : decode bytes pc = .ok (.invokevirtual i, 3)) (hq : pc + 3 = q) (w1 : (Jvm.Cond.methodLink y.cls i ⟨ad, "clone", "()Ljava/lang/Object;"⟩).before a0 Z = true) (w2 : (Jvm.Cond.sameMethod ad "java/lang/Object" "clone" "()Ljava/lang/Object;").before a0 Z = true) (w3 : (Jvm.Cond.native ⟨"java/lang/Object", "clone", "()Ljava/lang/Object;"⟩).before a0 Z = true)
    (w4 : (Jvm.Cond.instanceMethod ⟨"java/lang/Object", "clone", "()Ljava/lang/Object;"⟩).before a0 Z = true) (w5 : (Jvm.Cond.selects ad ⟨ad, "clone", "()Ljava/lang/Object;"⟩ ⟨"java/lang/Object", "clone", "()Ljava/lang/Object;"⟩).before a0 Z = true) (w6 : (Jvm.Cond.castable ad "java/lang/Cloneable").before a0 Z = true)
    (F : own_A Z h a kc ty vs) (E : Exa Z h a ad) (hsz : Ls.size = ml) (hf : 1 ≤ R.frames) (hl : (st.map fun v => v.category).sum + 14 ≤ R.locals) (hcap : vs.length ≤ cap) (hc : k + 1 ≤ R.cells) (hsl : n + cap ≤ R.slots)
    (K : ∀ T' h' b, b = h.size → own_W p l e R s m args below meth c Z n0 y bytes ml ret T' h' (k + 1) (n + cap) → Ext h h' → own_A Z h' b kc ty vs → Exa Z h' b ad → own_Ends p e below G (T'.setTop (mkF m q Ls (.ref b :: st)))) : own_Ends p e below G (T.setTop (mkF m pc Ls (.ref a :: st))) := by
  subst hq
  obtain ⟨⟨locs, Y, N⟩, eT, hs0, hx, hZ, hby, hml, hown, hret, hlk, hnm⟩ := X
  obtain ⟨cl, A, r1, r2, r3, r4⟩ := F
  have hF : FitC Z cl := fitC_of A fun j hj v hv => r4 v (by rw [← r2]; exact List.mem_of_getElem? (by rw [Array.getElem?_toList]; exact hv))
  obtain ⟨T1, h1, Y1, e1, E1, A1, X1, st1⟩ := cloneA Y hx hZ hown w1 w2 w3 w4 w5 w6 eT A E hF (g := mkF m pc Ls (.ref a :: st)) rfl (hsz.trans hml.symm) rfl (hb hby hd) hf (W := (st.map fun v => v.category).sum) (cap := cap) (by show 2 * 0 + _ ≤ _; omega) hl (by rw [← Array.length_toList, r2]; exact hcap) hc hsl
  exact own_pre st1 (K T1 h1 _ rfl ⟨⟨locs, Y1, N⟩, e1, (Nat.le_trans hs0 E1.1), hx, hZ, hby, hml, hown, hret, hlk, hnm⟩ E1 ⟨_, A1, r1, r2, r3, r4⟩ X1)
theorem own_eqInt {args : Array Value} {first s : State} {o : Option Outcome} {idx : List Nat} {a : Term} {n : Int32} (h : (Jvm.Cond.eq a (Jvm.Term.int n)).value args first o s idx = some true) : a.eval args first o idx s = some (.int n) := by
  obtain ⟨x, y, h1, h2, h3, -⟩ := cmp_v (Or.inl h)
  rw [Term.int_eval] at h2
  cases h2
  cases x <;> simp [Kin, Value.isRef] at h3
  rename_i z
  have := gotT (P := z = n) (by simp [Cond.value, h1, Term.int_eval]) h
  rw [h1, this]
theorem own_eqRef {args : Array Value} {first s : State} {o : Option Outcome} {idx : List Nat} {a b : Term} {x : Addr} (h : (Jvm.Cond.eq a b).value args first o s idx = some true) (hb' : b.eval args first o idx s = some (.ref x)) : a.eval args first o idx s = some (.ref x) := by
  obtain ⟨u, v, h1, h2, h3, h4⟩ := cmp_v (Or.inl h)
  cases hb'.symm.trans h2
  have hu : u.isRef = true := by cases u <;> simp [Kin, Value.isRef] at h3 ⊢
  have := gotT (eq_R h1 h2 hu rfl) h
  rw [h1, this]
theorem own_len_size {args : Array Value} {s : State} {t : Term} {a : Addr} {n : Int32} {cell : Cell} {ty : FieldType} (h : (Jvm.Cond.eq (Jvm.Term.length t) (Jvm.Term.int n)).value args s none s [] = some true) (ev : t.eval args s none [] s = some (.ref a)) (A : Arr s s.heap a cell ty) : cell.slots.size < 2 ^ 31 ∧ cell.slots.size.toInt32 = n :=
  IntBox.length_fwd (Cond.before_iff.mpr h) ev A.1 A.2.1 A.2.2
theorem own_A_start {args : Array Value} {s : State} {t : Term} {a : Addr} {ty : FieldType} {n : Int32} {vs : List Value} (hf : Fit s) (ev : t.eval args s none [] s = some (.ref a)) (hA : (Jvm.Cond.arrayOf t ty).value args s none s [] = some true) (hL : (Jvm.Cond.eq (Jvm.Term.length t) (Jvm.Term.int n)).value args s none s [] = some true) (hn : n.toNatClampNeg = vs.length)
    (he : ∀ (i : Nat) (v : Value), vs[i]? = some v → (Jvm.Term.elem t (Jvm.Term.int (Int32.ofNat i))).eval args s none [] s = some v) : ∃ kc, own_A s s.heap a kc ty vs := by
  obtain ⟨c, A⟩ := Arr.start ev hA
  obtain ⟨q1, q2⟩ := own_len_size hL ev A
  have hsz : c.slots.size = vs.length := by
    rw [← hn, ← q2]; show _ = (c.slots.size.toInt32.toInt).toNat; rw [len_toInt q1]; rfl
  refine ⟨c.cls, c, A, rfl, ?_, by omega, ?_⟩
  · apply List.ext_getElem?
    intro i
    by_cases hi : i < vs.length
    · have h1 := elem_in (he i _ (List.getElem?_eq_getElem hi)) ev (Term.int_eval _) A.1
      have hj : (Int32.ofNat i).toNatClampNeg = i := by show (Int32.ofNat i).toInt.toNat = i; rw [Int32.toInt_ofNat_small (by omega)]; rfl
      rw [Array.getElem?_toList, List.getElem?_eq_getElem hi]
      rw [hj] at h1; exact h1.2
    · rw [List.getElem?_eq_none (l := c.slots.toList) (by rw [Array.length_toList]; omega), List.getElem?_eq_none (l := vs) (by omega)]
  · intro v hv
    obtain ⟨i, hi, rfl⟩ := List.getElem_of_mem hv
    have h1 := elem_in (he i _ (List.getElem?_eq_getElem hi)) ev (Term.int_eval _) A.1
    exact elem_fits hf A h1.1 h1.2
/-- the Class object of C -/
def own_Mir (Z : State) (C : String) (mr : Addr) : Prop := ∃ (c : ClassId) (k : Class), Z.vm.findClass C = some c ∧ Z.vm.classes[c]? = some k ∧ k.mirror = some mr
theorem own_gcls (X : own_W p l e R s m args below meth c Z n0 y bytes ml ret T h k n) (q : Nat) {i : Nat} {C : String} {a mr : Addr} (hd : decode bytes pc = .ok (.invokevirtual i, 3)) (hq : pc + 3 = q) (w1 : (Jvm.Cond.methodLink y.cls i ⟨"java/lang/Object", "getClass", "()Ljava/lang/Class;"⟩).before a0 Z = true) (w2 : (Jvm.Cond.declares ⟨"java/lang/Object", "getClass", "()Ljava/lang/Class;"⟩).before a0 Z = true) (w3 : (Jvm.Cond.noSuperclass "java/lang/Object").before a0 Z = true) (w4 : (Jvm.Cond.selects C ⟨"java/lang/Object", "getClass", "()Ljava/lang/Class;"⟩ ⟨"java/lang/Object", "getClass", "()Ljava/lang/Class;"⟩).before a0 Z = true)
    (w5 : (Jvm.Cond.instanceMethod ⟨"java/lang/Object", "getClass", "()Ljava/lang/Class;"⟩).before a0 Z = true) (w6 : (Jvm.Cond.native ⟨"java/lang/Object", "getClass", "()Ljava/lang/Class;"⟩).before a0 Z = true) (E : Exa Z h a C) (M : own_Mir Z C mr) (hsz : Ls.size = ml) (hf : 1 ≤ R.frames) (hl : (st.map fun v => v.category).sum + 14 ≤ R.locals)
    (K : ∀ T', own_W p l e R s m args below meth c Z n0 y bytes ml ret T' h k n → own_Ends p e below G (T'.setTop (mkF m q Ls (.ref mr :: st)))) : own_Ends p e below G (T.setTop (mkF m pc Ls (.ref a :: st))) := by
  subst hq
  obtain ⟨⟨locs, Y, N⟩, eT, hs0, hx, hZ, hby, hml, hown, hret, hlk, hnm⟩ := X
  obtain ⟨cB, kB, i1, i2, i3⟩ := isOf hZ eT E
  obtain ⟨cc, kc, m1, m2, m3⟩ := M
  rw [hZ.alike.findClass] at i1
  cases i1.symm.trans m1
  obtain ⟨k', q, ek⟩ := hZ.alike.2.2 _ _ m2
  obtain ⟨vm', Y1, st1⟩ := Y.getClassOf hx hown (mvT hZ w1) (mvT hZ w2) (nf_top (args := #[]) (mvT hZ w3)) (mvT hZ w4) (mvT hZ w5) (mvT hZ w6) (by rw [hZ.alike.findClass]; exact m1) i3 q (by rw [ek]; exact m3) (g := mkF m pc Ls (.ref a :: st)) rfl (hsz.trans hml.symm) rfl (hb hby hd) hf (by show 2 * 0 + _ + (nativeFrameWords "java/lang/Object" "getClass" 1 + 11) ≤ _; rw [show nativeFrameWords "java/lang/Object" "getClass" 1 = 3 from by decide]; omega)
  exact own_pre st1 (K _ ⟨⟨locs, Y1, N⟩, eT, hs0, hx, hZ, hby, hml, hown, hret, hlk, hnm⟩)
theorem own_ldcM (X : own_W p l e R s m args below meth c Z n0 y bytes ml ret T h k n) (q : Nat) {i : Nat} {C : String} {mr : Addr} (hd : decode bytes pc = .ok (.ldc i, 2)) (hq : pc + 2 = q) (w : (Jvm.Cond.classLink y.cls i C).before a0 Z = true) (M : own_Mir Z C mr)
    (K : ∀ T', own_W p l e R s m args below meth c Z n0 y bytes ml ret T' h k n → own_Ends p e below G (T'.setTop (mkF m q Ls (.ref mr :: st)))) : own_Ends p e below G (T.setTop (mkF m pc Ls st)) := by
  subst hq
  obtain ⟨⟨locs, Y, N⟩, eT, hs0, hx, hZ, hby, hml, hown, hret, hlk, hnm⟩ := X
  obtain ⟨cc, kc, m1, m2, m3⟩ := M
  obtain ⟨k', q, ek⟩ := hZ.alike.2.2 _ _ m2
  have hk' : k'.mirror = some mr := by rw [ek]; exact m3
  have hf' : s.vm.findClass C = some cc := by rw [hZ.alike.findClass]; exact m1
  obtain ⟨vm', Y1, st1⟩ := Y.ldcMirror hx hown (mvT hZ w) (a := mr) (by simp [Term.eval, hf', q, hk']) (g := mkF m pc Ls st) rfl (hb hby hd)
  exact own_pre st1 (K _ ⟨⟨locs, Y1, N⟩, eT, hs0, hx, hZ, hby, hml, hown, hret, hlk, hnm⟩)
theorem own_tswIn (X : own_W p l e R s m args below meth c Z n0 y bytes ml ret T h k n) (q : Nat) {dflt low high o : Int} {offs : Array Int} {len : Nat} {x : Int32} (hd : decode bytes pc = .ok (.tableswitch dflt low high offs, len)) (hin : ¬ (x.toInt < low ∨ x.toInt > high)) (hoff : offs[(x.toInt - low).toNat]? = some o) (ho : 0 ≤ (pc : Int) + o) (hq : ((pc : Int) + o).toNat = q) (K : own_Ends p e below G (T.setTop (mkF m q Ls st))) : own_Ends p e below G (T.setTop (mkF m pc Ls (.int x :: st))) := by
  obtain ⟨⟨locs, Y, N⟩, eT, hs0, hx, hZ, hby, hml, hown, hret, hlk, hnm⟩ := X
  exact own_pre (fun t K => XS.tswIn Y.here hx rfl rfl (hb hby hd) rfl hin hoff ho hq K) K
theorem own_tswOut (X : own_W p l e R s m args below meth c Z n0 y bytes ml ret T h k n) (q : Nat) {dflt low high : Int} {offs : Array Int} {len : Nat} {x : Int32} (hd : decode bytes pc = .ok (.tableswitch dflt low high offs, len)) (hout : x.toInt < low ∨ x.toInt > high) (ho : 0 ≤ (pc : Int) + dflt) (hq : ((pc : Int) + dflt).toNat = q) (K : own_Ends p e below G (T.setTop (mkF m q Ls st))) : own_Ends p e below G (T.setTop (mkF m pc Ls (.int x :: st))) := by
  obtain ⟨⟨locs, Y, N⟩, eT, hs0, hx, hZ, hby, hml, hown, hret, hlk, hnm⟩ := X
  exact own_pre (fun t K => XS.tswOut Y.here hx rfl rfl (hb hby hd) rfl hout ho hq K) K
theorem own_initN (X : own_W p l e R s m args below meth c Z n0 y bytes ml ret T h k n) (q : Nat) {y' : MethodName} {bytes' : ByteArray} {ml' : Nat} {rm : Room} {as' : Array Value} {Q : Option Value → Heap → Prop} {i : Nat} {ps : List FieldType} {rr : Option FieldType} {a : Addr} {host : String} (argsL rest : List Value) (hd : decode bytes pc = .ok (.invokespecial i, 3)) (hq : pc + 3 = q) (w1 : (Jvm.Cond.methodLinkNest y.cls i y' host).before a0 Z = true) (w2 : (Jvm.Cond.instanceMethod y').before a0 Z = true) (w3 : (Jvm.Cond.initialized y'.cls).before a0 Z = true) (w4 : (Jvm.Cond.code y' bytes' ml' none).before a0 Z = true) (hy : y'.cls ≠ "java/lang/invoke/MethodHandle" ∧ y'.cls ≠ "java/lang/invoke/VarHandle") (hy1 : y'.name = "<init>")
    (M : own_Met l y' bytes' ml' none rm Z as' h n0 Q) (hkeep : ∀ v h', Q v h' → h.size ≤ h'.size) (has : as' = (.ref a :: argsL).toArray) (hpd : parseMethodDescriptor y'.desc = some ⟨ps, rr⟩) (hlen : argsL.length = ps.length) (hst : st = argsL.reverse ++ .ref a :: rest) (hsz : Ls.size = ml) (hf : rm.frames + 1 ≤ R.frames) (hl : (rest.map fun v => v.category).sum + (ml' + 11) + rm.locals ≤ R.locals) (hck : k + rm.cells ≤ R.cells) (hcn : n + rm.slots ≤ R.slots)
    (K : ∀ v T' h', own_W p l e R s m args below meth c Z n0 y bytes ml ret T' h' (k + rm.cells) (n + rm.slots) → Q v h' → own_Ends p e below G (T'.setTop (mkF m q Ls (v.toList ++ rest)))) : own_Ends p e below G (T.setTop (mkF m pc Ls st)) := by
  subst hq has hst
  obtain ⟨⟨locs, Y, N⟩, eT, hs0, hx, hZ, hby, hml, hown, hret, hlk, hnm⟩ := X
  obtain ⟨v1, _, ⟨T1, L1, k1, n1⟩, -, Y1, ⟨Lc1, hQ1, l1, c1, s1⟩, st1⟩ := Y.specialBackNest hx hy1 hown (Cond.methodLinkNest_wide hZ w1 :) (mvT hZ w2) (mvT hZ w4) hy (backOf (Q := fun v h L => Q v h ∧ Fr n0 L) (W := (rest.map fun v => v.category).sum) (M []) hZ w4 w3 hf (by omega)) (g := mkF m pc Ls (argsL.reverse ++ .ref a :: rest)) rfl (hsz.trans hml.symm) (Steps.refl _) (a := a) (argsL := argsL) (rest := rest) (lenOf hpd hlen) rfl (by show 2 * 0 + _ ≤ _; omega) (hb hby hd) (fun _ _ => ⟨rfl, eT, hck, hcn⟩)
  dsimp only [Pt.U, Pt.locs, Pt.cells, Pt.slots] at Y1 l1 c1 s1 st1 hQ1
  subst l1 c1 s1
  exact own_pre (fun t K => st1.trans K) (K _ _ _ ⟨⟨_, Y1, Fr.app N hQ1.2⟩, rfl, Nat.le_trans hs0 (hkeep _ _ hQ1.1), hx, hZ, hby, hml, hown, hret, hlk, hnm⟩ hQ1.1)
theorem own_A_arv {Z : State} {h : Heap} {a : Addr} {kc : ClassId} {ty : FieldType} {vs : List Value} (F : own_A Z h a kc ty vs) : Arv Z h a kc ty vs.length.toInt32 vs .null ∧ vs.length.toInt32.toNatClampNeg = vs.length := by
  obtain ⟨c, A, r1, r2, r3, r4⟩ := F
  have hz : vs.length.toInt32.toNatClampNeg = vs.length := by show (vs.length.toInt32.toInt).toNat = _; rw [len_toInt r3]; rfl
  have hs : c.slots.size = vs.length := by rw [← r2, Array.length_toList]
  refine ⟨⟨c, A, r1, by rw [hz, hs], ?_, fun i hi => ?_, fun i hi => ?_⟩, hz⟩
  · rw [Int32.lt_iff_toInt_lt, len_toInt r3, show (0 : Int32).toInt = 0 from by decide]; omega
  · rw [hs] at hi
    rw [← Array.getElem?_toList, r2, List.getD_eq_getElem?_getD, List.getElem?_eq_getElem hi]; rfl
  · rw [hs] at hi
    rw [List.getD_eq_getElem?_getD, List.getElem?_eq_getElem hi]; exact r4 _ (List.getElem_mem hi)
theorem own_A_of {Z : State} {h : Heap} {a : Addr} {kc : ClassId} {ty : FieldType} {z : Int32} {vs : List Value} {d : Value} (F : Arv Z h a kc ty z vs d) (hl : z.toNatClampNeg = vs.length) : own_A Z h a kc ty vs := by
  obtain ⟨c, A, r1, r2, r3, r4, r5⟩ := F
  have hs : c.slots.size = vs.length := by rw [r2, hl]
  have h31 : vs.length < 2 ^ 31 := by rw [← hl]; exact (back32 r3).2
  have hL : c.slots.toList = vs := by
    apply List.ext_getElem?
    intro i
    by_cases hi : i < vs.length
    · rw [Array.getElem?_toList, r4 i (by omega), List.getD_eq_getElem?_getD, List.getElem?_eq_getElem hi]; rfl
    · rw [List.getElem?_eq_none (l := c.slots.toList) (by rw [Array.length_toList]; omega), List.getElem?_eq_none (l := vs) (by omega)]
  refine ⟨c, A, r1, hL, h31, fun v hv => ?_⟩
  obtain ⟨i, hi, rfl⟩ := List.getElem_of_mem hv
  have := r5 i (by omega)
  rwa [List.getD_eq_getElem?_getD, List.getElem?_eq_getElem hi] at this
theorem own_cpy (X : own_W p l e R s m args below meth c Z n0 y bytes ml ret T h k n) (q : Nat) {i : Nat} {a b : Addr} {k1 k2 : ClassId} {ty1 ty2 : FieldType} {vs vd : List Value} {sp dp nn : Int32} (sn dn cn : Nat) (us res : List Value) (hd : decode bytes pc = .ok (.invokestatic i, 3)) (hq : pc + 3 = q) (w1 : (Jvm.Cond.methodLink y.cls i Jvm.Stand.acN).before a0 Z = true) (w2 : (Jvm.Cond.native Jvm.Stand.acN).before a0 Z = true) (w3 : (Jvm.Cond.static Jvm.Stand.acN).before a0 Z = true) (w4 : (Jvm.Cond.initialized "java/lang/System").before a0 Z = true)
    (A : own_A Z h a k1 ty1 vs) (B : own_A Z h b k2 ty2 vd) (hty : (ty1 = ty2 ∧ refKind ty1 = false) ∨ (refKind ty1 = true ∧ refKind ty2 = true ∧ StoL Z h b us)) (h1 : sp.toNatClampNeg = sn) (h1' : ¬ sp < 0) (h2 : dp.toNatClampNeg = dn) (h2' : ¬ dp < 0) (h3 : nn.toNatClampNeg = cn) (h3' : ¬ nn < 0) (h4 : sn + cn ≤ vs.length) (h5 : dn + cn ≤ vd.length)
    (hus : us = (List.range cn).map fun i => vs.getD (sn + i) .null) (hres : vd.take dn ++ us ++ vd.drop (dn + cn) = res) (hnew : n0 ≤ b) (hsz : Ls.size = ml) (hf : 1 ≤ R.frames) (hl : (st.map fun v => v.category).sum + 18 ≤ R.locals)
    (K : ∀ T' h', own_W p l e R s m args below meth c Z n0 y bytes ml ret T' h' k n → Keep h h' [b] → own_A Z h' b k2 ty2 res → own_Ends p e below G (T'.setTop (mkF m q Ls st))) : own_Ends p e below G (T.setTop (mkF m pc Ls (.int nn :: .int dp :: .ref b :: .int sp :: .ref a :: st))) := by
  subst hq h1 h2 h3 hres
  obtain ⟨⟨locs, Y, N⟩, eT, hs0, hx, hZ, hby, hml, hown, hret, hlk, hnm⟩ := X
  obtain ⟨A1, A2⟩ := own_A_arv A
  obtain ⟨B1, B2⟩ := own_A_arv B
  obtain ⟨T1, h1, L1, Y1, e1, N1, K1, V1, st1⟩ := cpA Y hx hZ hown w1 w2 w3 w4 eT (us := us) A1 B1 hty h1' h2' h3' (by rw [A2]; exact h4) (by rw [B2]; exact h5) hus h5 N hnew (g := mkF m pc Ls (.int nn :: .int dp :: .ref b :: .int sp :: .ref a :: st)) rfl (hsz.trans hml.symm) rfl (hb hby hd) hf (W := (st.map fun v => v.category).sum) (by show 2 * 0 + _ ≤ _; omega) (by rw [show nativeFrameWords "java/lang/System" "arraycopy" 5 = 7 from by decide]; exact hl)
  exact own_pre st1 (K T1 h1 ⟨⟨L1, Y1, N1⟩, e1, Nat.le_trans hs0 K1.1, hx, hZ, hby, hml, hown, hret, hlk, hnm⟩ K1 (own_A_of V1 (by rw [B2, hus]; simp only [List.length_append, List.length_take, List.length_drop, List.length_map, List.length_range]; omega)))
end OwnKit
section OwnWide
variable {p : Program} {l : Launch} {e : Env} {R : Room} {s : State} {m : MethodId} {args : Array Value} {below : List Frame} {meth : Method} {c : Code} {Z T : State} {n0 ml k n : Nat} {y : MethodName} {bytes : ByteArray} {ret : Option FieldType} {h : Heap} {a0 : Array Value} {G : State → Outcome → Prop} {Ls : Array Slot} {st : List Value} {pc : Nat}
variable {vm0 : Vm} {k0 : Nat}
def own_FinW (s : State) (n0 C S : Nat) (Q : Option Value → Heap → Prop) (s₂ : State) (o : Outcome) : Prop := ∃ v L, o = .returned v ∧ (Q v s₂.heap ∧ Fr n0 L) ∧ ReturnedEndW s o s₂ L C S
def own_MetW (l : Launch) (y : MethodName) (bytes : ByteArray) (ml : Nat) (ret : Option FieldType) (rm : Room) (Z : State) (as' : Array Value) (h : Heap) (n0 : Nat) (Q : Option Value → Heap → Prop) : Prop :=
  ∀ ws, MetFree l y (head1 (Jvm.Cond.code y bytes ml ret :: ws) rm) (fun a U => a = as' ∧ Z.Warmed39 U.vm ∧ U.heap = h) (fun _ _ _ _ _ => True) (fun _ U o U' => ∃ v L, o = .returned v ∧ (Q v U'.heap ∧ Fr n0 L) ∧ ReturnedEndW U o U' L rm.cells rm.slots)
theorem own_metW {rm : Room} {as' : Array Value} {Q : Option Value → Heap → Prop} (hpl : plainFor y = true) (hs0 : n0 ≤ h.size) (hef : ∀ m, entryFrame m as' ml = mkF m 0 Ls [])
    (body : ∀ (p : Program) (e : Env) (s : State) (m : MethodId) (below : List Frame) (meth : Method) (c : Code) (T : State) (vm0 : Vm) (k0 : Nat), own_W p l e rm (s.setVm vm0) m as' below meth c Z n0 y bytes ml ret T h 0 0 → s.Since vm0 k0 → k0 ≤ h.size → own_Ends p e below (own_FinW s n0 rm.cells rm.slots Q) (T.setTop (mkF m 0 Ls []))) :
    own_MetW l y bytes ml ret rm Z as' h n0 Q := by
  intro ws
  refine MetFree.of_bodySF hpl hisR ?_
  intro p e s m args below meth c s₁ Bd hml0 hP hK
  obtain ⟨rfl, hZ, hh⟩ := hP
  obtain ⟨s2, o, h1, h2, h3, h4⟩ := body p e s m below meth c s₁ s.vm 0 ⟨⟨[], Stand.of_body Bd, Fr.nil n0⟩, by rw [← hh, Bd.state]; rfl, hs0, Bd.exec, hZ, Bd.bytes, hml0, findClass_of_methodNamed Bd.named, Bd.returns, Bd.notSynchronized, (name_of_methodNamed Bd.named Bd.method).1⟩ ((State.WarmedH.refl s).since 0) (Nat.zero_le _)
  exact ⟨s2, o, castTop (hef m) h1, h2, h3, h4⟩
theorem own_retIW (X : own_W p l e R (s.setVm vm0) m args below meth c Z n0 y bytes ml ret T h k n) (hS : s.Since vm0 k0) (hk0 : k0 ≤ h.size) {C S : Nat} {Q : Option Value → Heap → Prop} {z : Int32} (hd : decode bytes pc = .ok (.ireturn, 1)) (hr0 : ret = some .int) (hk : k ≤ C) (hn : n ≤ S) (hQ : Q (some (.int z)) h) : own_Ends p e below (own_FinW s n0 C S Q) (T.setTop (mkF m pc Ls (.int z :: st))) := by
  obtain ⟨⟨locs, Y, N⟩, eT, hs0, hx, hZ, hby, hml, hown, hret, hlk, hnm⟩ := X
  obtain ⟨fs, hr, hrun, hended, hW⟩ := Y.leaveW hS (by rw [eT]; exact hk0) (v := some (.int z)) (fun q => by rw [hret, hr0] at q; cases q) hlk
  exact ⟨_, _, own_retI0 Y hx (hret.trans hr0) (hb hby hd) hr, hrun, hended, _, _, rfl, ⟨by show Q _ T.heap; rw [eT]; exact hQ, N⟩, hW.1, hW.2.1, hW.2.2.1, hW.2.2.2.mono hk hn⟩
theorem own_retNW (X : own_W p l e R (s.setVm vm0) m args below meth c Z n0 y bytes ml ret T h k n) (hS : s.Since vm0 k0) (hk0 : k0 ≤ h.size) {C S : Nat} {Q : Option Value → Heap → Prop} {z : Int32} (t : FieldType) (hd : decode bytes pc = .ok (.ireturn, 1)) (hr0 : ret = some t) (ht : t = .boolean ∨ t = .byte ∨ t = .char ∨ t = .short) (hk : k ≤ C) (hn : n ≤ S) (hQ : Q (some (.int (nar t z))) h) : own_Ends p e below (own_FinW s n0 C S Q) (T.setTop (mkF m pc Ls (.int z :: st))) := by
  obtain ⟨⟨locs, Y, N⟩, eT, hs0, hx, hZ, hby, hml, hown, hret, hlk, hnm⟩ := X
  obtain ⟨fs, hr, hrun, hended, hW⟩ := Y.leaveW hS (by rw [eT]; exact hk0) (v := some (.int (nar t z))) (fun q => by rw [hret, hr0] at q; cases q) hlk
  exact ⟨_, _, retN Y hx (hret.trans hr0) ht (hb hby hd) hr, hrun, hended, _, _, rfl, ⟨by show Q _ T.heap; rw [eT]; exact hQ, N⟩, hW.1, hW.2.1, hW.2.2.1, hW.2.2.2.mono hk hn⟩
theorem own_retJW (X : own_W p l e R (s.setVm vm0) m args below meth c Z n0 y bytes ml ret T h k n) (hS : s.Since vm0 k0) (hk0 : k0 ≤ h.size) {C S : Nat} {Q : Option Value → Heap → Prop} {z : Int64} (hd : decode bytes pc = .ok (.lreturn, 1)) (hr0 : ret = some .long) (hk : k ≤ C) (hn : n ≤ S) (hQ : Q (some (.long z)) h) : own_Ends p e below (own_FinW s n0 C S Q) (T.setTop (mkF m pc Ls (.long z :: st))) := by
  obtain ⟨⟨locs, Y, N⟩, eT, hs0, hx, hZ, hby, hml, hown, hret, hlk, hnm⟩ := X
  obtain ⟨fs, hr, hrun, hended, hW⟩ := Y.leaveW hS (by rw [eT]; exact hk0) (v := some (.long z)) (fun q => by rw [hret, hr0] at q; cases q) hlk
  exact ⟨_, _, retOut Y hx (hret.trans hr0) rfl (Or.inr (Or.inl ⟨rfl, rfl, z, rfl⟩)) (hb hby hd) hr, hrun, hended, _, _, rfl, ⟨by show Q _ T.heap; rw [eT]; exact hQ, N⟩, hW.1, hW.2.1, hW.2.2.1, hW.2.2.2.mono hk hn⟩
theorem own_retAW (X : own_W p l e R (s.setVm vm0) m args below meth c Z n0 y bytes ml ret T h k n) (hS : s.Since vm0 k0) (hk0 : k0 ≤ h.size) {C S : Nat} {Q : Option Value → Heap → Prop} {z : Value} (t : FieldType) (hd : decode bytes pc = .ok (.areturn, 1)) (hr0 : ret = some t) (ht : t.isReference = true) (hz : z.isRef = true) (hnz : narrow t z = z) (hk : k ≤ C) (hn : n ≤ S) (hQ : Q (some z) h) : own_Ends p e below (own_FinW s n0 C S Q) (T.setTop (mkF m pc Ls (z :: st))) := by
  obtain ⟨⟨locs, Y, N⟩, eT, hs0, hx, hZ, hby, hml, hown, hret, hlk, hnm⟩ := X
  obtain ⟨fs, hr, hrun, hended, hW⟩ := Y.leaveW hS (by rw [eT]; exact hk0) (v := some z) (fun q => by rw [hret, hr0] at q; cases q) hlk
  exact ⟨_, _, retOut Y hx (hret.trans hr0) hnz (Or.inr (Or.inr (Or.inr (Or.inr ⟨rfl, ht, hz⟩)))) (hb hby hd) hr, hrun, hended, _, _, rfl, ⟨by show Q _ T.heap; rw [eT]; exact hQ, N⟩, hW.1, hW.2.1, hW.2.2.1, hW.2.2.2.mono hk hn⟩
theorem own_retVW (X : own_W p l e R (s.setVm vm0) m args below meth c Z n0 y bytes ml ret T h k n) (hS : s.Since vm0 k0) (hk0 : k0 ≤ h.size) {C S : Nat} {Q : Option Value → Heap → Prop} (hd : decode bytes pc = .ok (.return_, 1)) (hr0 : ret = none) (hk : k ≤ C) (hn : n ≤ S) (hQ : Q none h) : own_Ends p e below (own_FinW s n0 C S Q) (T.setTop (mkF m pc Ls [])) := by
  obtain ⟨⟨locs, Y, N⟩, eT, hs0, hx, hZ, hby, hml, hown, hret, hlk, hnm⟩ := X
  obtain ⟨fs, hr, hrun, hended, hW⟩ := Y.leaveW hS (by rw [eT]; exact hk0) (v := none) (fun _ => rfl) hlk
  exact ⟨_, _, Y.returnOut hx (hret.trans hr0) (hb hby hd) hr, hrun, hended, _, _, rfl, ⟨by show Q _ T.heap; rw [eT]; exact hQ, N⟩, hW.1, hW.2.1, hW.2.2.1, hW.2.2.2.mono hk hn⟩
theorem own_ldcS (X : own_W p l e R (s.setVm vm0) m args below meth c Z n0 y bytes ml ret T h k n) (hS : s.Since vm0 k0) (hk0 : k0 ≤ h.size) (q : Nat) {i : Nat} {text : String} (nn : Nat) (hd : decode bytes pc = .ok (.ldc i, 2)) (hq : pc + 2 = q) (w : (Jvm.Cond.stringLink y.cls i text).before a0 Z = true) (wS : ∀ a ∈ Bundle.stringAtoms, a.before a0 Z = true) (hnn : 4 * text.toList.length ≤ nn) (hbig : nn ≤ 536870912) (hc : k + 2 ≤ R.cells) (hl : n + (nn + 4) ≤ R.slots)
    (K : ∀ a T' h' vm1 k1, own_W p l e R (s.setVm vm1) m args below meth c Z n0 y bytes ml ret T' h' (k + 2) (n + (nn + 4)) → Ext h h' → s.Since vm1 k1 → k1 ≤ h'.size → own_Ends p e below G (T'.setTop (mkF m q Ls (.ref a :: st)))) : own_Ends p e below G (T.setTop (mkF m pc Ls st)) := by
  subst hq
  obtain ⟨⟨locs, Y, N⟩, eT, hs0, hx, hZ, hby, hml, hown, hret, hlk, hnm⟩ := X
  obtain ⟨a, T1, h1, k1, Y1, e1, E1, hS1, hk1, hZ1, ho1, st1⟩ := ldcS Y hx hZ hown w wS eT hS hk0 (g := mkF m pc Ls st) rfl (hb hby hd) hnn hbig hc hl
  exact own_pre st1 (K a T1 h1 T1.vm k1 ⟨⟨_, Y1, N⟩, e1, Nat.le_trans hs0 E1.1, hx, hZ1, hby, hml, ho1, hret, hlk, hnm⟩ E1 hS1 hk1)
theorem own_callSW (X : own_W p l e R (s.setVm vm0) m args below meth c Z n0 y bytes ml ret T h k n) (hS : s.Since vm0 k0) (hk0 : k0 ≤ h.size) (q : Nat) {y' : MethodName} {bytes' : ByteArray} {ml' : Nat} {ret' : Option FieldType} {rm : Room} {as' : Array Value} {Q : Option Value → Heap → Prop} {i : Nat} {ps : List FieldType} {rr : Option FieldType} (argsL rest : List Value) (hd : decode bytes pc = .ok (.invokestatic i, 3)) (hq : pc + 3 = q) (w1 : (Jvm.Cond.methodLink y.cls i y').before a0 Z = true) (w2 : (Jvm.Cond.static y').before a0 Z = true) (w3 : (Jvm.Cond.initialized y'.cls).before a0 Z = true) (w4 : (Jvm.Cond.code y' bytes' ml' ret').before a0 Z = true) (hy : y'.cls ≠ "java/lang/invoke/MethodHandle" ∧ y'.cls ≠ "java/lang/invoke/VarHandle")
    (M : own_MetW l y' bytes' ml' ret' rm Z as' h n0 Q) (has : as' = argsL.toArray) (hpd : parseMethodDescriptor y'.desc = some ⟨ps, rr⟩) (hlen : argsL.length = ps.length) (hst : st = argsL.reverse ++ rest) (hsz : Ls.size = ml) (hf : rm.frames + 1 ≤ R.frames) (hl : (rest.map fun v => v.category).sum + (ml' + 11) + rm.locals ≤ R.locals) (hck : k + rm.cells ≤ R.cells) (hcn : n + rm.slots ≤ R.slots)
    (K : ∀ v T' h' vm1 k1, own_W p l e R (s.setVm vm1) m args below meth c Z n0 y bytes ml ret T' h' (k + rm.cells) (n + rm.slots) → s.Since vm1 k1 → k1 ≤ h'.size → Q v h' → own_Ends p e below G (T'.setTop (mkF m q Ls (v.toList ++ rest)))) : own_Ends p e below G (T.setTop (mkF m pc Ls st)) := by
  subst hq has hst
  obtain ⟨⟨locs, Y, N⟩, eT, hs0, hx, hZ, hby, hml, hown, hret, hlk, hnm⟩ := X
  obtain ⟨v1, _, ⟨T1, L1, k1, n1⟩, -, Y1, hS1, hg1, ⟨Lc1, hQ1, l1, c1, s1⟩, st1⟩ := callSS Y hx hown (mvT hZ w1) (mvT hZ w2) (mvT hZ w3) (mvT hZ w4) hy (backOfS (Q := fun v h L => Q v h ∧ Fr n0 L) (W := (rest.map fun v => v.category).sum) (M []) hZ w4 w3 hf (by omega)) (g := mkF m pc Ls (argsL.reverse ++ rest)) rfl (hsz.trans hml.symm) (argsL := argsL) (rest := rest) (lenOf hpd hlen) rfl (by show 2 * 0 + _ ≤ _; omega) (hb hby hd) (fun _ _ => ⟨rfl, eT, hck, hcn⟩)
  dsimp only [Pt.U, Pt.locs, Pt.cells, Pt.slots] at Y1 l1 c1 s1 st1 hQ1 hS1 hg1
  subst l1 c1 s1
  have hS2 := foldS (T := T) hS (by rw [eT]; exact hk0) hS1 hg1
  refine own_pre (fun t K => st1.trans K) (K _ _ _ T1.vm _ ⟨⟨_, Y1, Fr.app N hQ1.2⟩, rfl, ?_, hx, State.Warmed39.trans (t := s.setVm vm0) hZ hS1.1, hby, hml, ?_, hret, hlk, hnm⟩ hS2 (Nat.le_refl _) hQ1.1)
  · rw [eT] at hg1; exact Nat.le_trans hs0 hg1
  · show T1.vm.findClass _ = _
    rw [hS1.1.alike.findClass]; exact hown
theorem own_initW (X : own_W p l e R (s.setVm vm0) m args below meth c Z n0 y bytes ml ret T h k n) (hS : s.Since vm0 k0) (hk0 : k0 ≤ h.size) (q : Nat) {y' : MethodName} {bytes' : ByteArray} {ml' : Nat} {rm : Room} {as' : Array Value} {Q : Option Value → Heap → Prop} {i : Nat} {ps : List FieldType} {rr : Option FieldType} {a : Addr} (argsL rest : List Value) (hd : decode bytes pc = .ok (.invokespecial i, 3)) (hq : pc + 3 = q) (w1 : (Jvm.Cond.methodLink y.cls i y').before a0 Z = true) (w2 : (Jvm.Cond.instanceMethod y').before a0 Z = true) (w3 : (Jvm.Cond.initialized y'.cls).before a0 Z = true) (w4 : (Jvm.Cond.code y' bytes' ml' none).before a0 Z = true) (hy : y'.cls ≠ "java/lang/invoke/MethodHandle" ∧ y'.cls ≠ "java/lang/invoke/VarHandle") (hy1 : y'.name = "<init>")
    (M : own_MetW l y' bytes' ml' none rm Z as' h n0 Q) (has : as' = (.ref a :: argsL).toArray) (hpd : parseMethodDescriptor y'.desc = some ⟨ps, rr⟩) (hlen : argsL.length = ps.length) (hst : st = argsL.reverse ++ .ref a :: rest) (hsz : Ls.size = ml) (hf : rm.frames + 1 ≤ R.frames) (hl : (rest.map fun v => v.category).sum + (ml' + 11) + rm.locals ≤ R.locals) (hck : k + rm.cells ≤ R.cells) (hcn : n + rm.slots ≤ R.slots)
    (K : ∀ v T' h' vm1 k1, own_W p l e R (s.setVm vm1) m args below meth c Z n0 y bytes ml ret T' h' (k + rm.cells) (n + rm.slots) → s.Since vm1 k1 → k1 ≤ h'.size → Q v h' → own_Ends p e below G (T'.setTop (mkF m q Ls (v.toList ++ rest)))) : own_Ends p e below G (T.setTop (mkF m pc Ls st)) := by
  subst hq has hst
  obtain ⟨⟨locs, Y, N⟩, eT, hs0, hx, hZ, hby, hml, hown, hret, hlk, hnm⟩ := X
  obtain ⟨v1, _, ⟨T1, L1, k1, n1⟩, -, Y1, hS1, hg1, ⟨Lc1, hQ1, l1, c1, s1⟩, st1⟩ := Y.specialBackS hx hy1 hown (mvT hZ w1) (mvT hZ w2) (mvT hZ w4) hy (backOfS (Q := fun v h L => Q v h ∧ Fr n0 L) (W := (rest.map fun v => v.category).sum) (M []) hZ w4 w3 hf (by omega)) (g := mkF m pc Ls (argsL.reverse ++ .ref a :: rest)) rfl (hsz.trans hml.symm) (Steps.refl _) (a := a) (argsL := argsL) (rest := rest) (lenOf hpd hlen) rfl (by show 2 * 0 + _ ≤ _; omega) (hb hby hd) (fun _ _ => ⟨rfl, eT, hck, hcn⟩)
  dsimp only [Pt.U, Pt.locs, Pt.cells, Pt.slots] at Y1 l1 c1 s1 st1 hQ1 hS1 hg1
  subst l1 c1 s1
  have hS2 := foldS (T := T) hS (by rw [eT]; exact hk0) hS1 hg1
  refine own_pre (fun t K => st1.trans K) (K _ _ _ T1.vm _ ⟨⟨_, Y1, Fr.app N hQ1.2⟩, rfl, ?_, hx, State.Warmed39.trans (t := s.setVm vm0) hZ hS1.1, hby, hml, ?_, hret, hlk, hnm⟩ hS2 (Nat.le_refl _) hQ1.1)
  · rw [eT] at hg1; exact Nat.le_trans hs0 hg1
  · show T1.vm.findClass _ = _
    rw [hS1.1.alike.findClass]; exact hown
def own_MetL (l : Launch) (y : MethodName) (bytes : ByteArray) (ml : Nat) (ret : Option FieldType) (rm : Room) (Z : State) (as' : Array Value) (h : Heap) (n0 : Nat) (Q : Option Value → Heap → Prop) : Prop :=
  ∀ ws, MetFree l y (head1 (Jvm.Cond.code y bytes ml ret :: ws) rm) (fun a U => a = as' ∧ U = Z) (fun _ _ _ _ _ => True) (fun _ U o U' => ∃ v L, o = .returned v ∧ (Q v U'.heap ∧ Fr n0 L) ∧ ReturnedEndW U o U' L rm.cells rm.slots)
theorem own_metL {rm : Room} {as' : Array Value} {Q : Option Value → Heap → Prop} (hpl : plainFor y = true) (hH0 : h = Z.heap) (hN0 : n0 = Z.heap.size) (hef : ∀ m, entryFrame m as' ml = mkF m 0 Ls [])
    (body : ∀ (p : Program) (e : Env) (s : State) (m : MethodId) (below : List Frame) (meth : Method) (c : Code) (T : State) (vm0 : Vm) (k0 : Nat), own_W p l e rm (s.setVm vm0) m as' below meth c Z n0 y bytes ml ret T h 0 0 → s.Since vm0 k0 → k0 ≤ h.size → s.heap = Z.heap → IB Z vm0 [] → own_Ends p e below (own_FinW s n0 rm.cells rm.slots Q) (T.setTop (mkF m 0 Ls []))) :
    own_MetL l y bytes ml ret rm Z as' h n0 Q := by
  intro ws
  refine MetFree.of_bodySF hpl hisR ?_
  intro p e s m args below meth c s₁ Bd hml0 hP hK
  obtain ⟨rfl, rfl⟩ := hP
  obtain ⟨s2, o, h1, h2, h3, h4⟩ := body p e s m below meth c s₁ s.vm 0 ⟨⟨[], Stand.of_body Bd, Fr.nil n0⟩, by rw [hH0, Bd.state]; rfl, by rw [hH0, hN0]; exact Nat.le_refl _, Bd.exec, State.Warmed39.refl s, Bd.bytes, hml0, findClass_of_methodNamed Bd.named, Bd.returns, Bd.notSynchronized, (name_of_methodNamed Bd.named Bd.method).1⟩ ((State.WarmedH.refl s).since 0) (Nat.zero_le _) rfl IB.start
  exact ⟨s2, o, castTop (hef m) h1, h2, h3, h4⟩
theorem own_ldcSV (X : own_W p l e R (s.setVm vm0) m args below meth c Z n0 y bytes ml ret T h k n) (hS : s.Since vm0 k0) (hk0 : k0 ≤ h.size) (q : Nat) {i : Nat} {text : String} {Ts : List String} (vs : List Value) (z : Int32) (nn : Nat) (hd : decode bytes pc = .ok (.ldc i, 2)) (hq : pc + 2 = q) (w : (Jvm.Cond.stringLink y.cls i text).before a0 Z = true) (wS : ∀ a ∈ Bundle.stringAtoms, a.before a0 Z = true) (hhp : s.heap = Z.heap) (hN0 : n0 = Z.heap.size) (I : IB Z vm0 Ts) (hnot : text ∉ Ts) (hh : Jvm.Lit.constHeld Z y.cls i) (hcw : Jvm.Lit.compactW.before a0 Z = true)
    (ht : (∀ c ∈ text.toList, c.toNat < 256) ∧ text.toList.map (fun c => Value.int (Jvm.Lit.byteI c.toNat.toUInt16)) = vs) (hz : ¬ z < 0) (hlz : z.toNatClampNeg = vs.length) (hnn : 4 * text.toList.length ≤ nn) (hbig : nn ≤ 536870912) (hc : k + 2 ≤ R.cells) (hl : n + (nn + 4) ≤ R.slots)
    (K : ∀ a b kc T' h' vm1 k1, own_W p l e R (s.setVm vm1) m args below meth c Z n0 y bytes ml ret T' h' (k + 2) (n + (nn + 4)) → Ext h h' → s.Since vm1 k1 → k1 ≤ h'.size → (s.setVm vm0).Warmed39 vm1 → Exa Z h' a "java/lang/String" → Fld Z h' a "java/lang/String" "coder" "B" (.int 0) → Fld Z h' a "java/lang/String" "value" "[B" (.ref b) → own_A Z h' b kc .byte vs → IB Z vm1 (text :: Ts) → Lit (s.setVm vm1) y.cls i a → own_Ends p e below G (T'.setTop (mkF m q Ls (.ref a :: st)))) : own_Ends p e below G (T.setTop (mkF m pc Ls st)) := by
  subst hq
  obtain ⟨⟨locs, Y, N⟩, eT, hs0, hx, hZ, hby, hml, hown, hret, hlk, hnm⟩ := X
  have N' : Fr (s.setVm vm0).heap.size locs := by show Fr s.heap.size locs; rw [hhp, ← hN0]; exact N
  obtain ⟨a, T1, h1, k1, b, kc, Y1, e1, E1, hS1, hk1, hZ1, ho1, r1, r2, r3, r4, r5, r6, r7, r8, st1⟩ := ldcSVL (s := s.setVm vm0) (vm0 := vm0) Y hx hZ hown w wS eT ((State.WarmedH.refl (s.setVm vm0)).since 0) (Nat.zero_le _) N' (fun b cl hb => by show s.heap[b]? = _; rw [hhp]; exact hb) I hnot hh hcw ht hz hlz (g := mkF m pc Ls st) rfl (hb hby hd) hnn hbig hc hl
  exact own_pre st1 (K a b kc T1 h1 T1.vm h1.size ⟨⟨_, Y1, N⟩, e1, Nat.le_trans hs0 E1.1, hx, hZ1, hby, hml, ho1, hret, hlk, hnm⟩ E1 (hS.trans ⟨hS1.1, fun j p hj hp => ⟨(hS1.2 j p hj hp).1, Nat.lt_of_lt_of_le (hS1.2 j p hj hp).2 hk1⟩⟩ (Nat.le_trans hk0 E1.1)) (Nat.le_refl _) hS1.1 r1 r2 r3 (own_A_of r4 hlz) r7 r8)
theorem own_ldcAgain (X : own_W p l e R (s.setVm vm0) m args below meth c Z n0 y bytes ml ret T h k n) (q : Nat) {i : Nat} {text : String} {a : Addr} (hd : decode bytes pc = .ok (.ldc i, 2)) (hq : pc + 2 = q) (w : (Jvm.Cond.stringLink y.cls i text).before a0 Z = true) (L : Lit (s.setVm vm0) y.cls i a)
    (K : own_Ends p e below G (T.setTop (mkF m q Ls (.ref a :: st)))) : own_Ends p e below G (T.setTop (mkF m pc Ls st)) := by
  subst hq
  obtain ⟨⟨locs, Y, N⟩, eT, hs0, hx, hZ, hby, hml, hown, hret, hlk, hnm⟩ := X
  exact own_pre (fun t K => ldcAgain Y hx hZ hown w L (g := mkF m pc Ls st) rfl (hb hby hd) t K) K
end OwnWide
theorem own_mod6 (x : Int32) : (x &&& 2147483647) % 6 = 0 ∨ (x &&& 2147483647) % 6 = 1 ∨ (x &&& 2147483647) % 6 = 2 ∨ (x &&& 2147483647) % 6 = 3 ∨ (x &&& 2147483647) % 6 = 4 ∨ (x &&& 2147483647) % 6 = 5 := by
  have h0 : (0 : Int) ≤ (x &&& 2147483647).toInt := by
    have hb : (x.toBitVec &&& 2147483647#32).toNat = x.toBitVec.toNat % 2 ^ 31 := by rw [BitVec.toNat_and]; exact Nat.and_two_pow_sub_one_eq_mod x.toBitVec.toNat 31
    show (0 : Int) ≤ (x.toBitVec &&& 2147483647#32).toInt
    rw [BitVec.toInt_eq_toNat_of_lt (by rw [hb]; omega)]
    omega
  have h1 : ((x &&& 2147483647) % 6).toInt = (x &&& 2147483647).toInt % 6 := by
    rw [Int32.toInt_mod, show (6 : Int32).toInt = 6 from by decide, Int.tmod_eq_emod_of_nonneg h0]
  have h2 : ∀ k : Int, ((x &&& 2147483647) % 6).toInt = k → ∀ z : Int32, z.toInt = k → (x &&& 2147483647) % 6 = z := fun k q z qz => Int32.toInt_inj.mp (q.trans qz.symm)
  have h3 : (x &&& 2147483647).toInt % 6 = 0 ∨ (x &&& 2147483647).toInt % 6 = 1 ∨ (x &&& 2147483647).toInt % 6 = 2 ∨ (x &&& 2147483647).toInt % 6 = 3 ∨ (x &&& 2147483647).toInt % 6 = 4 ∨ (x &&& 2147483647).toInt % 6 = 5 := by omega
  rcases h3 with q | q | q | q | q | q
  · exact Or.inl (h2 0 (h1.trans q) 0 (by decide))
  · exact Or.inr (Or.inl (h2 1 (h1.trans q) 1 (by decide)))
  · exact Or.inr (Or.inr (Or.inl (h2 2 (h1.trans q) 2 (by decide))))
  · exact Or.inr (Or.inr (Or.inr (Or.inl (h2 3 (h1.trans q) 3 (by decide)))))
  · exact Or.inr (Or.inr (Or.inr (Or.inr (Or.inl (h2 4 (h1.trans q) 4 (by decide))))))
  · exact Or.inr (Or.inr (Or.inr (Or.inr (Or.inr (h2 5 (h1.trans q) 5 (by decide))))))
def own_min (x y : Int32) : Int32 := if y < x then y else x
def own_ob (pa pb ii : Int32) : Int32 := nar .byte (if ii < 4 then (XT.ushr pa (8 * ii)).toInt8.toInt32 else pb.toInt8.toInt32)
theorem own_nar_byte (x : Int32) : nar .byte (nar .byte x) = nar .byte x := by
  show (x.toInt8.toInt32).toInt8.toInt32 = x.toInt8.toInt32
  rw [Int8.toInt8_toInt32]
theorem own_ob_nar (pa pb ii : Int32) : nar .byte (own_ob pa pb ii) = own_ob pa pb ii := own_nar_byte _
def own_c1 (u : Int32) : Int32 := nar .char ((u &&& 255).toUInt32.toUInt16.toUInt32.toInt32)
def own_c2 (u : Int32) : Int32 := nar .char (own_c1 u)
theorem own_tx_24 : (∀ c ∈ "".toList, c.toNat < 256) ∧ "".toList.map (fun c => Value.int (Jvm.Lit.byteI c.toNat.toUInt16)) = [] := ⟨by decide +kernel, by first | rfl | decide +kernel⟩
theorem own_tx_30 : (∀ c ∈ ":holds".toList, c.toNat < 256) ∧ ":holds".toList.map (fun c => Value.int (Jvm.Lit.byteI c.toNat.toUInt16)) = [(.int 58), (.int 104), (.int 111), (.int 108), (.int 100), (.int 115)] := ⟨by decide +kernel, by first | rfl | decide +kernel⟩
theorem own_tx_32 : (∀ c ∈ ":waiting".toList, c.toNat < 256) ∧ ":waiting".toList.map (fun c => Value.int (Jvm.Lit.byteI c.toNat.toUInt16)) = [(.int 58), (.int 119), (.int 97), (.int 105), (.int 116), (.int 105), (.int 110), (.int 103)] := ⟨by decide +kernel, by first | rfl | decide +kernel⟩
theorem own_d2_0 : decode method_4_code 0 = .ok (.iload_n 2, 1) := by decide +kernel
theorem own_d2_1 : decode method_4_code 1 = .ok (.iconst 4, 1) := by decide +kernel
theorem own_d2_2 : decode method_4_code 2 = .ok (.if_icmp .ge 11, 3) := by decide +kernel
theorem own_d2_5 : decode method_4_code 5 = .ok (.iload_n 0, 1) := by decide +kernel
theorem own_d2_6 : decode method_4_code 6 = .ok (.bipush 8, 2) := by decide +kernel
theorem own_d2_8 : decode method_4_code 8 = .ok (.iload_n 2, 1) := by decide +kernel
theorem own_d2_9 : decode method_4_code 9 = .ok (.imul, 1) := by decide +kernel
theorem own_d2_10 : decode method_4_code 10 = .ok (.iushr, 1) := by decide +kernel
theorem own_d2_11 : decode method_4_code 11 = .ok (.i2b, 1) := by decide +kernel
theorem own_d2_12 : decode method_4_code 12 = .ok (.ireturn, 1) := by decide +kernel
theorem own_d2_13 : decode method_4_code 13 = .ok (.iload_n 1, 1) := by decide +kernel
theorem own_d2_14 : decode method_4_code 14 = .ok (.i2b, 1) := by decide +kernel
theorem own_d2_15 : decode method_4_code 15 = .ok (.ireturn, 1) := by decide +kernel
theorem own_pn2 : plainFor (⟨"com/example/latchkey/latchkey/LockKeysHolderFieldsPinLaw", "ownerByte", "(III)B"⟩ : MethodName) = true := plainFor_of_name (by first | (simp [plainName, overriddenIn]; done) | decide +kernel)
set_option maxRecDepth 65536 in
set_option maxHeartbeats 40000000 in
theorem own_obm (l : Launch) (Z : State) (a0 : Array Value) (hw : ∀ d ∈ tables_1, d.before a0 Z = true) (pa : Int32) (pb : Int32) (ii : Int32) (h0 : Heap) (n0 : Nat) (hs0 : n0 ≤ h0.size) :
    own_Met l (⟨"com/example/latchkey/latchkey/LockKeysHolderFieldsPinLaw", "ownerByte", "(III)B"⟩ : MethodName) method_4_code 3 (some .byte) ({ frames := 0, cells := 0, slots := 0, locals := 0 } : Room) Z #[(.int pa), (.int pb), (.int ii)] h0 n0 (fun v h' => h' = h0 ∧ v = some (.int (own_ob pa pb ii))) := by
  refine own_met (Ls := #[.val (.int pa), .val (.int pb), .val (.int ii)]) own_pn2 hs0 (fun m => by first  | (simp [entryFrame, mkF, argsToLocals, Value.category]; done) | rfl) ?_
  intro p e s m below meth c T X
  refine own_iloadN X 1 ii own_d2_0 rfl rfl ?_
  refine own_iconst X 2 (4 : Int32) own_d2_1 rfl rfl ?_
  by_cases hc2 : ii < (4 : Int32)
  · refine own_icN X 5 own_d2_2 rfl (XT.ii_ge_f hc2) ?_
    refine own_iloadN X 6 pa own_d2_5 rfl rfl ?_
    refine own_bipush X 8 (8 : Int32) own_d2_6 rfl (by decide) ?_
    refine own_iloadN X 9 ii own_d2_8 rfl rfl ?_
    refine own_imul X 10 own_d2_9 rfl ?_
    refine own_iushr X 11 own_d2_10 rfl ?_
    refine own_i2b X 12 own_d2_11 rfl ?_
    exact own_retN X .byte own_d2_12 rfl (by simp) (by decide) (by decide) (⟨rfl, by unfold own_ob; rw [if_pos hc2]⟩)
  · refine own_icY X 13 own_d2_2 (by decide) (by decide) (XT.ii_ge_t hc2) ?_
    refine own_iloadN X 14 pb own_d2_13 rfl rfl ?_
    refine own_i2b X 15 own_d2_14 rfl ?_
    exact own_retN X .byte own_d2_15 rfl (by simp) (by decide) (by decide) (⟨rfl, by unfold own_ob; rw [if_neg hc2]⟩)
theorem own_d6_0 : decode jdk_29_method_69_code 0 = .ok (.iload_n 0, 1) := by decide +kernel
theorem own_d6_1 : decode jdk_29_method_69_code 1 = .ok (.iload_n 1, 1) := by decide +kernel
theorem own_d6_2 : decode jdk_29_method_69_code 2 = .ok (.if_icmp .gt 7, 3) := by decide +kernel
theorem own_d6_9 : decode jdk_29_method_69_code 9 = .ok (.iload_n 1, 1) := by decide +kernel
theorem own_d6_10 : decode jdk_29_method_69_code 10 = .ok (.ireturn, 1) := by decide +kernel
theorem own_d6_5 : decode jdk_29_method_69_code 5 = .ok (.iload_n 0, 1) := by decide +kernel
theorem own_d6_6 : decode jdk_29_method_69_code 6 = .ok (.goto 4, 3) := by decide +kernel
theorem own_pn6 : plainFor (⟨"java/lang/Math", "min", "(II)I"⟩ : MethodName) = true := Jvm.Free.JP.mathPlain rfl (by decide +kernel)
set_option maxRecDepth 65536 in
set_option maxHeartbeats 40000000 in
theorem own_mmin (l : Launch) (Z : State) (a0 : Array Value) (hw : ∀ d ∈ tables_1, d.before a0 Z = true) (x : Int32) (y : Int32) (h0 : Heap) (n0 : Nat) (hs0 : n0 ≤ h0.size) :
    own_Met l (⟨"java/lang/Math", "min", "(II)I"⟩ : MethodName) jdk_29_method_69_code 2 (some .int) ({ frames := 0, cells := 0, slots := 0, locals := 0 } : Room) Z #[(.int x), (.int y)] h0 n0 (fun v h' => h' = h0 ∧ v = some (.int (own_min x y))) := by
  refine own_met (Ls := #[.val (.int x), .val (.int y)]) own_pn6 hs0 (fun m => by first  | (simp [entryFrame, mkF, argsToLocals, Value.category]; done) | rfl) ?_
  intro p e s m below meth c T X
  refine own_iloadN X 1 x own_d6_0 rfl rfl ?_
  refine own_iloadN X 2 y own_d6_1 rfl rfl ?_
  by_cases hc2 : y < x
  · refine own_icY X 9 own_d6_2 (by decide) (by decide) (XT.ii_gt_t hc2) ?_
    refine own_iloadN X 10 y own_d6_9 rfl rfl ?_
    exact own_retI X own_d6_10 rfl (by decide) (by decide) (⟨rfl, by simp [own_min, *]⟩)
  · refine own_icN X 5 own_d6_2 rfl (XT.ii_gt_f hc2) ?_
    refine own_iloadN X 6 x own_d6_5 rfl rfl ?_
    refine own_goto X 10 own_d6_6 (by decide) (by decide) ?_
    exact own_retI X own_d6_10 rfl (by decide) (by decide) (⟨rfl, by simp [own_min, *]⟩)
theorem own_d1_0 : decode method_3_code 0 = .ok (.iload_n 0, 1) := by decide +kernel
theorem own_d1_1 : decode method_3_code 1 = .ok (.ifCond .ne 7, 3) := by decide +kernel
theorem own_d1_4 : decode method_3_code 4 = .ok (.iconst 0, 1) := by decide +kernel
theorem own_d1_5 : decode method_3_code 5 = .ok (.newarray .byte, 2) := by decide +kernel
theorem own_d1_7 : decode method_3_code 7 = .ok (.areturn, 1) := by decide +kernel
theorem own_pn1 : plainFor (⟨"com/example/latchkey/latchkey/LockKeysHolderFieldsPinLaw", "make", "(I)[B"⟩ : MethodName) = true := plainFor_of_name (by first | (simp [plainName, overriddenIn]; done) | decide +kernel)
set_option maxRecDepth 65536 in
set_option maxHeartbeats 40000000 in
theorem own_make0 (l : Launch) (Z : State) (a0 : Array Value) (hw : ∀ d ∈ tables_1, d.before a0 Z = true) (nn : Int32) (h0 : Heap) (n0 : Nat) (hs0 : n0 ≤ h0.size) (hn : nn = 0) :
    own_Met l (⟨"com/example/latchkey/latchkey/LockKeysHolderFieldsPinLaw", "make", "(I)[B"⟩ : MethodName) method_3_code 1 (some (.array .byte)) ({ frames := 0, cells := 1, slots := 0, locals := 0 } : Room) Z #[(.int nn)] h0 n0 (fun v h' => Keep h0 h' [] ∧ ∃ b kb, v = some (.ref b) ∧ h0.size ≤ b ∧ h'.size > b ∧ own_A Z h' b kb .byte [] ∧ Exa Z h' b "[B") := by
  refine own_met (Ls := #[.val (.int nn)]) own_pn1 hs0 (fun m => by first  | (simp [entryFrame, mkF, argsToLocals, Value.category]; done) | rfl) ?_
  intro p e s m below meth c T X
  have K0 := Keep.refl h0 []
  subst hn
  refine own_iloadN X 1 (0 : Int32) own_d1_0 rfl rfl ?_
  refine own_ifN X 4 own_d1_1 rfl (XT.i0_ne_f (by decide)) ?_
  refine own_iconst X 5 (0 : Int32) own_d1_4 rfl rfl ?_
  refine own_newPE X 7 0 0 (ad := "[B") own_d1_5 rfl (hw _ (List.mem_of_getElem? (i := 5) rfl)) (by decide) (by decide) (by decide) (by decide) (by decide) (by decide) (by decide) ?_
  intro T h1 b2 kc_b2 g_b2 X E_h1 A_b2 C_b2
  have zs_h1 : h0.size ≤ h1.size := E_h1.1
  have K0 := K0.ext E_h1
  have lo_b2 : h0.size ≤ b2 := Nat.le_of_eq g_b2.symm
  have hi_b2 : h1.size > b2 := A_b2.lt
  have A_b2 : own_A Z h1 b2 kc_b2 .byte [] := A_b2
  exact own_retA X (.array .byte) own_d1_7 rfl rfl rfl rfl (by decide) (by decide) (⟨K0, b2, kc_b2, rfl, by omega, A_b2.lt, A_b2, C_b2⟩)
theorem own_d1_8 : decode method_3_code 8 = .ok (.iload_n 0, 1) := by decide +kernel
theorem own_d1_9 : decode method_3_code 9 = .ok (.iconst 1, 1) := by decide +kernel
theorem own_d1_10 : decode method_3_code 10 = .ok (.if_icmp .ne 7, 3) := by decide +kernel
theorem own_d1_13 : decode method_3_code 13 = .ok (.iconst 1, 1) := by decide +kernel
theorem own_d1_14 : decode method_3_code 14 = .ok (.newarray .byte, 2) := by decide +kernel
theorem own_d1_16 : decode method_3_code 16 = .ok (.areturn, 1) := by decide +kernel
set_option maxRecDepth 65536 in
set_option maxHeartbeats 40000000 in
theorem own_make1 (l : Launch) (Z : State) (a0 : Array Value) (hw : ∀ d ∈ tables_1, d.before a0 Z = true) (nn : Int32) (h0 : Heap) (n0 : Nat) (hs0 : n0 ≤ h0.size) (hn : nn = 1) :
    own_Met l (⟨"com/example/latchkey/latchkey/LockKeysHolderFieldsPinLaw", "make", "(I)[B"⟩ : MethodName) method_3_code 1 (some (.array .byte)) ({ frames := 0, cells := 1, slots := 1, locals := 0 } : Room) Z #[(.int nn)] h0 n0 (fun v h' => Keep h0 h' [] ∧ ∃ b kb, v = some (.ref b) ∧ h0.size ≤ b ∧ h'.size > b ∧ own_A Z h' b kb .byte [(.int (0 : Int32))] ∧ Exa Z h' b "[B") := by
  refine own_met (Ls := #[.val (.int nn)]) own_pn1 hs0 (fun m => by first  | (simp [entryFrame, mkF, argsToLocals, Value.category]; done) | rfl) ?_
  intro p e s m below meth c T X
  have K0 := Keep.refl h0 []
  subst hn
  refine own_iloadN X 1 (1 : Int32) own_d1_0 rfl rfl ?_
  refine own_ifY X 8 own_d1_1 (by decide) (by decide) (XT.i0_ne_t (by decide)) ?_
  refine own_iloadN X 9 (1 : Int32) own_d1_8 rfl rfl ?_
  refine own_iconst X 10 (1 : Int32) own_d1_9 rfl rfl ?_
  refine own_icN X 13 own_d1_10 rfl (XT.ii_ne_f (by decide)) ?_
  refine own_iconst X 14 (1 : Int32) own_d1_13 rfl rfl ?_
  refine own_newPE X 16 1 1 (ad := "[B") own_d1_14 rfl (hw _ (List.mem_of_getElem? (i := 5) rfl)) (by decide) (by decide) (by decide) (by decide) (by decide) (by decide) (by decide) ?_
  intro T h1 b2 kc_b2 g_b2 X E_h1 A_b2 C_b2
  have zs_h1 : h0.size ≤ h1.size := E_h1.1
  have K0 := K0.ext E_h1
  have lo_b2 : h0.size ≤ b2 := Nat.le_of_eq g_b2.symm
  have hi_b2 : h1.size > b2 := A_b2.lt
  have A_b2 : own_A Z h1 b2 kc_b2 .byte [(.int (0 : Int32))] := A_b2
  exact own_retA X (.array .byte) own_d1_16 rfl rfl rfl rfl (by decide) (by decide) (⟨K0, b2, kc_b2, rfl, by omega, A_b2.lt, A_b2, C_b2⟩)
theorem own_d1_17 : decode method_3_code 17 = .ok (.iload_n 0, 1) := by decide +kernel
theorem own_d1_18 : decode method_3_code 18 = .ok (.iconst 2, 1) := by decide +kernel
theorem own_d1_19 : decode method_3_code 19 = .ok (.if_icmp .ne 7, 3) := by decide +kernel
theorem own_d1_22 : decode method_3_code 22 = .ok (.iconst 2, 1) := by decide +kernel
theorem own_d1_23 : decode method_3_code 23 = .ok (.newarray .byte, 2) := by decide +kernel
theorem own_d1_25 : decode method_3_code 25 = .ok (.areturn, 1) := by decide +kernel
set_option maxRecDepth 65536 in
set_option maxHeartbeats 40000000 in
theorem own_make2 (l : Launch) (Z : State) (a0 : Array Value) (hw : ∀ d ∈ tables_1, d.before a0 Z = true) (nn : Int32) (h0 : Heap) (n0 : Nat) (hs0 : n0 ≤ h0.size) (hn : nn = 2) :
    own_Met l (⟨"com/example/latchkey/latchkey/LockKeysHolderFieldsPinLaw", "make", "(I)[B"⟩ : MethodName) method_3_code 1 (some (.array .byte)) ({ frames := 0, cells := 1, slots := 2, locals := 0 } : Room) Z #[(.int nn)] h0 n0 (fun v h' => Keep h0 h' [] ∧ ∃ b kb, v = some (.ref b) ∧ h0.size ≤ b ∧ h'.size > b ∧ own_A Z h' b kb .byte [(.int (0 : Int32)), (.int (0 : Int32))] ∧ Exa Z h' b "[B") := by
  refine own_met (Ls := #[.val (.int nn)]) own_pn1 hs0 (fun m => by first  | (simp [entryFrame, mkF, argsToLocals, Value.category]; done) | rfl) ?_
  intro p e s m below meth c T X
  have K0 := Keep.refl h0 []
  subst hn
  refine own_iloadN X 1 (2 : Int32) own_d1_0 rfl rfl ?_
  refine own_ifY X 8 own_d1_1 (by decide) (by decide) (XT.i0_ne_t (by decide)) ?_
  refine own_iloadN X 9 (2 : Int32) own_d1_8 rfl rfl ?_
  refine own_iconst X 10 (1 : Int32) own_d1_9 rfl rfl ?_
  refine own_icY X 17 own_d1_10 (by decide) (by decide) (XT.ii_ne_t (by decide)) ?_
  refine own_iloadN X 18 (2 : Int32) own_d1_17 rfl rfl ?_
  refine own_iconst X 19 (2 : Int32) own_d1_18 rfl rfl ?_
  refine own_icN X 22 own_d1_19 rfl (XT.ii_ne_f (by decide)) ?_
  refine own_iconst X 23 (2 : Int32) own_d1_22 rfl rfl ?_
  refine own_newPE X 25 2 2 (ad := "[B") own_d1_23 rfl (hw _ (List.mem_of_getElem? (i := 5) rfl)) (by decide) (by decide) (by decide) (by decide) (by decide) (by decide) (by decide) ?_
  intro T h1 b2 kc_b2 g_b2 X E_h1 A_b2 C_b2
  have zs_h1 : h0.size ≤ h1.size := E_h1.1
  have K0 := K0.ext E_h1
  have lo_b2 : h0.size ≤ b2 := Nat.le_of_eq g_b2.symm
  have hi_b2 : h1.size > b2 := A_b2.lt
  have A_b2 : own_A Z h1 b2 kc_b2 .byte [(.int (0 : Int32)), (.int (0 : Int32))] := A_b2
  exact own_retA X (.array .byte) own_d1_25 rfl rfl rfl rfl (by decide) (by decide) (⟨K0, b2, kc_b2, rfl, by omega, A_b2.lt, A_b2, C_b2⟩)
theorem own_d1_26 : decode method_3_code 26 = .ok (.iload_n 0, 1) := by decide +kernel
theorem own_d1_27 : decode method_3_code 27 = .ok (.iconst 3, 1) := by decide +kernel
theorem own_d1_28 : decode method_3_code 28 = .ok (.if_icmp .ne 7, 3) := by decide +kernel
theorem own_d1_31 : decode method_3_code 31 = .ok (.iconst 3, 1) := by decide +kernel
theorem own_d1_32 : decode method_3_code 32 = .ok (.newarray .byte, 2) := by decide +kernel
theorem own_d1_34 : decode method_3_code 34 = .ok (.areturn, 1) := by decide +kernel
set_option maxRecDepth 65536 in
set_option maxHeartbeats 40000000 in
theorem own_make3 (l : Launch) (Z : State) (a0 : Array Value) (hw : ∀ d ∈ tables_1, d.before a0 Z = true) (nn : Int32) (h0 : Heap) (n0 : Nat) (hs0 : n0 ≤ h0.size) (hn : nn = 3) :
    own_Met l (⟨"com/example/latchkey/latchkey/LockKeysHolderFieldsPinLaw", "make", "(I)[B"⟩ : MethodName) method_3_code 1 (some (.array .byte)) ({ frames := 0, cells := 1, slots := 3, locals := 0 } : Room) Z #[(.int nn)] h0 n0 (fun v h' => Keep h0 h' [] ∧ ∃ b kb, v = some (.ref b) ∧ h0.size ≤ b ∧ h'.size > b ∧ own_A Z h' b kb .byte [(.int (0 : Int32)), (.int (0 : Int32)), (.int (0 : Int32))] ∧ Exa Z h' b "[B") := by
  refine own_met (Ls := #[.val (.int nn)]) own_pn1 hs0 (fun m => by first  | (simp [entryFrame, mkF, argsToLocals, Value.category]; done) | rfl) ?_
  intro p e s m below meth c T X
  have K0 := Keep.refl h0 []
  subst hn
  refine own_iloadN X 1 (3 : Int32) own_d1_0 rfl rfl ?_
  refine own_ifY X 8 own_d1_1 (by decide) (by decide) (XT.i0_ne_t (by decide)) ?_
  refine own_iloadN X 9 (3 : Int32) own_d1_8 rfl rfl ?_
  refine own_iconst X 10 (1 : Int32) own_d1_9 rfl rfl ?_
  refine own_icY X 17 own_d1_10 (by decide) (by decide) (XT.ii_ne_t (by decide)) ?_
  refine own_iloadN X 18 (3 : Int32) own_d1_17 rfl rfl ?_
  refine own_iconst X 19 (2 : Int32) own_d1_18 rfl rfl ?_
  refine own_icY X 26 own_d1_19 (by decide) (by decide) (XT.ii_ne_t (by decide)) ?_
  refine own_iloadN X 27 (3 : Int32) own_d1_26 rfl rfl ?_
  refine own_iconst X 28 (3 : Int32) own_d1_27 rfl rfl ?_
  refine own_icN X 31 own_d1_28 rfl (XT.ii_ne_f (by decide)) ?_
  refine own_iconst X 32 (3 : Int32) own_d1_31 rfl rfl ?_
  refine own_newPE X 34 3 3 (ad := "[B") own_d1_32 rfl (hw _ (List.mem_of_getElem? (i := 5) rfl)) (by decide) (by decide) (by decide) (by decide) (by decide) (by decide) (by decide) ?_
  intro T h1 b2 kc_b2 g_b2 X E_h1 A_b2 C_b2
  have zs_h1 : h0.size ≤ h1.size := E_h1.1
  have K0 := K0.ext E_h1
  have lo_b2 : h0.size ≤ b2 := Nat.le_of_eq g_b2.symm
  have hi_b2 : h1.size > b2 := A_b2.lt
  have A_b2 : own_A Z h1 b2 kc_b2 .byte [(.int (0 : Int32)), (.int (0 : Int32)), (.int (0 : Int32))] := A_b2
  exact own_retA X (.array .byte) own_d1_34 rfl rfl rfl rfl (by decide) (by decide) (⟨K0, b2, kc_b2, rfl, by omega, A_b2.lt, A_b2, C_b2⟩)
theorem own_d1_35 : decode method_3_code 35 = .ok (.iload_n 0, 1) := by decide +kernel
theorem own_d1_36 : decode method_3_code 36 = .ok (.iconst 4, 1) := by decide +kernel
theorem own_d1_37 : decode method_3_code 37 = .ok (.if_icmp .ne 7, 3) := by decide +kernel
theorem own_d1_40 : decode method_3_code 40 = .ok (.iconst 4, 1) := by decide +kernel
theorem own_d1_41 : decode method_3_code 41 = .ok (.newarray .byte, 2) := by decide +kernel
theorem own_d1_43 : decode method_3_code 43 = .ok (.areturn, 1) := by decide +kernel
set_option maxRecDepth 65536 in
set_option maxHeartbeats 40000000 in
theorem own_make4 (l : Launch) (Z : State) (a0 : Array Value) (hw : ∀ d ∈ tables_1, d.before a0 Z = true) (nn : Int32) (h0 : Heap) (n0 : Nat) (hs0 : n0 ≤ h0.size) (hn : nn = 4) :
    own_Met l (⟨"com/example/latchkey/latchkey/LockKeysHolderFieldsPinLaw", "make", "(I)[B"⟩ : MethodName) method_3_code 1 (some (.array .byte)) ({ frames := 0, cells := 1, slots := 4, locals := 0 } : Room) Z #[(.int nn)] h0 n0 (fun v h' => Keep h0 h' [] ∧ ∃ b kb, v = some (.ref b) ∧ h0.size ≤ b ∧ h'.size > b ∧ own_A Z h' b kb .byte [(.int (0 : Int32)), (.int (0 : Int32)), (.int (0 : Int32)), (.int (0 : Int32))] ∧ Exa Z h' b "[B") := by
  refine own_met (Ls := #[.val (.int nn)]) own_pn1 hs0 (fun m => by first  | (simp [entryFrame, mkF, argsToLocals, Value.category]; done) | rfl) ?_
  intro p e s m below meth c T X
  have K0 := Keep.refl h0 []
  subst hn
  refine own_iloadN X 1 (4 : Int32) own_d1_0 rfl rfl ?_
  refine own_ifY X 8 own_d1_1 (by decide) (by decide) (XT.i0_ne_t (by decide)) ?_
  refine own_iloadN X 9 (4 : Int32) own_d1_8 rfl rfl ?_
  refine own_iconst X 10 (1 : Int32) own_d1_9 rfl rfl ?_
  refine own_icY X 17 own_d1_10 (by decide) (by decide) (XT.ii_ne_t (by decide)) ?_
  refine own_iloadN X 18 (4 : Int32) own_d1_17 rfl rfl ?_
  refine own_iconst X 19 (2 : Int32) own_d1_18 rfl rfl ?_
  refine own_icY X 26 own_d1_19 (by decide) (by decide) (XT.ii_ne_t (by decide)) ?_
  refine own_iloadN X 27 (4 : Int32) own_d1_26 rfl rfl ?_
  refine own_iconst X 28 (3 : Int32) own_d1_27 rfl rfl ?_
  refine own_icY X 35 own_d1_28 (by decide) (by decide) (XT.ii_ne_t (by decide)) ?_
  refine own_iloadN X 36 (4 : Int32) own_d1_35 rfl rfl ?_
  refine own_iconst X 37 (4 : Int32) own_d1_36 rfl rfl ?_
  refine own_icN X 40 own_d1_37 rfl (XT.ii_ne_f (by decide)) ?_
  refine own_iconst X 41 (4 : Int32) own_d1_40 rfl rfl ?_
  refine own_newPE X 43 4 4 (ad := "[B") own_d1_41 rfl (hw _ (List.mem_of_getElem? (i := 5) rfl)) (by decide) (by decide) (by decide) (by decide) (by decide) (by decide) (by decide) ?_
  intro T h1 b2 kc_b2 g_b2 X E_h1 A_b2 C_b2
  have zs_h1 : h0.size ≤ h1.size := E_h1.1
  have K0 := K0.ext E_h1
  have lo_b2 : h0.size ≤ b2 := Nat.le_of_eq g_b2.symm
  have hi_b2 : h1.size > b2 := A_b2.lt
  have A_b2 : own_A Z h1 b2 kc_b2 .byte [(.int (0 : Int32)), (.int (0 : Int32)), (.int (0 : Int32)), (.int (0 : Int32))] := A_b2
  exact own_retA X (.array .byte) own_d1_43 rfl rfl rfl rfl (by decide) (by decide) (⟨K0, b2, kc_b2, rfl, by omega, A_b2.lt, A_b2, C_b2⟩)
theorem own_d1_44 : decode method_3_code 44 = .ok (.iconst 5, 1) := by decide +kernel
theorem own_d1_45 : decode method_3_code 45 = .ok (.newarray .byte, 2) := by decide +kernel
theorem own_d1_47 : decode method_3_code 47 = .ok (.areturn, 1) := by decide +kernel
set_option maxRecDepth 65536 in
set_option maxHeartbeats 40000000 in
theorem own_make5 (l : Launch) (Z : State) (a0 : Array Value) (hw : ∀ d ∈ tables_1, d.before a0 Z = true) (nn : Int32) (h0 : Heap) (n0 : Nat) (hs0 : n0 ≤ h0.size) (hn : nn = 5) :
    own_Met l (⟨"com/example/latchkey/latchkey/LockKeysHolderFieldsPinLaw", "make", "(I)[B"⟩ : MethodName) method_3_code 1 (some (.array .byte)) ({ frames := 0, cells := 1, slots := 5, locals := 0 } : Room) Z #[(.int nn)] h0 n0 (fun v h' => Keep h0 h' [] ∧ ∃ b kb, v = some (.ref b) ∧ h0.size ≤ b ∧ h'.size > b ∧ own_A Z h' b kb .byte [(.int (0 : Int32)), (.int (0 : Int32)), (.int (0 : Int32)), (.int (0 : Int32)), (.int (0 : Int32))] ∧ Exa Z h' b "[B") := by
  refine own_met (Ls := #[.val (.int nn)]) own_pn1 hs0 (fun m => by first  | (simp [entryFrame, mkF, argsToLocals, Value.category]; done) | rfl) ?_
  intro p e s m below meth c T X
  have K0 := Keep.refl h0 []
  subst hn
  refine own_iloadN X 1 (5 : Int32) own_d1_0 rfl rfl ?_
  refine own_ifY X 8 own_d1_1 (by decide) (by decide) (XT.i0_ne_t (by decide)) ?_
  refine own_iloadN X 9 (5 : Int32) own_d1_8 rfl rfl ?_
  refine own_iconst X 10 (1 : Int32) own_d1_9 rfl rfl ?_
  refine own_icY X 17 own_d1_10 (by decide) (by decide) (XT.ii_ne_t (by decide)) ?_
  refine own_iloadN X 18 (5 : Int32) own_d1_17 rfl rfl ?_
  refine own_iconst X 19 (2 : Int32) own_d1_18 rfl rfl ?_
  refine own_icY X 26 own_d1_19 (by decide) (by decide) (XT.ii_ne_t (by decide)) ?_
  refine own_iloadN X 27 (5 : Int32) own_d1_26 rfl rfl ?_
  refine own_iconst X 28 (3 : Int32) own_d1_27 rfl rfl ?_
  refine own_icY X 35 own_d1_28 (by decide) (by decide) (XT.ii_ne_t (by decide)) ?_
  refine own_iloadN X 36 (5 : Int32) own_d1_35 rfl rfl ?_
  refine own_iconst X 37 (4 : Int32) own_d1_36 rfl rfl ?_
  refine own_icY X 44 own_d1_37 (by decide) (by decide) (XT.ii_ne_t (by decide)) ?_
  refine own_iconst X 45 (5 : Int32) own_d1_44 rfl rfl ?_
  refine own_newPE X 47 5 5 (ad := "[B") own_d1_45 rfl (hw _ (List.mem_of_getElem? (i := 5) rfl)) (by decide) (by decide) (by decide) (by decide) (by decide) (by decide) (by decide) ?_
  intro T h1 b2 kc_b2 g_b2 X E_h1 A_b2 C_b2
  have zs_h1 : h0.size ≤ h1.size := E_h1.1
  have K0 := K0.ext E_h1
  have lo_b2 : h0.size ≤ b2 := Nat.le_of_eq g_b2.symm
  have hi_b2 : h1.size > b2 := A_b2.lt
  have A_b2 : own_A Z h1 b2 kc_b2 .byte [(.int (0 : Int32)), (.int (0 : Int32)), (.int (0 : Int32)), (.int (0 : Int32)), (.int (0 : Int32))] := A_b2
  exact own_retA X (.array .byte) own_d1_47 rfl rfl rfl rfl (by decide) (by decide) (⟨K0, b2, kc_b2, rfl, by omega, A_b2.lt, A_b2, C_b2⟩)
theorem own_d5_0 : decode jdk_65_method_121_code 0 = .ok (.iload_n 1, 1) := by decide +kernel
theorem own_d5_1 : decode jdk_65_method_121_code 1 = .ok (.aload_n 0, 1) := by decide +kernel
theorem own_d5_2 : decode jdk_65_method_121_code 2 = .ok (.arraylength, 1) := by decide +kernel
theorem own_d5_3 : decode jdk_65_method_121_code 3 = .ok (.if_icmp .ne 11, 3) := by decide +kernel
theorem own_d5_14 : decode jdk_65_method_121_code 14 = .ok (.iload_n 1, 1) := by decide +kernel
theorem own_d5_15 : decode jdk_65_method_121_code 15 = .ok (.newarray .byte, 2) := by decide +kernel
theorem own_d5_17 : decode jdk_65_method_121_code 17 = .ok (.astore_n 2, 1) := by decide +kernel
theorem own_d5_18 : decode jdk_65_method_121_code 18 = .ok (.aload_n 0, 1) := by decide +kernel
theorem own_d5_19 : decode jdk_65_method_121_code 19 = .ok (.iconst 0, 1) := by decide +kernel
theorem own_d5_20 : decode jdk_65_method_121_code 20 = .ok (.aload_n 2, 1) := by decide +kernel
theorem own_d5_21 : decode jdk_65_method_121_code 21 = .ok (.iconst 0, 1) := by decide +kernel
theorem own_d5_22 : decode jdk_65_method_121_code 22 = .ok (.aload_n 0, 1) := by decide +kernel
theorem own_d5_23 : decode jdk_65_method_121_code 23 = .ok (.arraylength, 1) := by decide +kernel
theorem own_d5_24 : decode jdk_65_method_121_code 24 = .ok (.iload_n 1, 1) := by decide +kernel
theorem own_d5_25 : decode jdk_65_method_121_code 25 = .ok (.invokestatic 304, 3) := by decide +kernel
theorem own_pd0 : parseMethodDescriptor "(II)I" = some ⟨[.int, .int], some .int⟩ := by decide +kernel
theorem own_d5_28 : decode jdk_65_method_121_code 28 = .ok (.invokestatic 150, 3) := by decide +kernel
theorem own_d5_31 : decode jdk_65_method_121_code 31 = .ok (.aload_n 2, 1) := by decide +kernel
theorem own_d5_32 : decode jdk_65_method_121_code 32 = .ok (.areturn, 1) := by decide +kernel
theorem own_pn5 : plainFor (⟨"java/util/Arrays", "copyOf", "([BI)[B"⟩ : MethodName) = true := plainFor_of_name (by first | (simp [plainName, overriddenIn]; done) | decide +kernel)
set_option maxRecDepth 65536 in
set_option maxHeartbeats 40000000 in
theorem own_cp0_6 (l : Launch) (Z : State) (a0 : Array Value) (hw : ∀ d ∈ tables_1, d.before a0 Z = true) (a : Addr) (nl : Int32) (ka : ClassId) (h0 : Heap) (n0 : Nat) (hs0 : n0 ≤ h0.size) (Aa : own_A Z h0 a ka .byte []) (hnl : nl = 6) :
    own_Met l (⟨"java/util/Arrays", "copyOf", "([BI)[B"⟩ : MethodName) jdk_65_method_121_code 3 (some (.array .byte)) ({ frames := 1, cells := 1, slots := 6, locals := 18 } : Room) Z #[(.ref a), (.int nl)] h0 n0 (fun v h' => Keep h0 h' [] ∧ ∃ b kb, v = some (.ref b) ∧ h0.size ≤ b ∧ h'.size > b ∧ own_A Z h' b kb .byte [(.int (0 : Int32)), (.int (0 : Int32)), (.int (0 : Int32)), (.int (0 : Int32)), (.int (0 : Int32)), (.int (0 : Int32))] ∧ Exa Z h' b "[B") := by
  refine own_met (Ls := #[.val (.ref a), .val (.int nl), .unset]) own_pn5 hs0 (fun m => by first  | (simp [entryFrame, mkF, argsToLocals, Value.category]; done) | rfl) ?_
  intro p e s m below meth c T X
  have K0 := Keep.refl h0 []
  have hi_a : h0.size > a := Aa.lt
  subst hnl
  refine own_iloadN X 1 (6 : Int32) own_d5_0 rfl rfl ?_
  refine own_aloadN X 2 (.ref a) own_d5_1 rfl rfl rfl ?_
  refine own_len X 3 (0 : Int32) own_d5_2 rfl Aa rfl ?_
  refine own_icY X 14 own_d5_3 (by decide) (by decide) (XT.ii_ne_t (by decide)) ?_
  refine own_iloadN X 15 (6 : Int32) own_d5_14 rfl rfl ?_
  refine own_newPE X 17 6 6 (ad := "[B") own_d5_15 rfl (hw _ (List.mem_of_getElem? (i := 5) rfl)) (by decide) (by decide) (by decide) (by decide) (by decide) (by decide) (by decide) ?_
  intro T h1 b2 kc_b2 g_b2 X E_h1 A_b2 C_b2
  have zs_h1 : h0.size ≤ h1.size := E_h1.1
  have Aa := Aa.ext E_h1
  have K0 := K0.ext E_h1
  have lo_b2 : h0.size ≤ b2 := Nat.le_of_eq g_b2.symm
  have hi_b2 : h1.size > b2 := A_b2.lt
  have A_b2 : own_A Z h1 b2 kc_b2 .byte [(.int (0 : Int32)), (.int (0 : Int32)), (.int (0 : Int32)), (.int (0 : Int32)), (.int (0 : Int32)), (.int (0 : Int32))] := A_b2
  refine own_astoreN X 18 #[.val (.ref a), .val (.int (6 : Int32)), .val (.ref b2)] own_d5_17 rfl rfl rfl ?_
  refine own_aloadN X 19 (.ref a) own_d5_18 rfl rfl rfl ?_
  refine own_iconst X 20 (0 : Int32) own_d5_19 rfl rfl ?_
  refine own_aloadN X 21 (.ref b2) own_d5_20 rfl rfl rfl ?_
  refine own_iconst X 22 (0 : Int32) own_d5_21 rfl rfl ?_
  refine own_aloadN X 23 (.ref a) own_d5_22 rfl rfl rfl ?_
  refine own_len X 24 (0 : Int32) own_d5_23 rfl Aa rfl ?_
  refine own_iloadN X 25 (6 : Int32) own_d5_24 rfl rfl ?_
  refine own_callS X 28 [(.int (0 : Int32)), (.int (6 : Int32))] [(.int (0 : Int32)), (.ref b2), (.int (0 : Int32)), (.ref a)] own_d5_25 rfl (hw _ (List.mem_of_getElem? (i := 25) rfl)) (hw _ (List.mem_of_getElem? (i := 26) rfl)) (hw _ (List.mem_of_getElem? (i := 27) rfl)) (hw _ (List.mem_of_getElem? (i := 28) rfl)) (by decide) (own_mmin l Z a0 hw (0 : Int32) (6 : Int32) h1 n0 X.sz) (fun _ _ q => Nat.le_of_eq (congrArg Array.size q.1.symm)) rfl own_pd0 rfl rfl rfl (by decide) (Nat.le_of_ble_eq_true rfl) (by decide) (by decide) ?_
  rintro v25 T h_ X ⟨eh_, rfl⟩
  rw [eh_] at X
  show own_Ends p e below _ (T.setTop (mkF m 28 #[.val (.ref a), .val (.int (6 : Int32)), .val (.ref b2)] [(.int (own_min (0 : Int32) (6 : Int32))), (.int (0 : Int32)), (.ref b2), (.int (0 : Int32)), (.ref a)]))
  rw [show own_min (0 : Int32) (6 : Int32) = (0 : Int32) from by decide]
  refine own_cpy X 31 0 0 0 [] [(.int (0 : Int32)), (.int (0 : Int32)), (.int (0 : Int32)), (.int (0 : Int32)), (.int (0 : Int32)), (.int (0 : Int32))] own_d5_28 rfl (hw _ (List.mem_of_getElem? (i := 29) rfl)) (hw _ (List.mem_of_getElem? (i := 32) rfl)) (hw _ (List.mem_of_getElem? (i := 30) rfl)) (hw _ (List.mem_of_getElem? (i := 31) rfl)) Aa A_b2 (Or.inl ⟨rfl, rfl⟩) (by decide) (by decide) (by decide) (by decide) (by decide) (by decide) (Nat.le_of_ble_eq_true rfl) (Nat.le_of_ble_eq_true rfl) rfl rfl (by omega) rfl (by decide) (Nat.le_of_ble_eq_true rfl) ?_
  intro T h3 X K_ nA_
  have zs_h3 : h1.size ≤ h3.size := K_.1
  have Aa := Aa.keep K_ (ninS (by show @Ne Nat _ _; omega) nin0)
  have K0 := K0.trans K_ (allS (Or.inr (by omega)) all0)
  have C_b2 := C_b2.keep K_
  have A_b2 := nA_
  refine own_aloadN X 32 (.ref b2) own_d5_31 rfl rfl rfl ?_
  exact own_retA X (.array .byte) own_d5_32 rfl rfl rfl rfl (by decide) (by decide) (⟨K0, b2, kc_b2, rfl, by omega, A_b2.lt, A_b2, C_b2⟩)
theorem own_d4_0 : decode prog_1_method_6_code 0 = .ok (.aload_n 0, 1) := by decide +kernel
theorem own_d4_1 : decode prog_1_method_6_code 1 = .ok (.aload_n 0, 1) := by decide +kernel
theorem own_d4_2 : decode prog_1_method_6_code 2 = .ok (.arraylength, 1) := by decide +kernel
theorem own_d4_3 : decode prog_1_method_6_code 3 = .ok (.aload_n 1, 1) := by decide +kernel
theorem own_d4_4 : decode prog_1_method_6_code 4 = .ok (.arraylength, 1) := by decide +kernel
theorem own_d4_5 : decode prog_1_method_6_code 5 = .ok (.iadd, 1) := by decide +kernel
theorem own_d4_6 : decode prog_1_method_6_code 6 = .ok (.invokestatic 77, 3) := by decide +kernel
theorem own_pd1 : parseMethodDescriptor "([BI)[B" = some ⟨[(.array .byte), .int], some (.array .byte)⟩ := by decide +kernel
theorem own_d4_9 : decode prog_1_method_6_code 9 = .ok (.astore_n 2, 1) := by decide +kernel
theorem own_d4_10 : decode prog_1_method_6_code 10 = .ok (.aload_n 1, 1) := by decide +kernel
theorem own_d4_11 : decode prog_1_method_6_code 11 = .ok (.iconst 0, 1) := by decide +kernel
theorem own_d4_12 : decode prog_1_method_6_code 12 = .ok (.aload_n 2, 1) := by decide +kernel
theorem own_d4_13 : decode prog_1_method_6_code 13 = .ok (.aload_n 0, 1) := by decide +kernel
theorem own_d4_14 : decode prog_1_method_6_code 14 = .ok (.arraylength, 1) := by decide +kernel
theorem own_d4_15 : decode prog_1_method_6_code 15 = .ok (.aload_n 1, 1) := by decide +kernel
theorem own_d4_16 : decode prog_1_method_6_code 16 = .ok (.arraylength, 1) := by decide +kernel
theorem own_d4_17 : decode prog_1_method_6_code 17 = .ok (.invokestatic 48, 3) := by decide +kernel
theorem own_d4_20 : decode prog_1_method_6_code 20 = .ok (.aload_n 2, 1) := by decide +kernel
theorem own_d4_21 : decode prog_1_method_6_code 21 = .ok (.areturn, 1) := by decide +kernel
theorem own_pn4 : plainFor (⟨"com/example/latchkey/latchkey/LockKeys", "suffixed", "([B[B)[B"⟩ : MethodName) = true := plainFor_of_name (by first | (simp [plainName, overriddenIn]; done) | decide +kernel)
set_option maxRecDepth 65536 in
set_option maxHeartbeats 40000000 in
theorem own_su0_6 (l : Launch) (Z : State) (a0 : Array Value) (hw : ∀ d ∈ tables_1, d.before a0 Z = true) (a : Addr) (sx : Addr) (ka : ClassId) (ks : ClassId) (h0 : Heap) (n0 : Nat) (hs0 : n0 ≤ h0.size) (Aa : own_A Z h0 a ka .byte []) (As : own_A Z h0 sx ks .byte [(.int 58), (.int 104), (.int 111), (.int 108), (.int 100), (.int 115)]) :
    own_Met l (⟨"com/example/latchkey/latchkey/LockKeys", "suffixed", "([B[B)[B"⟩ : MethodName) prog_1_method_6_code 3 (some (.array .byte)) ({ frames := 2, cells := 1, slots := 6, locals := 32 } : Room) Z #[(.ref a), (.ref sx)] h0 n0 (fun v h' => Keep h0 h' [] ∧ ∃ b kb, v = some (.ref b) ∧ h0.size ≤ b ∧ h'.size > b ∧ own_A Z h' b kb .byte [(.int 58), (.int 104), (.int 111), (.int 108), (.int 100), (.int 115)] ∧ Exa Z h' b "[B") := by
  refine own_met (Ls := #[.val (.ref a), .val (.ref sx), .unset]) own_pn4 hs0 (fun m => by first  | (simp [entryFrame, mkF, argsToLocals, Value.category]; done) | rfl) ?_
  intro p e s m below meth c T X
  have K0 := Keep.refl h0 []
  have hi_a : h0.size > a := Aa.lt
  have hi_sx : h0.size > sx := As.lt
  refine own_aloadN X 1 (.ref a) own_d4_0 rfl rfl rfl ?_
  refine own_aloadN X 2 (.ref a) own_d4_1 rfl rfl rfl ?_
  refine own_len X 3 (0 : Int32) own_d4_2 rfl Aa rfl ?_
  refine own_aloadN X 4 (.ref sx) own_d4_3 rfl rfl rfl ?_
  refine own_len X 5 (6 : Int32) own_d4_4 rfl As rfl ?_
  refine own_iadd X 6 own_d4_5 rfl ?_
  refine own_callS X 9 [(.ref a), (.int ((0 : Int32) + (6 : Int32)))] [] own_d4_6 rfl (hw _ (List.mem_of_getElem? (i := 21) rfl)) (hw _ (List.mem_of_getElem? (i := 22) rfl)) (hw _ (List.mem_of_getElem? (i := 23) rfl)) (hw _ (List.mem_of_getElem? (i := 24) rfl)) (by decide) (own_cp0_6 l Z a0 hw a ((0 : Int32) + (6 : Int32)) ka h0 n0 X.sz Aa (by decide)) (fun _ _ q => q.1.1) rfl own_pd1 rfl rfl rfl (by decide) (Nat.le_of_ble_eq_true rfl) (by decide) (by decide) ?_
  rintro v6 T h2 X ⟨K_, b1, kb_b1, rfl, lo_b1, hi_b1, A_b1, C_b1⟩
  have zs_h2 : h0.size ≤ h2.size := K_.1
  have Aa := Aa.keep K_ nin0
  have As := As.keep K_ nin0
  have K0 := K0.trans K_ all0
  show own_Ends p e below _ (T.setTop (mkF m 9 #[.val (.ref a), .val (.ref sx), .unset] [(.ref b1)]))
  refine own_astoreN X 10 #[.val (.ref a), .val (.ref sx), .val (.ref b1)] own_d4_9 rfl rfl rfl ?_
  refine own_aloadN X 11 (.ref sx) own_d4_10 rfl rfl rfl ?_
  refine own_iconst X 12 (0 : Int32) own_d4_11 rfl rfl ?_
  refine own_aloadN X 13 (.ref b1) own_d4_12 rfl rfl rfl ?_
  refine own_aloadN X 14 (.ref a) own_d4_13 rfl rfl rfl ?_
  refine own_len X 15 (0 : Int32) own_d4_14 rfl Aa rfl ?_
  refine own_aloadN X 16 (.ref sx) own_d4_15 rfl rfl rfl ?_
  refine own_len X 17 (6 : Int32) own_d4_16 rfl As rfl ?_
  refine own_cpy X 20 0 0 6 [(.int 58), (.int 104), (.int 111), (.int 108), (.int 100), (.int 115)] [(.int 58), (.int 104), (.int 111), (.int 108), (.int 100), (.int 115)] own_d4_17 rfl (hw _ (List.mem_of_getElem? (i := 33) rfl)) (hw _ (List.mem_of_getElem? (i := 32) rfl)) (hw _ (List.mem_of_getElem? (i := 30) rfl)) (hw _ (List.mem_of_getElem? (i := 31) rfl)) As A_b1 (Or.inl ⟨rfl, rfl⟩) (by decide) (by decide) (by decide) (by decide) (by decide) (by decide) (Nat.le_of_ble_eq_true rfl) (Nat.le_of_ble_eq_true rfl) rfl rfl (by omega) rfl (by decide) (Nat.le_of_ble_eq_true rfl) ?_
  intro T h3 X K_ nA_
  have zs_h3 : h2.size ≤ h3.size := K_.1
  have Aa := Aa.keep K_ (ninS (by show @Ne Nat _ _; omega) nin0)
  have As := As.keep K_ (ninS (by show @Ne Nat _ _; omega) nin0)
  have K0 := K0.trans K_ (allS (Or.inr (by omega)) all0)
  have C_b1 := C_b1.keep K_
  have A_b1 := nA_
  refine own_aloadN X 21 (.ref b1) own_d4_20 rfl rfl rfl ?_
  exact own_retA X (.array .byte) own_d4_21 rfl rfl rfl rfl (by decide) (by decide) (⟨K0, b1, kb_b1, rfl, by omega, A_b1.lt, A_b1, C_b1⟩)
set_option maxRecDepth 65536 in
set_option maxHeartbeats 40000000 in
theorem own_cp0_8 (l : Launch) (Z : State) (a0 : Array Value) (hw : ∀ d ∈ tables_1, d.before a0 Z = true) (a : Addr) (nl : Int32) (ka : ClassId) (h0 : Heap) (n0 : Nat) (hs0 : n0 ≤ h0.size) (Aa : own_A Z h0 a ka .byte []) (hnl : nl = 8) :
    own_Met l (⟨"java/util/Arrays", "copyOf", "([BI)[B"⟩ : MethodName) jdk_65_method_121_code 3 (some (.array .byte)) ({ frames := 1, cells := 1, slots := 8, locals := 18 } : Room) Z #[(.ref a), (.int nl)] h0 n0 (fun v h' => Keep h0 h' [] ∧ ∃ b kb, v = some (.ref b) ∧ h0.size ≤ b ∧ h'.size > b ∧ own_A Z h' b kb .byte [(.int (0 : Int32)), (.int (0 : Int32)), (.int (0 : Int32)), (.int (0 : Int32)), (.int (0 : Int32)), (.int (0 : Int32)), (.int (0 : Int32)), (.int (0 : Int32))] ∧ Exa Z h' b "[B") := by
  refine own_met (Ls := #[.val (.ref a), .val (.int nl), .unset]) own_pn5 hs0 (fun m => by first  | (simp [entryFrame, mkF, argsToLocals, Value.category]; done) | rfl) ?_
  intro p e s m below meth c T X
  have K0 := Keep.refl h0 []
  have hi_a : h0.size > a := Aa.lt
  subst hnl
  refine own_iloadN X 1 (8 : Int32) own_d5_0 rfl rfl ?_
  refine own_aloadN X 2 (.ref a) own_d5_1 rfl rfl rfl ?_
  refine own_len X 3 (0 : Int32) own_d5_2 rfl Aa rfl ?_
  refine own_icY X 14 own_d5_3 (by decide) (by decide) (XT.ii_ne_t (by decide)) ?_
  refine own_iloadN X 15 (8 : Int32) own_d5_14 rfl rfl ?_
  refine own_newPE X 17 8 8 (ad := "[B") own_d5_15 rfl (hw _ (List.mem_of_getElem? (i := 5) rfl)) (by decide) (by decide) (by decide) (by decide) (by decide) (by decide) (by decide) ?_
  intro T h1 b2 kc_b2 g_b2 X E_h1 A_b2 C_b2
  have zs_h1 : h0.size ≤ h1.size := E_h1.1
  have Aa := Aa.ext E_h1
  have K0 := K0.ext E_h1
  have lo_b2 : h0.size ≤ b2 := Nat.le_of_eq g_b2.symm
  have hi_b2 : h1.size > b2 := A_b2.lt
  have A_b2 : own_A Z h1 b2 kc_b2 .byte [(.int (0 : Int32)), (.int (0 : Int32)), (.int (0 : Int32)), (.int (0 : Int32)), (.int (0 : Int32)), (.int (0 : Int32)), (.int (0 : Int32)), (.int (0 : Int32))] := A_b2
  refine own_astoreN X 18 #[.val (.ref a), .val (.int (8 : Int32)), .val (.ref b2)] own_d5_17 rfl rfl rfl ?_
  refine own_aloadN X 19 (.ref a) own_d5_18 rfl rfl rfl ?_
  refine own_iconst X 20 (0 : Int32) own_d5_19 rfl rfl ?_
  refine own_aloadN X 21 (.ref b2) own_d5_20 rfl rfl rfl ?_
  refine own_iconst X 22 (0 : Int32) own_d5_21 rfl rfl ?_
  refine own_aloadN X 23 (.ref a) own_d5_22 rfl rfl rfl ?_
  refine own_len X 24 (0 : Int32) own_d5_23 rfl Aa rfl ?_
  refine own_iloadN X 25 (8 : Int32) own_d5_24 rfl rfl ?_
  refine own_callS X 28 [(.int (0 : Int32)), (.int (8 : Int32))] [(.int (0 : Int32)), (.ref b2), (.int (0 : Int32)), (.ref a)] own_d5_25 rfl (hw _ (List.mem_of_getElem? (i := 25) rfl)) (hw _ (List.mem_of_getElem? (i := 26) rfl)) (hw _ (List.mem_of_getElem? (i := 27) rfl)) (hw _ (List.mem_of_getElem? (i := 28) rfl)) (by decide) (own_mmin l Z a0 hw (0 : Int32) (8 : Int32) h1 n0 X.sz) (fun _ _ q => Nat.le_of_eq (congrArg Array.size q.1.symm)) rfl own_pd0 rfl rfl rfl (by decide) (Nat.le_of_ble_eq_true rfl) (by decide) (by decide) ?_
  rintro v25 T h_ X ⟨eh_, rfl⟩
  rw [eh_] at X
  show own_Ends p e below _ (T.setTop (mkF m 28 #[.val (.ref a), .val (.int (8 : Int32)), .val (.ref b2)] [(.int (own_min (0 : Int32) (8 : Int32))), (.int (0 : Int32)), (.ref b2), (.int (0 : Int32)), (.ref a)]))
  rw [show own_min (0 : Int32) (8 : Int32) = (0 : Int32) from by decide]
  refine own_cpy X 31 0 0 0 [] [(.int (0 : Int32)), (.int (0 : Int32)), (.int (0 : Int32)), (.int (0 : Int32)), (.int (0 : Int32)), (.int (0 : Int32)), (.int (0 : Int32)), (.int (0 : Int32))] own_d5_28 rfl (hw _ (List.mem_of_getElem? (i := 29) rfl)) (hw _ (List.mem_of_getElem? (i := 32) rfl)) (hw _ (List.mem_of_getElem? (i := 30) rfl)) (hw _ (List.mem_of_getElem? (i := 31) rfl)) Aa A_b2 (Or.inl ⟨rfl, rfl⟩) (by decide) (by decide) (by decide) (by decide) (by decide) (by decide) (Nat.le_of_ble_eq_true rfl) (Nat.le_of_ble_eq_true rfl) rfl rfl (by omega) rfl (by decide) (Nat.le_of_ble_eq_true rfl) ?_
  intro T h3 X K_ nA_
  have zs_h3 : h1.size ≤ h3.size := K_.1
  have Aa := Aa.keep K_ (ninS (by show @Ne Nat _ _; omega) nin0)
  have K0 := K0.trans K_ (allS (Or.inr (by omega)) all0)
  have C_b2 := C_b2.keep K_
  have A_b2 := nA_
  refine own_aloadN X 32 (.ref b2) own_d5_31 rfl rfl rfl ?_
  exact own_retA X (.array .byte) own_d5_32 rfl rfl rfl rfl (by decide) (by decide) (⟨K0, b2, kc_b2, rfl, by omega, A_b2.lt, A_b2, C_b2⟩)
set_option maxRecDepth 65536 in
set_option maxHeartbeats 40000000 in
theorem own_su0_8 (l : Launch) (Z : State) (a0 : Array Value) (hw : ∀ d ∈ tables_1, d.before a0 Z = true) (a : Addr) (sx : Addr) (ka : ClassId) (ks : ClassId) (h0 : Heap) (n0 : Nat) (hs0 : n0 ≤ h0.size) (Aa : own_A Z h0 a ka .byte []) (As : own_A Z h0 sx ks .byte [(.int 58), (.int 119), (.int 97), (.int 105), (.int 116), (.int 105), (.int 110), (.int 103)]) :
    own_Met l (⟨"com/example/latchkey/latchkey/LockKeys", "suffixed", "([B[B)[B"⟩ : MethodName) prog_1_method_6_code 3 (some (.array .byte)) ({ frames := 2, cells := 1, slots := 8, locals := 32 } : Room) Z #[(.ref a), (.ref sx)] h0 n0 (fun v h' => Keep h0 h' [] ∧ ∃ b kb, v = some (.ref b) ∧ h0.size ≤ b ∧ h'.size > b ∧ own_A Z h' b kb .byte [(.int 58), (.int 119), (.int 97), (.int 105), (.int 116), (.int 105), (.int 110), (.int 103)] ∧ Exa Z h' b "[B") := by
  refine own_met (Ls := #[.val (.ref a), .val (.ref sx), .unset]) own_pn4 hs0 (fun m => by first  | (simp [entryFrame, mkF, argsToLocals, Value.category]; done) | rfl) ?_
  intro p e s m below meth c T X
  have K0 := Keep.refl h0 []
  have hi_a : h0.size > a := Aa.lt
  have hi_sx : h0.size > sx := As.lt
  refine own_aloadN X 1 (.ref a) own_d4_0 rfl rfl rfl ?_
  refine own_aloadN X 2 (.ref a) own_d4_1 rfl rfl rfl ?_
  refine own_len X 3 (0 : Int32) own_d4_2 rfl Aa rfl ?_
  refine own_aloadN X 4 (.ref sx) own_d4_3 rfl rfl rfl ?_
  refine own_len X 5 (8 : Int32) own_d4_4 rfl As rfl ?_
  refine own_iadd X 6 own_d4_5 rfl ?_
  refine own_callS X 9 [(.ref a), (.int ((0 : Int32) + (8 : Int32)))] [] own_d4_6 rfl (hw _ (List.mem_of_getElem? (i := 21) rfl)) (hw _ (List.mem_of_getElem? (i := 22) rfl)) (hw _ (List.mem_of_getElem? (i := 23) rfl)) (hw _ (List.mem_of_getElem? (i := 24) rfl)) (by decide) (own_cp0_8 l Z a0 hw a ((0 : Int32) + (8 : Int32)) ka h0 n0 X.sz Aa (by decide)) (fun _ _ q => q.1.1) rfl own_pd1 rfl rfl rfl (by decide) (Nat.le_of_ble_eq_true rfl) (by decide) (by decide) ?_
  rintro v6 T h2 X ⟨K_, b1, kb_b1, rfl, lo_b1, hi_b1, A_b1, C_b1⟩
  have zs_h2 : h0.size ≤ h2.size := K_.1
  have Aa := Aa.keep K_ nin0
  have As := As.keep K_ nin0
  have K0 := K0.trans K_ all0
  show own_Ends p e below _ (T.setTop (mkF m 9 #[.val (.ref a), .val (.ref sx), .unset] [(.ref b1)]))
  refine own_astoreN X 10 #[.val (.ref a), .val (.ref sx), .val (.ref b1)] own_d4_9 rfl rfl rfl ?_
  refine own_aloadN X 11 (.ref sx) own_d4_10 rfl rfl rfl ?_
  refine own_iconst X 12 (0 : Int32) own_d4_11 rfl rfl ?_
  refine own_aloadN X 13 (.ref b1) own_d4_12 rfl rfl rfl ?_
  refine own_aloadN X 14 (.ref a) own_d4_13 rfl rfl rfl ?_
  refine own_len X 15 (0 : Int32) own_d4_14 rfl Aa rfl ?_
  refine own_aloadN X 16 (.ref sx) own_d4_15 rfl rfl rfl ?_
  refine own_len X 17 (8 : Int32) own_d4_16 rfl As rfl ?_
  refine own_cpy X 20 0 0 8 [(.int 58), (.int 119), (.int 97), (.int 105), (.int 116), (.int 105), (.int 110), (.int 103)] [(.int 58), (.int 119), (.int 97), (.int 105), (.int 116), (.int 105), (.int 110), (.int 103)] own_d4_17 rfl (hw _ (List.mem_of_getElem? (i := 33) rfl)) (hw _ (List.mem_of_getElem? (i := 32) rfl)) (hw _ (List.mem_of_getElem? (i := 30) rfl)) (hw _ (List.mem_of_getElem? (i := 31) rfl)) As A_b1 (Or.inl ⟨rfl, rfl⟩) (by decide) (by decide) (by decide) (by decide) (by decide) (by decide) (Nat.le_of_ble_eq_true rfl) (Nat.le_of_ble_eq_true rfl) rfl rfl (by omega) rfl (by decide) (Nat.le_of_ble_eq_true rfl) ?_
  intro T h3 X K_ nA_
  have zs_h3 : h2.size ≤ h3.size := K_.1
  have Aa := Aa.keep K_ (ninS (by show @Ne Nat _ _; omega) nin0)
  have As := As.keep K_ (ninS (by show @Ne Nat _ _; omega) nin0)
  have K0 := K0.trans K_ (allS (Or.inr (by omega)) all0)
  have C_b1 := C_b1.keep K_
  have A_b1 := nA_
  refine own_aloadN X 21 (.ref b1) own_d4_20 rfl rfl rfl ?_
  exact own_retA X (.array .byte) own_d4_21 rfl rfl rfl rfl (by decide) (by decide) (⟨K0, b1, kb_b1, rfl, by omega, A_b1.lt, A_b1, C_b1⟩)
theorem own_d3_0 : decode prog_1_method_5_code 0 = .ok (.iconst 3, 1) := by decide +kernel
theorem own_d3_1 : decode prog_1_method_5_code 1 = .ok (.anewarray 70, 3) := by decide +kernel
theorem own_d3_4 : decode prog_1_method_5_code 4 = .ok (.dup, 1) := by decide +kernel
theorem own_d3_5 : decode prog_1_method_5_code 5 = .ok (.iconst 0, 1) := by decide +kernel
theorem own_d3_6 : decode prog_1_method_5_code 6 = .ok (.aload_n 0, 1) := by decide +kernel
theorem own_d3_7 : decode prog_1_method_5_code 7 = .ok (.aastore, 1) := by decide +kernel
theorem own_d3_8 : decode prog_1_method_5_code 8 = .ok (.dup, 1) := by decide +kernel
theorem own_d3_9 : decode prog_1_method_5_code 9 = .ok (.iconst 1, 1) := by decide +kernel
theorem own_d3_10 : decode prog_1_method_5_code 10 = .ok (.aload_n 0, 1) := by decide +kernel
theorem own_d3_11 : decode prog_1_method_5_code 11 = .ok (.getstatic 71, 3) := by decide +kernel
theorem own_d3_14 : decode prog_1_method_5_code 14 = .ok (.invokestatic 57, 3) := by decide +kernel
theorem own_pd2 : parseMethodDescriptor "([B[B)[B" = some ⟨[(.array .byte), (.array .byte)], some (.array .byte)⟩ := by decide +kernel
theorem own_d3_17 : decode prog_1_method_5_code 17 = .ok (.aastore, 1) := by decide +kernel
theorem own_d3_18 : decode prog_1_method_5_code 18 = .ok (.dup, 1) := by decide +kernel
theorem own_d3_19 : decode prog_1_method_5_code 19 = .ok (.iconst 2, 1) := by decide +kernel
theorem own_d3_20 : decode prog_1_method_5_code 20 = .ok (.aload_n 0, 1) := by decide +kernel
theorem own_d3_21 : decode prog_1_method_5_code 21 = .ok (.getstatic 74, 3) := by decide +kernel
theorem own_d3_24 : decode prog_1_method_5_code 24 = .ok (.invokestatic 57, 3) := by decide +kernel
theorem own_d3_27 : decode prog_1_method_5_code 27 = .ok (.aastore, 1) := by decide +kernel
theorem own_d3_28 : decode prog_1_method_5_code 28 = .ok (.areturn, 1) := by decide +kernel
theorem own_pn3 : plainFor (⟨"com/example/latchkey/latchkey/LockKeys", "holderFields", "([B)[[B"⟩ : MethodName) = true := plainFor_of_name (by first | (simp [plainName, overriddenIn]; done) | decide +kernel)
set_option maxRecDepth 65536 in
set_option maxHeartbeats 40000000 in
theorem own_hf0 (l : Launch) (Z : State) (a0 : Array Value) (hw : ∀ d ∈ tables_1, d.before a0 Z = true) (a : Addr) (ka : ClassId) (ho : Addr) (kh : ClassId) (wt : Addr) (kw : ClassId) (h0 : Heap) (n0 : Nat) (hs0 : n0 ≤ h0.size) (OL : Old Z n0 h0) (z_ho : Sta Z Z.heap "com/example/latchkey/latchkey/LockKeys" "HOLDS" "[B" (.ref ho)) (z_hA : own_A Z Z.heap ho kh .byte [(.int 58), (.int 104), (.int 111), (.int 108), (.int 100), (.int 115)]) (z_wt : Sta Z Z.heap "com/example/latchkey/latchkey/LockKeys" "WAITING" "[B" (.ref wt)) (z_wA : own_A Z Z.heap wt kw .byte [(.int 58), (.int 119), (.int 97), (.int 105), (.int 116), (.int 105), (.int 110), (.int 103)]) (Aa : own_A Z h0 a ka .byte []) (Ea : Exa Z h0 a "[B") :
    own_Met l (⟨"com/example/latchkey/latchkey/LockKeys", "holderFields", "([B)[[B"⟩ : MethodName) prog_1_method_5_code 1 (some (.array (.array .byte))) ({ frames := 3, cells := 3, slots := 17, locals := 49 } : Room) Z #[(.ref a)] h0 n0 (fun v h' => Keep h0 h' [] ∧ ∃ w kx b1 k1 b2 k2, v = some (.ref w) ∧ own_A Z h' w kx (.array .byte) [(.ref a), (.ref b1), (.ref b2)] ∧ own_A Z h' b1 k1 .byte [(.int 58), (.int 104), (.int 111), (.int 108), (.int 100), (.int 115)] ∧ own_A Z h' b2 k2 .byte [(.int 58), (.int 119), (.int 97), (.int 105), (.int 116), (.int 105), (.int 110), (.int 103)]) := by
  refine own_met (Ls := #[.val (.ref a)]) own_pn3 hs0 (fun m => by first  | (simp [entryFrame, mkF, argsToLocals, Value.category]; done) | rfl) ?_
  intro p e s m below meth c T X
  have K0 := Keep.refl h0 []
  have hi_ho : n0 > ho := (OL.1 ▸ z_hA.lt)
  have hi_wt : n0 > wt := (OL.1 ▸ z_wA.lt)
  have hi_a : h0.size > a := Aa.lt
  refine own_iconst X 1 (3 : Int32) own_d3_0 rfl rfl ?_
  refine own_newRA X 4 3 3 (ad := "[[B") own_d3_1 rfl (ty := .byte) (by decide) (hw _ (List.mem_of_getElem? (i := 13) rfl)) (hw _ (List.mem_of_getElem? (i := 14) rfl)) (by decide) (by decide) (by decide) (by decide) (by decide) (by decide) (by decide) ?_
  intro T h1 b2 kc_b2 g_b2 X E_h1 A_b2 O_b2 C_b2
  have zs_h1 : h0.size ≤ h1.size := E_h1.1
  have OL := OL.ext E_h1
  have Aa := Aa.ext E_h1
  have Ea := Exa.ext E_h1 Ea
  have K0 := K0.ext E_h1
  have lo_b2 : h0.size ≤ b2 := Nat.le_of_eq g_b2.symm
  have hi_b2 : h1.size > b2 := A_b2.lt
  have A_b2 : own_A Z h1 b2 kc_b2 (.array .byte) [.null, .null, .null] := A_b2
  refine own_dup X 5 own_d3_4 rfl rfl ?_
  refine own_iconst X 6 (0 : Int32) own_d3_5 rfl rfl ?_
  refine own_aloadN X 7 (.ref a) own_d3_6 rfl rfl rfl ?_
  refine own_aastore X 8 0 own_d3_7 rfl A_b2 (by decide) (by decide) (Nat.le_of_ble_eq_true rfl) rfl (own_StoA A_b2 O_b2 (Ins.self Ea)) (by omega) ?_
  intro T h3 X W_h3
  have nw_h3 : own_A Z h3 b2 kc_b2 (.array .byte) [(.ref a), .null, .null] := A_b2.same W_h3 rfl
  have zs_h3 : h1.size ≤ h3.size := (Nat.le_of_eq W_h3.size.symm)
  have OL := OL.wr W_h3 (by omega)
  have Aa := Aa.other W_h3 (by show @Ne Nat _ _; omega)
  have Ea := Exa.wr W_h3 Ea
  have K0 := K0.wr W_h3 (Or.inr (by omega))
  have C_b2 := Exa.wr W_h3 C_b2
  have A_b2 := nw_h3
  refine own_dup X 9 own_d3_8 rfl rfl ?_
  refine own_iconst X 10 (1 : Int32) own_d3_9 rfl rfl ?_
  refine own_aloadN X 11 (.ref a) own_d3_10 rfl rfl rfl ?_
  refine own_getS X 14 own_d3_11 rfl (hw _ (List.mem_of_getElem? (i := 16) rfl)) Via.refl (Sta.ext OL.2 z_ho) ?_
  intro T X
  refine own_callS X 17 [(.ref a), (.ref ho)] [(.int (1 : Int32)), (.ref b2), (.ref b2)] own_d3_14 rfl (hw _ (List.mem_of_getElem? (i := 18) rfl)) (hw _ (List.mem_of_getElem? (i := 19) rfl)) (hw _ (List.mem_of_getElem? (i := 11) rfl)) (hw _ (List.mem_of_getElem? (i := 20) rfl)) (by decide) (own_su0_6 l Z a0 hw a ho ka kh h3 n0 X.sz Aa (own_A.ext z_hA OL.2)) (fun _ _ q => q.1.1) rfl own_pd2 rfl rfl rfl (by decide) (Nat.le_of_ble_eq_true rfl) (by decide) (by decide) ?_
  rintro v14 T h5 X ⟨K_, b4, kb_b4, rfl, lo_b4, hi_b4, A_b4, C_b4⟩
  have zs_h5 : h3.size ≤ h5.size := K_.1
  have OL := OL.keep K_ all0
  have Aa := Aa.keep K_ nin0
  have Ea := Ea.keep K_
  have K0 := K0.trans K_ all0
  have C_b2 := C_b2.keep K_
  have A_b2 := A_b2.keep K_ nin0
  show own_Ends p e below _ (T.setTop (mkF m 17 #[.val (.ref a)] [(.ref b4), (.int (1 : Int32)), (.ref b2), (.ref b2)]))
  refine own_aastore X 18 1 own_d3_17 rfl A_b2 (by decide) (by decide) (Nat.le_of_ble_eq_true rfl) rfl (own_StoA A_b2 O_b2 (Ins.self C_b4)) (by omega) ?_
  intro T h6 X W_h6
  have nw_h6 : own_A Z h6 b2 kc_b2 (.array .byte) [(.ref a), (.ref b4), .null] := A_b2.same W_h6 rfl
  have zs_h6 : h5.size ≤ h6.size := (Nat.le_of_eq W_h6.size.symm)
  have OL := OL.wr W_h6 (by omega)
  have Aa := Aa.other W_h6 (by show @Ne Nat _ _; omega)
  have Ea := Exa.wr W_h6 Ea
  have K0 := K0.wr W_h6 (Or.inr (by omega))
  have C_b2 := Exa.wr W_h6 C_b2
  have A_b4 := A_b4.other W_h6 (by show @Ne Nat _ _; omega)
  have C_b4 := Exa.wr W_h6 C_b4
  have A_b2 := nw_h6
  refine own_dup X 19 own_d3_18 rfl rfl ?_
  refine own_iconst X 20 (2 : Int32) own_d3_19 rfl rfl ?_
  refine own_aloadN X 21 (.ref a) own_d3_20 rfl rfl rfl ?_
  refine own_getS X 24 own_d3_21 rfl (hw _ (List.mem_of_getElem? (i := 34) rfl)) Via.refl (Sta.ext OL.2 z_wt) ?_
  intro T X
  refine own_callS X 27 [(.ref a), (.ref wt)] [(.int (2 : Int32)), (.ref b2), (.ref b2)] own_d3_24 rfl (hw _ (List.mem_of_getElem? (i := 18) rfl)) (hw _ (List.mem_of_getElem? (i := 19) rfl)) (hw _ (List.mem_of_getElem? (i := 11) rfl)) (hw _ (List.mem_of_getElem? (i := 20) rfl)) (by decide) (own_su0_8 l Z a0 hw a wt ka kw h6 n0 X.sz Aa (own_A.ext z_wA OL.2)) (fun _ _ q => q.1.1) rfl own_pd2 rfl rfl rfl (by decide) (Nat.le_of_ble_eq_true rfl) (by decide) (by decide) ?_
  rintro v24 T h8 X ⟨K_, b7, kb_b7, rfl, lo_b7, hi_b7, A_b7, C_b7⟩
  have zs_h8 : h6.size ≤ h8.size := K_.1
  have OL := OL.keep K_ all0
  have Aa := Aa.keep K_ nin0
  have Ea := Ea.keep K_
  have K0 := K0.trans K_ all0
  have C_b2 := C_b2.keep K_
  have A_b4 := A_b4.keep K_ nin0
  have C_b4 := C_b4.keep K_
  have A_b2 := A_b2.keep K_ nin0
  show own_Ends p e below _ (T.setTop (mkF m 27 #[.val (.ref a)] [(.ref b7), (.int (2 : Int32)), (.ref b2), (.ref b2)]))
  refine own_aastore X 28 2 own_d3_27 rfl A_b2 (by decide) (by decide) (Nat.le_of_ble_eq_true rfl) rfl (own_StoA A_b2 O_b2 (Ins.self C_b7)) (by omega) ?_
  intro T h9 X W_h9
  have nw_h9 : own_A Z h9 b2 kc_b2 (.array .byte) [(.ref a), (.ref b4), (.ref b7)] := A_b2.same W_h9 rfl
  have zs_h9 : h8.size ≤ h9.size := (Nat.le_of_eq W_h9.size.symm)
  have OL := OL.wr W_h9 (by omega)
  have Aa := Aa.other W_h9 (by show @Ne Nat _ _; omega)
  have Ea := Exa.wr W_h9 Ea
  have K0 := K0.wr W_h9 (Or.inr (by omega))
  have C_b2 := Exa.wr W_h9 C_b2
  have A_b4 := A_b4.other W_h9 (by show @Ne Nat _ _; omega)
  have C_b4 := Exa.wr W_h9 C_b4
  have A_b7 := A_b7.other W_h9 (by show @Ne Nat _ _; omega)
  have C_b7 := Exa.wr W_h9 C_b7
  have A_b2 := nw_h9
  exact own_retA X (.array (.array .byte)) own_d3_28 rfl rfl rfl rfl (by decide) (by decide) (⟨K0, b2, kc_b2, b4, kb_b4, b7, kb_b7, rfl, A_b2, A_b4, A_b7⟩)
set_option maxRecDepth 65536 in
set_option maxHeartbeats 40000000 in
theorem own_cp1_6 (l : Launch) (Z : State) (a0 : Array Value) (hw : ∀ d ∈ tables_1, d.before a0 Z = true) (a : Addr) (nl : Int32) (ka : ClassId) (x0 : Int32) (h0 : Heap) (n0 : Nat) (hs0 : n0 ≤ h0.size) (Aa : own_A Z h0 a ka .byte [(.int x0)]) (hnl : nl = 7) :
    own_Met l (⟨"java/util/Arrays", "copyOf", "([BI)[B"⟩ : MethodName) jdk_65_method_121_code 3 (some (.array .byte)) ({ frames := 1, cells := 1, slots := 7, locals := 18 } : Room) Z #[(.ref a), (.int nl)] h0 n0 (fun v h' => Keep h0 h' [] ∧ ∃ b kb, v = some (.ref b) ∧ h0.size ≤ b ∧ h'.size > b ∧ own_A Z h' b kb .byte [(.int x0), (.int (0 : Int32)), (.int (0 : Int32)), (.int (0 : Int32)), (.int (0 : Int32)), (.int (0 : Int32)), (.int (0 : Int32))] ∧ Exa Z h' b "[B") := by
  refine own_met (Ls := #[.val (.ref a), .val (.int nl), .unset]) own_pn5 hs0 (fun m => by first  | (simp [entryFrame, mkF, argsToLocals, Value.category]; done) | rfl) ?_
  intro p e s m below meth c T X
  have K0 := Keep.refl h0 []
  have hi_a : h0.size > a := Aa.lt
  subst hnl
  refine own_iloadN X 1 (7 : Int32) own_d5_0 rfl rfl ?_
  refine own_aloadN X 2 (.ref a) own_d5_1 rfl rfl rfl ?_
  refine own_len X 3 (1 : Int32) own_d5_2 rfl Aa rfl ?_
  refine own_icY X 14 own_d5_3 (by decide) (by decide) (XT.ii_ne_t (by decide)) ?_
  refine own_iloadN X 15 (7 : Int32) own_d5_14 rfl rfl ?_
  refine own_newPE X 17 7 7 (ad := "[B") own_d5_15 rfl (hw _ (List.mem_of_getElem? (i := 5) rfl)) (by decide) (by decide) (by decide) (by decide) (by decide) (by decide) (by decide) ?_
  intro T h1 b2 kc_b2 g_b2 X E_h1 A_b2 C_b2
  have zs_h1 : h0.size ≤ h1.size := E_h1.1
  have Aa := Aa.ext E_h1
  have K0 := K0.ext E_h1
  have lo_b2 : h0.size ≤ b2 := Nat.le_of_eq g_b2.symm
  have hi_b2 : h1.size > b2 := A_b2.lt
  have A_b2 : own_A Z h1 b2 kc_b2 .byte [(.int (0 : Int32)), (.int (0 : Int32)), (.int (0 : Int32)), (.int (0 : Int32)), (.int (0 : Int32)), (.int (0 : Int32)), (.int (0 : Int32))] := A_b2
  refine own_astoreN X 18 #[.val (.ref a), .val (.int (7 : Int32)), .val (.ref b2)] own_d5_17 rfl rfl rfl ?_
  refine own_aloadN X 19 (.ref a) own_d5_18 rfl rfl rfl ?_
  refine own_iconst X 20 (0 : Int32) own_d5_19 rfl rfl ?_
  refine own_aloadN X 21 (.ref b2) own_d5_20 rfl rfl rfl ?_
  refine own_iconst X 22 (0 : Int32) own_d5_21 rfl rfl ?_
  refine own_aloadN X 23 (.ref a) own_d5_22 rfl rfl rfl ?_
  refine own_len X 24 (1 : Int32) own_d5_23 rfl Aa rfl ?_
  refine own_iloadN X 25 (7 : Int32) own_d5_24 rfl rfl ?_
  refine own_callS X 28 [(.int (1 : Int32)), (.int (7 : Int32))] [(.int (0 : Int32)), (.ref b2), (.int (0 : Int32)), (.ref a)] own_d5_25 rfl (hw _ (List.mem_of_getElem? (i := 25) rfl)) (hw _ (List.mem_of_getElem? (i := 26) rfl)) (hw _ (List.mem_of_getElem? (i := 27) rfl)) (hw _ (List.mem_of_getElem? (i := 28) rfl)) (by decide) (own_mmin l Z a0 hw (1 : Int32) (7 : Int32) h1 n0 X.sz) (fun _ _ q => Nat.le_of_eq (congrArg Array.size q.1.symm)) rfl own_pd0 rfl rfl rfl (by decide) (Nat.le_of_ble_eq_true rfl) (by decide) (by decide) ?_
  rintro v25 T h_ X ⟨eh_, rfl⟩
  rw [eh_] at X
  show own_Ends p e below _ (T.setTop (mkF m 28 #[.val (.ref a), .val (.int (7 : Int32)), .val (.ref b2)] [(.int (own_min (1 : Int32) (7 : Int32))), (.int (0 : Int32)), (.ref b2), (.int (0 : Int32)), (.ref a)]))
  rw [show own_min (1 : Int32) (7 : Int32) = (1 : Int32) from by decide]
  refine own_cpy X 31 0 0 1 [(.int x0)] [(.int x0), (.int (0 : Int32)), (.int (0 : Int32)), (.int (0 : Int32)), (.int (0 : Int32)), (.int (0 : Int32)), (.int (0 : Int32))] own_d5_28 rfl (hw _ (List.mem_of_getElem? (i := 29) rfl)) (hw _ (List.mem_of_getElem? (i := 32) rfl)) (hw _ (List.mem_of_getElem? (i := 30) rfl)) (hw _ (List.mem_of_getElem? (i := 31) rfl)) Aa A_b2 (Or.inl ⟨rfl, rfl⟩) (by decide) (by decide) (by decide) (by decide) (by decide) (by decide) (Nat.le_of_ble_eq_true rfl) (Nat.le_of_ble_eq_true rfl) rfl rfl (by omega) rfl (by decide) (Nat.le_of_ble_eq_true rfl) ?_
  intro T h3 X K_ nA_
  have zs_h3 : h1.size ≤ h3.size := K_.1
  have Aa := Aa.keep K_ (ninS (by show @Ne Nat _ _; omega) nin0)
  have K0 := K0.trans K_ (allS (Or.inr (by omega)) all0)
  have C_b2 := C_b2.keep K_
  have A_b2 := nA_
  refine own_aloadN X 32 (.ref b2) own_d5_31 rfl rfl rfl ?_
  exact own_retA X (.array .byte) own_d5_32 rfl rfl rfl rfl (by decide) (by decide) (⟨K0, b2, kc_b2, rfl, by omega, A_b2.lt, A_b2, C_b2⟩)
set_option maxRecDepth 65536 in
set_option maxHeartbeats 40000000 in
theorem own_su1_6 (l : Launch) (Z : State) (a0 : Array Value) (hw : ∀ d ∈ tables_1, d.before a0 Z = true) (a : Addr) (sx : Addr) (ka : ClassId) (ks : ClassId) (x0 : Int32) (h0 : Heap) (n0 : Nat) (hs0 : n0 ≤ h0.size) (Aa : own_A Z h0 a ka .byte [(.int x0)]) (As : own_A Z h0 sx ks .byte [(.int 58), (.int 104), (.int 111), (.int 108), (.int 100), (.int 115)]) :
    own_Met l (⟨"com/example/latchkey/latchkey/LockKeys", "suffixed", "([B[B)[B"⟩ : MethodName) prog_1_method_6_code 3 (some (.array .byte)) ({ frames := 2, cells := 1, slots := 7, locals := 32 } : Room) Z #[(.ref a), (.ref sx)] h0 n0 (fun v h' => Keep h0 h' [] ∧ ∃ b kb, v = some (.ref b) ∧ h0.size ≤ b ∧ h'.size > b ∧ own_A Z h' b kb .byte [(.int x0), (.int 58), (.int 104), (.int 111), (.int 108), (.int 100), (.int 115)] ∧ Exa Z h' b "[B") := by
  refine own_met (Ls := #[.val (.ref a), .val (.ref sx), .unset]) own_pn4 hs0 (fun m => by first  | (simp [entryFrame, mkF, argsToLocals, Value.category]; done) | rfl) ?_
  intro p e s m below meth c T X
  have K0 := Keep.refl h0 []
  have hi_a : h0.size > a := Aa.lt
  have hi_sx : h0.size > sx := As.lt
  refine own_aloadN X 1 (.ref a) own_d4_0 rfl rfl rfl ?_
  refine own_aloadN X 2 (.ref a) own_d4_1 rfl rfl rfl ?_
  refine own_len X 3 (1 : Int32) own_d4_2 rfl Aa rfl ?_
  refine own_aloadN X 4 (.ref sx) own_d4_3 rfl rfl rfl ?_
  refine own_len X 5 (6 : Int32) own_d4_4 rfl As rfl ?_
  refine own_iadd X 6 own_d4_5 rfl ?_
  refine own_callS X 9 [(.ref a), (.int ((1 : Int32) + (6 : Int32)))] [] own_d4_6 rfl (hw _ (List.mem_of_getElem? (i := 21) rfl)) (hw _ (List.mem_of_getElem? (i := 22) rfl)) (hw _ (List.mem_of_getElem? (i := 23) rfl)) (hw _ (List.mem_of_getElem? (i := 24) rfl)) (by decide) (own_cp1_6 l Z a0 hw a ((1 : Int32) + (6 : Int32)) ka x0 h0 n0 X.sz Aa (by decide)) (fun _ _ q => q.1.1) rfl own_pd1 rfl rfl rfl (by decide) (Nat.le_of_ble_eq_true rfl) (by decide) (by decide) ?_
  rintro v6 T h2 X ⟨K_, b1, kb_b1, rfl, lo_b1, hi_b1, A_b1, C_b1⟩
  have zs_h2 : h0.size ≤ h2.size := K_.1
  have Aa := Aa.keep K_ nin0
  have As := As.keep K_ nin0
  have K0 := K0.trans K_ all0
  show own_Ends p e below _ (T.setTop (mkF m 9 #[.val (.ref a), .val (.ref sx), .unset] [(.ref b1)]))
  refine own_astoreN X 10 #[.val (.ref a), .val (.ref sx), .val (.ref b1)] own_d4_9 rfl rfl rfl ?_
  refine own_aloadN X 11 (.ref sx) own_d4_10 rfl rfl rfl ?_
  refine own_iconst X 12 (0 : Int32) own_d4_11 rfl rfl ?_
  refine own_aloadN X 13 (.ref b1) own_d4_12 rfl rfl rfl ?_
  refine own_aloadN X 14 (.ref a) own_d4_13 rfl rfl rfl ?_
  refine own_len X 15 (1 : Int32) own_d4_14 rfl Aa rfl ?_
  refine own_aloadN X 16 (.ref sx) own_d4_15 rfl rfl rfl ?_
  refine own_len X 17 (6 : Int32) own_d4_16 rfl As rfl ?_
  refine own_cpy X 20 0 1 6 [(.int 58), (.int 104), (.int 111), (.int 108), (.int 100), (.int 115)] [(.int x0), (.int 58), (.int 104), (.int 111), (.int 108), (.int 100), (.int 115)] own_d4_17 rfl (hw _ (List.mem_of_getElem? (i := 33) rfl)) (hw _ (List.mem_of_getElem? (i := 32) rfl)) (hw _ (List.mem_of_getElem? (i := 30) rfl)) (hw _ (List.mem_of_getElem? (i := 31) rfl)) As A_b1 (Or.inl ⟨rfl, rfl⟩) (by decide) (by decide) (by decide) (by decide) (by decide) (by decide) (Nat.le_of_ble_eq_true rfl) (Nat.le_of_ble_eq_true rfl) rfl rfl (by omega) rfl (by decide) (Nat.le_of_ble_eq_true rfl) ?_
  intro T h3 X K_ nA_
  have zs_h3 : h2.size ≤ h3.size := K_.1
  have Aa := Aa.keep K_ (ninS (by show @Ne Nat _ _; omega) nin0)
  have As := As.keep K_ (ninS (by show @Ne Nat _ _; omega) nin0)
  have K0 := K0.trans K_ (allS (Or.inr (by omega)) all0)
  have C_b1 := C_b1.keep K_
  have A_b1 := nA_
  refine own_aloadN X 21 (.ref b1) own_d4_20 rfl rfl rfl ?_
  exact own_retA X (.array .byte) own_d4_21 rfl rfl rfl rfl (by decide) (by decide) (⟨K0, b1, kb_b1, rfl, by omega, A_b1.lt, A_b1, C_b1⟩)
set_option maxRecDepth 65536 in
set_option maxHeartbeats 40000000 in
theorem own_cp1_8 (l : Launch) (Z : State) (a0 : Array Value) (hw : ∀ d ∈ tables_1, d.before a0 Z = true) (a : Addr) (nl : Int32) (ka : ClassId) (x0 : Int32) (h0 : Heap) (n0 : Nat) (hs0 : n0 ≤ h0.size) (Aa : own_A Z h0 a ka .byte [(.int x0)]) (hnl : nl = 9) :
    own_Met l (⟨"java/util/Arrays", "copyOf", "([BI)[B"⟩ : MethodName) jdk_65_method_121_code 3 (some (.array .byte)) ({ frames := 1, cells := 1, slots := 9, locals := 18 } : Room) Z #[(.ref a), (.int nl)] h0 n0 (fun v h' => Keep h0 h' [] ∧ ∃ b kb, v = some (.ref b) ∧ h0.size ≤ b ∧ h'.size > b ∧ own_A Z h' b kb .byte [(.int x0), (.int (0 : Int32)), (.int (0 : Int32)), (.int (0 : Int32)), (.int (0 : Int32)), (.int (0 : Int32)), (.int (0 : Int32)), (.int (0 : Int32)), (.int (0 : Int32))] ∧ Exa Z h' b "[B") := by
  refine own_met (Ls := #[.val (.ref a), .val (.int nl), .unset]) own_pn5 hs0 (fun m => by first  | (simp [entryFrame, mkF, argsToLocals, Value.category]; done) | rfl) ?_
  intro p e s m below meth c T X
  have K0 := Keep.refl h0 []
  have hi_a : h0.size > a := Aa.lt
  subst hnl
  refine own_iloadN X 1 (9 : Int32) own_d5_0 rfl rfl ?_
  refine own_aloadN X 2 (.ref a) own_d5_1 rfl rfl rfl ?_
  refine own_len X 3 (1 : Int32) own_d5_2 rfl Aa rfl ?_
  refine own_icY X 14 own_d5_3 (by decide) (by decide) (XT.ii_ne_t (by decide)) ?_
  refine own_iloadN X 15 (9 : Int32) own_d5_14 rfl rfl ?_
  refine own_newPE X 17 9 9 (ad := "[B") own_d5_15 rfl (hw _ (List.mem_of_getElem? (i := 5) rfl)) (by decide) (by decide) (by decide) (by decide) (by decide) (by decide) (by decide) ?_
  intro T h1 b2 kc_b2 g_b2 X E_h1 A_b2 C_b2
  have zs_h1 : h0.size ≤ h1.size := E_h1.1
  have Aa := Aa.ext E_h1
  have K0 := K0.ext E_h1
  have lo_b2 : h0.size ≤ b2 := Nat.le_of_eq g_b2.symm
  have hi_b2 : h1.size > b2 := A_b2.lt
  have A_b2 : own_A Z h1 b2 kc_b2 .byte [(.int (0 : Int32)), (.int (0 : Int32)), (.int (0 : Int32)), (.int (0 : Int32)), (.int (0 : Int32)), (.int (0 : Int32)), (.int (0 : Int32)), (.int (0 : Int32)), (.int (0 : Int32))] := A_b2
  refine own_astoreN X 18 #[.val (.ref a), .val (.int (9 : Int32)), .val (.ref b2)] own_d5_17 rfl rfl rfl ?_
  refine own_aloadN X 19 (.ref a) own_d5_18 rfl rfl rfl ?_
  refine own_iconst X 20 (0 : Int32) own_d5_19 rfl rfl ?_
  refine own_aloadN X 21 (.ref b2) own_d5_20 rfl rfl rfl ?_
  refine own_iconst X 22 (0 : Int32) own_d5_21 rfl rfl ?_
  refine own_aloadN X 23 (.ref a) own_d5_22 rfl rfl rfl ?_
  refine own_len X 24 (1 : Int32) own_d5_23 rfl Aa rfl ?_
  refine own_iloadN X 25 (9 : Int32) own_d5_24 rfl rfl ?_
  refine own_callS X 28 [(.int (1 : Int32)), (.int (9 : Int32))] [(.int (0 : Int32)), (.ref b2), (.int (0 : Int32)), (.ref a)] own_d5_25 rfl (hw _ (List.mem_of_getElem? (i := 25) rfl)) (hw _ (List.mem_of_getElem? (i := 26) rfl)) (hw _ (List.mem_of_getElem? (i := 27) rfl)) (hw _ (List.mem_of_getElem? (i := 28) rfl)) (by decide) (own_mmin l Z a0 hw (1 : Int32) (9 : Int32) h1 n0 X.sz) (fun _ _ q => Nat.le_of_eq (congrArg Array.size q.1.symm)) rfl own_pd0 rfl rfl rfl (by decide) (Nat.le_of_ble_eq_true rfl) (by decide) (by decide) ?_
  rintro v25 T h_ X ⟨eh_, rfl⟩
  rw [eh_] at X
  show own_Ends p e below _ (T.setTop (mkF m 28 #[.val (.ref a), .val (.int (9 : Int32)), .val (.ref b2)] [(.int (own_min (1 : Int32) (9 : Int32))), (.int (0 : Int32)), (.ref b2), (.int (0 : Int32)), (.ref a)]))
  rw [show own_min (1 : Int32) (9 : Int32) = (1 : Int32) from by decide]
  refine own_cpy X 31 0 0 1 [(.int x0)] [(.int x0), (.int (0 : Int32)), (.int (0 : Int32)), (.int (0 : Int32)), (.int (0 : Int32)), (.int (0 : Int32)), (.int (0 : Int32)), (.int (0 : Int32)), (.int (0 : Int32))] own_d5_28 rfl (hw _ (List.mem_of_getElem? (i := 29) rfl)) (hw _ (List.mem_of_getElem? (i := 32) rfl)) (hw _ (List.mem_of_getElem? (i := 30) rfl)) (hw _ (List.mem_of_getElem? (i := 31) rfl)) Aa A_b2 (Or.inl ⟨rfl, rfl⟩) (by decide) (by decide) (by decide) (by decide) (by decide) (by decide) (Nat.le_of_ble_eq_true rfl) (Nat.le_of_ble_eq_true rfl) rfl rfl (by omega) rfl (by decide) (Nat.le_of_ble_eq_true rfl) ?_
  intro T h3 X K_ nA_
  have zs_h3 : h1.size ≤ h3.size := K_.1
  have Aa := Aa.keep K_ (ninS (by show @Ne Nat _ _; omega) nin0)
  have K0 := K0.trans K_ (allS (Or.inr (by omega)) all0)
  have C_b2 := C_b2.keep K_
  have A_b2 := nA_
  refine own_aloadN X 32 (.ref b2) own_d5_31 rfl rfl rfl ?_
  exact own_retA X (.array .byte) own_d5_32 rfl rfl rfl rfl (by decide) (by decide) (⟨K0, b2, kc_b2, rfl, by omega, A_b2.lt, A_b2, C_b2⟩)
set_option maxRecDepth 65536 in
set_option maxHeartbeats 40000000 in
theorem own_su1_8 (l : Launch) (Z : State) (a0 : Array Value) (hw : ∀ d ∈ tables_1, d.before a0 Z = true) (a : Addr) (sx : Addr) (ka : ClassId) (ks : ClassId) (x0 : Int32) (h0 : Heap) (n0 : Nat) (hs0 : n0 ≤ h0.size) (Aa : own_A Z h0 a ka .byte [(.int x0)]) (As : own_A Z h0 sx ks .byte [(.int 58), (.int 119), (.int 97), (.int 105), (.int 116), (.int 105), (.int 110), (.int 103)]) :
    own_Met l (⟨"com/example/latchkey/latchkey/LockKeys", "suffixed", "([B[B)[B"⟩ : MethodName) prog_1_method_6_code 3 (some (.array .byte)) ({ frames := 2, cells := 1, slots := 9, locals := 32 } : Room) Z #[(.ref a), (.ref sx)] h0 n0 (fun v h' => Keep h0 h' [] ∧ ∃ b kb, v = some (.ref b) ∧ h0.size ≤ b ∧ h'.size > b ∧ own_A Z h' b kb .byte [(.int x0), (.int 58), (.int 119), (.int 97), (.int 105), (.int 116), (.int 105), (.int 110), (.int 103)] ∧ Exa Z h' b "[B") := by
  refine own_met (Ls := #[.val (.ref a), .val (.ref sx), .unset]) own_pn4 hs0 (fun m => by first  | (simp [entryFrame, mkF, argsToLocals, Value.category]; done) | rfl) ?_
  intro p e s m below meth c T X
  have K0 := Keep.refl h0 []
  have hi_a : h0.size > a := Aa.lt
  have hi_sx : h0.size > sx := As.lt
  refine own_aloadN X 1 (.ref a) own_d4_0 rfl rfl rfl ?_
  refine own_aloadN X 2 (.ref a) own_d4_1 rfl rfl rfl ?_
  refine own_len X 3 (1 : Int32) own_d4_2 rfl Aa rfl ?_
  refine own_aloadN X 4 (.ref sx) own_d4_3 rfl rfl rfl ?_
  refine own_len X 5 (8 : Int32) own_d4_4 rfl As rfl ?_
  refine own_iadd X 6 own_d4_5 rfl ?_
  refine own_callS X 9 [(.ref a), (.int ((1 : Int32) + (8 : Int32)))] [] own_d4_6 rfl (hw _ (List.mem_of_getElem? (i := 21) rfl)) (hw _ (List.mem_of_getElem? (i := 22) rfl)) (hw _ (List.mem_of_getElem? (i := 23) rfl)) (hw _ (List.mem_of_getElem? (i := 24) rfl)) (by decide) (own_cp1_8 l Z a0 hw a ((1 : Int32) + (8 : Int32)) ka x0 h0 n0 X.sz Aa (by decide)) (fun _ _ q => q.1.1) rfl own_pd1 rfl rfl rfl (by decide) (Nat.le_of_ble_eq_true rfl) (by decide) (by decide) ?_
  rintro v6 T h2 X ⟨K_, b1, kb_b1, rfl, lo_b1, hi_b1, A_b1, C_b1⟩
  have zs_h2 : h0.size ≤ h2.size := K_.1
  have Aa := Aa.keep K_ nin0
  have As := As.keep K_ nin0
  have K0 := K0.trans K_ all0
  show own_Ends p e below _ (T.setTop (mkF m 9 #[.val (.ref a), .val (.ref sx), .unset] [(.ref b1)]))
  refine own_astoreN X 10 #[.val (.ref a), .val (.ref sx), .val (.ref b1)] own_d4_9 rfl rfl rfl ?_
  refine own_aloadN X 11 (.ref sx) own_d4_10 rfl rfl rfl ?_
  refine own_iconst X 12 (0 : Int32) own_d4_11 rfl rfl ?_
  refine own_aloadN X 13 (.ref b1) own_d4_12 rfl rfl rfl ?_
  refine own_aloadN X 14 (.ref a) own_d4_13 rfl rfl rfl ?_
  refine own_len X 15 (1 : Int32) own_d4_14 rfl Aa rfl ?_
  refine own_aloadN X 16 (.ref sx) own_d4_15 rfl rfl rfl ?_
  refine own_len X 17 (8 : Int32) own_d4_16 rfl As rfl ?_
  refine own_cpy X 20 0 1 8 [(.int 58), (.int 119), (.int 97), (.int 105), (.int 116), (.int 105), (.int 110), (.int 103)] [(.int x0), (.int 58), (.int 119), (.int 97), (.int 105), (.int 116), (.int 105), (.int 110), (.int 103)] own_d4_17 rfl (hw _ (List.mem_of_getElem? (i := 33) rfl)) (hw _ (List.mem_of_getElem? (i := 32) rfl)) (hw _ (List.mem_of_getElem? (i := 30) rfl)) (hw _ (List.mem_of_getElem? (i := 31) rfl)) As A_b1 (Or.inl ⟨rfl, rfl⟩) (by decide) (by decide) (by decide) (by decide) (by decide) (by decide) (Nat.le_of_ble_eq_true rfl) (Nat.le_of_ble_eq_true rfl) rfl rfl (by omega) rfl (by decide) (Nat.le_of_ble_eq_true rfl) ?_
  intro T h3 X K_ nA_
  have zs_h3 : h2.size ≤ h3.size := K_.1
  have Aa := Aa.keep K_ (ninS (by show @Ne Nat _ _; omega) nin0)
  have As := As.keep K_ (ninS (by show @Ne Nat _ _; omega) nin0)
  have K0 := K0.trans K_ (allS (Or.inr (by omega)) all0)
  have C_b1 := C_b1.keep K_
  have A_b1 := nA_
  refine own_aloadN X 21 (.ref b1) own_d4_20 rfl rfl rfl ?_
  exact own_retA X (.array .byte) own_d4_21 rfl rfl rfl rfl (by decide) (by decide) (⟨K0, b1, kb_b1, rfl, by omega, A_b1.lt, A_b1, C_b1⟩)
set_option maxRecDepth 65536 in
set_option maxHeartbeats 40000000 in
theorem own_hf1 (l : Launch) (Z : State) (a0 : Array Value) (hw : ∀ d ∈ tables_1, d.before a0 Z = true) (a : Addr) (ka : ClassId) (ho : Addr) (kh : ClassId) (wt : Addr) (kw : ClassId) (x0 : Int32) (h0 : Heap) (n0 : Nat) (hs0 : n0 ≤ h0.size) (OL : Old Z n0 h0) (z_ho : Sta Z Z.heap "com/example/latchkey/latchkey/LockKeys" "HOLDS" "[B" (.ref ho)) (z_hA : own_A Z Z.heap ho kh .byte [(.int 58), (.int 104), (.int 111), (.int 108), (.int 100), (.int 115)]) (z_wt : Sta Z Z.heap "com/example/latchkey/latchkey/LockKeys" "WAITING" "[B" (.ref wt)) (z_wA : own_A Z Z.heap wt kw .byte [(.int 58), (.int 119), (.int 97), (.int 105), (.int 116), (.int 105), (.int 110), (.int 103)]) (Aa : own_A Z h0 a ka .byte [(.int x0)]) (Ea : Exa Z h0 a "[B") :
    own_Met l (⟨"com/example/latchkey/latchkey/LockKeys", "holderFields", "([B)[[B"⟩ : MethodName) prog_1_method_5_code 1 (some (.array (.array .byte))) ({ frames := 3, cells := 3, slots := 19, locals := 49 } : Room) Z #[(.ref a)] h0 n0 (fun v h' => Keep h0 h' [] ∧ ∃ w kx b1 k1 b2 k2, v = some (.ref w) ∧ own_A Z h' w kx (.array .byte) [(.ref a), (.ref b1), (.ref b2)] ∧ own_A Z h' b1 k1 .byte [(.int x0), (.int 58), (.int 104), (.int 111), (.int 108), (.int 100), (.int 115)] ∧ own_A Z h' b2 k2 .byte [(.int x0), (.int 58), (.int 119), (.int 97), (.int 105), (.int 116), (.int 105), (.int 110), (.int 103)]) := by
  refine own_met (Ls := #[.val (.ref a)]) own_pn3 hs0 (fun m => by first  | (simp [entryFrame, mkF, argsToLocals, Value.category]; done) | rfl) ?_
  intro p e s m below meth c T X
  have K0 := Keep.refl h0 []
  have hi_ho : n0 > ho := (OL.1 ▸ z_hA.lt)
  have hi_wt : n0 > wt := (OL.1 ▸ z_wA.lt)
  have hi_a : h0.size > a := Aa.lt
  refine own_iconst X 1 (3 : Int32) own_d3_0 rfl rfl ?_
  refine own_newRA X 4 3 3 (ad := "[[B") own_d3_1 rfl (ty := .byte) (by decide) (hw _ (List.mem_of_getElem? (i := 13) rfl)) (hw _ (List.mem_of_getElem? (i := 14) rfl)) (by decide) (by decide) (by decide) (by decide) (by decide) (by decide) (by decide) ?_
  intro T h1 b2 kc_b2 g_b2 X E_h1 A_b2 O_b2 C_b2
  have zs_h1 : h0.size ≤ h1.size := E_h1.1
  have OL := OL.ext E_h1
  have Aa := Aa.ext E_h1
  have Ea := Exa.ext E_h1 Ea
  have K0 := K0.ext E_h1
  have lo_b2 : h0.size ≤ b2 := Nat.le_of_eq g_b2.symm
  have hi_b2 : h1.size > b2 := A_b2.lt
  have A_b2 : own_A Z h1 b2 kc_b2 (.array .byte) [.null, .null, .null] := A_b2
  refine own_dup X 5 own_d3_4 rfl rfl ?_
  refine own_iconst X 6 (0 : Int32) own_d3_5 rfl rfl ?_
  refine own_aloadN X 7 (.ref a) own_d3_6 rfl rfl rfl ?_
  refine own_aastore X 8 0 own_d3_7 rfl A_b2 (by decide) (by decide) (Nat.le_of_ble_eq_true rfl) rfl (own_StoA A_b2 O_b2 (Ins.self Ea)) (by omega) ?_
  intro T h3 X W_h3
  have nw_h3 : own_A Z h3 b2 kc_b2 (.array .byte) [(.ref a), .null, .null] := A_b2.same W_h3 rfl
  have zs_h3 : h1.size ≤ h3.size := (Nat.le_of_eq W_h3.size.symm)
  have OL := OL.wr W_h3 (by omega)
  have Aa := Aa.other W_h3 (by show @Ne Nat _ _; omega)
  have Ea := Exa.wr W_h3 Ea
  have K0 := K0.wr W_h3 (Or.inr (by omega))
  have C_b2 := Exa.wr W_h3 C_b2
  have A_b2 := nw_h3
  refine own_dup X 9 own_d3_8 rfl rfl ?_
  refine own_iconst X 10 (1 : Int32) own_d3_9 rfl rfl ?_
  refine own_aloadN X 11 (.ref a) own_d3_10 rfl rfl rfl ?_
  refine own_getS X 14 own_d3_11 rfl (hw _ (List.mem_of_getElem? (i := 16) rfl)) Via.refl (Sta.ext OL.2 z_ho) ?_
  intro T X
  refine own_callS X 17 [(.ref a), (.ref ho)] [(.int (1 : Int32)), (.ref b2), (.ref b2)] own_d3_14 rfl (hw _ (List.mem_of_getElem? (i := 18) rfl)) (hw _ (List.mem_of_getElem? (i := 19) rfl)) (hw _ (List.mem_of_getElem? (i := 11) rfl)) (hw _ (List.mem_of_getElem? (i := 20) rfl)) (by decide) (own_su1_6 l Z a0 hw a ho ka kh x0 h3 n0 X.sz Aa (own_A.ext z_hA OL.2)) (fun _ _ q => q.1.1) rfl own_pd2 rfl rfl rfl (by decide) (Nat.le_of_ble_eq_true rfl) (by decide) (by decide) ?_
  rintro v14 T h5 X ⟨K_, b4, kb_b4, rfl, lo_b4, hi_b4, A_b4, C_b4⟩
  have zs_h5 : h3.size ≤ h5.size := K_.1
  have OL := OL.keep K_ all0
  have Aa := Aa.keep K_ nin0
  have Ea := Ea.keep K_
  have K0 := K0.trans K_ all0
  have C_b2 := C_b2.keep K_
  have A_b2 := A_b2.keep K_ nin0
  show own_Ends p e below _ (T.setTop (mkF m 17 #[.val (.ref a)] [(.ref b4), (.int (1 : Int32)), (.ref b2), (.ref b2)]))
  refine own_aastore X 18 1 own_d3_17 rfl A_b2 (by decide) (by decide) (Nat.le_of_ble_eq_true rfl) rfl (own_StoA A_b2 O_b2 (Ins.self C_b4)) (by omega) ?_
  intro T h6 X W_h6
  have nw_h6 : own_A Z h6 b2 kc_b2 (.array .byte) [(.ref a), (.ref b4), .null] := A_b2.same W_h6 rfl
  have zs_h6 : h5.size ≤ h6.size := (Nat.le_of_eq W_h6.size.symm)
  have OL := OL.wr W_h6 (by omega)
  have Aa := Aa.other W_h6 (by show @Ne Nat _ _; omega)
  have Ea := Exa.wr W_h6 Ea
  have K0 := K0.wr W_h6 (Or.inr (by omega))
  have C_b2 := Exa.wr W_h6 C_b2
  have A_b4 := A_b4.other W_h6 (by show @Ne Nat _ _; omega)
  have C_b4 := Exa.wr W_h6 C_b4
  have A_b2 := nw_h6
  refine own_dup X 19 own_d3_18 rfl rfl ?_
  refine own_iconst X 20 (2 : Int32) own_d3_19 rfl rfl ?_
  refine own_aloadN X 21 (.ref a) own_d3_20 rfl rfl rfl ?_
  refine own_getS X 24 own_d3_21 rfl (hw _ (List.mem_of_getElem? (i := 34) rfl)) Via.refl (Sta.ext OL.2 z_wt) ?_
  intro T X
  refine own_callS X 27 [(.ref a), (.ref wt)] [(.int (2 : Int32)), (.ref b2), (.ref b2)] own_d3_24 rfl (hw _ (List.mem_of_getElem? (i := 18) rfl)) (hw _ (List.mem_of_getElem? (i := 19) rfl)) (hw _ (List.mem_of_getElem? (i := 11) rfl)) (hw _ (List.mem_of_getElem? (i := 20) rfl)) (by decide) (own_su1_8 l Z a0 hw a wt ka kw x0 h6 n0 X.sz Aa (own_A.ext z_wA OL.2)) (fun _ _ q => q.1.1) rfl own_pd2 rfl rfl rfl (by decide) (Nat.le_of_ble_eq_true rfl) (by decide) (by decide) ?_
  rintro v24 T h8 X ⟨K_, b7, kb_b7, rfl, lo_b7, hi_b7, A_b7, C_b7⟩
  have zs_h8 : h6.size ≤ h8.size := K_.1
  have OL := OL.keep K_ all0
  have Aa := Aa.keep K_ nin0
  have Ea := Ea.keep K_
  have K0 := K0.trans K_ all0
  have C_b2 := C_b2.keep K_
  have A_b4 := A_b4.keep K_ nin0
  have C_b4 := C_b4.keep K_
  have A_b2 := A_b2.keep K_ nin0
  show own_Ends p e below _ (T.setTop (mkF m 27 #[.val (.ref a)] [(.ref b7), (.int (2 : Int32)), (.ref b2), (.ref b2)]))
  refine own_aastore X 28 2 own_d3_27 rfl A_b2 (by decide) (by decide) (Nat.le_of_ble_eq_true rfl) rfl (own_StoA A_b2 O_b2 (Ins.self C_b7)) (by omega) ?_
  intro T h9 X W_h9
  have nw_h9 : own_A Z h9 b2 kc_b2 (.array .byte) [(.ref a), (.ref b4), (.ref b7)] := A_b2.same W_h9 rfl
  have zs_h9 : h8.size ≤ h9.size := (Nat.le_of_eq W_h9.size.symm)
  have OL := OL.wr W_h9 (by omega)
  have Aa := Aa.other W_h9 (by show @Ne Nat _ _; omega)
  have Ea := Exa.wr W_h9 Ea
  have K0 := K0.wr W_h9 (Or.inr (by omega))
  have C_b2 := Exa.wr W_h9 C_b2
  have A_b4 := A_b4.other W_h9 (by show @Ne Nat _ _; omega)
  have C_b4 := Exa.wr W_h9 C_b4
  have A_b7 := A_b7.other W_h9 (by show @Ne Nat _ _; omega)
  have C_b7 := Exa.wr W_h9 C_b7
  have A_b2 := nw_h9
  exact own_retA X (.array (.array .byte)) own_d3_28 rfl rfl rfl rfl (by decide) (by decide) (⟨K0, b2, kc_b2, b4, kb_b4, b7, kb_b7, rfl, A_b2, A_b4, A_b7⟩)
set_option maxRecDepth 65536 in
set_option maxHeartbeats 40000000 in
theorem own_cp2_6 (l : Launch) (Z : State) (a0 : Array Value) (hw : ∀ d ∈ tables_1, d.before a0 Z = true) (a : Addr) (nl : Int32) (ka : ClassId) (x0 : Int32) (x1 : Int32) (h0 : Heap) (n0 : Nat) (hs0 : n0 ≤ h0.size) (Aa : own_A Z h0 a ka .byte [(.int x0), (.int x1)]) (hnl : nl = 8) :
    own_Met l (⟨"java/util/Arrays", "copyOf", "([BI)[B"⟩ : MethodName) jdk_65_method_121_code 3 (some (.array .byte)) ({ frames := 1, cells := 1, slots := 8, locals := 18 } : Room) Z #[(.ref a), (.int nl)] h0 n0 (fun v h' => Keep h0 h' [] ∧ ∃ b kb, v = some (.ref b) ∧ h0.size ≤ b ∧ h'.size > b ∧ own_A Z h' b kb .byte [(.int x0), (.int x1), (.int (0 : Int32)), (.int (0 : Int32)), (.int (0 : Int32)), (.int (0 : Int32)), (.int (0 : Int32)), (.int (0 : Int32))] ∧ Exa Z h' b "[B") := by
  refine own_met (Ls := #[.val (.ref a), .val (.int nl), .unset]) own_pn5 hs0 (fun m => by first  | (simp [entryFrame, mkF, argsToLocals, Value.category]; done) | rfl) ?_
  intro p e s m below meth c T X
  have K0 := Keep.refl h0 []
  have hi_a : h0.size > a := Aa.lt
  subst hnl
  refine own_iloadN X 1 (8 : Int32) own_d5_0 rfl rfl ?_
  refine own_aloadN X 2 (.ref a) own_d5_1 rfl rfl rfl ?_
  refine own_len X 3 (2 : Int32) own_d5_2 rfl Aa rfl ?_
  refine own_icY X 14 own_d5_3 (by decide) (by decide) (XT.ii_ne_t (by decide)) ?_
  refine own_iloadN X 15 (8 : Int32) own_d5_14 rfl rfl ?_
  refine own_newPE X 17 8 8 (ad := "[B") own_d5_15 rfl (hw _ (List.mem_of_getElem? (i := 5) rfl)) (by decide) (by decide) (by decide) (by decide) (by decide) (by decide) (by decide) ?_
  intro T h1 b2 kc_b2 g_b2 X E_h1 A_b2 C_b2
  have zs_h1 : h0.size ≤ h1.size := E_h1.1
  have Aa := Aa.ext E_h1
  have K0 := K0.ext E_h1
  have lo_b2 : h0.size ≤ b2 := Nat.le_of_eq g_b2.symm
  have hi_b2 : h1.size > b2 := A_b2.lt
  have A_b2 : own_A Z h1 b2 kc_b2 .byte [(.int (0 : Int32)), (.int (0 : Int32)), (.int (0 : Int32)), (.int (0 : Int32)), (.int (0 : Int32)), (.int (0 : Int32)), (.int (0 : Int32)), (.int (0 : Int32))] := A_b2
  refine own_astoreN X 18 #[.val (.ref a), .val (.int (8 : Int32)), .val (.ref b2)] own_d5_17 rfl rfl rfl ?_
  refine own_aloadN X 19 (.ref a) own_d5_18 rfl rfl rfl ?_
  refine own_iconst X 20 (0 : Int32) own_d5_19 rfl rfl ?_
  refine own_aloadN X 21 (.ref b2) own_d5_20 rfl rfl rfl ?_
  refine own_iconst X 22 (0 : Int32) own_d5_21 rfl rfl ?_
  refine own_aloadN X 23 (.ref a) own_d5_22 rfl rfl rfl ?_
  refine own_len X 24 (2 : Int32) own_d5_23 rfl Aa rfl ?_
  refine own_iloadN X 25 (8 : Int32) own_d5_24 rfl rfl ?_
  refine own_callS X 28 [(.int (2 : Int32)), (.int (8 : Int32))] [(.int (0 : Int32)), (.ref b2), (.int (0 : Int32)), (.ref a)] own_d5_25 rfl (hw _ (List.mem_of_getElem? (i := 25) rfl)) (hw _ (List.mem_of_getElem? (i := 26) rfl)) (hw _ (List.mem_of_getElem? (i := 27) rfl)) (hw _ (List.mem_of_getElem? (i := 28) rfl)) (by decide) (own_mmin l Z a0 hw (2 : Int32) (8 : Int32) h1 n0 X.sz) (fun _ _ q => Nat.le_of_eq (congrArg Array.size q.1.symm)) rfl own_pd0 rfl rfl rfl (by decide) (Nat.le_of_ble_eq_true rfl) (by decide) (by decide) ?_
  rintro v25 T h_ X ⟨eh_, rfl⟩
  rw [eh_] at X
  show own_Ends p e below _ (T.setTop (mkF m 28 #[.val (.ref a), .val (.int (8 : Int32)), .val (.ref b2)] [(.int (own_min (2 : Int32) (8 : Int32))), (.int (0 : Int32)), (.ref b2), (.int (0 : Int32)), (.ref a)]))
  rw [show own_min (2 : Int32) (8 : Int32) = (2 : Int32) from by decide]
  refine own_cpy X 31 0 0 2 [(.int x0), (.int x1)] [(.int x0), (.int x1), (.int (0 : Int32)), (.int (0 : Int32)), (.int (0 : Int32)), (.int (0 : Int32)), (.int (0 : Int32)), (.int (0 : Int32))] own_d5_28 rfl (hw _ (List.mem_of_getElem? (i := 29) rfl)) (hw _ (List.mem_of_getElem? (i := 32) rfl)) (hw _ (List.mem_of_getElem? (i := 30) rfl)) (hw _ (List.mem_of_getElem? (i := 31) rfl)) Aa A_b2 (Or.inl ⟨rfl, rfl⟩) (by decide) (by decide) (by decide) (by decide) (by decide) (by decide) (Nat.le_of_ble_eq_true rfl) (Nat.le_of_ble_eq_true rfl) rfl rfl (by omega) rfl (by decide) (Nat.le_of_ble_eq_true rfl) ?_
  intro T h3 X K_ nA_
  have zs_h3 : h1.size ≤ h3.size := K_.1
  have Aa := Aa.keep K_ (ninS (by show @Ne Nat _ _; omega) nin0)
  have K0 := K0.trans K_ (allS (Or.inr (by omega)) all0)
  have C_b2 := C_b2.keep K_
  have A_b2 := nA_
  refine own_aloadN X 32 (.ref b2) own_d5_31 rfl rfl rfl ?_
  exact own_retA X (.array .byte) own_d5_32 rfl rfl rfl rfl (by decide) (by decide) (⟨K0, b2, kc_b2, rfl, by omega, A_b2.lt, A_b2, C_b2⟩)
set_option maxRecDepth 65536 in
set_option maxHeartbeats 40000000 in
theorem own_su2_6 (l : Launch) (Z : State) (a0 : Array Value) (hw : ∀ d ∈ tables_1, d.before a0 Z = true) (a : Addr) (sx : Addr) (ka : ClassId) (ks : ClassId) (x0 : Int32) (x1 : Int32) (h0 : Heap) (n0 : Nat) (hs0 : n0 ≤ h0.size) (Aa : own_A Z h0 a ka .byte [(.int x0), (.int x1)]) (As : own_A Z h0 sx ks .byte [(.int 58), (.int 104), (.int 111), (.int 108), (.int 100), (.int 115)]) :
    own_Met l (⟨"com/example/latchkey/latchkey/LockKeys", "suffixed", "([B[B)[B"⟩ : MethodName) prog_1_method_6_code 3 (some (.array .byte)) ({ frames := 2, cells := 1, slots := 8, locals := 32 } : Room) Z #[(.ref a), (.ref sx)] h0 n0 (fun v h' => Keep h0 h' [] ∧ ∃ b kb, v = some (.ref b) ∧ h0.size ≤ b ∧ h'.size > b ∧ own_A Z h' b kb .byte [(.int x0), (.int x1), (.int 58), (.int 104), (.int 111), (.int 108), (.int 100), (.int 115)] ∧ Exa Z h' b "[B") := by
  refine own_met (Ls := #[.val (.ref a), .val (.ref sx), .unset]) own_pn4 hs0 (fun m => by first  | (simp [entryFrame, mkF, argsToLocals, Value.category]; done) | rfl) ?_
  intro p e s m below meth c T X
  have K0 := Keep.refl h0 []
  have hi_a : h0.size > a := Aa.lt
  have hi_sx : h0.size > sx := As.lt
  refine own_aloadN X 1 (.ref a) own_d4_0 rfl rfl rfl ?_
  refine own_aloadN X 2 (.ref a) own_d4_1 rfl rfl rfl ?_
  refine own_len X 3 (2 : Int32) own_d4_2 rfl Aa rfl ?_
  refine own_aloadN X 4 (.ref sx) own_d4_3 rfl rfl rfl ?_
  refine own_len X 5 (6 : Int32) own_d4_4 rfl As rfl ?_
  refine own_iadd X 6 own_d4_5 rfl ?_
  refine own_callS X 9 [(.ref a), (.int ((2 : Int32) + (6 : Int32)))] [] own_d4_6 rfl (hw _ (List.mem_of_getElem? (i := 21) rfl)) (hw _ (List.mem_of_getElem? (i := 22) rfl)) (hw _ (List.mem_of_getElem? (i := 23) rfl)) (hw _ (List.mem_of_getElem? (i := 24) rfl)) (by decide) (own_cp2_6 l Z a0 hw a ((2 : Int32) + (6 : Int32)) ka x0 x1 h0 n0 X.sz Aa (by decide)) (fun _ _ q => q.1.1) rfl own_pd1 rfl rfl rfl (by decide) (Nat.le_of_ble_eq_true rfl) (by decide) (by decide) ?_
  rintro v6 T h2 X ⟨K_, b1, kb_b1, rfl, lo_b1, hi_b1, A_b1, C_b1⟩
  have zs_h2 : h0.size ≤ h2.size := K_.1
  have Aa := Aa.keep K_ nin0
  have As := As.keep K_ nin0
  have K0 := K0.trans K_ all0
  show own_Ends p e below _ (T.setTop (mkF m 9 #[.val (.ref a), .val (.ref sx), .unset] [(.ref b1)]))
  refine own_astoreN X 10 #[.val (.ref a), .val (.ref sx), .val (.ref b1)] own_d4_9 rfl rfl rfl ?_
  refine own_aloadN X 11 (.ref sx) own_d4_10 rfl rfl rfl ?_
  refine own_iconst X 12 (0 : Int32) own_d4_11 rfl rfl ?_
  refine own_aloadN X 13 (.ref b1) own_d4_12 rfl rfl rfl ?_
  refine own_aloadN X 14 (.ref a) own_d4_13 rfl rfl rfl ?_
  refine own_len X 15 (2 : Int32) own_d4_14 rfl Aa rfl ?_
  refine own_aloadN X 16 (.ref sx) own_d4_15 rfl rfl rfl ?_
  refine own_len X 17 (6 : Int32) own_d4_16 rfl As rfl ?_
  refine own_cpy X 20 0 2 6 [(.int 58), (.int 104), (.int 111), (.int 108), (.int 100), (.int 115)] [(.int x0), (.int x1), (.int 58), (.int 104), (.int 111), (.int 108), (.int 100), (.int 115)] own_d4_17 rfl (hw _ (List.mem_of_getElem? (i := 33) rfl)) (hw _ (List.mem_of_getElem? (i := 32) rfl)) (hw _ (List.mem_of_getElem? (i := 30) rfl)) (hw _ (List.mem_of_getElem? (i := 31) rfl)) As A_b1 (Or.inl ⟨rfl, rfl⟩) (by decide) (by decide) (by decide) (by decide) (by decide) (by decide) (Nat.le_of_ble_eq_true rfl) (Nat.le_of_ble_eq_true rfl) rfl rfl (by omega) rfl (by decide) (Nat.le_of_ble_eq_true rfl) ?_
  intro T h3 X K_ nA_
  have zs_h3 : h2.size ≤ h3.size := K_.1
  have Aa := Aa.keep K_ (ninS (by show @Ne Nat _ _; omega) nin0)
  have As := As.keep K_ (ninS (by show @Ne Nat _ _; omega) nin0)
  have K0 := K0.trans K_ (allS (Or.inr (by omega)) all0)
  have C_b1 := C_b1.keep K_
  have A_b1 := nA_
  refine own_aloadN X 21 (.ref b1) own_d4_20 rfl rfl rfl ?_
  exact own_retA X (.array .byte) own_d4_21 rfl rfl rfl rfl (by decide) (by decide) (⟨K0, b1, kb_b1, rfl, by omega, A_b1.lt, A_b1, C_b1⟩)
set_option maxRecDepth 65536 in
set_option maxHeartbeats 40000000 in
theorem own_cp2_8 (l : Launch) (Z : State) (a0 : Array Value) (hw : ∀ d ∈ tables_1, d.before a0 Z = true) (a : Addr) (nl : Int32) (ka : ClassId) (x0 : Int32) (x1 : Int32) (h0 : Heap) (n0 : Nat) (hs0 : n0 ≤ h0.size) (Aa : own_A Z h0 a ka .byte [(.int x0), (.int x1)]) (hnl : nl = 10) :
    own_Met l (⟨"java/util/Arrays", "copyOf", "([BI)[B"⟩ : MethodName) jdk_65_method_121_code 3 (some (.array .byte)) ({ frames := 1, cells := 1, slots := 10, locals := 18 } : Room) Z #[(.ref a), (.int nl)] h0 n0 (fun v h' => Keep h0 h' [] ∧ ∃ b kb, v = some (.ref b) ∧ h0.size ≤ b ∧ h'.size > b ∧ own_A Z h' b kb .byte [(.int x0), (.int x1), (.int (0 : Int32)), (.int (0 : Int32)), (.int (0 : Int32)), (.int (0 : Int32)), (.int (0 : Int32)), (.int (0 : Int32)), (.int (0 : Int32)), (.int (0 : Int32))] ∧ Exa Z h' b "[B") := by
  refine own_met (Ls := #[.val (.ref a), .val (.int nl), .unset]) own_pn5 hs0 (fun m => by first  | (simp [entryFrame, mkF, argsToLocals, Value.category]; done) | rfl) ?_
  intro p e s m below meth c T X
  have K0 := Keep.refl h0 []
  have hi_a : h0.size > a := Aa.lt
  subst hnl
  refine own_iloadN X 1 (10 : Int32) own_d5_0 rfl rfl ?_
  refine own_aloadN X 2 (.ref a) own_d5_1 rfl rfl rfl ?_
  refine own_len X 3 (2 : Int32) own_d5_2 rfl Aa rfl ?_
  refine own_icY X 14 own_d5_3 (by decide) (by decide) (XT.ii_ne_t (by decide)) ?_
  refine own_iloadN X 15 (10 : Int32) own_d5_14 rfl rfl ?_
  refine own_newPE X 17 10 10 (ad := "[B") own_d5_15 rfl (hw _ (List.mem_of_getElem? (i := 5) rfl)) (by decide) (by decide) (by decide) (by decide) (by decide) (by decide) (by decide) ?_
  intro T h1 b2 kc_b2 g_b2 X E_h1 A_b2 C_b2
  have zs_h1 : h0.size ≤ h1.size := E_h1.1
  have Aa := Aa.ext E_h1
  have K0 := K0.ext E_h1
  have lo_b2 : h0.size ≤ b2 := Nat.le_of_eq g_b2.symm
  have hi_b2 : h1.size > b2 := A_b2.lt
  have A_b2 : own_A Z h1 b2 kc_b2 .byte [(.int (0 : Int32)), (.int (0 : Int32)), (.int (0 : Int32)), (.int (0 : Int32)), (.int (0 : Int32)), (.int (0 : Int32)), (.int (0 : Int32)), (.int (0 : Int32)), (.int (0 : Int32)), (.int (0 : Int32))] := A_b2
  refine own_astoreN X 18 #[.val (.ref a), .val (.int (10 : Int32)), .val (.ref b2)] own_d5_17 rfl rfl rfl ?_
  refine own_aloadN X 19 (.ref a) own_d5_18 rfl rfl rfl ?_
  refine own_iconst X 20 (0 : Int32) own_d5_19 rfl rfl ?_
  refine own_aloadN X 21 (.ref b2) own_d5_20 rfl rfl rfl ?_
  refine own_iconst X 22 (0 : Int32) own_d5_21 rfl rfl ?_
  refine own_aloadN X 23 (.ref a) own_d5_22 rfl rfl rfl ?_
  refine own_len X 24 (2 : Int32) own_d5_23 rfl Aa rfl ?_
  refine own_iloadN X 25 (10 : Int32) own_d5_24 rfl rfl ?_
  refine own_callS X 28 [(.int (2 : Int32)), (.int (10 : Int32))] [(.int (0 : Int32)), (.ref b2), (.int (0 : Int32)), (.ref a)] own_d5_25 rfl (hw _ (List.mem_of_getElem? (i := 25) rfl)) (hw _ (List.mem_of_getElem? (i := 26) rfl)) (hw _ (List.mem_of_getElem? (i := 27) rfl)) (hw _ (List.mem_of_getElem? (i := 28) rfl)) (by decide) (own_mmin l Z a0 hw (2 : Int32) (10 : Int32) h1 n0 X.sz) (fun _ _ q => Nat.le_of_eq (congrArg Array.size q.1.symm)) rfl own_pd0 rfl rfl rfl (by decide) (Nat.le_of_ble_eq_true rfl) (by decide) (by decide) ?_
  rintro v25 T h_ X ⟨eh_, rfl⟩
  rw [eh_] at X
  show own_Ends p e below _ (T.setTop (mkF m 28 #[.val (.ref a), .val (.int (10 : Int32)), .val (.ref b2)] [(.int (own_min (2 : Int32) (10 : Int32))), (.int (0 : Int32)), (.ref b2), (.int (0 : Int32)), (.ref a)]))
  rw [show own_min (2 : Int32) (10 : Int32) = (2 : Int32) from by decide]
  refine own_cpy X 31 0 0 2 [(.int x0), (.int x1)] [(.int x0), (.int x1), (.int (0 : Int32)), (.int (0 : Int32)), (.int (0 : Int32)), (.int (0 : Int32)), (.int (0 : Int32)), (.int (0 : Int32)), (.int (0 : Int32)), (.int (0 : Int32))] own_d5_28 rfl (hw _ (List.mem_of_getElem? (i := 29) rfl)) (hw _ (List.mem_of_getElem? (i := 32) rfl)) (hw _ (List.mem_of_getElem? (i := 30) rfl)) (hw _ (List.mem_of_getElem? (i := 31) rfl)) Aa A_b2 (Or.inl ⟨rfl, rfl⟩) (by decide) (by decide) (by decide) (by decide) (by decide) (by decide) (Nat.le_of_ble_eq_true rfl) (Nat.le_of_ble_eq_true rfl) rfl rfl (by omega) rfl (by decide) (Nat.le_of_ble_eq_true rfl) ?_
  intro T h3 X K_ nA_
  have zs_h3 : h1.size ≤ h3.size := K_.1
  have Aa := Aa.keep K_ (ninS (by show @Ne Nat _ _; omega) nin0)
  have K0 := K0.trans K_ (allS (Or.inr (by omega)) all0)
  have C_b2 := C_b2.keep K_
  have A_b2 := nA_
  refine own_aloadN X 32 (.ref b2) own_d5_31 rfl rfl rfl ?_
  exact own_retA X (.array .byte) own_d5_32 rfl rfl rfl rfl (by decide) (by decide) (⟨K0, b2, kc_b2, rfl, by omega, A_b2.lt, A_b2, C_b2⟩)
set_option maxRecDepth 65536 in
set_option maxHeartbeats 40000000 in
theorem own_su2_8 (l : Launch) (Z : State) (a0 : Array Value) (hw : ∀ d ∈ tables_1, d.before a0 Z = true) (a : Addr) (sx : Addr) (ka : ClassId) (ks : ClassId) (x0 : Int32) (x1 : Int32) (h0 : Heap) (n0 : Nat) (hs0 : n0 ≤ h0.size) (Aa : own_A Z h0 a ka .byte [(.int x0), (.int x1)]) (As : own_A Z h0 sx ks .byte [(.int 58), (.int 119), (.int 97), (.int 105), (.int 116), (.int 105), (.int 110), (.int 103)]) :
    own_Met l (⟨"com/example/latchkey/latchkey/LockKeys", "suffixed", "([B[B)[B"⟩ : MethodName) prog_1_method_6_code 3 (some (.array .byte)) ({ frames := 2, cells := 1, slots := 10, locals := 32 } : Room) Z #[(.ref a), (.ref sx)] h0 n0 (fun v h' => Keep h0 h' [] ∧ ∃ b kb, v = some (.ref b) ∧ h0.size ≤ b ∧ h'.size > b ∧ own_A Z h' b kb .byte [(.int x0), (.int x1), (.int 58), (.int 119), (.int 97), (.int 105), (.int 116), (.int 105), (.int 110), (.int 103)] ∧ Exa Z h' b "[B") := by
  refine own_met (Ls := #[.val (.ref a), .val (.ref sx), .unset]) own_pn4 hs0 (fun m => by first  | (simp [entryFrame, mkF, argsToLocals, Value.category]; done) | rfl) ?_
  intro p e s m below meth c T X
  have K0 := Keep.refl h0 []
  have hi_a : h0.size > a := Aa.lt
  have hi_sx : h0.size > sx := As.lt
  refine own_aloadN X 1 (.ref a) own_d4_0 rfl rfl rfl ?_
  refine own_aloadN X 2 (.ref a) own_d4_1 rfl rfl rfl ?_
  refine own_len X 3 (2 : Int32) own_d4_2 rfl Aa rfl ?_
  refine own_aloadN X 4 (.ref sx) own_d4_3 rfl rfl rfl ?_
  refine own_len X 5 (8 : Int32) own_d4_4 rfl As rfl ?_
  refine own_iadd X 6 own_d4_5 rfl ?_
  refine own_callS X 9 [(.ref a), (.int ((2 : Int32) + (8 : Int32)))] [] own_d4_6 rfl (hw _ (List.mem_of_getElem? (i := 21) rfl)) (hw _ (List.mem_of_getElem? (i := 22) rfl)) (hw _ (List.mem_of_getElem? (i := 23) rfl)) (hw _ (List.mem_of_getElem? (i := 24) rfl)) (by decide) (own_cp2_8 l Z a0 hw a ((2 : Int32) + (8 : Int32)) ka x0 x1 h0 n0 X.sz Aa (by decide)) (fun _ _ q => q.1.1) rfl own_pd1 rfl rfl rfl (by decide) (Nat.le_of_ble_eq_true rfl) (by decide) (by decide) ?_
  rintro v6 T h2 X ⟨K_, b1, kb_b1, rfl, lo_b1, hi_b1, A_b1, C_b1⟩
  have zs_h2 : h0.size ≤ h2.size := K_.1
  have Aa := Aa.keep K_ nin0
  have As := As.keep K_ nin0
  have K0 := K0.trans K_ all0
  show own_Ends p e below _ (T.setTop (mkF m 9 #[.val (.ref a), .val (.ref sx), .unset] [(.ref b1)]))
  refine own_astoreN X 10 #[.val (.ref a), .val (.ref sx), .val (.ref b1)] own_d4_9 rfl rfl rfl ?_
  refine own_aloadN X 11 (.ref sx) own_d4_10 rfl rfl rfl ?_
  refine own_iconst X 12 (0 : Int32) own_d4_11 rfl rfl ?_
  refine own_aloadN X 13 (.ref b1) own_d4_12 rfl rfl rfl ?_
  refine own_aloadN X 14 (.ref a) own_d4_13 rfl rfl rfl ?_
  refine own_len X 15 (2 : Int32) own_d4_14 rfl Aa rfl ?_
  refine own_aloadN X 16 (.ref sx) own_d4_15 rfl rfl rfl ?_
  refine own_len X 17 (8 : Int32) own_d4_16 rfl As rfl ?_
  refine own_cpy X 20 0 2 8 [(.int 58), (.int 119), (.int 97), (.int 105), (.int 116), (.int 105), (.int 110), (.int 103)] [(.int x0), (.int x1), (.int 58), (.int 119), (.int 97), (.int 105), (.int 116), (.int 105), (.int 110), (.int 103)] own_d4_17 rfl (hw _ (List.mem_of_getElem? (i := 33) rfl)) (hw _ (List.mem_of_getElem? (i := 32) rfl)) (hw _ (List.mem_of_getElem? (i := 30) rfl)) (hw _ (List.mem_of_getElem? (i := 31) rfl)) As A_b1 (Or.inl ⟨rfl, rfl⟩) (by decide) (by decide) (by decide) (by decide) (by decide) (by decide) (Nat.le_of_ble_eq_true rfl) (Nat.le_of_ble_eq_true rfl) rfl rfl (by omega) rfl (by decide) (Nat.le_of_ble_eq_true rfl) ?_
  intro T h3 X K_ nA_
  have zs_h3 : h2.size ≤ h3.size := K_.1
  have Aa := Aa.keep K_ (ninS (by show @Ne Nat _ _; omega) nin0)
  have As := As.keep K_ (ninS (by show @Ne Nat _ _; omega) nin0)
  have K0 := K0.trans K_ (allS (Or.inr (by omega)) all0)
  have C_b1 := C_b1.keep K_
  have A_b1 := nA_
  refine own_aloadN X 21 (.ref b1) own_d4_20 rfl rfl rfl ?_
  exact own_retA X (.array .byte) own_d4_21 rfl rfl rfl rfl (by decide) (by decide) (⟨K0, b1, kb_b1, rfl, by omega, A_b1.lt, A_b1, C_b1⟩)
set_option maxRecDepth 65536 in
set_option maxHeartbeats 40000000 in
theorem own_hf2 (l : Launch) (Z : State) (a0 : Array Value) (hw : ∀ d ∈ tables_1, d.before a0 Z = true) (a : Addr) (ka : ClassId) (ho : Addr) (kh : ClassId) (wt : Addr) (kw : ClassId) (x0 : Int32) (x1 : Int32) (h0 : Heap) (n0 : Nat) (hs0 : n0 ≤ h0.size) (OL : Old Z n0 h0) (z_ho : Sta Z Z.heap "com/example/latchkey/latchkey/LockKeys" "HOLDS" "[B" (.ref ho)) (z_hA : own_A Z Z.heap ho kh .byte [(.int 58), (.int 104), (.int 111), (.int 108), (.int 100), (.int 115)]) (z_wt : Sta Z Z.heap "com/example/latchkey/latchkey/LockKeys" "WAITING" "[B" (.ref wt)) (z_wA : own_A Z Z.heap wt kw .byte [(.int 58), (.int 119), (.int 97), (.int 105), (.int 116), (.int 105), (.int 110), (.int 103)]) (Aa : own_A Z h0 a ka .byte [(.int x0), (.int x1)]) (Ea : Exa Z h0 a "[B") :
    own_Met l (⟨"com/example/latchkey/latchkey/LockKeys", "holderFields", "([B)[[B"⟩ : MethodName) prog_1_method_5_code 1 (some (.array (.array .byte))) ({ frames := 3, cells := 3, slots := 21, locals := 49 } : Room) Z #[(.ref a)] h0 n0 (fun v h' => Keep h0 h' [] ∧ ∃ w kx b1 k1 b2 k2, v = some (.ref w) ∧ own_A Z h' w kx (.array .byte) [(.ref a), (.ref b1), (.ref b2)] ∧ own_A Z h' b1 k1 .byte [(.int x0), (.int x1), (.int 58), (.int 104), (.int 111), (.int 108), (.int 100), (.int 115)] ∧ own_A Z h' b2 k2 .byte [(.int x0), (.int x1), (.int 58), (.int 119), (.int 97), (.int 105), (.int 116), (.int 105), (.int 110), (.int 103)]) := by
  refine own_met (Ls := #[.val (.ref a)]) own_pn3 hs0 (fun m => by first  | (simp [entryFrame, mkF, argsToLocals, Value.category]; done) | rfl) ?_
  intro p e s m below meth c T X
  have K0 := Keep.refl h0 []
  have hi_ho : n0 > ho := (OL.1 ▸ z_hA.lt)
  have hi_wt : n0 > wt := (OL.1 ▸ z_wA.lt)
  have hi_a : h0.size > a := Aa.lt
  refine own_iconst X 1 (3 : Int32) own_d3_0 rfl rfl ?_
  refine own_newRA X 4 3 3 (ad := "[[B") own_d3_1 rfl (ty := .byte) (by decide) (hw _ (List.mem_of_getElem? (i := 13) rfl)) (hw _ (List.mem_of_getElem? (i := 14) rfl)) (by decide) (by decide) (by decide) (by decide) (by decide) (by decide) (by decide) ?_
  intro T h1 b2 kc_b2 g_b2 X E_h1 A_b2 O_b2 C_b2
  have zs_h1 : h0.size ≤ h1.size := E_h1.1
  have OL := OL.ext E_h1
  have Aa := Aa.ext E_h1
  have Ea := Exa.ext E_h1 Ea
  have K0 := K0.ext E_h1
  have lo_b2 : h0.size ≤ b2 := Nat.le_of_eq g_b2.symm
  have hi_b2 : h1.size > b2 := A_b2.lt
  have A_b2 : own_A Z h1 b2 kc_b2 (.array .byte) [.null, .null, .null] := A_b2
  refine own_dup X 5 own_d3_4 rfl rfl ?_
  refine own_iconst X 6 (0 : Int32) own_d3_5 rfl rfl ?_
  refine own_aloadN X 7 (.ref a) own_d3_6 rfl rfl rfl ?_
  refine own_aastore X 8 0 own_d3_7 rfl A_b2 (by decide) (by decide) (Nat.le_of_ble_eq_true rfl) rfl (own_StoA A_b2 O_b2 (Ins.self Ea)) (by omega) ?_
  intro T h3 X W_h3
  have nw_h3 : own_A Z h3 b2 kc_b2 (.array .byte) [(.ref a), .null, .null] := A_b2.same W_h3 rfl
  have zs_h3 : h1.size ≤ h3.size := (Nat.le_of_eq W_h3.size.symm)
  have OL := OL.wr W_h3 (by omega)
  have Aa := Aa.other W_h3 (by show @Ne Nat _ _; omega)
  have Ea := Exa.wr W_h3 Ea
  have K0 := K0.wr W_h3 (Or.inr (by omega))
  have C_b2 := Exa.wr W_h3 C_b2
  have A_b2 := nw_h3
  refine own_dup X 9 own_d3_8 rfl rfl ?_
  refine own_iconst X 10 (1 : Int32) own_d3_9 rfl rfl ?_
  refine own_aloadN X 11 (.ref a) own_d3_10 rfl rfl rfl ?_
  refine own_getS X 14 own_d3_11 rfl (hw _ (List.mem_of_getElem? (i := 16) rfl)) Via.refl (Sta.ext OL.2 z_ho) ?_
  intro T X
  refine own_callS X 17 [(.ref a), (.ref ho)] [(.int (1 : Int32)), (.ref b2), (.ref b2)] own_d3_14 rfl (hw _ (List.mem_of_getElem? (i := 18) rfl)) (hw _ (List.mem_of_getElem? (i := 19) rfl)) (hw _ (List.mem_of_getElem? (i := 11) rfl)) (hw _ (List.mem_of_getElem? (i := 20) rfl)) (by decide) (own_su2_6 l Z a0 hw a ho ka kh x0 x1 h3 n0 X.sz Aa (own_A.ext z_hA OL.2)) (fun _ _ q => q.1.1) rfl own_pd2 rfl rfl rfl (by decide) (Nat.le_of_ble_eq_true rfl) (by decide) (by decide) ?_
  rintro v14 T h5 X ⟨K_, b4, kb_b4, rfl, lo_b4, hi_b4, A_b4, C_b4⟩
  have zs_h5 : h3.size ≤ h5.size := K_.1
  have OL := OL.keep K_ all0
  have Aa := Aa.keep K_ nin0
  have Ea := Ea.keep K_
  have K0 := K0.trans K_ all0
  have C_b2 := C_b2.keep K_
  have A_b2 := A_b2.keep K_ nin0
  show own_Ends p e below _ (T.setTop (mkF m 17 #[.val (.ref a)] [(.ref b4), (.int (1 : Int32)), (.ref b2), (.ref b2)]))
  refine own_aastore X 18 1 own_d3_17 rfl A_b2 (by decide) (by decide) (Nat.le_of_ble_eq_true rfl) rfl (own_StoA A_b2 O_b2 (Ins.self C_b4)) (by omega) ?_
  intro T h6 X W_h6
  have nw_h6 : own_A Z h6 b2 kc_b2 (.array .byte) [(.ref a), (.ref b4), .null] := A_b2.same W_h6 rfl
  have zs_h6 : h5.size ≤ h6.size := (Nat.le_of_eq W_h6.size.symm)
  have OL := OL.wr W_h6 (by omega)
  have Aa := Aa.other W_h6 (by show @Ne Nat _ _; omega)
  have Ea := Exa.wr W_h6 Ea
  have K0 := K0.wr W_h6 (Or.inr (by omega))
  have C_b2 := Exa.wr W_h6 C_b2
  have A_b4 := A_b4.other W_h6 (by show @Ne Nat _ _; omega)
  have C_b4 := Exa.wr W_h6 C_b4
  have A_b2 := nw_h6
  refine own_dup X 19 own_d3_18 rfl rfl ?_
  refine own_iconst X 20 (2 : Int32) own_d3_19 rfl rfl ?_
  refine own_aloadN X 21 (.ref a) own_d3_20 rfl rfl rfl ?_
  refine own_getS X 24 own_d3_21 rfl (hw _ (List.mem_of_getElem? (i := 34) rfl)) Via.refl (Sta.ext OL.2 z_wt) ?_
  intro T X
  refine own_callS X 27 [(.ref a), (.ref wt)] [(.int (2 : Int32)), (.ref b2), (.ref b2)] own_d3_24 rfl (hw _ (List.mem_of_getElem? (i := 18) rfl)) (hw _ (List.mem_of_getElem? (i := 19) rfl)) (hw _ (List.mem_of_getElem? (i := 11) rfl)) (hw _ (List.mem_of_getElem? (i := 20) rfl)) (by decide) (own_su2_8 l Z a0 hw a wt ka kw x0 x1 h6 n0 X.sz Aa (own_A.ext z_wA OL.2)) (fun _ _ q => q.1.1) rfl own_pd2 rfl rfl rfl (by decide) (Nat.le_of_ble_eq_true rfl) (by decide) (by decide) ?_
  rintro v24 T h8 X ⟨K_, b7, kb_b7, rfl, lo_b7, hi_b7, A_b7, C_b7⟩
  have zs_h8 : h6.size ≤ h8.size := K_.1
  have OL := OL.keep K_ all0
  have Aa := Aa.keep K_ nin0
  have Ea := Ea.keep K_
  have K0 := K0.trans K_ all0
  have C_b2 := C_b2.keep K_
  have A_b4 := A_b4.keep K_ nin0
  have C_b4 := C_b4.keep K_
  have A_b2 := A_b2.keep K_ nin0
  show own_Ends p e below _ (T.setTop (mkF m 27 #[.val (.ref a)] [(.ref b7), (.int (2 : Int32)), (.ref b2), (.ref b2)]))
  refine own_aastore X 28 2 own_d3_27 rfl A_b2 (by decide) (by decide) (Nat.le_of_ble_eq_true rfl) rfl (own_StoA A_b2 O_b2 (Ins.self C_b7)) (by omega) ?_
  intro T h9 X W_h9
  have nw_h9 : own_A Z h9 b2 kc_b2 (.array .byte) [(.ref a), (.ref b4), (.ref b7)] := A_b2.same W_h9 rfl
  have zs_h9 : h8.size ≤ h9.size := (Nat.le_of_eq W_h9.size.symm)
  have OL := OL.wr W_h9 (by omega)
  have Aa := Aa.other W_h9 (by show @Ne Nat _ _; omega)
  have Ea := Exa.wr W_h9 Ea
  have K0 := K0.wr W_h9 (Or.inr (by omega))
  have C_b2 := Exa.wr W_h9 C_b2
  have A_b4 := A_b4.other W_h9 (by show @Ne Nat _ _; omega)
  have C_b4 := Exa.wr W_h9 C_b4
  have A_b7 := A_b7.other W_h9 (by show @Ne Nat _ _; omega)
  have C_b7 := Exa.wr W_h9 C_b7
  have A_b2 := nw_h9
  exact own_retA X (.array (.array .byte)) own_d3_28 rfl rfl rfl rfl (by decide) (by decide) (⟨K0, b2, kc_b2, b4, kb_b4, b7, kb_b7, rfl, A_b2, A_b4, A_b7⟩)
set_option maxRecDepth 65536 in
set_option maxHeartbeats 40000000 in
theorem own_cp3_6 (l : Launch) (Z : State) (a0 : Array Value) (hw : ∀ d ∈ tables_1, d.before a0 Z = true) (a : Addr) (nl : Int32) (ka : ClassId) (x0 : Int32) (x1 : Int32) (x2 : Int32) (h0 : Heap) (n0 : Nat) (hs0 : n0 ≤ h0.size) (Aa : own_A Z h0 a ka .byte [(.int x0), (.int x1), (.int x2)]) (hnl : nl = 9) :
    own_Met l (⟨"java/util/Arrays", "copyOf", "([BI)[B"⟩ : MethodName) jdk_65_method_121_code 3 (some (.array .byte)) ({ frames := 1, cells := 1, slots := 9, locals := 18 } : Room) Z #[(.ref a), (.int nl)] h0 n0 (fun v h' => Keep h0 h' [] ∧ ∃ b kb, v = some (.ref b) ∧ h0.size ≤ b ∧ h'.size > b ∧ own_A Z h' b kb .byte [(.int x0), (.int x1), (.int x2), (.int (0 : Int32)), (.int (0 : Int32)), (.int (0 : Int32)), (.int (0 : Int32)), (.int (0 : Int32)), (.int (0 : Int32))] ∧ Exa Z h' b "[B") := by
  refine own_met (Ls := #[.val (.ref a), .val (.int nl), .unset]) own_pn5 hs0 (fun m => by first  | (simp [entryFrame, mkF, argsToLocals, Value.category]; done) | rfl) ?_
  intro p e s m below meth c T X
  have K0 := Keep.refl h0 []
  have hi_a : h0.size > a := Aa.lt
  subst hnl
  refine own_iloadN X 1 (9 : Int32) own_d5_0 rfl rfl ?_
  refine own_aloadN X 2 (.ref a) own_d5_1 rfl rfl rfl ?_
  refine own_len X 3 (3 : Int32) own_d5_2 rfl Aa rfl ?_
  refine own_icY X 14 own_d5_3 (by decide) (by decide) (XT.ii_ne_t (by decide)) ?_
  refine own_iloadN X 15 (9 : Int32) own_d5_14 rfl rfl ?_
  refine own_newPE X 17 9 9 (ad := "[B") own_d5_15 rfl (hw _ (List.mem_of_getElem? (i := 5) rfl)) (by decide) (by decide) (by decide) (by decide) (by decide) (by decide) (by decide) ?_
  intro T h1 b2 kc_b2 g_b2 X E_h1 A_b2 C_b2
  have zs_h1 : h0.size ≤ h1.size := E_h1.1
  have Aa := Aa.ext E_h1
  have K0 := K0.ext E_h1
  have lo_b2 : h0.size ≤ b2 := Nat.le_of_eq g_b2.symm
  have hi_b2 : h1.size > b2 := A_b2.lt
  have A_b2 : own_A Z h1 b2 kc_b2 .byte [(.int (0 : Int32)), (.int (0 : Int32)), (.int (0 : Int32)), (.int (0 : Int32)), (.int (0 : Int32)), (.int (0 : Int32)), (.int (0 : Int32)), (.int (0 : Int32)), (.int (0 : Int32))] := A_b2
  refine own_astoreN X 18 #[.val (.ref a), .val (.int (9 : Int32)), .val (.ref b2)] own_d5_17 rfl rfl rfl ?_
  refine own_aloadN X 19 (.ref a) own_d5_18 rfl rfl rfl ?_
  refine own_iconst X 20 (0 : Int32) own_d5_19 rfl rfl ?_
  refine own_aloadN X 21 (.ref b2) own_d5_20 rfl rfl rfl ?_
  refine own_iconst X 22 (0 : Int32) own_d5_21 rfl rfl ?_
  refine own_aloadN X 23 (.ref a) own_d5_22 rfl rfl rfl ?_
  refine own_len X 24 (3 : Int32) own_d5_23 rfl Aa rfl ?_
  refine own_iloadN X 25 (9 : Int32) own_d5_24 rfl rfl ?_
  refine own_callS X 28 [(.int (3 : Int32)), (.int (9 : Int32))] [(.int (0 : Int32)), (.ref b2), (.int (0 : Int32)), (.ref a)] own_d5_25 rfl (hw _ (List.mem_of_getElem? (i := 25) rfl)) (hw _ (List.mem_of_getElem? (i := 26) rfl)) (hw _ (List.mem_of_getElem? (i := 27) rfl)) (hw _ (List.mem_of_getElem? (i := 28) rfl)) (by decide) (own_mmin l Z a0 hw (3 : Int32) (9 : Int32) h1 n0 X.sz) (fun _ _ q => Nat.le_of_eq (congrArg Array.size q.1.symm)) rfl own_pd0 rfl rfl rfl (by decide) (Nat.le_of_ble_eq_true rfl) (by decide) (by decide) ?_
  rintro v25 T h_ X ⟨eh_, rfl⟩
  rw [eh_] at X
  show own_Ends p e below _ (T.setTop (mkF m 28 #[.val (.ref a), .val (.int (9 : Int32)), .val (.ref b2)] [(.int (own_min (3 : Int32) (9 : Int32))), (.int (0 : Int32)), (.ref b2), (.int (0 : Int32)), (.ref a)]))
  rw [show own_min (3 : Int32) (9 : Int32) = (3 : Int32) from by decide]
  refine own_cpy X 31 0 0 3 [(.int x0), (.int x1), (.int x2)] [(.int x0), (.int x1), (.int x2), (.int (0 : Int32)), (.int (0 : Int32)), (.int (0 : Int32)), (.int (0 : Int32)), (.int (0 : Int32)), (.int (0 : Int32))] own_d5_28 rfl (hw _ (List.mem_of_getElem? (i := 29) rfl)) (hw _ (List.mem_of_getElem? (i := 32) rfl)) (hw _ (List.mem_of_getElem? (i := 30) rfl)) (hw _ (List.mem_of_getElem? (i := 31) rfl)) Aa A_b2 (Or.inl ⟨rfl, rfl⟩) (by decide) (by decide) (by decide) (by decide) (by decide) (by decide) (Nat.le_of_ble_eq_true rfl) (Nat.le_of_ble_eq_true rfl) rfl rfl (by omega) rfl (by decide) (Nat.le_of_ble_eq_true rfl) ?_
  intro T h3 X K_ nA_
  have zs_h3 : h1.size ≤ h3.size := K_.1
  have Aa := Aa.keep K_ (ninS (by show @Ne Nat _ _; omega) nin0)
  have K0 := K0.trans K_ (allS (Or.inr (by omega)) all0)
  have C_b2 := C_b2.keep K_
  have A_b2 := nA_
  refine own_aloadN X 32 (.ref b2) own_d5_31 rfl rfl rfl ?_
  exact own_retA X (.array .byte) own_d5_32 rfl rfl rfl rfl (by decide) (by decide) (⟨K0, b2, kc_b2, rfl, by omega, A_b2.lt, A_b2, C_b2⟩)
set_option maxRecDepth 65536 in
set_option maxHeartbeats 40000000 in
theorem own_su3_6 (l : Launch) (Z : State) (a0 : Array Value) (hw : ∀ d ∈ tables_1, d.before a0 Z = true) (a : Addr) (sx : Addr) (ka : ClassId) (ks : ClassId) (x0 : Int32) (x1 : Int32) (x2 : Int32) (h0 : Heap) (n0 : Nat) (hs0 : n0 ≤ h0.size) (Aa : own_A Z h0 a ka .byte [(.int x0), (.int x1), (.int x2)]) (As : own_A Z h0 sx ks .byte [(.int 58), (.int 104), (.int 111), (.int 108), (.int 100), (.int 115)]) :
    own_Met l (⟨"com/example/latchkey/latchkey/LockKeys", "suffixed", "([B[B)[B"⟩ : MethodName) prog_1_method_6_code 3 (some (.array .byte)) ({ frames := 2, cells := 1, slots := 9, locals := 32 } : Room) Z #[(.ref a), (.ref sx)] h0 n0 (fun v h' => Keep h0 h' [] ∧ ∃ b kb, v = some (.ref b) ∧ h0.size ≤ b ∧ h'.size > b ∧ own_A Z h' b kb .byte [(.int x0), (.int x1), (.int x2), (.int 58), (.int 104), (.int 111), (.int 108), (.int 100), (.int 115)] ∧ Exa Z h' b "[B") := by
  refine own_met (Ls := #[.val (.ref a), .val (.ref sx), .unset]) own_pn4 hs0 (fun m => by first  | (simp [entryFrame, mkF, argsToLocals, Value.category]; done) | rfl) ?_
  intro p e s m below meth c T X
  have K0 := Keep.refl h0 []
  have hi_a : h0.size > a := Aa.lt
  have hi_sx : h0.size > sx := As.lt
  refine own_aloadN X 1 (.ref a) own_d4_0 rfl rfl rfl ?_
  refine own_aloadN X 2 (.ref a) own_d4_1 rfl rfl rfl ?_
  refine own_len X 3 (3 : Int32) own_d4_2 rfl Aa rfl ?_
  refine own_aloadN X 4 (.ref sx) own_d4_3 rfl rfl rfl ?_
  refine own_len X 5 (6 : Int32) own_d4_4 rfl As rfl ?_
  refine own_iadd X 6 own_d4_5 rfl ?_
  refine own_callS X 9 [(.ref a), (.int ((3 : Int32) + (6 : Int32)))] [] own_d4_6 rfl (hw _ (List.mem_of_getElem? (i := 21) rfl)) (hw _ (List.mem_of_getElem? (i := 22) rfl)) (hw _ (List.mem_of_getElem? (i := 23) rfl)) (hw _ (List.mem_of_getElem? (i := 24) rfl)) (by decide) (own_cp3_6 l Z a0 hw a ((3 : Int32) + (6 : Int32)) ka x0 x1 x2 h0 n0 X.sz Aa (by decide)) (fun _ _ q => q.1.1) rfl own_pd1 rfl rfl rfl (by decide) (Nat.le_of_ble_eq_true rfl) (by decide) (by decide) ?_
  rintro v6 T h2 X ⟨K_, b1, kb_b1, rfl, lo_b1, hi_b1, A_b1, C_b1⟩
  have zs_h2 : h0.size ≤ h2.size := K_.1
  have Aa := Aa.keep K_ nin0
  have As := As.keep K_ nin0
  have K0 := K0.trans K_ all0
  show own_Ends p e below _ (T.setTop (mkF m 9 #[.val (.ref a), .val (.ref sx), .unset] [(.ref b1)]))
  refine own_astoreN X 10 #[.val (.ref a), .val (.ref sx), .val (.ref b1)] own_d4_9 rfl rfl rfl ?_
  refine own_aloadN X 11 (.ref sx) own_d4_10 rfl rfl rfl ?_
  refine own_iconst X 12 (0 : Int32) own_d4_11 rfl rfl ?_
  refine own_aloadN X 13 (.ref b1) own_d4_12 rfl rfl rfl ?_
  refine own_aloadN X 14 (.ref a) own_d4_13 rfl rfl rfl ?_
  refine own_len X 15 (3 : Int32) own_d4_14 rfl Aa rfl ?_
  refine own_aloadN X 16 (.ref sx) own_d4_15 rfl rfl rfl ?_
  refine own_len X 17 (6 : Int32) own_d4_16 rfl As rfl ?_
  refine own_cpy X 20 0 3 6 [(.int 58), (.int 104), (.int 111), (.int 108), (.int 100), (.int 115)] [(.int x0), (.int x1), (.int x2), (.int 58), (.int 104), (.int 111), (.int 108), (.int 100), (.int 115)] own_d4_17 rfl (hw _ (List.mem_of_getElem? (i := 33) rfl)) (hw _ (List.mem_of_getElem? (i := 32) rfl)) (hw _ (List.mem_of_getElem? (i := 30) rfl)) (hw _ (List.mem_of_getElem? (i := 31) rfl)) As A_b1 (Or.inl ⟨rfl, rfl⟩) (by decide) (by decide) (by decide) (by decide) (by decide) (by decide) (Nat.le_of_ble_eq_true rfl) (Nat.le_of_ble_eq_true rfl) rfl rfl (by omega) rfl (by decide) (Nat.le_of_ble_eq_true rfl) ?_
  intro T h3 X K_ nA_
  have zs_h3 : h2.size ≤ h3.size := K_.1
  have Aa := Aa.keep K_ (ninS (by show @Ne Nat _ _; omega) nin0)
  have As := As.keep K_ (ninS (by show @Ne Nat _ _; omega) nin0)
  have K0 := K0.trans K_ (allS (Or.inr (by omega)) all0)
  have C_b1 := C_b1.keep K_
  have A_b1 := nA_
  refine own_aloadN X 21 (.ref b1) own_d4_20 rfl rfl rfl ?_
  exact own_retA X (.array .byte) own_d4_21 rfl rfl rfl rfl (by decide) (by decide) (⟨K0, b1, kb_b1, rfl, by omega, A_b1.lt, A_b1, C_b1⟩)
set_option maxRecDepth 65536 in
set_option maxHeartbeats 40000000 in
theorem own_cp3_8 (l : Launch) (Z : State) (a0 : Array Value) (hw : ∀ d ∈ tables_1, d.before a0 Z = true) (a : Addr) (nl : Int32) (ka : ClassId) (x0 : Int32) (x1 : Int32) (x2 : Int32) (h0 : Heap) (n0 : Nat) (hs0 : n0 ≤ h0.size) (Aa : own_A Z h0 a ka .byte [(.int x0), (.int x1), (.int x2)]) (hnl : nl = 11) :
    own_Met l (⟨"java/util/Arrays", "copyOf", "([BI)[B"⟩ : MethodName) jdk_65_method_121_code 3 (some (.array .byte)) ({ frames := 1, cells := 1, slots := 11, locals := 18 } : Room) Z #[(.ref a), (.int nl)] h0 n0 (fun v h' => Keep h0 h' [] ∧ ∃ b kb, v = some (.ref b) ∧ h0.size ≤ b ∧ h'.size > b ∧ own_A Z h' b kb .byte [(.int x0), (.int x1), (.int x2), (.int (0 : Int32)), (.int (0 : Int32)), (.int (0 : Int32)), (.int (0 : Int32)), (.int (0 : Int32)), (.int (0 : Int32)), (.int (0 : Int32)), (.int (0 : Int32))] ∧ Exa Z h' b "[B") := by
  refine own_met (Ls := #[.val (.ref a), .val (.int nl), .unset]) own_pn5 hs0 (fun m => by first  | (simp [entryFrame, mkF, argsToLocals, Value.category]; done) | rfl) ?_
  intro p e s m below meth c T X
  have K0 := Keep.refl h0 []
  have hi_a : h0.size > a := Aa.lt
  subst hnl
  refine own_iloadN X 1 (11 : Int32) own_d5_0 rfl rfl ?_
  refine own_aloadN X 2 (.ref a) own_d5_1 rfl rfl rfl ?_
  refine own_len X 3 (3 : Int32) own_d5_2 rfl Aa rfl ?_
  refine own_icY X 14 own_d5_3 (by decide) (by decide) (XT.ii_ne_t (by decide)) ?_
  refine own_iloadN X 15 (11 : Int32) own_d5_14 rfl rfl ?_
  refine own_newPE X 17 11 11 (ad := "[B") own_d5_15 rfl (hw _ (List.mem_of_getElem? (i := 5) rfl)) (by decide) (by decide) (by decide) (by decide) (by decide) (by decide) (by decide) ?_
  intro T h1 b2 kc_b2 g_b2 X E_h1 A_b2 C_b2
  have zs_h1 : h0.size ≤ h1.size := E_h1.1
  have Aa := Aa.ext E_h1
  have K0 := K0.ext E_h1
  have lo_b2 : h0.size ≤ b2 := Nat.le_of_eq g_b2.symm
  have hi_b2 : h1.size > b2 := A_b2.lt
  have A_b2 : own_A Z h1 b2 kc_b2 .byte [(.int (0 : Int32)), (.int (0 : Int32)), (.int (0 : Int32)), (.int (0 : Int32)), (.int (0 : Int32)), (.int (0 : Int32)), (.int (0 : Int32)), (.int (0 : Int32)), (.int (0 : Int32)), (.int (0 : Int32)), (.int (0 : Int32))] := A_b2
  refine own_astoreN X 18 #[.val (.ref a), .val (.int (11 : Int32)), .val (.ref b2)] own_d5_17 rfl rfl rfl ?_
  refine own_aloadN X 19 (.ref a) own_d5_18 rfl rfl rfl ?_
  refine own_iconst X 20 (0 : Int32) own_d5_19 rfl rfl ?_
  refine own_aloadN X 21 (.ref b2) own_d5_20 rfl rfl rfl ?_
  refine own_iconst X 22 (0 : Int32) own_d5_21 rfl rfl ?_
  refine own_aloadN X 23 (.ref a) own_d5_22 rfl rfl rfl ?_
  refine own_len X 24 (3 : Int32) own_d5_23 rfl Aa rfl ?_
  refine own_iloadN X 25 (11 : Int32) own_d5_24 rfl rfl ?_
  refine own_callS X 28 [(.int (3 : Int32)), (.int (11 : Int32))] [(.int (0 : Int32)), (.ref b2), (.int (0 : Int32)), (.ref a)] own_d5_25 rfl (hw _ (List.mem_of_getElem? (i := 25) rfl)) (hw _ (List.mem_of_getElem? (i := 26) rfl)) (hw _ (List.mem_of_getElem? (i := 27) rfl)) (hw _ (List.mem_of_getElem? (i := 28) rfl)) (by decide) (own_mmin l Z a0 hw (3 : Int32) (11 : Int32) h1 n0 X.sz) (fun _ _ q => Nat.le_of_eq (congrArg Array.size q.1.symm)) rfl own_pd0 rfl rfl rfl (by decide) (Nat.le_of_ble_eq_true rfl) (by decide) (by decide) ?_
  rintro v25 T h_ X ⟨eh_, rfl⟩
  rw [eh_] at X
  show own_Ends p e below _ (T.setTop (mkF m 28 #[.val (.ref a), .val (.int (11 : Int32)), .val (.ref b2)] [(.int (own_min (3 : Int32) (11 : Int32))), (.int (0 : Int32)), (.ref b2), (.int (0 : Int32)), (.ref a)]))
  rw [show own_min (3 : Int32) (11 : Int32) = (3 : Int32) from by decide]
  refine own_cpy X 31 0 0 3 [(.int x0), (.int x1), (.int x2)] [(.int x0), (.int x1), (.int x2), (.int (0 : Int32)), (.int (0 : Int32)), (.int (0 : Int32)), (.int (0 : Int32)), (.int (0 : Int32)), (.int (0 : Int32)), (.int (0 : Int32)), (.int (0 : Int32))] own_d5_28 rfl (hw _ (List.mem_of_getElem? (i := 29) rfl)) (hw _ (List.mem_of_getElem? (i := 32) rfl)) (hw _ (List.mem_of_getElem? (i := 30) rfl)) (hw _ (List.mem_of_getElem? (i := 31) rfl)) Aa A_b2 (Or.inl ⟨rfl, rfl⟩) (by decide) (by decide) (by decide) (by decide) (by decide) (by decide) (Nat.le_of_ble_eq_true rfl) (Nat.le_of_ble_eq_true rfl) rfl rfl (by omega) rfl (by decide) (Nat.le_of_ble_eq_true rfl) ?_
  intro T h3 X K_ nA_
  have zs_h3 : h1.size ≤ h3.size := K_.1
  have Aa := Aa.keep K_ (ninS (by show @Ne Nat _ _; omega) nin0)
  have K0 := K0.trans K_ (allS (Or.inr (by omega)) all0)
  have C_b2 := C_b2.keep K_
  have A_b2 := nA_
  refine own_aloadN X 32 (.ref b2) own_d5_31 rfl rfl rfl ?_
  exact own_retA X (.array .byte) own_d5_32 rfl rfl rfl rfl (by decide) (by decide) (⟨K0, b2, kc_b2, rfl, by omega, A_b2.lt, A_b2, C_b2⟩)
set_option maxRecDepth 65536 in
set_option maxHeartbeats 40000000 in
theorem own_su3_8 (l : Launch) (Z : State) (a0 : Array Value) (hw : ∀ d ∈ tables_1, d.before a0 Z = true) (a : Addr) (sx : Addr) (ka : ClassId) (ks : ClassId) (x0 : Int32) (x1 : Int32) (x2 : Int32) (h0 : Heap) (n0 : Nat) (hs0 : n0 ≤ h0.size) (Aa : own_A Z h0 a ka .byte [(.int x0), (.int x1), (.int x2)]) (As : own_A Z h0 sx ks .byte [(.int 58), (.int 119), (.int 97), (.int 105), (.int 116), (.int 105), (.int 110), (.int 103)]) :
    own_Met l (⟨"com/example/latchkey/latchkey/LockKeys", "suffixed", "([B[B)[B"⟩ : MethodName) prog_1_method_6_code 3 (some (.array .byte)) ({ frames := 2, cells := 1, slots := 11, locals := 32 } : Room) Z #[(.ref a), (.ref sx)] h0 n0 (fun v h' => Keep h0 h' [] ∧ ∃ b kb, v = some (.ref b) ∧ h0.size ≤ b ∧ h'.size > b ∧ own_A Z h' b kb .byte [(.int x0), (.int x1), (.int x2), (.int 58), (.int 119), (.int 97), (.int 105), (.int 116), (.int 105), (.int 110), (.int 103)] ∧ Exa Z h' b "[B") := by
  refine own_met (Ls := #[.val (.ref a), .val (.ref sx), .unset]) own_pn4 hs0 (fun m => by first  | (simp [entryFrame, mkF, argsToLocals, Value.category]; done) | rfl) ?_
  intro p e s m below meth c T X
  have K0 := Keep.refl h0 []
  have hi_a : h0.size > a := Aa.lt
  have hi_sx : h0.size > sx := As.lt
  refine own_aloadN X 1 (.ref a) own_d4_0 rfl rfl rfl ?_
  refine own_aloadN X 2 (.ref a) own_d4_1 rfl rfl rfl ?_
  refine own_len X 3 (3 : Int32) own_d4_2 rfl Aa rfl ?_
  refine own_aloadN X 4 (.ref sx) own_d4_3 rfl rfl rfl ?_
  refine own_len X 5 (8 : Int32) own_d4_4 rfl As rfl ?_
  refine own_iadd X 6 own_d4_5 rfl ?_
  refine own_callS X 9 [(.ref a), (.int ((3 : Int32) + (8 : Int32)))] [] own_d4_6 rfl (hw _ (List.mem_of_getElem? (i := 21) rfl)) (hw _ (List.mem_of_getElem? (i := 22) rfl)) (hw _ (List.mem_of_getElem? (i := 23) rfl)) (hw _ (List.mem_of_getElem? (i := 24) rfl)) (by decide) (own_cp3_8 l Z a0 hw a ((3 : Int32) + (8 : Int32)) ka x0 x1 x2 h0 n0 X.sz Aa (by decide)) (fun _ _ q => q.1.1) rfl own_pd1 rfl rfl rfl (by decide) (Nat.le_of_ble_eq_true rfl) (by decide) (by decide) ?_
  rintro v6 T h2 X ⟨K_, b1, kb_b1, rfl, lo_b1, hi_b1, A_b1, C_b1⟩
  have zs_h2 : h0.size ≤ h2.size := K_.1
  have Aa := Aa.keep K_ nin0
  have As := As.keep K_ nin0
  have K0 := K0.trans K_ all0
  show own_Ends p e below _ (T.setTop (mkF m 9 #[.val (.ref a), .val (.ref sx), .unset] [(.ref b1)]))
  refine own_astoreN X 10 #[.val (.ref a), .val (.ref sx), .val (.ref b1)] own_d4_9 rfl rfl rfl ?_
  refine own_aloadN X 11 (.ref sx) own_d4_10 rfl rfl rfl ?_
  refine own_iconst X 12 (0 : Int32) own_d4_11 rfl rfl ?_
  refine own_aloadN X 13 (.ref b1) own_d4_12 rfl rfl rfl ?_
  refine own_aloadN X 14 (.ref a) own_d4_13 rfl rfl rfl ?_
  refine own_len X 15 (3 : Int32) own_d4_14 rfl Aa rfl ?_
  refine own_aloadN X 16 (.ref sx) own_d4_15 rfl rfl rfl ?_
  refine own_len X 17 (8 : Int32) own_d4_16 rfl As rfl ?_
  refine own_cpy X 20 0 3 8 [(.int 58), (.int 119), (.int 97), (.int 105), (.int 116), (.int 105), (.int 110), (.int 103)] [(.int x0), (.int x1), (.int x2), (.int 58), (.int 119), (.int 97), (.int 105), (.int 116), (.int 105), (.int 110), (.int 103)] own_d4_17 rfl (hw _ (List.mem_of_getElem? (i := 33) rfl)) (hw _ (List.mem_of_getElem? (i := 32) rfl)) (hw _ (List.mem_of_getElem? (i := 30) rfl)) (hw _ (List.mem_of_getElem? (i := 31) rfl)) As A_b1 (Or.inl ⟨rfl, rfl⟩) (by decide) (by decide) (by decide) (by decide) (by decide) (by decide) (Nat.le_of_ble_eq_true rfl) (Nat.le_of_ble_eq_true rfl) rfl rfl (by omega) rfl (by decide) (Nat.le_of_ble_eq_true rfl) ?_
  intro T h3 X K_ nA_
  have zs_h3 : h2.size ≤ h3.size := K_.1
  have Aa := Aa.keep K_ (ninS (by show @Ne Nat _ _; omega) nin0)
  have As := As.keep K_ (ninS (by show @Ne Nat _ _; omega) nin0)
  have K0 := K0.trans K_ (allS (Or.inr (by omega)) all0)
  have C_b1 := C_b1.keep K_
  have A_b1 := nA_
  refine own_aloadN X 21 (.ref b1) own_d4_20 rfl rfl rfl ?_
  exact own_retA X (.array .byte) own_d4_21 rfl rfl rfl rfl (by decide) (by decide) (⟨K0, b1, kb_b1, rfl, by omega, A_b1.lt, A_b1, C_b1⟩)
set_option maxRecDepth 65536 in
set_option maxHeartbeats 40000000 in
theorem own_hf3 (l : Launch) (Z : State) (a0 : Array Value) (hw : ∀ d ∈ tables_1, d.before a0 Z = true) (a : Addr) (ka : ClassId) (ho : Addr) (kh : ClassId) (wt : Addr) (kw : ClassId) (x0 : Int32) (x1 : Int32) (x2 : Int32) (h0 : Heap) (n0 : Nat) (hs0 : n0 ≤ h0.size) (OL : Old Z n0 h0) (z_ho : Sta Z Z.heap "com/example/latchkey/latchkey/LockKeys" "HOLDS" "[B" (.ref ho)) (z_hA : own_A Z Z.heap ho kh .byte [(.int 58), (.int 104), (.int 111), (.int 108), (.int 100), (.int 115)]) (z_wt : Sta Z Z.heap "com/example/latchkey/latchkey/LockKeys" "WAITING" "[B" (.ref wt)) (z_wA : own_A Z Z.heap wt kw .byte [(.int 58), (.int 119), (.int 97), (.int 105), (.int 116), (.int 105), (.int 110), (.int 103)]) (Aa : own_A Z h0 a ka .byte [(.int x0), (.int x1), (.int x2)]) (Ea : Exa Z h0 a "[B") :
    own_Met l (⟨"com/example/latchkey/latchkey/LockKeys", "holderFields", "([B)[[B"⟩ : MethodName) prog_1_method_5_code 1 (some (.array (.array .byte))) ({ frames := 3, cells := 3, slots := 23, locals := 49 } : Room) Z #[(.ref a)] h0 n0 (fun v h' => Keep h0 h' [] ∧ ∃ w kx b1 k1 b2 k2, v = some (.ref w) ∧ own_A Z h' w kx (.array .byte) [(.ref a), (.ref b1), (.ref b2)] ∧ own_A Z h' b1 k1 .byte [(.int x0), (.int x1), (.int x2), (.int 58), (.int 104), (.int 111), (.int 108), (.int 100), (.int 115)] ∧ own_A Z h' b2 k2 .byte [(.int x0), (.int x1), (.int x2), (.int 58), (.int 119), (.int 97), (.int 105), (.int 116), (.int 105), (.int 110), (.int 103)]) := by
  refine own_met (Ls := #[.val (.ref a)]) own_pn3 hs0 (fun m => by first  | (simp [entryFrame, mkF, argsToLocals, Value.category]; done) | rfl) ?_
  intro p e s m below meth c T X
  have K0 := Keep.refl h0 []
  have hi_ho : n0 > ho := (OL.1 ▸ z_hA.lt)
  have hi_wt : n0 > wt := (OL.1 ▸ z_wA.lt)
  have hi_a : h0.size > a := Aa.lt
  refine own_iconst X 1 (3 : Int32) own_d3_0 rfl rfl ?_
  refine own_newRA X 4 3 3 (ad := "[[B") own_d3_1 rfl (ty := .byte) (by decide) (hw _ (List.mem_of_getElem? (i := 13) rfl)) (hw _ (List.mem_of_getElem? (i := 14) rfl)) (by decide) (by decide) (by decide) (by decide) (by decide) (by decide) (by decide) ?_
  intro T h1 b2 kc_b2 g_b2 X E_h1 A_b2 O_b2 C_b2
  have zs_h1 : h0.size ≤ h1.size := E_h1.1
  have OL := OL.ext E_h1
  have Aa := Aa.ext E_h1
  have Ea := Exa.ext E_h1 Ea
  have K0 := K0.ext E_h1
  have lo_b2 : h0.size ≤ b2 := Nat.le_of_eq g_b2.symm
  have hi_b2 : h1.size > b2 := A_b2.lt
  have A_b2 : own_A Z h1 b2 kc_b2 (.array .byte) [.null, .null, .null] := A_b2
  refine own_dup X 5 own_d3_4 rfl rfl ?_
  refine own_iconst X 6 (0 : Int32) own_d3_5 rfl rfl ?_
  refine own_aloadN X 7 (.ref a) own_d3_6 rfl rfl rfl ?_
  refine own_aastore X 8 0 own_d3_7 rfl A_b2 (by decide) (by decide) (Nat.le_of_ble_eq_true rfl) rfl (own_StoA A_b2 O_b2 (Ins.self Ea)) (by omega) ?_
  intro T h3 X W_h3
  have nw_h3 : own_A Z h3 b2 kc_b2 (.array .byte) [(.ref a), .null, .null] := A_b2.same W_h3 rfl
  have zs_h3 : h1.size ≤ h3.size := (Nat.le_of_eq W_h3.size.symm)
  have OL := OL.wr W_h3 (by omega)
  have Aa := Aa.other W_h3 (by show @Ne Nat _ _; omega)
  have Ea := Exa.wr W_h3 Ea
  have K0 := K0.wr W_h3 (Or.inr (by omega))
  have C_b2 := Exa.wr W_h3 C_b2
  have A_b2 := nw_h3
  refine own_dup X 9 own_d3_8 rfl rfl ?_
  refine own_iconst X 10 (1 : Int32) own_d3_9 rfl rfl ?_
  refine own_aloadN X 11 (.ref a) own_d3_10 rfl rfl rfl ?_
  refine own_getS X 14 own_d3_11 rfl (hw _ (List.mem_of_getElem? (i := 16) rfl)) Via.refl (Sta.ext OL.2 z_ho) ?_
  intro T X
  refine own_callS X 17 [(.ref a), (.ref ho)] [(.int (1 : Int32)), (.ref b2), (.ref b2)] own_d3_14 rfl (hw _ (List.mem_of_getElem? (i := 18) rfl)) (hw _ (List.mem_of_getElem? (i := 19) rfl)) (hw _ (List.mem_of_getElem? (i := 11) rfl)) (hw _ (List.mem_of_getElem? (i := 20) rfl)) (by decide) (own_su3_6 l Z a0 hw a ho ka kh x0 x1 x2 h3 n0 X.sz Aa (own_A.ext z_hA OL.2)) (fun _ _ q => q.1.1) rfl own_pd2 rfl rfl rfl (by decide) (Nat.le_of_ble_eq_true rfl) (by decide) (by decide) ?_
  rintro v14 T h5 X ⟨K_, b4, kb_b4, rfl, lo_b4, hi_b4, A_b4, C_b4⟩
  have zs_h5 : h3.size ≤ h5.size := K_.1
  have OL := OL.keep K_ all0
  have Aa := Aa.keep K_ nin0
  have Ea := Ea.keep K_
  have K0 := K0.trans K_ all0
  have C_b2 := C_b2.keep K_
  have A_b2 := A_b2.keep K_ nin0
  show own_Ends p e below _ (T.setTop (mkF m 17 #[.val (.ref a)] [(.ref b4), (.int (1 : Int32)), (.ref b2), (.ref b2)]))
  refine own_aastore X 18 1 own_d3_17 rfl A_b2 (by decide) (by decide) (Nat.le_of_ble_eq_true rfl) rfl (own_StoA A_b2 O_b2 (Ins.self C_b4)) (by omega) ?_
  intro T h6 X W_h6
  have nw_h6 : own_A Z h6 b2 kc_b2 (.array .byte) [(.ref a), (.ref b4), .null] := A_b2.same W_h6 rfl
  have zs_h6 : h5.size ≤ h6.size := (Nat.le_of_eq W_h6.size.symm)
  have OL := OL.wr W_h6 (by omega)
  have Aa := Aa.other W_h6 (by show @Ne Nat _ _; omega)
  have Ea := Exa.wr W_h6 Ea
  have K0 := K0.wr W_h6 (Or.inr (by omega))
  have C_b2 := Exa.wr W_h6 C_b2
  have A_b4 := A_b4.other W_h6 (by show @Ne Nat _ _; omega)
  have C_b4 := Exa.wr W_h6 C_b4
  have A_b2 := nw_h6
  refine own_dup X 19 own_d3_18 rfl rfl ?_
  refine own_iconst X 20 (2 : Int32) own_d3_19 rfl rfl ?_
  refine own_aloadN X 21 (.ref a) own_d3_20 rfl rfl rfl ?_
  refine own_getS X 24 own_d3_21 rfl (hw _ (List.mem_of_getElem? (i := 34) rfl)) Via.refl (Sta.ext OL.2 z_wt) ?_
  intro T X
  refine own_callS X 27 [(.ref a), (.ref wt)] [(.int (2 : Int32)), (.ref b2), (.ref b2)] own_d3_24 rfl (hw _ (List.mem_of_getElem? (i := 18) rfl)) (hw _ (List.mem_of_getElem? (i := 19) rfl)) (hw _ (List.mem_of_getElem? (i := 11) rfl)) (hw _ (List.mem_of_getElem? (i := 20) rfl)) (by decide) (own_su3_8 l Z a0 hw a wt ka kw x0 x1 x2 h6 n0 X.sz Aa (own_A.ext z_wA OL.2)) (fun _ _ q => q.1.1) rfl own_pd2 rfl rfl rfl (by decide) (Nat.le_of_ble_eq_true rfl) (by decide) (by decide) ?_
  rintro v24 T h8 X ⟨K_, b7, kb_b7, rfl, lo_b7, hi_b7, A_b7, C_b7⟩
  have zs_h8 : h6.size ≤ h8.size := K_.1
  have OL := OL.keep K_ all0
  have Aa := Aa.keep K_ nin0
  have Ea := Ea.keep K_
  have K0 := K0.trans K_ all0
  have C_b2 := C_b2.keep K_
  have A_b4 := A_b4.keep K_ nin0
  have C_b4 := C_b4.keep K_
  have A_b2 := A_b2.keep K_ nin0
  show own_Ends p e below _ (T.setTop (mkF m 27 #[.val (.ref a)] [(.ref b7), (.int (2 : Int32)), (.ref b2), (.ref b2)]))
  refine own_aastore X 28 2 own_d3_27 rfl A_b2 (by decide) (by decide) (Nat.le_of_ble_eq_true rfl) rfl (own_StoA A_b2 O_b2 (Ins.self C_b7)) (by omega) ?_
  intro T h9 X W_h9
  have nw_h9 : own_A Z h9 b2 kc_b2 (.array .byte) [(.ref a), (.ref b4), (.ref b7)] := A_b2.same W_h9 rfl
  have zs_h9 : h8.size ≤ h9.size := (Nat.le_of_eq W_h9.size.symm)
  have OL := OL.wr W_h9 (by omega)
  have Aa := Aa.other W_h9 (by show @Ne Nat _ _; omega)
  have Ea := Exa.wr W_h9 Ea
  have K0 := K0.wr W_h9 (Or.inr (by omega))
  have C_b2 := Exa.wr W_h9 C_b2
  have A_b4 := A_b4.other W_h9 (by show @Ne Nat _ _; omega)
  have C_b4 := Exa.wr W_h9 C_b4
  have A_b7 := A_b7.other W_h9 (by show @Ne Nat _ _; omega)
  have C_b7 := Exa.wr W_h9 C_b7
  have A_b2 := nw_h9
  exact own_retA X (.array (.array .byte)) own_d3_28 rfl rfl rfl rfl (by decide) (by decide) (⟨K0, b2, kc_b2, b4, kb_b4, b7, kb_b7, rfl, A_b2, A_b4, A_b7⟩)
set_option maxRecDepth 65536 in
set_option maxHeartbeats 40000000 in
theorem own_cp4_6 (l : Launch) (Z : State) (a0 : Array Value) (hw : ∀ d ∈ tables_1, d.before a0 Z = true) (a : Addr) (nl : Int32) (ka : ClassId) (x0 : Int32) (x1 : Int32) (x2 : Int32) (x3 : Int32) (h0 : Heap) (n0 : Nat) (hs0 : n0 ≤ h0.size) (Aa : own_A Z h0 a ka .byte [(.int x0), (.int x1), (.int x2), (.int x3)]) (hnl : nl = 10) :
    own_Met l (⟨"java/util/Arrays", "copyOf", "([BI)[B"⟩ : MethodName) jdk_65_method_121_code 3 (some (.array .byte)) ({ frames := 1, cells := 1, slots := 10, locals := 18 } : Room) Z #[(.ref a), (.int nl)] h0 n0 (fun v h' => Keep h0 h' [] ∧ ∃ b kb, v = some (.ref b) ∧ h0.size ≤ b ∧ h'.size > b ∧ own_A Z h' b kb .byte [(.int x0), (.int x1), (.int x2), (.int x3), (.int (0 : Int32)), (.int (0 : Int32)), (.int (0 : Int32)), (.int (0 : Int32)), (.int (0 : Int32)), (.int (0 : Int32))] ∧ Exa Z h' b "[B") := by
  refine own_met (Ls := #[.val (.ref a), .val (.int nl), .unset]) own_pn5 hs0 (fun m => by first  | (simp [entryFrame, mkF, argsToLocals, Value.category]; done) | rfl) ?_
  intro p e s m below meth c T X
  have K0 := Keep.refl h0 []
  have hi_a : h0.size > a := Aa.lt
  subst hnl
  refine own_iloadN X 1 (10 : Int32) own_d5_0 rfl rfl ?_
  refine own_aloadN X 2 (.ref a) own_d5_1 rfl rfl rfl ?_
  refine own_len X 3 (4 : Int32) own_d5_2 rfl Aa rfl ?_
  refine own_icY X 14 own_d5_3 (by decide) (by decide) (XT.ii_ne_t (by decide)) ?_
  refine own_iloadN X 15 (10 : Int32) own_d5_14 rfl rfl ?_
  refine own_newPE X 17 10 10 (ad := "[B") own_d5_15 rfl (hw _ (List.mem_of_getElem? (i := 5) rfl)) (by decide) (by decide) (by decide) (by decide) (by decide) (by decide) (by decide) ?_
  intro T h1 b2 kc_b2 g_b2 X E_h1 A_b2 C_b2
  have zs_h1 : h0.size ≤ h1.size := E_h1.1
  have Aa := Aa.ext E_h1
  have K0 := K0.ext E_h1
  have lo_b2 : h0.size ≤ b2 := Nat.le_of_eq g_b2.symm
  have hi_b2 : h1.size > b2 := A_b2.lt
  have A_b2 : own_A Z h1 b2 kc_b2 .byte [(.int (0 : Int32)), (.int (0 : Int32)), (.int (0 : Int32)), (.int (0 : Int32)), (.int (0 : Int32)), (.int (0 : Int32)), (.int (0 : Int32)), (.int (0 : Int32)), (.int (0 : Int32)), (.int (0 : Int32))] := A_b2
  refine own_astoreN X 18 #[.val (.ref a), .val (.int (10 : Int32)), .val (.ref b2)] own_d5_17 rfl rfl rfl ?_
  refine own_aloadN X 19 (.ref a) own_d5_18 rfl rfl rfl ?_
  refine own_iconst X 20 (0 : Int32) own_d5_19 rfl rfl ?_
  refine own_aloadN X 21 (.ref b2) own_d5_20 rfl rfl rfl ?_
  refine own_iconst X 22 (0 : Int32) own_d5_21 rfl rfl ?_
  refine own_aloadN X 23 (.ref a) own_d5_22 rfl rfl rfl ?_
  refine own_len X 24 (4 : Int32) own_d5_23 rfl Aa rfl ?_
  refine own_iloadN X 25 (10 : Int32) own_d5_24 rfl rfl ?_
  refine own_callS X 28 [(.int (4 : Int32)), (.int (10 : Int32))] [(.int (0 : Int32)), (.ref b2), (.int (0 : Int32)), (.ref a)] own_d5_25 rfl (hw _ (List.mem_of_getElem? (i := 25) rfl)) (hw _ (List.mem_of_getElem? (i := 26) rfl)) (hw _ (List.mem_of_getElem? (i := 27) rfl)) (hw _ (List.mem_of_getElem? (i := 28) rfl)) (by decide) (own_mmin l Z a0 hw (4 : Int32) (10 : Int32) h1 n0 X.sz) (fun _ _ q => Nat.le_of_eq (congrArg Array.size q.1.symm)) rfl own_pd0 rfl rfl rfl (by decide) (Nat.le_of_ble_eq_true rfl) (by decide) (by decide) ?_
  rintro v25 T h_ X ⟨eh_, rfl⟩
  rw [eh_] at X
  show own_Ends p e below _ (T.setTop (mkF m 28 #[.val (.ref a), .val (.int (10 : Int32)), .val (.ref b2)] [(.int (own_min (4 : Int32) (10 : Int32))), (.int (0 : Int32)), (.ref b2), (.int (0 : Int32)), (.ref a)]))
  rw [show own_min (4 : Int32) (10 : Int32) = (4 : Int32) from by decide]
  refine own_cpy X 31 0 0 4 [(.int x0), (.int x1), (.int x2), (.int x3)] [(.int x0), (.int x1), (.int x2), (.int x3), (.int (0 : Int32)), (.int (0 : Int32)), (.int (0 : Int32)), (.int (0 : Int32)), (.int (0 : Int32)), (.int (0 : Int32))] own_d5_28 rfl (hw _ (List.mem_of_getElem? (i := 29) rfl)) (hw _ (List.mem_of_getElem? (i := 32) rfl)) (hw _ (List.mem_of_getElem? (i := 30) rfl)) (hw _ (List.mem_of_getElem? (i := 31) rfl)) Aa A_b2 (Or.inl ⟨rfl, rfl⟩) (by decide) (by decide) (by decide) (by decide) (by decide) (by decide) (Nat.le_of_ble_eq_true rfl) (Nat.le_of_ble_eq_true rfl) rfl rfl (by omega) rfl (by decide) (Nat.le_of_ble_eq_true rfl) ?_
  intro T h3 X K_ nA_
  have zs_h3 : h1.size ≤ h3.size := K_.1
  have Aa := Aa.keep K_ (ninS (by show @Ne Nat _ _; omega) nin0)
  have K0 := K0.trans K_ (allS (Or.inr (by omega)) all0)
  have C_b2 := C_b2.keep K_
  have A_b2 := nA_
  refine own_aloadN X 32 (.ref b2) own_d5_31 rfl rfl rfl ?_
  exact own_retA X (.array .byte) own_d5_32 rfl rfl rfl rfl (by decide) (by decide) (⟨K0, b2, kc_b2, rfl, by omega, A_b2.lt, A_b2, C_b2⟩)
set_option maxRecDepth 65536 in
set_option maxHeartbeats 40000000 in
theorem own_su4_6 (l : Launch) (Z : State) (a0 : Array Value) (hw : ∀ d ∈ tables_1, d.before a0 Z = true) (a : Addr) (sx : Addr) (ka : ClassId) (ks : ClassId) (x0 : Int32) (x1 : Int32) (x2 : Int32) (x3 : Int32) (h0 : Heap) (n0 : Nat) (hs0 : n0 ≤ h0.size) (Aa : own_A Z h0 a ka .byte [(.int x0), (.int x1), (.int x2), (.int x3)]) (As : own_A Z h0 sx ks .byte [(.int 58), (.int 104), (.int 111), (.int 108), (.int 100), (.int 115)]) :
    own_Met l (⟨"com/example/latchkey/latchkey/LockKeys", "suffixed", "([B[B)[B"⟩ : MethodName) prog_1_method_6_code 3 (some (.array .byte)) ({ frames := 2, cells := 1, slots := 10, locals := 32 } : Room) Z #[(.ref a), (.ref sx)] h0 n0 (fun v h' => Keep h0 h' [] ∧ ∃ b kb, v = some (.ref b) ∧ h0.size ≤ b ∧ h'.size > b ∧ own_A Z h' b kb .byte [(.int x0), (.int x1), (.int x2), (.int x3), (.int 58), (.int 104), (.int 111), (.int 108), (.int 100), (.int 115)] ∧ Exa Z h' b "[B") := by
  refine own_met (Ls := #[.val (.ref a), .val (.ref sx), .unset]) own_pn4 hs0 (fun m => by first  | (simp [entryFrame, mkF, argsToLocals, Value.category]; done) | rfl) ?_
  intro p e s m below meth c T X
  have K0 := Keep.refl h0 []
  have hi_a : h0.size > a := Aa.lt
  have hi_sx : h0.size > sx := As.lt
  refine own_aloadN X 1 (.ref a) own_d4_0 rfl rfl rfl ?_
  refine own_aloadN X 2 (.ref a) own_d4_1 rfl rfl rfl ?_
  refine own_len X 3 (4 : Int32) own_d4_2 rfl Aa rfl ?_
  refine own_aloadN X 4 (.ref sx) own_d4_3 rfl rfl rfl ?_
  refine own_len X 5 (6 : Int32) own_d4_4 rfl As rfl ?_
  refine own_iadd X 6 own_d4_5 rfl ?_
  refine own_callS X 9 [(.ref a), (.int ((4 : Int32) + (6 : Int32)))] [] own_d4_6 rfl (hw _ (List.mem_of_getElem? (i := 21) rfl)) (hw _ (List.mem_of_getElem? (i := 22) rfl)) (hw _ (List.mem_of_getElem? (i := 23) rfl)) (hw _ (List.mem_of_getElem? (i := 24) rfl)) (by decide) (own_cp4_6 l Z a0 hw a ((4 : Int32) + (6 : Int32)) ka x0 x1 x2 x3 h0 n0 X.sz Aa (by decide)) (fun _ _ q => q.1.1) rfl own_pd1 rfl rfl rfl (by decide) (Nat.le_of_ble_eq_true rfl) (by decide) (by decide) ?_
  rintro v6 T h2 X ⟨K_, b1, kb_b1, rfl, lo_b1, hi_b1, A_b1, C_b1⟩
  have zs_h2 : h0.size ≤ h2.size := K_.1
  have Aa := Aa.keep K_ nin0
  have As := As.keep K_ nin0
  have K0 := K0.trans K_ all0
  show own_Ends p e below _ (T.setTop (mkF m 9 #[.val (.ref a), .val (.ref sx), .unset] [(.ref b1)]))
  refine own_astoreN X 10 #[.val (.ref a), .val (.ref sx), .val (.ref b1)] own_d4_9 rfl rfl rfl ?_
  refine own_aloadN X 11 (.ref sx) own_d4_10 rfl rfl rfl ?_
  refine own_iconst X 12 (0 : Int32) own_d4_11 rfl rfl ?_
  refine own_aloadN X 13 (.ref b1) own_d4_12 rfl rfl rfl ?_
  refine own_aloadN X 14 (.ref a) own_d4_13 rfl rfl rfl ?_
  refine own_len X 15 (4 : Int32) own_d4_14 rfl Aa rfl ?_
  refine own_aloadN X 16 (.ref sx) own_d4_15 rfl rfl rfl ?_
  refine own_len X 17 (6 : Int32) own_d4_16 rfl As rfl ?_
  refine own_cpy X 20 0 4 6 [(.int 58), (.int 104), (.int 111), (.int 108), (.int 100), (.int 115)] [(.int x0), (.int x1), (.int x2), (.int x3), (.int 58), (.int 104), (.int 111), (.int 108), (.int 100), (.int 115)] own_d4_17 rfl (hw _ (List.mem_of_getElem? (i := 33) rfl)) (hw _ (List.mem_of_getElem? (i := 32) rfl)) (hw _ (List.mem_of_getElem? (i := 30) rfl)) (hw _ (List.mem_of_getElem? (i := 31) rfl)) As A_b1 (Or.inl ⟨rfl, rfl⟩) (by decide) (by decide) (by decide) (by decide) (by decide) (by decide) (Nat.le_of_ble_eq_true rfl) (Nat.le_of_ble_eq_true rfl) rfl rfl (by omega) rfl (by decide) (Nat.le_of_ble_eq_true rfl) ?_
  intro T h3 X K_ nA_
  have zs_h3 : h2.size ≤ h3.size := K_.1
  have Aa := Aa.keep K_ (ninS (by show @Ne Nat _ _; omega) nin0)
  have As := As.keep K_ (ninS (by show @Ne Nat _ _; omega) nin0)
  have K0 := K0.trans K_ (allS (Or.inr (by omega)) all0)
  have C_b1 := C_b1.keep K_
  have A_b1 := nA_
  refine own_aloadN X 21 (.ref b1) own_d4_20 rfl rfl rfl ?_
  exact own_retA X (.array .byte) own_d4_21 rfl rfl rfl rfl (by decide) (by decide) (⟨K0, b1, kb_b1, rfl, by omega, A_b1.lt, A_b1, C_b1⟩)
set_option maxRecDepth 65536 in
set_option maxHeartbeats 40000000 in
theorem own_cp4_8 (l : Launch) (Z : State) (a0 : Array Value) (hw : ∀ d ∈ tables_1, d.before a0 Z = true) (a : Addr) (nl : Int32) (ka : ClassId) (x0 : Int32) (x1 : Int32) (x2 : Int32) (x3 : Int32) (h0 : Heap) (n0 : Nat) (hs0 : n0 ≤ h0.size) (Aa : own_A Z h0 a ka .byte [(.int x0), (.int x1), (.int x2), (.int x3)]) (hnl : nl = 12) :
    own_Met l (⟨"java/util/Arrays", "copyOf", "([BI)[B"⟩ : MethodName) jdk_65_method_121_code 3 (some (.array .byte)) ({ frames := 1, cells := 1, slots := 12, locals := 18 } : Room) Z #[(.ref a), (.int nl)] h0 n0 (fun v h' => Keep h0 h' [] ∧ ∃ b kb, v = some (.ref b) ∧ h0.size ≤ b ∧ h'.size > b ∧ own_A Z h' b kb .byte [(.int x0), (.int x1), (.int x2), (.int x3), (.int (0 : Int32)), (.int (0 : Int32)), (.int (0 : Int32)), (.int (0 : Int32)), (.int (0 : Int32)), (.int (0 : Int32)), (.int (0 : Int32)), (.int (0 : Int32))] ∧ Exa Z h' b "[B") := by
  refine own_met (Ls := #[.val (.ref a), .val (.int nl), .unset]) own_pn5 hs0 (fun m => by first  | (simp [entryFrame, mkF, argsToLocals, Value.category]; done) | rfl) ?_
  intro p e s m below meth c T X
  have K0 := Keep.refl h0 []
  have hi_a : h0.size > a := Aa.lt
  subst hnl
  refine own_iloadN X 1 (12 : Int32) own_d5_0 rfl rfl ?_
  refine own_aloadN X 2 (.ref a) own_d5_1 rfl rfl rfl ?_
  refine own_len X 3 (4 : Int32) own_d5_2 rfl Aa rfl ?_
  refine own_icY X 14 own_d5_3 (by decide) (by decide) (XT.ii_ne_t (by decide)) ?_
  refine own_iloadN X 15 (12 : Int32) own_d5_14 rfl rfl ?_
  refine own_newPE X 17 12 12 (ad := "[B") own_d5_15 rfl (hw _ (List.mem_of_getElem? (i := 5) rfl)) (by decide) (by decide) (by decide) (by decide) (by decide) (by decide) (by decide) ?_
  intro T h1 b2 kc_b2 g_b2 X E_h1 A_b2 C_b2
  have zs_h1 : h0.size ≤ h1.size := E_h1.1
  have Aa := Aa.ext E_h1
  have K0 := K0.ext E_h1
  have lo_b2 : h0.size ≤ b2 := Nat.le_of_eq g_b2.symm
  have hi_b2 : h1.size > b2 := A_b2.lt
  have A_b2 : own_A Z h1 b2 kc_b2 .byte [(.int (0 : Int32)), (.int (0 : Int32)), (.int (0 : Int32)), (.int (0 : Int32)), (.int (0 : Int32)), (.int (0 : Int32)), (.int (0 : Int32)), (.int (0 : Int32)), (.int (0 : Int32)), (.int (0 : Int32)), (.int (0 : Int32)), (.int (0 : Int32))] := A_b2
  refine own_astoreN X 18 #[.val (.ref a), .val (.int (12 : Int32)), .val (.ref b2)] own_d5_17 rfl rfl rfl ?_
  refine own_aloadN X 19 (.ref a) own_d5_18 rfl rfl rfl ?_
  refine own_iconst X 20 (0 : Int32) own_d5_19 rfl rfl ?_
  refine own_aloadN X 21 (.ref b2) own_d5_20 rfl rfl rfl ?_
  refine own_iconst X 22 (0 : Int32) own_d5_21 rfl rfl ?_
  refine own_aloadN X 23 (.ref a) own_d5_22 rfl rfl rfl ?_
  refine own_len X 24 (4 : Int32) own_d5_23 rfl Aa rfl ?_
  refine own_iloadN X 25 (12 : Int32) own_d5_24 rfl rfl ?_
  refine own_callS X 28 [(.int (4 : Int32)), (.int (12 : Int32))] [(.int (0 : Int32)), (.ref b2), (.int (0 : Int32)), (.ref a)] own_d5_25 rfl (hw _ (List.mem_of_getElem? (i := 25) rfl)) (hw _ (List.mem_of_getElem? (i := 26) rfl)) (hw _ (List.mem_of_getElem? (i := 27) rfl)) (hw _ (List.mem_of_getElem? (i := 28) rfl)) (by decide) (own_mmin l Z a0 hw (4 : Int32) (12 : Int32) h1 n0 X.sz) (fun _ _ q => Nat.le_of_eq (congrArg Array.size q.1.symm)) rfl own_pd0 rfl rfl rfl (by decide) (Nat.le_of_ble_eq_true rfl) (by decide) (by decide) ?_
  rintro v25 T h_ X ⟨eh_, rfl⟩
  rw [eh_] at X
  show own_Ends p e below _ (T.setTop (mkF m 28 #[.val (.ref a), .val (.int (12 : Int32)), .val (.ref b2)] [(.int (own_min (4 : Int32) (12 : Int32))), (.int (0 : Int32)), (.ref b2), (.int (0 : Int32)), (.ref a)]))
  rw [show own_min (4 : Int32) (12 : Int32) = (4 : Int32) from by decide]
  refine own_cpy X 31 0 0 4 [(.int x0), (.int x1), (.int x2), (.int x3)] [(.int x0), (.int x1), (.int x2), (.int x3), (.int (0 : Int32)), (.int (0 : Int32)), (.int (0 : Int32)), (.int (0 : Int32)), (.int (0 : Int32)), (.int (0 : Int32)), (.int (0 : Int32)), (.int (0 : Int32))] own_d5_28 rfl (hw _ (List.mem_of_getElem? (i := 29) rfl)) (hw _ (List.mem_of_getElem? (i := 32) rfl)) (hw _ (List.mem_of_getElem? (i := 30) rfl)) (hw _ (List.mem_of_getElem? (i := 31) rfl)) Aa A_b2 (Or.inl ⟨rfl, rfl⟩) (by decide) (by decide) (by decide) (by decide) (by decide) (by decide) (Nat.le_of_ble_eq_true rfl) (Nat.le_of_ble_eq_true rfl) rfl rfl (by omega) rfl (by decide) (Nat.le_of_ble_eq_true rfl) ?_
  intro T h3 X K_ nA_
  have zs_h3 : h1.size ≤ h3.size := K_.1
  have Aa := Aa.keep K_ (ninS (by show @Ne Nat _ _; omega) nin0)
  have K0 := K0.trans K_ (allS (Or.inr (by omega)) all0)
  have C_b2 := C_b2.keep K_
  have A_b2 := nA_
  refine own_aloadN X 32 (.ref b2) own_d5_31 rfl rfl rfl ?_
  exact own_retA X (.array .byte) own_d5_32 rfl rfl rfl rfl (by decide) (by decide) (⟨K0, b2, kc_b2, rfl, by omega, A_b2.lt, A_b2, C_b2⟩)
set_option maxRecDepth 65536 in
set_option maxHeartbeats 40000000 in
theorem own_su4_8 (l : Launch) (Z : State) (a0 : Array Value) (hw : ∀ d ∈ tables_1, d.before a0 Z = true) (a : Addr) (sx : Addr) (ka : ClassId) (ks : ClassId) (x0 : Int32) (x1 : Int32) (x2 : Int32) (x3 : Int32) (h0 : Heap) (n0 : Nat) (hs0 : n0 ≤ h0.size) (Aa : own_A Z h0 a ka .byte [(.int x0), (.int x1), (.int x2), (.int x3)]) (As : own_A Z h0 sx ks .byte [(.int 58), (.int 119), (.int 97), (.int 105), (.int 116), (.int 105), (.int 110), (.int 103)]) :
    own_Met l (⟨"com/example/latchkey/latchkey/LockKeys", "suffixed", "([B[B)[B"⟩ : MethodName) prog_1_method_6_code 3 (some (.array .byte)) ({ frames := 2, cells := 1, slots := 12, locals := 32 } : Room) Z #[(.ref a), (.ref sx)] h0 n0 (fun v h' => Keep h0 h' [] ∧ ∃ b kb, v = some (.ref b) ∧ h0.size ≤ b ∧ h'.size > b ∧ own_A Z h' b kb .byte [(.int x0), (.int x1), (.int x2), (.int x3), (.int 58), (.int 119), (.int 97), (.int 105), (.int 116), (.int 105), (.int 110), (.int 103)] ∧ Exa Z h' b "[B") := by
  refine own_met (Ls := #[.val (.ref a), .val (.ref sx), .unset]) own_pn4 hs0 (fun m => by first  | (simp [entryFrame, mkF, argsToLocals, Value.category]; done) | rfl) ?_
  intro p e s m below meth c T X
  have K0 := Keep.refl h0 []
  have hi_a : h0.size > a := Aa.lt
  have hi_sx : h0.size > sx := As.lt
  refine own_aloadN X 1 (.ref a) own_d4_0 rfl rfl rfl ?_
  refine own_aloadN X 2 (.ref a) own_d4_1 rfl rfl rfl ?_
  refine own_len X 3 (4 : Int32) own_d4_2 rfl Aa rfl ?_
  refine own_aloadN X 4 (.ref sx) own_d4_3 rfl rfl rfl ?_
  refine own_len X 5 (8 : Int32) own_d4_4 rfl As rfl ?_
  refine own_iadd X 6 own_d4_5 rfl ?_
  refine own_callS X 9 [(.ref a), (.int ((4 : Int32) + (8 : Int32)))] [] own_d4_6 rfl (hw _ (List.mem_of_getElem? (i := 21) rfl)) (hw _ (List.mem_of_getElem? (i := 22) rfl)) (hw _ (List.mem_of_getElem? (i := 23) rfl)) (hw _ (List.mem_of_getElem? (i := 24) rfl)) (by decide) (own_cp4_8 l Z a0 hw a ((4 : Int32) + (8 : Int32)) ka x0 x1 x2 x3 h0 n0 X.sz Aa (by decide)) (fun _ _ q => q.1.1) rfl own_pd1 rfl rfl rfl (by decide) (Nat.le_of_ble_eq_true rfl) (by decide) (by decide) ?_
  rintro v6 T h2 X ⟨K_, b1, kb_b1, rfl, lo_b1, hi_b1, A_b1, C_b1⟩
  have zs_h2 : h0.size ≤ h2.size := K_.1
  have Aa := Aa.keep K_ nin0
  have As := As.keep K_ nin0
  have K0 := K0.trans K_ all0
  show own_Ends p e below _ (T.setTop (mkF m 9 #[.val (.ref a), .val (.ref sx), .unset] [(.ref b1)]))
  refine own_astoreN X 10 #[.val (.ref a), .val (.ref sx), .val (.ref b1)] own_d4_9 rfl rfl rfl ?_
  refine own_aloadN X 11 (.ref sx) own_d4_10 rfl rfl rfl ?_
  refine own_iconst X 12 (0 : Int32) own_d4_11 rfl rfl ?_
  refine own_aloadN X 13 (.ref b1) own_d4_12 rfl rfl rfl ?_
  refine own_aloadN X 14 (.ref a) own_d4_13 rfl rfl rfl ?_
  refine own_len X 15 (4 : Int32) own_d4_14 rfl Aa rfl ?_
  refine own_aloadN X 16 (.ref sx) own_d4_15 rfl rfl rfl ?_
  refine own_len X 17 (8 : Int32) own_d4_16 rfl As rfl ?_
  refine own_cpy X 20 0 4 8 [(.int 58), (.int 119), (.int 97), (.int 105), (.int 116), (.int 105), (.int 110), (.int 103)] [(.int x0), (.int x1), (.int x2), (.int x3), (.int 58), (.int 119), (.int 97), (.int 105), (.int 116), (.int 105), (.int 110), (.int 103)] own_d4_17 rfl (hw _ (List.mem_of_getElem? (i := 33) rfl)) (hw _ (List.mem_of_getElem? (i := 32) rfl)) (hw _ (List.mem_of_getElem? (i := 30) rfl)) (hw _ (List.mem_of_getElem? (i := 31) rfl)) As A_b1 (Or.inl ⟨rfl, rfl⟩) (by decide) (by decide) (by decide) (by decide) (by decide) (by decide) (Nat.le_of_ble_eq_true rfl) (Nat.le_of_ble_eq_true rfl) rfl rfl (by omega) rfl (by decide) (Nat.le_of_ble_eq_true rfl) ?_
  intro T h3 X K_ nA_
  have zs_h3 : h2.size ≤ h3.size := K_.1
  have Aa := Aa.keep K_ (ninS (by show @Ne Nat _ _; omega) nin0)
  have As := As.keep K_ (ninS (by show @Ne Nat _ _; omega) nin0)
  have K0 := K0.trans K_ (allS (Or.inr (by omega)) all0)
  have C_b1 := C_b1.keep K_
  have A_b1 := nA_
  refine own_aloadN X 21 (.ref b1) own_d4_20 rfl rfl rfl ?_
  exact own_retA X (.array .byte) own_d4_21 rfl rfl rfl rfl (by decide) (by decide) (⟨K0, b1, kb_b1, rfl, by omega, A_b1.lt, A_b1, C_b1⟩)
set_option maxRecDepth 65536 in
set_option maxHeartbeats 40000000 in
theorem own_hf4 (l : Launch) (Z : State) (a0 : Array Value) (hw : ∀ d ∈ tables_1, d.before a0 Z = true) (a : Addr) (ka : ClassId) (ho : Addr) (kh : ClassId) (wt : Addr) (kw : ClassId) (x0 : Int32) (x1 : Int32) (x2 : Int32) (x3 : Int32) (h0 : Heap) (n0 : Nat) (hs0 : n0 ≤ h0.size) (OL : Old Z n0 h0) (z_ho : Sta Z Z.heap "com/example/latchkey/latchkey/LockKeys" "HOLDS" "[B" (.ref ho)) (z_hA : own_A Z Z.heap ho kh .byte [(.int 58), (.int 104), (.int 111), (.int 108), (.int 100), (.int 115)]) (z_wt : Sta Z Z.heap "com/example/latchkey/latchkey/LockKeys" "WAITING" "[B" (.ref wt)) (z_wA : own_A Z Z.heap wt kw .byte [(.int 58), (.int 119), (.int 97), (.int 105), (.int 116), (.int 105), (.int 110), (.int 103)]) (Aa : own_A Z h0 a ka .byte [(.int x0), (.int x1), (.int x2), (.int x3)]) (Ea : Exa Z h0 a "[B") :
    own_Met l (⟨"com/example/latchkey/latchkey/LockKeys", "holderFields", "([B)[[B"⟩ : MethodName) prog_1_method_5_code 1 (some (.array (.array .byte))) ({ frames := 3, cells := 3, slots := 25, locals := 49 } : Room) Z #[(.ref a)] h0 n0 (fun v h' => Keep h0 h' [] ∧ ∃ w kx b1 k1 b2 k2, v = some (.ref w) ∧ own_A Z h' w kx (.array .byte) [(.ref a), (.ref b1), (.ref b2)] ∧ own_A Z h' b1 k1 .byte [(.int x0), (.int x1), (.int x2), (.int x3), (.int 58), (.int 104), (.int 111), (.int 108), (.int 100), (.int 115)] ∧ own_A Z h' b2 k2 .byte [(.int x0), (.int x1), (.int x2), (.int x3), (.int 58), (.int 119), (.int 97), (.int 105), (.int 116), (.int 105), (.int 110), (.int 103)]) := by
  refine own_met (Ls := #[.val (.ref a)]) own_pn3 hs0 (fun m => by first  | (simp [entryFrame, mkF, argsToLocals, Value.category]; done) | rfl) ?_
  intro p e s m below meth c T X
  have K0 := Keep.refl h0 []
  have hi_ho : n0 > ho := (OL.1 ▸ z_hA.lt)
  have hi_wt : n0 > wt := (OL.1 ▸ z_wA.lt)
  have hi_a : h0.size > a := Aa.lt
  refine own_iconst X 1 (3 : Int32) own_d3_0 rfl rfl ?_
  refine own_newRA X 4 3 3 (ad := "[[B") own_d3_1 rfl (ty := .byte) (by decide) (hw _ (List.mem_of_getElem? (i := 13) rfl)) (hw _ (List.mem_of_getElem? (i := 14) rfl)) (by decide) (by decide) (by decide) (by decide) (by decide) (by decide) (by decide) ?_
  intro T h1 b2 kc_b2 g_b2 X E_h1 A_b2 O_b2 C_b2
  have zs_h1 : h0.size ≤ h1.size := E_h1.1
  have OL := OL.ext E_h1
  have Aa := Aa.ext E_h1
  have Ea := Exa.ext E_h1 Ea
  have K0 := K0.ext E_h1
  have lo_b2 : h0.size ≤ b2 := Nat.le_of_eq g_b2.symm
  have hi_b2 : h1.size > b2 := A_b2.lt
  have A_b2 : own_A Z h1 b2 kc_b2 (.array .byte) [.null, .null, .null] := A_b2
  refine own_dup X 5 own_d3_4 rfl rfl ?_
  refine own_iconst X 6 (0 : Int32) own_d3_5 rfl rfl ?_
  refine own_aloadN X 7 (.ref a) own_d3_6 rfl rfl rfl ?_
  refine own_aastore X 8 0 own_d3_7 rfl A_b2 (by decide) (by decide) (Nat.le_of_ble_eq_true rfl) rfl (own_StoA A_b2 O_b2 (Ins.self Ea)) (by omega) ?_
  intro T h3 X W_h3
  have nw_h3 : own_A Z h3 b2 kc_b2 (.array .byte) [(.ref a), .null, .null] := A_b2.same W_h3 rfl
  have zs_h3 : h1.size ≤ h3.size := (Nat.le_of_eq W_h3.size.symm)
  have OL := OL.wr W_h3 (by omega)
  have Aa := Aa.other W_h3 (by show @Ne Nat _ _; omega)
  have Ea := Exa.wr W_h3 Ea
  have K0 := K0.wr W_h3 (Or.inr (by omega))
  have C_b2 := Exa.wr W_h3 C_b2
  have A_b2 := nw_h3
  refine own_dup X 9 own_d3_8 rfl rfl ?_
  refine own_iconst X 10 (1 : Int32) own_d3_9 rfl rfl ?_
  refine own_aloadN X 11 (.ref a) own_d3_10 rfl rfl rfl ?_
  refine own_getS X 14 own_d3_11 rfl (hw _ (List.mem_of_getElem? (i := 16) rfl)) Via.refl (Sta.ext OL.2 z_ho) ?_
  intro T X
  refine own_callS X 17 [(.ref a), (.ref ho)] [(.int (1 : Int32)), (.ref b2), (.ref b2)] own_d3_14 rfl (hw _ (List.mem_of_getElem? (i := 18) rfl)) (hw _ (List.mem_of_getElem? (i := 19) rfl)) (hw _ (List.mem_of_getElem? (i := 11) rfl)) (hw _ (List.mem_of_getElem? (i := 20) rfl)) (by decide) (own_su4_6 l Z a0 hw a ho ka kh x0 x1 x2 x3 h3 n0 X.sz Aa (own_A.ext z_hA OL.2)) (fun _ _ q => q.1.1) rfl own_pd2 rfl rfl rfl (by decide) (Nat.le_of_ble_eq_true rfl) (by decide) (by decide) ?_
  rintro v14 T h5 X ⟨K_, b4, kb_b4, rfl, lo_b4, hi_b4, A_b4, C_b4⟩
  have zs_h5 : h3.size ≤ h5.size := K_.1
  have OL := OL.keep K_ all0
  have Aa := Aa.keep K_ nin0
  have Ea := Ea.keep K_
  have K0 := K0.trans K_ all0
  have C_b2 := C_b2.keep K_
  have A_b2 := A_b2.keep K_ nin0
  show own_Ends p e below _ (T.setTop (mkF m 17 #[.val (.ref a)] [(.ref b4), (.int (1 : Int32)), (.ref b2), (.ref b2)]))
  refine own_aastore X 18 1 own_d3_17 rfl A_b2 (by decide) (by decide) (Nat.le_of_ble_eq_true rfl) rfl (own_StoA A_b2 O_b2 (Ins.self C_b4)) (by omega) ?_
  intro T h6 X W_h6
  have nw_h6 : own_A Z h6 b2 kc_b2 (.array .byte) [(.ref a), (.ref b4), .null] := A_b2.same W_h6 rfl
  have zs_h6 : h5.size ≤ h6.size := (Nat.le_of_eq W_h6.size.symm)
  have OL := OL.wr W_h6 (by omega)
  have Aa := Aa.other W_h6 (by show @Ne Nat _ _; omega)
  have Ea := Exa.wr W_h6 Ea
  have K0 := K0.wr W_h6 (Or.inr (by omega))
  have C_b2 := Exa.wr W_h6 C_b2
  have A_b4 := A_b4.other W_h6 (by show @Ne Nat _ _; omega)
  have C_b4 := Exa.wr W_h6 C_b4
  have A_b2 := nw_h6
  refine own_dup X 19 own_d3_18 rfl rfl ?_
  refine own_iconst X 20 (2 : Int32) own_d3_19 rfl rfl ?_
  refine own_aloadN X 21 (.ref a) own_d3_20 rfl rfl rfl ?_
  refine own_getS X 24 own_d3_21 rfl (hw _ (List.mem_of_getElem? (i := 34) rfl)) Via.refl (Sta.ext OL.2 z_wt) ?_
  intro T X
  refine own_callS X 27 [(.ref a), (.ref wt)] [(.int (2 : Int32)), (.ref b2), (.ref b2)] own_d3_24 rfl (hw _ (List.mem_of_getElem? (i := 18) rfl)) (hw _ (List.mem_of_getElem? (i := 19) rfl)) (hw _ (List.mem_of_getElem? (i := 11) rfl)) (hw _ (List.mem_of_getElem? (i := 20) rfl)) (by decide) (own_su4_8 l Z a0 hw a wt ka kw x0 x1 x2 x3 h6 n0 X.sz Aa (own_A.ext z_wA OL.2)) (fun _ _ q => q.1.1) rfl own_pd2 rfl rfl rfl (by decide) (Nat.le_of_ble_eq_true rfl) (by decide) (by decide) ?_
  rintro v24 T h8 X ⟨K_, b7, kb_b7, rfl, lo_b7, hi_b7, A_b7, C_b7⟩
  have zs_h8 : h6.size ≤ h8.size := K_.1
  have OL := OL.keep K_ all0
  have Aa := Aa.keep K_ nin0
  have Ea := Ea.keep K_
  have K0 := K0.trans K_ all0
  have C_b2 := C_b2.keep K_
  have A_b4 := A_b4.keep K_ nin0
  have C_b4 := C_b4.keep K_
  have A_b2 := A_b2.keep K_ nin0
  show own_Ends p e below _ (T.setTop (mkF m 27 #[.val (.ref a)] [(.ref b7), (.int (2 : Int32)), (.ref b2), (.ref b2)]))
  refine own_aastore X 28 2 own_d3_27 rfl A_b2 (by decide) (by decide) (Nat.le_of_ble_eq_true rfl) rfl (own_StoA A_b2 O_b2 (Ins.self C_b7)) (by omega) ?_
  intro T h9 X W_h9
  have nw_h9 : own_A Z h9 b2 kc_b2 (.array .byte) [(.ref a), (.ref b4), (.ref b7)] := A_b2.same W_h9 rfl
  have zs_h9 : h8.size ≤ h9.size := (Nat.le_of_eq W_h9.size.symm)
  have OL := OL.wr W_h9 (by omega)
  have Aa := Aa.other W_h9 (by show @Ne Nat _ _; omega)
  have Ea := Exa.wr W_h9 Ea
  have K0 := K0.wr W_h9 (Or.inr (by omega))
  have C_b2 := Exa.wr W_h9 C_b2
  have A_b4 := A_b4.other W_h9 (by show @Ne Nat _ _; omega)
  have C_b4 := Exa.wr W_h9 C_b4
  have A_b7 := A_b7.other W_h9 (by show @Ne Nat _ _; omega)
  have C_b7 := Exa.wr W_h9 C_b7
  have A_b2 := nw_h9
  exact own_retA X (.array (.array .byte)) own_d3_28 rfl rfl rfl rfl (by decide) (by decide) (⟨K0, b2, kc_b2, b4, kb_b4, b7, kb_b7, rfl, A_b2, A_b4, A_b7⟩)
set_option maxRecDepth 65536 in
set_option maxHeartbeats 40000000 in
theorem own_cp5_6 (l : Launch) (Z : State) (a0 : Array Value) (hw : ∀ d ∈ tables_1, d.before a0 Z = true) (a : Addr) (nl : Int32) (ka : ClassId) (x0 : Int32) (x1 : Int32) (x2 : Int32) (x3 : Int32) (x4 : Int32) (h0 : Heap) (n0 : Nat) (hs0 : n0 ≤ h0.size) (Aa : own_A Z h0 a ka .byte [(.int x0), (.int x1), (.int x2), (.int x3), (.int x4)]) (hnl : nl = 11) :
    own_Met l (⟨"java/util/Arrays", "copyOf", "([BI)[B"⟩ : MethodName) jdk_65_method_121_code 3 (some (.array .byte)) ({ frames := 1, cells := 1, slots := 11, locals := 18 } : Room) Z #[(.ref a), (.int nl)] h0 n0 (fun v h' => Keep h0 h' [] ∧ ∃ b kb, v = some (.ref b) ∧ h0.size ≤ b ∧ h'.size > b ∧ own_A Z h' b kb .byte [(.int x0), (.int x1), (.int x2), (.int x3), (.int x4), (.int (0 : Int32)), (.int (0 : Int32)), (.int (0 : Int32)), (.int (0 : Int32)), (.int (0 : Int32)), (.int (0 : Int32))] ∧ Exa Z h' b "[B") := by
  refine own_met (Ls := #[.val (.ref a), .val (.int nl), .unset]) own_pn5 hs0 (fun m => by first  | (simp [entryFrame, mkF, argsToLocals, Value.category]; done) | rfl) ?_
  intro p e s m below meth c T X
  have K0 := Keep.refl h0 []
  have hi_a : h0.size > a := Aa.lt
  subst hnl
  refine own_iloadN X 1 (11 : Int32) own_d5_0 rfl rfl ?_
  refine own_aloadN X 2 (.ref a) own_d5_1 rfl rfl rfl ?_
  refine own_len X 3 (5 : Int32) own_d5_2 rfl Aa rfl ?_
  refine own_icY X 14 own_d5_3 (by decide) (by decide) (XT.ii_ne_t (by decide)) ?_
  refine own_iloadN X 15 (11 : Int32) own_d5_14 rfl rfl ?_
  refine own_newPE X 17 11 11 (ad := "[B") own_d5_15 rfl (hw _ (List.mem_of_getElem? (i := 5) rfl)) (by decide) (by decide) (by decide) (by decide) (by decide) (by decide) (by decide) ?_
  intro T h1 b2 kc_b2 g_b2 X E_h1 A_b2 C_b2
  have zs_h1 : h0.size ≤ h1.size := E_h1.1
  have Aa := Aa.ext E_h1
  have K0 := K0.ext E_h1
  have lo_b2 : h0.size ≤ b2 := Nat.le_of_eq g_b2.symm
  have hi_b2 : h1.size > b2 := A_b2.lt
  have A_b2 : own_A Z h1 b2 kc_b2 .byte [(.int (0 : Int32)), (.int (0 : Int32)), (.int (0 : Int32)), (.int (0 : Int32)), (.int (0 : Int32)), (.int (0 : Int32)), (.int (0 : Int32)), (.int (0 : Int32)), (.int (0 : Int32)), (.int (0 : Int32)), (.int (0 : Int32))] := A_b2
  refine own_astoreN X 18 #[.val (.ref a), .val (.int (11 : Int32)), .val (.ref b2)] own_d5_17 rfl rfl rfl ?_
  refine own_aloadN X 19 (.ref a) own_d5_18 rfl rfl rfl ?_
  refine own_iconst X 20 (0 : Int32) own_d5_19 rfl rfl ?_
  refine own_aloadN X 21 (.ref b2) own_d5_20 rfl rfl rfl ?_
  refine own_iconst X 22 (0 : Int32) own_d5_21 rfl rfl ?_
  refine own_aloadN X 23 (.ref a) own_d5_22 rfl rfl rfl ?_
  refine own_len X 24 (5 : Int32) own_d5_23 rfl Aa rfl ?_
  refine own_iloadN X 25 (11 : Int32) own_d5_24 rfl rfl ?_
  refine own_callS X 28 [(.int (5 : Int32)), (.int (11 : Int32))] [(.int (0 : Int32)), (.ref b2), (.int (0 : Int32)), (.ref a)] own_d5_25 rfl (hw _ (List.mem_of_getElem? (i := 25) rfl)) (hw _ (List.mem_of_getElem? (i := 26) rfl)) (hw _ (List.mem_of_getElem? (i := 27) rfl)) (hw _ (List.mem_of_getElem? (i := 28) rfl)) (by decide) (own_mmin l Z a0 hw (5 : Int32) (11 : Int32) h1 n0 X.sz) (fun _ _ q => Nat.le_of_eq (congrArg Array.size q.1.symm)) rfl own_pd0 rfl rfl rfl (by decide) (Nat.le_of_ble_eq_true rfl) (by decide) (by decide) ?_
  rintro v25 T h_ X ⟨eh_, rfl⟩
  rw [eh_] at X
  show own_Ends p e below _ (T.setTop (mkF m 28 #[.val (.ref a), .val (.int (11 : Int32)), .val (.ref b2)] [(.int (own_min (5 : Int32) (11 : Int32))), (.int (0 : Int32)), (.ref b2), (.int (0 : Int32)), (.ref a)]))
  rw [show own_min (5 : Int32) (11 : Int32) = (5 : Int32) from by decide]
  refine own_cpy X 31 0 0 5 [(.int x0), (.int x1), (.int x2), (.int x3), (.int x4)] [(.int x0), (.int x1), (.int x2), (.int x3), (.int x4), (.int (0 : Int32)), (.int (0 : Int32)), (.int (0 : Int32)), (.int (0 : Int32)), (.int (0 : Int32)), (.int (0 : Int32))] own_d5_28 rfl (hw _ (List.mem_of_getElem? (i := 29) rfl)) (hw _ (List.mem_of_getElem? (i := 32) rfl)) (hw _ (List.mem_of_getElem? (i := 30) rfl)) (hw _ (List.mem_of_getElem? (i := 31) rfl)) Aa A_b2 (Or.inl ⟨rfl, rfl⟩) (by decide) (by decide) (by decide) (by decide) (by decide) (by decide) (Nat.le_of_ble_eq_true rfl) (Nat.le_of_ble_eq_true rfl) rfl rfl (by omega) rfl (by decide) (Nat.le_of_ble_eq_true rfl) ?_
  intro T h3 X K_ nA_
  have zs_h3 : h1.size ≤ h3.size := K_.1
  have Aa := Aa.keep K_ (ninS (by show @Ne Nat _ _; omega) nin0)
  have K0 := K0.trans K_ (allS (Or.inr (by omega)) all0)
  have C_b2 := C_b2.keep K_
  have A_b2 := nA_
  refine own_aloadN X 32 (.ref b2) own_d5_31 rfl rfl rfl ?_
  exact own_retA X (.array .byte) own_d5_32 rfl rfl rfl rfl (by decide) (by decide) (⟨K0, b2, kc_b2, rfl, by omega, A_b2.lt, A_b2, C_b2⟩)
set_option maxRecDepth 65536 in
set_option maxHeartbeats 40000000 in
theorem own_su5_6 (l : Launch) (Z : State) (a0 : Array Value) (hw : ∀ d ∈ tables_1, d.before a0 Z = true) (a : Addr) (sx : Addr) (ka : ClassId) (ks : ClassId) (x0 : Int32) (x1 : Int32) (x2 : Int32) (x3 : Int32) (x4 : Int32) (h0 : Heap) (n0 : Nat) (hs0 : n0 ≤ h0.size) (Aa : own_A Z h0 a ka .byte [(.int x0), (.int x1), (.int x2), (.int x3), (.int x4)]) (As : own_A Z h0 sx ks .byte [(.int 58), (.int 104), (.int 111), (.int 108), (.int 100), (.int 115)]) :
    own_Met l (⟨"com/example/latchkey/latchkey/LockKeys", "suffixed", "([B[B)[B"⟩ : MethodName) prog_1_method_6_code 3 (some (.array .byte)) ({ frames := 2, cells := 1, slots := 11, locals := 32 } : Room) Z #[(.ref a), (.ref sx)] h0 n0 (fun v h' => Keep h0 h' [] ∧ ∃ b kb, v = some (.ref b) ∧ h0.size ≤ b ∧ h'.size > b ∧ own_A Z h' b kb .byte [(.int x0), (.int x1), (.int x2), (.int x3), (.int x4), (.int 58), (.int 104), (.int 111), (.int 108), (.int 100), (.int 115)] ∧ Exa Z h' b "[B") := by
  refine own_met (Ls := #[.val (.ref a), .val (.ref sx), .unset]) own_pn4 hs0 (fun m => by first  | (simp [entryFrame, mkF, argsToLocals, Value.category]; done) | rfl) ?_
  intro p e s m below meth c T X
  have K0 := Keep.refl h0 []
  have hi_a : h0.size > a := Aa.lt
  have hi_sx : h0.size > sx := As.lt
  refine own_aloadN X 1 (.ref a) own_d4_0 rfl rfl rfl ?_
  refine own_aloadN X 2 (.ref a) own_d4_1 rfl rfl rfl ?_
  refine own_len X 3 (5 : Int32) own_d4_2 rfl Aa rfl ?_
  refine own_aloadN X 4 (.ref sx) own_d4_3 rfl rfl rfl ?_
  refine own_len X 5 (6 : Int32) own_d4_4 rfl As rfl ?_
  refine own_iadd X 6 own_d4_5 rfl ?_
  refine own_callS X 9 [(.ref a), (.int ((5 : Int32) + (6 : Int32)))] [] own_d4_6 rfl (hw _ (List.mem_of_getElem? (i := 21) rfl)) (hw _ (List.mem_of_getElem? (i := 22) rfl)) (hw _ (List.mem_of_getElem? (i := 23) rfl)) (hw _ (List.mem_of_getElem? (i := 24) rfl)) (by decide) (own_cp5_6 l Z a0 hw a ((5 : Int32) + (6 : Int32)) ka x0 x1 x2 x3 x4 h0 n0 X.sz Aa (by decide)) (fun _ _ q => q.1.1) rfl own_pd1 rfl rfl rfl (by decide) (Nat.le_of_ble_eq_true rfl) (by decide) (by decide) ?_
  rintro v6 T h2 X ⟨K_, b1, kb_b1, rfl, lo_b1, hi_b1, A_b1, C_b1⟩
  have zs_h2 : h0.size ≤ h2.size := K_.1
  have Aa := Aa.keep K_ nin0
  have As := As.keep K_ nin0
  have K0 := K0.trans K_ all0
  show own_Ends p e below _ (T.setTop (mkF m 9 #[.val (.ref a), .val (.ref sx), .unset] [(.ref b1)]))
  refine own_astoreN X 10 #[.val (.ref a), .val (.ref sx), .val (.ref b1)] own_d4_9 rfl rfl rfl ?_
  refine own_aloadN X 11 (.ref sx) own_d4_10 rfl rfl rfl ?_
  refine own_iconst X 12 (0 : Int32) own_d4_11 rfl rfl ?_
  refine own_aloadN X 13 (.ref b1) own_d4_12 rfl rfl rfl ?_
  refine own_aloadN X 14 (.ref a) own_d4_13 rfl rfl rfl ?_
  refine own_len X 15 (5 : Int32) own_d4_14 rfl Aa rfl ?_
  refine own_aloadN X 16 (.ref sx) own_d4_15 rfl rfl rfl ?_
  refine own_len X 17 (6 : Int32) own_d4_16 rfl As rfl ?_
  refine own_cpy X 20 0 5 6 [(.int 58), (.int 104), (.int 111), (.int 108), (.int 100), (.int 115)] [(.int x0), (.int x1), (.int x2), (.int x3), (.int x4), (.int 58), (.int 104), (.int 111), (.int 108), (.int 100), (.int 115)] own_d4_17 rfl (hw _ (List.mem_of_getElem? (i := 33) rfl)) (hw _ (List.mem_of_getElem? (i := 32) rfl)) (hw _ (List.mem_of_getElem? (i := 30) rfl)) (hw _ (List.mem_of_getElem? (i := 31) rfl)) As A_b1 (Or.inl ⟨rfl, rfl⟩) (by decide) (by decide) (by decide) (by decide) (by decide) (by decide) (Nat.le_of_ble_eq_true rfl) (Nat.le_of_ble_eq_true rfl) rfl rfl (by omega) rfl (by decide) (Nat.le_of_ble_eq_true rfl) ?_
  intro T h3 X K_ nA_
  have zs_h3 : h2.size ≤ h3.size := K_.1
  have Aa := Aa.keep K_ (ninS (by show @Ne Nat _ _; omega) nin0)
  have As := As.keep K_ (ninS (by show @Ne Nat _ _; omega) nin0)
  have K0 := K0.trans K_ (allS (Or.inr (by omega)) all0)
  have C_b1 := C_b1.keep K_
  have A_b1 := nA_
  refine own_aloadN X 21 (.ref b1) own_d4_20 rfl rfl rfl ?_
  exact own_retA X (.array .byte) own_d4_21 rfl rfl rfl rfl (by decide) (by decide) (⟨K0, b1, kb_b1, rfl, by omega, A_b1.lt, A_b1, C_b1⟩)
set_option maxRecDepth 65536 in
set_option maxHeartbeats 40000000 in
theorem own_cp5_8 (l : Launch) (Z : State) (a0 : Array Value) (hw : ∀ d ∈ tables_1, d.before a0 Z = true) (a : Addr) (nl : Int32) (ka : ClassId) (x0 : Int32) (x1 : Int32) (x2 : Int32) (x3 : Int32) (x4 : Int32) (h0 : Heap) (n0 : Nat) (hs0 : n0 ≤ h0.size) (Aa : own_A Z h0 a ka .byte [(.int x0), (.int x1), (.int x2), (.int x3), (.int x4)]) (hnl : nl = 13) :
    own_Met l (⟨"java/util/Arrays", "copyOf", "([BI)[B"⟩ : MethodName) jdk_65_method_121_code 3 (some (.array .byte)) ({ frames := 1, cells := 1, slots := 13, locals := 18 } : Room) Z #[(.ref a), (.int nl)] h0 n0 (fun v h' => Keep h0 h' [] ∧ ∃ b kb, v = some (.ref b) ∧ h0.size ≤ b ∧ h'.size > b ∧ own_A Z h' b kb .byte [(.int x0), (.int x1), (.int x2), (.int x3), (.int x4), (.int (0 : Int32)), (.int (0 : Int32)), (.int (0 : Int32)), (.int (0 : Int32)), (.int (0 : Int32)), (.int (0 : Int32)), (.int (0 : Int32)), (.int (0 : Int32))] ∧ Exa Z h' b "[B") := by
  refine own_met (Ls := #[.val (.ref a), .val (.int nl), .unset]) own_pn5 hs0 (fun m => by first  | (simp [entryFrame, mkF, argsToLocals, Value.category]; done) | rfl) ?_
  intro p e s m below meth c T X
  have K0 := Keep.refl h0 []
  have hi_a : h0.size > a := Aa.lt
  subst hnl
  refine own_iloadN X 1 (13 : Int32) own_d5_0 rfl rfl ?_
  refine own_aloadN X 2 (.ref a) own_d5_1 rfl rfl rfl ?_
  refine own_len X 3 (5 : Int32) own_d5_2 rfl Aa rfl ?_
  refine own_icY X 14 own_d5_3 (by decide) (by decide) (XT.ii_ne_t (by decide)) ?_
  refine own_iloadN X 15 (13 : Int32) own_d5_14 rfl rfl ?_
  refine own_newPE X 17 13 13 (ad := "[B") own_d5_15 rfl (hw _ (List.mem_of_getElem? (i := 5) rfl)) (by decide) (by decide) (by decide) (by decide) (by decide) (by decide) (by decide) ?_
  intro T h1 b2 kc_b2 g_b2 X E_h1 A_b2 C_b2
  have zs_h1 : h0.size ≤ h1.size := E_h1.1
  have Aa := Aa.ext E_h1
  have K0 := K0.ext E_h1
  have lo_b2 : h0.size ≤ b2 := Nat.le_of_eq g_b2.symm
  have hi_b2 : h1.size > b2 := A_b2.lt
  have A_b2 : own_A Z h1 b2 kc_b2 .byte [(.int (0 : Int32)), (.int (0 : Int32)), (.int (0 : Int32)), (.int (0 : Int32)), (.int (0 : Int32)), (.int (0 : Int32)), (.int (0 : Int32)), (.int (0 : Int32)), (.int (0 : Int32)), (.int (0 : Int32)), (.int (0 : Int32)), (.int (0 : Int32)), (.int (0 : Int32))] := A_b2
  refine own_astoreN X 18 #[.val (.ref a), .val (.int (13 : Int32)), .val (.ref b2)] own_d5_17 rfl rfl rfl ?_
  refine own_aloadN X 19 (.ref a) own_d5_18 rfl rfl rfl ?_
  refine own_iconst X 20 (0 : Int32) own_d5_19 rfl rfl ?_
  refine own_aloadN X 21 (.ref b2) own_d5_20 rfl rfl rfl ?_
  refine own_iconst X 22 (0 : Int32) own_d5_21 rfl rfl ?_
  refine own_aloadN X 23 (.ref a) own_d5_22 rfl rfl rfl ?_
  refine own_len X 24 (5 : Int32) own_d5_23 rfl Aa rfl ?_
  refine own_iloadN X 25 (13 : Int32) own_d5_24 rfl rfl ?_
  refine own_callS X 28 [(.int (5 : Int32)), (.int (13 : Int32))] [(.int (0 : Int32)), (.ref b2), (.int (0 : Int32)), (.ref a)] own_d5_25 rfl (hw _ (List.mem_of_getElem? (i := 25) rfl)) (hw _ (List.mem_of_getElem? (i := 26) rfl)) (hw _ (List.mem_of_getElem? (i := 27) rfl)) (hw _ (List.mem_of_getElem? (i := 28) rfl)) (by decide) (own_mmin l Z a0 hw (5 : Int32) (13 : Int32) h1 n0 X.sz) (fun _ _ q => Nat.le_of_eq (congrArg Array.size q.1.symm)) rfl own_pd0 rfl rfl rfl (by decide) (Nat.le_of_ble_eq_true rfl) (by decide) (by decide) ?_
  rintro v25 T h_ X ⟨eh_, rfl⟩
  rw [eh_] at X
  show own_Ends p e below _ (T.setTop (mkF m 28 #[.val (.ref a), .val (.int (13 : Int32)), .val (.ref b2)] [(.int (own_min (5 : Int32) (13 : Int32))), (.int (0 : Int32)), (.ref b2), (.int (0 : Int32)), (.ref a)]))
  rw [show own_min (5 : Int32) (13 : Int32) = (5 : Int32) from by decide]
  refine own_cpy X 31 0 0 5 [(.int x0), (.int x1), (.int x2), (.int x3), (.int x4)] [(.int x0), (.int x1), (.int x2), (.int x3), (.int x4), (.int (0 : Int32)), (.int (0 : Int32)), (.int (0 : Int32)), (.int (0 : Int32)), (.int (0 : Int32)), (.int (0 : Int32)), (.int (0 : Int32)), (.int (0 : Int32))] own_d5_28 rfl (hw _ (List.mem_of_getElem? (i := 29) rfl)) (hw _ (List.mem_of_getElem? (i := 32) rfl)) (hw _ (List.mem_of_getElem? (i := 30) rfl)) (hw _ (List.mem_of_getElem? (i := 31) rfl)) Aa A_b2 (Or.inl ⟨rfl, rfl⟩) (by decide) (by decide) (by decide) (by decide) (by decide) (by decide) (Nat.le_of_ble_eq_true rfl) (Nat.le_of_ble_eq_true rfl) rfl rfl (by omega) rfl (by decide) (Nat.le_of_ble_eq_true rfl) ?_
  intro T h3 X K_ nA_
  have zs_h3 : h1.size ≤ h3.size := K_.1
  have Aa := Aa.keep K_ (ninS (by show @Ne Nat _ _; omega) nin0)
  have K0 := K0.trans K_ (allS (Or.inr (by omega)) all0)
  have C_b2 := C_b2.keep K_
  have A_b2 := nA_
  refine own_aloadN X 32 (.ref b2) own_d5_31 rfl rfl rfl ?_
  exact own_retA X (.array .byte) own_d5_32 rfl rfl rfl rfl (by decide) (by decide) (⟨K0, b2, kc_b2, rfl, by omega, A_b2.lt, A_b2, C_b2⟩)
set_option maxRecDepth 65536 in
set_option maxHeartbeats 40000000 in
theorem own_su5_8 (l : Launch) (Z : State) (a0 : Array Value) (hw : ∀ d ∈ tables_1, d.before a0 Z = true) (a : Addr) (sx : Addr) (ka : ClassId) (ks : ClassId) (x0 : Int32) (x1 : Int32) (x2 : Int32) (x3 : Int32) (x4 : Int32) (h0 : Heap) (n0 : Nat) (hs0 : n0 ≤ h0.size) (Aa : own_A Z h0 a ka .byte [(.int x0), (.int x1), (.int x2), (.int x3), (.int x4)]) (As : own_A Z h0 sx ks .byte [(.int 58), (.int 119), (.int 97), (.int 105), (.int 116), (.int 105), (.int 110), (.int 103)]) :
    own_Met l (⟨"com/example/latchkey/latchkey/LockKeys", "suffixed", "([B[B)[B"⟩ : MethodName) prog_1_method_6_code 3 (some (.array .byte)) ({ frames := 2, cells := 1, slots := 13, locals := 32 } : Room) Z #[(.ref a), (.ref sx)] h0 n0 (fun v h' => Keep h0 h' [] ∧ ∃ b kb, v = some (.ref b) ∧ h0.size ≤ b ∧ h'.size > b ∧ own_A Z h' b kb .byte [(.int x0), (.int x1), (.int x2), (.int x3), (.int x4), (.int 58), (.int 119), (.int 97), (.int 105), (.int 116), (.int 105), (.int 110), (.int 103)] ∧ Exa Z h' b "[B") := by
  refine own_met (Ls := #[.val (.ref a), .val (.ref sx), .unset]) own_pn4 hs0 (fun m => by first  | (simp [entryFrame, mkF, argsToLocals, Value.category]; done) | rfl) ?_
  intro p e s m below meth c T X
  have K0 := Keep.refl h0 []
  have hi_a : h0.size > a := Aa.lt
  have hi_sx : h0.size > sx := As.lt
  refine own_aloadN X 1 (.ref a) own_d4_0 rfl rfl rfl ?_
  refine own_aloadN X 2 (.ref a) own_d4_1 rfl rfl rfl ?_
  refine own_len X 3 (5 : Int32) own_d4_2 rfl Aa rfl ?_
  refine own_aloadN X 4 (.ref sx) own_d4_3 rfl rfl rfl ?_
  refine own_len X 5 (8 : Int32) own_d4_4 rfl As rfl ?_
  refine own_iadd X 6 own_d4_5 rfl ?_
  refine own_callS X 9 [(.ref a), (.int ((5 : Int32) + (8 : Int32)))] [] own_d4_6 rfl (hw _ (List.mem_of_getElem? (i := 21) rfl)) (hw _ (List.mem_of_getElem? (i := 22) rfl)) (hw _ (List.mem_of_getElem? (i := 23) rfl)) (hw _ (List.mem_of_getElem? (i := 24) rfl)) (by decide) (own_cp5_8 l Z a0 hw a ((5 : Int32) + (8 : Int32)) ka x0 x1 x2 x3 x4 h0 n0 X.sz Aa (by decide)) (fun _ _ q => q.1.1) rfl own_pd1 rfl rfl rfl (by decide) (Nat.le_of_ble_eq_true rfl) (by decide) (by decide) ?_
  rintro v6 T h2 X ⟨K_, b1, kb_b1, rfl, lo_b1, hi_b1, A_b1, C_b1⟩
  have zs_h2 : h0.size ≤ h2.size := K_.1
  have Aa := Aa.keep K_ nin0
  have As := As.keep K_ nin0
  have K0 := K0.trans K_ all0
  show own_Ends p e below _ (T.setTop (mkF m 9 #[.val (.ref a), .val (.ref sx), .unset] [(.ref b1)]))
  refine own_astoreN X 10 #[.val (.ref a), .val (.ref sx), .val (.ref b1)] own_d4_9 rfl rfl rfl ?_
  refine own_aloadN X 11 (.ref sx) own_d4_10 rfl rfl rfl ?_
  refine own_iconst X 12 (0 : Int32) own_d4_11 rfl rfl ?_
  refine own_aloadN X 13 (.ref b1) own_d4_12 rfl rfl rfl ?_
  refine own_aloadN X 14 (.ref a) own_d4_13 rfl rfl rfl ?_
  refine own_len X 15 (5 : Int32) own_d4_14 rfl Aa rfl ?_
  refine own_aloadN X 16 (.ref sx) own_d4_15 rfl rfl rfl ?_
  refine own_len X 17 (8 : Int32) own_d4_16 rfl As rfl ?_
  refine own_cpy X 20 0 5 8 [(.int 58), (.int 119), (.int 97), (.int 105), (.int 116), (.int 105), (.int 110), (.int 103)] [(.int x0), (.int x1), (.int x2), (.int x3), (.int x4), (.int 58), (.int 119), (.int 97), (.int 105), (.int 116), (.int 105), (.int 110), (.int 103)] own_d4_17 rfl (hw _ (List.mem_of_getElem? (i := 33) rfl)) (hw _ (List.mem_of_getElem? (i := 32) rfl)) (hw _ (List.mem_of_getElem? (i := 30) rfl)) (hw _ (List.mem_of_getElem? (i := 31) rfl)) As A_b1 (Or.inl ⟨rfl, rfl⟩) (by decide) (by decide) (by decide) (by decide) (by decide) (by decide) (Nat.le_of_ble_eq_true rfl) (Nat.le_of_ble_eq_true rfl) rfl rfl (by omega) rfl (by decide) (Nat.le_of_ble_eq_true rfl) ?_
  intro T h3 X K_ nA_
  have zs_h3 : h2.size ≤ h3.size := K_.1
  have Aa := Aa.keep K_ (ninS (by show @Ne Nat _ _; omega) nin0)
  have As := As.keep K_ (ninS (by show @Ne Nat _ _; omega) nin0)
  have K0 := K0.trans K_ (allS (Or.inr (by omega)) all0)
  have C_b1 := C_b1.keep K_
  have A_b1 := nA_
  refine own_aloadN X 21 (.ref b1) own_d4_20 rfl rfl rfl ?_
  exact own_retA X (.array .byte) own_d4_21 rfl rfl rfl rfl (by decide) (by decide) (⟨K0, b1, kb_b1, rfl, by omega, A_b1.lt, A_b1, C_b1⟩)
set_option maxRecDepth 65536 in
set_option maxHeartbeats 40000000 in
theorem own_hf5 (l : Launch) (Z : State) (a0 : Array Value) (hw : ∀ d ∈ tables_1, d.before a0 Z = true) (a : Addr) (ka : ClassId) (ho : Addr) (kh : ClassId) (wt : Addr) (kw : ClassId) (x0 : Int32) (x1 : Int32) (x2 : Int32) (x3 : Int32) (x4 : Int32) (h0 : Heap) (n0 : Nat) (hs0 : n0 ≤ h0.size) (OL : Old Z n0 h0) (z_ho : Sta Z Z.heap "com/example/latchkey/latchkey/LockKeys" "HOLDS" "[B" (.ref ho)) (z_hA : own_A Z Z.heap ho kh .byte [(.int 58), (.int 104), (.int 111), (.int 108), (.int 100), (.int 115)]) (z_wt : Sta Z Z.heap "com/example/latchkey/latchkey/LockKeys" "WAITING" "[B" (.ref wt)) (z_wA : own_A Z Z.heap wt kw .byte [(.int 58), (.int 119), (.int 97), (.int 105), (.int 116), (.int 105), (.int 110), (.int 103)]) (Aa : own_A Z h0 a ka .byte [(.int x0), (.int x1), (.int x2), (.int x3), (.int x4)]) (Ea : Exa Z h0 a "[B") :
    own_Met l (⟨"com/example/latchkey/latchkey/LockKeys", "holderFields", "([B)[[B"⟩ : MethodName) prog_1_method_5_code 1 (some (.array (.array .byte))) ({ frames := 3, cells := 3, slots := 27, locals := 49 } : Room) Z #[(.ref a)] h0 n0 (fun v h' => Keep h0 h' [] ∧ ∃ w kx b1 k1 b2 k2, v = some (.ref w) ∧ own_A Z h' w kx (.array .byte) [(.ref a), (.ref b1), (.ref b2)] ∧ own_A Z h' b1 k1 .byte [(.int x0), (.int x1), (.int x2), (.int x3), (.int x4), (.int 58), (.int 104), (.int 111), (.int 108), (.int 100), (.int 115)] ∧ own_A Z h' b2 k2 .byte [(.int x0), (.int x1), (.int x2), (.int x3), (.int x4), (.int 58), (.int 119), (.int 97), (.int 105), (.int 116), (.int 105), (.int 110), (.int 103)]) := by
  refine own_met (Ls := #[.val (.ref a)]) own_pn3 hs0 (fun m => by first  | (simp [entryFrame, mkF, argsToLocals, Value.category]; done) | rfl) ?_
  intro p e s m below meth c T X
  have K0 := Keep.refl h0 []
  have hi_ho : n0 > ho := (OL.1 ▸ z_hA.lt)
  have hi_wt : n0 > wt := (OL.1 ▸ z_wA.lt)
  have hi_a : h0.size > a := Aa.lt
  refine own_iconst X 1 (3 : Int32) own_d3_0 rfl rfl ?_
  refine own_newRA X 4 3 3 (ad := "[[B") own_d3_1 rfl (ty := .byte) (by decide) (hw _ (List.mem_of_getElem? (i := 13) rfl)) (hw _ (List.mem_of_getElem? (i := 14) rfl)) (by decide) (by decide) (by decide) (by decide) (by decide) (by decide) (by decide) ?_
  intro T h1 b2 kc_b2 g_b2 X E_h1 A_b2 O_b2 C_b2
  have zs_h1 : h0.size ≤ h1.size := E_h1.1
  have OL := OL.ext E_h1
  have Aa := Aa.ext E_h1
  have Ea := Exa.ext E_h1 Ea
  have K0 := K0.ext E_h1
  have lo_b2 : h0.size ≤ b2 := Nat.le_of_eq g_b2.symm
  have hi_b2 : h1.size > b2 := A_b2.lt
  have A_b2 : own_A Z h1 b2 kc_b2 (.array .byte) [.null, .null, .null] := A_b2
  refine own_dup X 5 own_d3_4 rfl rfl ?_
  refine own_iconst X 6 (0 : Int32) own_d3_5 rfl rfl ?_
  refine own_aloadN X 7 (.ref a) own_d3_6 rfl rfl rfl ?_
  refine own_aastore X 8 0 own_d3_7 rfl A_b2 (by decide) (by decide) (Nat.le_of_ble_eq_true rfl) rfl (own_StoA A_b2 O_b2 (Ins.self Ea)) (by omega) ?_
  intro T h3 X W_h3
  have nw_h3 : own_A Z h3 b2 kc_b2 (.array .byte) [(.ref a), .null, .null] := A_b2.same W_h3 rfl
  have zs_h3 : h1.size ≤ h3.size := (Nat.le_of_eq W_h3.size.symm)
  have OL := OL.wr W_h3 (by omega)
  have Aa := Aa.other W_h3 (by show @Ne Nat _ _; omega)
  have Ea := Exa.wr W_h3 Ea
  have K0 := K0.wr W_h3 (Or.inr (by omega))
  have C_b2 := Exa.wr W_h3 C_b2
  have A_b2 := nw_h3
  refine own_dup X 9 own_d3_8 rfl rfl ?_
  refine own_iconst X 10 (1 : Int32) own_d3_9 rfl rfl ?_
  refine own_aloadN X 11 (.ref a) own_d3_10 rfl rfl rfl ?_
  refine own_getS X 14 own_d3_11 rfl (hw _ (List.mem_of_getElem? (i := 16) rfl)) Via.refl (Sta.ext OL.2 z_ho) ?_
  intro T X
  refine own_callS X 17 [(.ref a), (.ref ho)] [(.int (1 : Int32)), (.ref b2), (.ref b2)] own_d3_14 rfl (hw _ (List.mem_of_getElem? (i := 18) rfl)) (hw _ (List.mem_of_getElem? (i := 19) rfl)) (hw _ (List.mem_of_getElem? (i := 11) rfl)) (hw _ (List.mem_of_getElem? (i := 20) rfl)) (by decide) (own_su5_6 l Z a0 hw a ho ka kh x0 x1 x2 x3 x4 h3 n0 X.sz Aa (own_A.ext z_hA OL.2)) (fun _ _ q => q.1.1) rfl own_pd2 rfl rfl rfl (by decide) (Nat.le_of_ble_eq_true rfl) (by decide) (by decide) ?_
  rintro v14 T h5 X ⟨K_, b4, kb_b4, rfl, lo_b4, hi_b4, A_b4, C_b4⟩
  have zs_h5 : h3.size ≤ h5.size := K_.1
  have OL := OL.keep K_ all0
  have Aa := Aa.keep K_ nin0
  have Ea := Ea.keep K_
  have K0 := K0.trans K_ all0
  have C_b2 := C_b2.keep K_
  have A_b2 := A_b2.keep K_ nin0
  show own_Ends p e below _ (T.setTop (mkF m 17 #[.val (.ref a)] [(.ref b4), (.int (1 : Int32)), (.ref b2), (.ref b2)]))
  refine own_aastore X 18 1 own_d3_17 rfl A_b2 (by decide) (by decide) (Nat.le_of_ble_eq_true rfl) rfl (own_StoA A_b2 O_b2 (Ins.self C_b4)) (by omega) ?_
  intro T h6 X W_h6
  have nw_h6 : own_A Z h6 b2 kc_b2 (.array .byte) [(.ref a), (.ref b4), .null] := A_b2.same W_h6 rfl
  have zs_h6 : h5.size ≤ h6.size := (Nat.le_of_eq W_h6.size.symm)
  have OL := OL.wr W_h6 (by omega)
  have Aa := Aa.other W_h6 (by show @Ne Nat _ _; omega)
  have Ea := Exa.wr W_h6 Ea
  have K0 := K0.wr W_h6 (Or.inr (by omega))
  have C_b2 := Exa.wr W_h6 C_b2
  have A_b4 := A_b4.other W_h6 (by show @Ne Nat _ _; omega)
  have C_b4 := Exa.wr W_h6 C_b4
  have A_b2 := nw_h6
  refine own_dup X 19 own_d3_18 rfl rfl ?_
  refine own_iconst X 20 (2 : Int32) own_d3_19 rfl rfl ?_
  refine own_aloadN X 21 (.ref a) own_d3_20 rfl rfl rfl ?_
  refine own_getS X 24 own_d3_21 rfl (hw _ (List.mem_of_getElem? (i := 34) rfl)) Via.refl (Sta.ext OL.2 z_wt) ?_
  intro T X
  refine own_callS X 27 [(.ref a), (.ref wt)] [(.int (2 : Int32)), (.ref b2), (.ref b2)] own_d3_24 rfl (hw _ (List.mem_of_getElem? (i := 18) rfl)) (hw _ (List.mem_of_getElem? (i := 19) rfl)) (hw _ (List.mem_of_getElem? (i := 11) rfl)) (hw _ (List.mem_of_getElem? (i := 20) rfl)) (by decide) (own_su5_8 l Z a0 hw a wt ka kw x0 x1 x2 x3 x4 h6 n0 X.sz Aa (own_A.ext z_wA OL.2)) (fun _ _ q => q.1.1) rfl own_pd2 rfl rfl rfl (by decide) (Nat.le_of_ble_eq_true rfl) (by decide) (by decide) ?_
  rintro v24 T h8 X ⟨K_, b7, kb_b7, rfl, lo_b7, hi_b7, A_b7, C_b7⟩
  have zs_h8 : h6.size ≤ h8.size := K_.1
  have OL := OL.keep K_ all0
  have Aa := Aa.keep K_ nin0
  have Ea := Ea.keep K_
  have K0 := K0.trans K_ all0
  have C_b2 := C_b2.keep K_
  have A_b4 := A_b4.keep K_ nin0
  have C_b4 := C_b4.keep K_
  have A_b2 := A_b2.keep K_ nin0
  show own_Ends p e below _ (T.setTop (mkF m 27 #[.val (.ref a)] [(.ref b7), (.int (2 : Int32)), (.ref b2), (.ref b2)]))
  refine own_aastore X 28 2 own_d3_27 rfl A_b2 (by decide) (by decide) (Nat.le_of_ble_eq_true rfl) rfl (own_StoA A_b2 O_b2 (Ins.self C_b7)) (by omega) ?_
  intro T h9 X W_h9
  have nw_h9 : own_A Z h9 b2 kc_b2 (.array .byte) [(.ref a), (.ref b4), (.ref b7)] := A_b2.same W_h9 rfl
  have zs_h9 : h8.size ≤ h9.size := (Nat.le_of_eq W_h9.size.symm)
  have OL := OL.wr W_h9 (by omega)
  have Aa := Aa.other W_h9 (by show @Ne Nat _ _; omega)
  have Ea := Exa.wr W_h9 Ea
  have K0 := K0.wr W_h9 (Or.inr (by omega))
  have C_b2 := Exa.wr W_h9 C_b2
  have A_b4 := A_b4.other W_h9 (by show @Ne Nat _ _; omega)
  have C_b4 := Exa.wr W_h9 C_b4
  have A_b7 := A_b7.other W_h9 (by show @Ne Nat _ _; omega)
  have C_b7 := Exa.wr W_h9 C_b7
  have A_b2 := nw_h9
  exact own_retA X (.array (.array .byte)) own_d3_28 rfl rfl rfl rfl (by decide) (by decide) (⟨K0, b2, kc_b2, b4, kb_b4, b7, kb_b7, rfl, A_b2, A_b4, A_b7⟩)
theorem own_d9_0 : decode jdk_42_method_152_code 0 = .ok (.getstatic 38, 3) := by decide +kernel
theorem own_d9_3 : decode jdk_42_method_152_code 3 = .ok (.ifCond .eq 10, 3) := by decide +kernel
theorem own_d9_6 : decode jdk_42_method_152_code 6 = .ok (.aload_n 0, 1) := by decide +kernel
theorem own_d9_7 : decode jdk_42_method_152_code 7 = .ok (.getfield 15, 3) := by decide +kernel
theorem own_d9_10 : decode jdk_42_method_152_code 10 = .ok (.goto 4, 3) := by decide +kernel
theorem own_d9_14 : decode jdk_42_method_152_code 14 = .ok (.ireturn, 1) := by decide +kernel
theorem own_pn9 : plainFor (⟨"java/lang/String", "coder", "()B"⟩ : MethodName) = true := plainFor_of_name (by first | (simp [plainName, overriddenIn]; done) | decide +kernel)
set_option maxRecDepth 65536 in
set_option maxHeartbeats 40000000 in
theorem own_coder (l : Launch) (Z : State) (a0 : Array Value) (hw : ∀ d ∈ tables_1, d.before a0 Z = true) (a : Addr) (cs : Int32) (h0 : Heap) (n0 : Nat) (hs0 : n0 ≤ h0.size) (OL : Old Z n0 h0) (z_cs : Sta Z Z.heap "java/lang/String" "COMPACT_STRINGS" "Z" (.int cs)) (hcs : ¬ cs = 0) (Fc : Fld Z h0 a "java/lang/String" "coder" "B" (.int 0)) :
    own_Met l (⟨"java/lang/String", "coder", "()B"⟩ : MethodName) jdk_42_method_152_code 1 (some .byte) ({ frames := 0, cells := 0, slots := 0, locals := 0 } : Room) Z #[(.ref a)] h0 n0 (fun v h' => h' = h0 ∧ v = some (.int (0 : Int32))) := by
  refine own_met (Ls := #[.val (.ref a)]) own_pn9 hs0 (fun m => by first  | (simp [entryFrame, mkF, argsToLocals, Value.category]; done) | rfl) ?_
  intro p e s m below meth c T X
  have hi_a : h0.size > a := Fc.lt
  refine own_getS X 3 own_d9_0 rfl (hw _ (List.mem_of_getElem? (i := 57) rfl)) Via.refl (Sta.ext OL.2 z_cs) ?_
  intro T X
  refine own_ifN X 6 own_d9_3 rfl (XT.i0_eq_f hcs) ?_
  refine own_aloadN X 7 (.ref a) own_d9_6 rfl rfl rfl ?_
  refine own_getF X 10 own_d9_7 rfl (hw _ (List.mem_of_getElem? (i := 58) rfl)) Via.refl Fc ?_
  intro T X
  refine own_goto X 14 own_d9_10 (by decide) (by decide) ?_
  exact own_retN X .byte own_d9_14 rfl (by simp) (by decide) (by decide) (⟨rfl, rfl⟩)
theorem own_d12_0 : decode jdk_42_method_154_code 0 = .ok (.getstatic 38, 3) := by decide +kernel
theorem own_d12_3 : decode jdk_42_method_154_code 3 = .ok (.ifCond .eq 14, 3) := by decide +kernel
theorem own_d12_6 : decode jdk_42_method_154_code 6 = .ok (.aload_n 0, 1) := by decide +kernel
theorem own_d12_7 : decode jdk_42_method_154_code 7 = .ok (.getfield 15, 3) := by decide +kernel
theorem own_d12_10 : decode jdk_42_method_154_code 10 = .ok (.ifCond .ne 7, 3) := by decide +kernel
theorem own_d12_13 : decode jdk_42_method_154_code 13 = .ok (.iconst 1, 1) := by decide +kernel
theorem own_d12_14 : decode jdk_42_method_154_code 14 = .ok (.goto 4, 3) := by decide +kernel
theorem own_d12_18 : decode jdk_42_method_154_code 18 = .ok (.ireturn, 1) := by decide +kernel
theorem own_pn12 : plainFor (⟨"java/lang/String", "isLatin1", "()Z"⟩ : MethodName) = true := plainFor_of_name (by first | (simp [plainName, overriddenIn]; done) | decide +kernel)
set_option maxRecDepth 65536 in
set_option maxHeartbeats 40000000 in
theorem own_lat (l : Launch) (Z : State) (a0 : Array Value) (hw : ∀ d ∈ tables_1, d.before a0 Z = true) (a : Addr) (cs : Int32) (h0 : Heap) (n0 : Nat) (hs0 : n0 ≤ h0.size) (OL : Old Z n0 h0) (z_cs : Sta Z Z.heap "java/lang/String" "COMPACT_STRINGS" "Z" (.int cs)) (hcs : ¬ cs = 0) (Fc : Fld Z h0 a "java/lang/String" "coder" "B" (.int 0)) :
    own_Met l (⟨"java/lang/String", "isLatin1", "()Z"⟩ : MethodName) jdk_42_method_154_code 1 (some .boolean) ({ frames := 0, cells := 0, slots := 0, locals := 0 } : Room) Z #[(.ref a)] h0 n0 (fun v h' => h' = h0 ∧ v = some (.int (1 : Int32))) := by
  refine own_met (Ls := #[.val (.ref a)]) own_pn12 hs0 (fun m => by first  | (simp [entryFrame, mkF, argsToLocals, Value.category]; done) | rfl) ?_
  intro p e s m below meth c T X
  have hi_a : h0.size > a := Fc.lt
  refine own_getS X 3 own_d12_0 rfl (hw _ (List.mem_of_getElem? (i := 57) rfl)) Via.refl (Sta.ext OL.2 z_cs) ?_
  intro T X
  refine own_ifN X 6 own_d12_3 rfl (XT.i0_eq_f hcs) ?_
  refine own_aloadN X 7 (.ref a) own_d12_6 rfl rfl rfl ?_
  refine own_getF X 10 own_d12_7 rfl (hw _ (List.mem_of_getElem? (i := 58) rfl)) Via.refl Fc ?_
  intro T X
  refine own_ifN X 13 own_d12_10 rfl (XT.i0_ne_f rfl) ?_
  refine own_iconst X 14 (1 : Int32) own_d12_13 rfl rfl ?_
  refine own_goto X 18 own_d12_14 (by decide) (by decide) ?_
  exact own_retN X .boolean own_d12_18 rfl (by simp) (by decide) (by decide) (⟨rfl, rfl⟩)
theorem own_d8_0 : decode jdk_42_method_54_code 0 = .ok (.aload_n 0, 1) := by decide +kernel
theorem own_d8_1 : decode jdk_42_method_54_code 1 = .ok (.getfield 9, 3) := by decide +kernel
theorem own_d8_4 : decode jdk_42_method_54_code 4 = .ok (.arraylength, 1) := by decide +kernel
theorem own_d8_5 : decode jdk_42_method_54_code 5 = .ok (.aload_n 0, 1) := by decide +kernel
theorem own_d8_6 : decode jdk_42_method_54_code 6 = .ok (.invokevirtual 335, 3) := by decide +kernel
theorem own_pd3 : parseMethodDescriptor "()B" = some ⟨[], some .byte⟩ := by decide +kernel
theorem own_d8_9 : decode jdk_42_method_54_code 9 = .ok (.ishr, 1) := by decide +kernel
theorem own_d8_10 : decode jdk_42_method_54_code 10 = .ok (.ireturn, 1) := by decide +kernel
theorem own_pn8 : plainFor (⟨"java/lang/String", "length", "()I"⟩ : MethodName) = true := plainFor_of_name (by first | (simp [plainName, overriddenIn]; done) | decide +kernel)
set_option maxRecDepth 65536 in
set_option maxHeartbeats 40000000 in
theorem own_sl0 (l : Launch) (Z : State) (a0 : Array Value) (hw : ∀ d ∈ tables_1, d.before a0 Z = true) (a : Addr) (cs : Int32) (sv : Addr) (ks : ClassId) (h0 : Heap) (n0 : Nat) (hs0 : n0 ≤ h0.size) (OL : Old Z n0 h0) (z_cs : Sta Z Z.heap "java/lang/String" "COMPACT_STRINGS" "Z" (.int cs)) (hcs : ¬ cs = 0) (Ea : Exa Z h0 a "java/lang/String") (Fc : Fld Z h0 a "java/lang/String" "coder" "B" (.int 0)) (Fv : Fld Z h0 a "java/lang/String" "value" "[B" (.ref sv)) (As : own_A Z h0 sv ks .byte []) :
    own_Met l (⟨"java/lang/String", "length", "()I"⟩ : MethodName) jdk_42_method_54_code 1 (some .int) ({ frames := 1, cells := 0, slots := 0, locals := 13 } : Room) Z #[(.ref a)] h0 n0 (fun v h' => h' = h0 ∧ v = some (.int (0 : Int32))) := by
  refine own_met (Ls := #[.val (.ref a)]) own_pn8 hs0 (fun m => by first  | (simp [entryFrame, mkF, argsToLocals, Value.category]; done) | rfl) ?_
  intro p e s m below meth c T X
  have hi_sv : h0.size > sv := As.lt
  have hi_a : h0.size > a := Ea.lt
  refine own_aloadN X 1 (.ref a) own_d8_0 rfl rfl rfl ?_
  refine own_getF X 4 own_d8_1 rfl (hw _ (List.mem_of_getElem? (i := 51) rfl)) Via.refl Fv ?_
  intro T X
  refine own_len X 5 (0 : Int32) own_d8_4 rfl As rfl ?_
  refine own_aloadN X 6 (.ref a) own_d8_5 rfl rfl rfl ?_
  refine own_callV X 9 [] [(.int (0 : Int32))] own_d8_6 rfl (hw _ (List.mem_of_getElem? (i := 52) rfl)) (hw _ (List.mem_of_getElem? (i := 53) rfl)) (own_nf X.2.2.2.2.1 (hw _ (List.mem_of_getElem? (i := 55) rfl))) (hw _ (List.mem_of_getElem? (i := 55) rfl)) (hw _ (List.mem_of_getElem? (i := 54) rfl)) (hw _ (List.mem_of_getElem? (i := 37) rfl)) (hw _ (List.mem_of_getElem? (i := 56) rfl)) (by decide) Ea (own_coder l Z a0 hw a cs h0 n0 X.sz OL z_cs hcs Fc) (fun _ _ q => Nat.le_of_eq (congrArg Array.size q.1.symm)) rfl own_pd3 rfl rfl rfl (by decide) (Nat.le_of_ble_eq_true rfl) (by decide) (by decide) ?_
  rintro v6 T h_ X ⟨eh_, rfl⟩
  rw [eh_] at X
  show own_Ends p e below _ (T.setTop (mkF m 9 #[.val (.ref a)] [(.int (0 : Int32)), (.int (0 : Int32))]))
  refine own_ishr X 10 own_d8_9 rfl ?_
  exact own_retI X own_d8_10 rfl (by decide) (by decide) (⟨rfl, by decide⟩)
set_option maxRecDepth 65536 in
set_option maxHeartbeats 40000000 in
theorem own_sl6 (l : Launch) (Z : State) (a0 : Array Value) (hw : ∀ d ∈ tables_1, d.before a0 Z = true) (a : Addr) (cs : Int32) (sv : Addr) (ks : ClassId) (h0 : Heap) (n0 : Nat) (hs0 : n0 ≤ h0.size) (OL : Old Z n0 h0) (z_cs : Sta Z Z.heap "java/lang/String" "COMPACT_STRINGS" "Z" (.int cs)) (hcs : ¬ cs = 0) (Ea : Exa Z h0 a "java/lang/String") (Fc : Fld Z h0 a "java/lang/String" "coder" "B" (.int 0)) (Fv : Fld Z h0 a "java/lang/String" "value" "[B" (.ref sv)) (As : own_A Z h0 sv ks .byte [(.int 58), (.int 104), (.int 111), (.int 108), (.int 100), (.int 115)]) :
    own_Met l (⟨"java/lang/String", "length", "()I"⟩ : MethodName) jdk_42_method_54_code 1 (some .int) ({ frames := 1, cells := 0, slots := 0, locals := 13 } : Room) Z #[(.ref a)] h0 n0 (fun v h' => h' = h0 ∧ v = some (.int (6 : Int32))) := by
  refine own_met (Ls := #[.val (.ref a)]) own_pn8 hs0 (fun m => by first  | (simp [entryFrame, mkF, argsToLocals, Value.category]; done) | rfl) ?_
  intro p e s m below meth c T X
  have hi_sv : h0.size > sv := As.lt
  have hi_a : h0.size > a := Ea.lt
  refine own_aloadN X 1 (.ref a) own_d8_0 rfl rfl rfl ?_
  refine own_getF X 4 own_d8_1 rfl (hw _ (List.mem_of_getElem? (i := 51) rfl)) Via.refl Fv ?_
  intro T X
  refine own_len X 5 (6 : Int32) own_d8_4 rfl As rfl ?_
  refine own_aloadN X 6 (.ref a) own_d8_5 rfl rfl rfl ?_
  refine own_callV X 9 [] [(.int (6 : Int32))] own_d8_6 rfl (hw _ (List.mem_of_getElem? (i := 52) rfl)) (hw _ (List.mem_of_getElem? (i := 53) rfl)) (own_nf X.2.2.2.2.1 (hw _ (List.mem_of_getElem? (i := 55) rfl))) (hw _ (List.mem_of_getElem? (i := 55) rfl)) (hw _ (List.mem_of_getElem? (i := 54) rfl)) (hw _ (List.mem_of_getElem? (i := 37) rfl)) (hw _ (List.mem_of_getElem? (i := 56) rfl)) (by decide) Ea (own_coder l Z a0 hw a cs h0 n0 X.sz OL z_cs hcs Fc) (fun _ _ q => Nat.le_of_eq (congrArg Array.size q.1.symm)) rfl own_pd3 rfl rfl rfl (by decide) (Nat.le_of_ble_eq_true rfl) (by decide) (by decide) ?_
  rintro v6 T h_ X ⟨eh_, rfl⟩
  rw [eh_] at X
  show own_Ends p e below _ (T.setTop (mkF m 9 #[.val (.ref a)] [(.int (0 : Int32)), (.int (6 : Int32))]))
  refine own_ishr X 10 own_d8_9 rfl ?_
  exact own_retI X own_d8_10 rfl (by decide) (by decide) (⟨rfl, by decide⟩)
set_option maxRecDepth 65536 in
set_option maxHeartbeats 40000000 in
theorem own_sl8 (l : Launch) (Z : State) (a0 : Array Value) (hw : ∀ d ∈ tables_1, d.before a0 Z = true) (a : Addr) (cs : Int32) (sv : Addr) (ks : ClassId) (h0 : Heap) (n0 : Nat) (hs0 : n0 ≤ h0.size) (OL : Old Z n0 h0) (z_cs : Sta Z Z.heap "java/lang/String" "COMPACT_STRINGS" "Z" (.int cs)) (hcs : ¬ cs = 0) (Ea : Exa Z h0 a "java/lang/String") (Fc : Fld Z h0 a "java/lang/String" "coder" "B" (.int 0)) (Fv : Fld Z h0 a "java/lang/String" "value" "[B" (.ref sv)) (As : own_A Z h0 sv ks .byte [(.int 58), (.int 119), (.int 97), (.int 105), (.int 116), (.int 105), (.int 110), (.int 103)]) :
    own_Met l (⟨"java/lang/String", "length", "()I"⟩ : MethodName) jdk_42_method_54_code 1 (some .int) ({ frames := 1, cells := 0, slots := 0, locals := 13 } : Room) Z #[(.ref a)] h0 n0 (fun v h' => h' = h0 ∧ v = some (.int (8 : Int32))) := by
  refine own_met (Ls := #[.val (.ref a)]) own_pn8 hs0 (fun m => by first  | (simp [entryFrame, mkF, argsToLocals, Value.category]; done) | rfl) ?_
  intro p e s m below meth c T X
  have hi_sv : h0.size > sv := As.lt
  have hi_a : h0.size > a := Ea.lt
  refine own_aloadN X 1 (.ref a) own_d8_0 rfl rfl rfl ?_
  refine own_getF X 4 own_d8_1 rfl (hw _ (List.mem_of_getElem? (i := 51) rfl)) Via.refl Fv ?_
  intro T X
  refine own_len X 5 (8 : Int32) own_d8_4 rfl As rfl ?_
  refine own_aloadN X 6 (.ref a) own_d8_5 rfl rfl rfl ?_
  refine own_callV X 9 [] [(.int (8 : Int32))] own_d8_6 rfl (hw _ (List.mem_of_getElem? (i := 52) rfl)) (hw _ (List.mem_of_getElem? (i := 53) rfl)) (own_nf X.2.2.2.2.1 (hw _ (List.mem_of_getElem? (i := 55) rfl))) (hw _ (List.mem_of_getElem? (i := 55) rfl)) (hw _ (List.mem_of_getElem? (i := 54) rfl)) (hw _ (List.mem_of_getElem? (i := 37) rfl)) (hw _ (List.mem_of_getElem? (i := 56) rfl)) (by decide) Ea (own_coder l Z a0 hw a cs h0 n0 X.sz OL z_cs hcs Fc) (fun _ _ q => Nat.le_of_eq (congrArg Array.size q.1.symm)) rfl own_pd3 rfl rfl rfl (by decide) (Nat.le_of_ble_eq_true rfl) (by decide) (by decide) ?_
  rintro v6 T h_ X ⟨eh_, rfl⟩
  rw [eh_] at X
  show own_Ends p e below _ (T.setTop (mkF m 9 #[.val (.ref a)] [(.int (0 : Int32)), (.int (8 : Int32))]))
  refine own_ishr X 10 own_d8_9 rfl ?_
  exact own_retI X own_d8_10 rfl (by decide) (by decide) (⟨rfl, by decide⟩)
theorem own_d15_0 : decode jdk_41_method_11_code 0 = .ok (.iload_n 0, 1) := by decide +kernel
theorem own_d15_1 : decode jdk_41_method_11_code 1 = .ok (.ifCond .lt 8, 3) := by decide +kernel
theorem own_d15_4 : decode jdk_41_method_11_code 4 = .ok (.iload_n 0, 1) := by decide +kernel
theorem own_d15_5 : decode jdk_41_method_11_code 5 = .ok (.iload_n 1, 1) := by decide +kernel
theorem own_d15_6 : decode jdk_41_method_11_code 6 = .ok (.if_icmp .lt 10, 3) := by decide +kernel
theorem own_d15_16 : decode jdk_41_method_11_code 16 = .ok (.iload_n 0, 1) := by decide +kernel
theorem own_d15_17 : decode jdk_41_method_11_code 17 = .ok (.ireturn, 1) := by decide +kernel
theorem own_pn15 : plainFor (⟨"jdk/internal/util/Preconditions", "checkIndex", "(IILjava/util/function/BiFunction;)I"⟩ : MethodName) = true := plainFor_of_name (by first | (simp [plainName, overriddenIn]; done) | decide +kernel)
set_option maxRecDepth 65536 in
set_option maxHeartbeats 40000000 in
theorem own_pck (l : Launch) (Z : State) (a0 : Array Value) (hw : ∀ d ∈ tables_1, d.before a0 Z = true) (jj : Int32) (ln : Int32) (fo : Value) (h0 : Heap) (n0 : Nat) (hs0 : n0 ≤ h0.size) (h1 : ¬ jj < 0) (h2 : jj < ln) (hfo : fo.isRef = true) :
    own_Met l (⟨"jdk/internal/util/Preconditions", "checkIndex", "(IILjava/util/function/BiFunction;)I"⟩ : MethodName) jdk_41_method_11_code 3 (some .int) ({ frames := 0, cells := 0, slots := 0, locals := 0 } : Room) Z #[(.int jj), (.int ln), fo] h0 n0 (fun v h' => h' = h0 ∧ v = some (.int jj)) := by
  refine own_met (Ls := #[.val (.int jj), .val (.int ln), .val fo]) own_pn15 hs0 (fun m => by first | (cases fo <;> first | rfl | (simp [Value.isRef] at hfo; done)) | (simp [entryFrame, mkF, argsToLocals, Value.category]; done) | rfl) ?_
  intro p e s m below meth c T X
  refine own_iloadN X 1 jj own_d15_0 rfl rfl ?_
  refine own_ifN X 4 own_d15_1 rfl (XT.i0_lt_f h1) ?_
  refine own_iloadN X 5 jj own_d15_4 rfl rfl ?_
  refine own_iloadN X 6 ln own_d15_5 rfl rfl ?_
  refine own_icY X 16 own_d15_6 (by decide) (by decide) (XT.ii_lt_t h2) ?_
  refine own_iloadN X 17 jj own_d15_16 rfl rfl ?_
  exact own_retI X own_d15_17 rfl (by decide) (by decide) (⟨rfl, rfl⟩)
theorem own_d14_0 : decode jdk_42_method_155_code 0 = .ok (.iload_n 0, 1) := by decide +kernel
theorem own_d14_1 : decode jdk_42_method_155_code 1 = .ok (.iload_n 1, 1) := by decide +kernel
theorem own_d14_2 : decode jdk_42_method_155_code 2 = .ok (.getstatic 1053, 3) := by decide +kernel
theorem own_d14_5 : decode jdk_42_method_155_code 5 = .ok (.invokestatic 1059, 3) := by decide +kernel
theorem own_pd4 : parseMethodDescriptor "(IILjava/util/function/BiFunction;)I" = some ⟨[.int, .int, (.object "java/util/function/BiFunction")], some .int⟩ := by decide +kernel
theorem own_d14_8 : decode jdk_42_method_155_code 8 = .ok (.pop, 1) := by decide +kernel
theorem own_d14_9 : decode jdk_42_method_155_code 9 = .ok (.return_, 1) := by decide +kernel
theorem own_pn14 : plainFor (⟨"java/lang/String", "checkIndex", "(II)V"⟩ : MethodName) = true := plainFor_of_name (by first | (simp [plainName, overriddenIn]; done) | decide +kernel)
set_option maxRecDepth 65536 in
set_option maxHeartbeats 40000000 in
theorem own_sck (l : Launch) (Z : State) (a0 : Array Value) (hw : ∀ d ∈ tables_1, d.before a0 Z = true) (jj : Int32) (ln : Int32) (fo : Value) (h0 : Heap) (n0 : Nat) (hs0 : n0 ≤ h0.size) (OL : Old Z n0 h0) (z_fo : Sta Z Z.heap "jdk/internal/util/Preconditions" "SIOOBE_FORMATTER" "Ljava/util/function/BiFunction;" fo) (hfo : fo.isRef = true) (h1 : ¬ jj < 0) (h2 : jj < ln) :
    own_Met l (⟨"java/lang/String", "checkIndex", "(II)V"⟩ : MethodName) jdk_42_method_155_code 2 none ({ frames := 1, cells := 0, slots := 0, locals := 14 } : Room) Z #[(.int jj), (.int ln)] h0 n0 (fun v h' => h' = h0 ∧ v = none) := by
  refine own_met (Ls := #[.val (.int jj), .val (.int ln)]) own_pn14 hs0 (fun m => by first  | (simp [entryFrame, mkF, argsToLocals, Value.category]; done) | rfl) ?_
  intro p e s m below meth c T X
  refine own_iloadN X 1 jj own_d14_0 rfl rfl ?_
  refine own_iloadN X 2 ln own_d14_1 rfl rfl ?_
  refine own_getS X 5 own_d14_2 rfl (hw _ (List.mem_of_getElem? (i := 80) rfl)) Via.refl (Sta.ext OL.2 z_fo) ?_
  intro T X
  refine own_callS X 8 [(.int jj), (.int ln), fo] [] own_d14_5 rfl (hw _ (List.mem_of_getElem? (i := 82) rfl)) (hw _ (List.mem_of_getElem? (i := 83) rfl)) (hw _ (List.mem_of_getElem? (i := 81) rfl)) (hw _ (List.mem_of_getElem? (i := 84) rfl)) (by decide) (own_pck l Z a0 hw jj ln fo h0 n0 X.sz h1 h2 hfo) (fun _ _ q => Nat.le_of_eq (congrArg Array.size q.1.symm)) rfl own_pd4 rfl rfl rfl (by decide) (Nat.le_of_ble_eq_true rfl) (by decide) (by decide) ?_
  rintro v5 T h_ X ⟨eh_, rfl⟩
  rw [eh_] at X
  show own_Ends p e below _ (T.setTop (mkF m 8 #[.val (.int jj), .val (.int ln)] [(.int jj)]))
  refine own_pop X 9 own_d14_8 rfl rfl ?_
  exact own_retV X own_d14_9 rfl (by decide) (by decide) (⟨rfl, rfl⟩)
theorem own_d13_0 : decode jdk_43_method_2_code 0 = .ok (.iload_n 1, 1) := by decide +kernel
theorem own_d13_1 : decode jdk_43_method_2_code 1 = .ok (.aload_n 0, 1) := by decide +kernel
theorem own_d13_2 : decode jdk_43_method_2_code 2 = .ok (.arraylength, 1) := by decide +kernel
theorem own_d13_3 : decode jdk_43_method_2_code 3 = .ok (.invokestatic 9, 3) := by decide +kernel
theorem own_pd5 : parseMethodDescriptor "(II)V" = some ⟨[.int, .int], none⟩ := by decide +kernel
theorem own_d13_6 : decode jdk_43_method_2_code 6 = .ok (.aload_n 0, 1) := by decide +kernel
theorem own_d13_7 : decode jdk_43_method_2_code 7 = .ok (.iload_n 1, 1) := by decide +kernel
theorem own_d13_8 : decode jdk_43_method_2_code 8 = .ok (.baload, 1) := by decide +kernel
theorem own_d13_9 : decode jdk_43_method_2_code 9 = .ok (.sipush 255, 3) := by decide +kernel
theorem own_d13_12 : decode jdk_43_method_2_code 12 = .ok (.iand, 1) := by decide +kernel
theorem own_d13_13 : decode jdk_43_method_2_code 13 = .ok (.i2c, 1) := by decide +kernel
theorem own_d13_14 : decode jdk_43_method_2_code 14 = .ok (.ireturn, 1) := by decide +kernel
theorem own_pn13 : plainFor (⟨"java/lang/StringLatin1", "charAt", "([BI)C"⟩ : MethodName) = true := plainFor_of_name (by first | (simp [plainName, overriddenIn]; done) | decide +kernel)
set_option maxRecDepth 65536 in
set_option maxHeartbeats 40000000 in
theorem own_lch (l : Launch) (Z : State) (a0 : Array Value) (hw : ∀ d ∈ tables_1, d.before a0 Z = true) (av : Addr) (jj : Int32) (ks : ClassId) (us : List Value) (t : Nat) (u : Int32) (fo : Value) (h0 : Heap) (n0 : Nat) (hs0 : n0 ≤ h0.size) (OL : Old Z n0 h0) (z_fo : Sta Z Z.heap "jdk/internal/util/Preconditions" "SIOOBE_FORMATTER" "Ljava/util/function/BiFunction;" fo) (hfo : fo.isRef = true) (As : own_A Z h0 av ks .byte us) (hj : jj.toNatClampNeg = t) (h1 : ¬ jj < 0) (h2 : jj < us.length.toInt32) (hu : us[t]? = some (.int u)) :
    own_Met l (⟨"java/lang/StringLatin1", "charAt", "([BI)C"⟩ : MethodName) jdk_43_method_2_code 2 (some .char) ({ frames := 2, cells := 0, slots := 0, locals := 27 } : Room) Z #[(.ref av), (.int jj)] h0 n0 (fun v h' => h' = h0 ∧ v = some (.int (own_c1 u))) := by
  refine own_met (Ls := #[.val (.ref av), .val (.int jj)]) own_pn13 hs0 (fun m => by first  | (simp [entryFrame, mkF, argsToLocals, Value.category]; done) | rfl) ?_
  intro p e s m below meth c T X
  have hi_av : h0.size > av := As.lt
  refine own_iloadN X 1 jj own_d13_0 rfl rfl ?_
  refine own_aloadN X 2 (.ref av) own_d13_1 rfl rfl rfl ?_
  refine own_len X 3 us.length.toInt32 own_d13_2 rfl As rfl ?_
  refine own_callS X 6 [(.int jj), (.int us.length.toInt32)] [] own_d13_3 rfl (hw _ (List.mem_of_getElem? (i := 77) rfl)) (hw _ (List.mem_of_getElem? (i := 78) rfl)) (hw _ (List.mem_of_getElem? (i := 37) rfl)) (hw _ (List.mem_of_getElem? (i := 79) rfl)) (by decide) (own_sck l Z a0 hw jj us.length.toInt32 fo h0 n0 X.sz OL z_fo hfo h1 h2) (fun _ _ q => Nat.le_of_eq (congrArg Array.size q.1.symm)) rfl own_pd5 rfl rfl rfl (by decide) (Nat.le_of_ble_eq_true rfl) (by decide) (by decide) ?_
  rintro v3 T h_ X ⟨eh_, rfl⟩
  rw [eh_] at X
  show own_Ends p e below _ (T.setTop (mkF m 6 #[.val (.ref av), .val (.int jj)] []))
  refine own_aloadN X 7 (.ref av) own_d13_6 rfl rfl rfl ?_
  refine own_iloadN X 8 jj own_d13_7 rfl rfl ?_
  refine own_baload X 9 t (.int u) own_d13_8 rfl As hj h1 hu ?_
  refine own_sipush X 12 (255 : Int32) own_d13_9 rfl (by decide) ?_
  refine own_iand X 13 own_d13_12 rfl ?_
  refine own_i2c X 14 own_d13_13 rfl ?_
  exact own_retN X .char own_d13_14 rfl (by simp) (by decide) (by decide) (⟨rfl, rfl⟩)
theorem own_d11_0 : decode jdk_42_method_56_code 0 = .ok (.aload_n 0, 1) := by decide +kernel
theorem own_d11_1 : decode jdk_42_method_56_code 1 = .ok (.invokevirtual 492, 3) := by decide +kernel
theorem own_pd6 : parseMethodDescriptor "()Z" = some ⟨[], some .boolean⟩ := by decide +kernel
theorem own_d11_4 : decode jdk_42_method_56_code 4 = .ok (.ifCond .eq 12, 3) := by decide +kernel
theorem own_d11_7 : decode jdk_42_method_56_code 7 = .ok (.aload_n 0, 1) := by decide +kernel
theorem own_d11_8 : decode jdk_42_method_56_code 8 = .ok (.getfield 9, 3) := by decide +kernel
theorem own_d11_11 : decode jdk_42_method_56_code 11 = .ok (.iload_n 1, 1) := by decide +kernel
theorem own_d11_12 : decode jdk_42_method_56_code 12 = .ok (.invokestatic 495, 3) := by decide +kernel
theorem own_pd7 : parseMethodDescriptor "([BI)C" = some ⟨[(.array .byte), .int], some .char⟩ := by decide +kernel
theorem own_d11_15 : decode jdk_42_method_56_code 15 = .ok (.ireturn, 1) := by decide +kernel
theorem own_pn11 : plainFor (⟨"java/lang/String", "charAt", "(I)C"⟩ : MethodName) = true := plainFor_of_name (by first | (simp [plainName, overriddenIn]; done) | decide +kernel)
set_option maxRecDepth 65536 in
set_option maxHeartbeats 40000000 in
theorem own_sch (l : Launch) (Z : State) (a0 : Array Value) (hw : ∀ d ∈ tables_1, d.before a0 Z = true) (a : Addr) (jj : Int32) (cs : Int32) (sv : Addr) (ks : ClassId) (us : List Value) (t : Nat) (u : Int32) (fo : Value) (h0 : Heap) (n0 : Nat) (hs0 : n0 ≤ h0.size) (OL : Old Z n0 h0) (z_cs : Sta Z Z.heap "java/lang/String" "COMPACT_STRINGS" "Z" (.int cs)) (hcs : ¬ cs = 0) (z_fo : Sta Z Z.heap "jdk/internal/util/Preconditions" "SIOOBE_FORMATTER" "Ljava/util/function/BiFunction;" fo) (hfo : fo.isRef = true) (Ea : Exa Z h0 a "java/lang/String") (Fc : Fld Z h0 a "java/lang/String" "coder" "B" (.int 0)) (Fv : Fld Z h0 a "java/lang/String" "value" "[B" (.ref sv)) (As : own_A Z h0 sv ks .byte us) (hj : jj.toNatClampNeg = t) (h1 : ¬ jj < 0) (h2 : jj < us.length.toInt32) (hu : us[t]? = some (.int u)) :
    own_Met l (⟨"java/lang/String", "charAt", "(I)C"⟩ : MethodName) jdk_42_method_56_code 2 (some .char) ({ frames := 3, cells := 0, slots := 0, locals := 40 } : Room) Z #[(.ref a), (.int jj)] h0 n0 (fun v h' => h' = h0 ∧ v = some (.int (own_c2 u))) := by
  refine own_met (Ls := #[.val (.ref a), .val (.int jj)]) own_pn11 hs0 (fun m => by first  | (simp [entryFrame, mkF, argsToLocals, Value.category]; done) | rfl) ?_
  intro p e s m below meth c T X
  have hi_sv : h0.size > sv := As.lt
  have hi_a : h0.size > a := Ea.lt
  refine own_aloadN X 1 (.ref a) own_d11_0 rfl rfl rfl ?_
  refine own_callV X 4 [] [] own_d11_1 rfl (hw _ (List.mem_of_getElem? (i := 68) rfl)) (hw _ (List.mem_of_getElem? (i := 69) rfl)) (own_nf X.2.2.2.2.1 (hw _ (List.mem_of_getElem? (i := 71) rfl))) (hw _ (List.mem_of_getElem? (i := 71) rfl)) (hw _ (List.mem_of_getElem? (i := 70) rfl)) (hw _ (List.mem_of_getElem? (i := 37) rfl)) (hw _ (List.mem_of_getElem? (i := 72) rfl)) (by decide) Ea (own_lat l Z a0 hw a cs h0 n0 X.sz OL z_cs hcs Fc) (fun _ _ q => Nat.le_of_eq (congrArg Array.size q.1.symm)) rfl own_pd6 rfl rfl rfl (by decide) (Nat.le_of_ble_eq_true rfl) (by decide) (by decide) ?_
  rintro v1 T h_ X ⟨eh_, rfl⟩
  rw [eh_] at X
  show own_Ends p e below _ (T.setTop (mkF m 4 #[.val (.ref a), .val (.int jj)] [(.int (1 : Int32))]))
  refine own_ifN X 7 own_d11_4 rfl (XT.i0_eq_f (by decide)) ?_
  refine own_aloadN X 8 (.ref a) own_d11_7 rfl rfl rfl ?_
  refine own_getF X 11 own_d11_8 rfl (hw _ (List.mem_of_getElem? (i := 51) rfl)) Via.refl Fv ?_
  intro T X
  refine own_iloadN X 12 jj own_d11_11 rfl rfl ?_
  refine own_callS X 15 [(.ref sv), (.int jj)] [] own_d11_12 rfl (hw _ (List.mem_of_getElem? (i := 73) rfl)) (hw _ (List.mem_of_getElem? (i := 74) rfl)) (hw _ (List.mem_of_getElem? (i := 75) rfl)) (hw _ (List.mem_of_getElem? (i := 76) rfl)) (by decide) (own_lch l Z a0 hw sv jj ks us t u fo h0 n0 X.sz OL z_fo hfo As hj h1 h2 hu) (fun _ _ q => Nat.le_of_eq (congrArg Array.size q.1.symm)) rfl own_pd7 rfl rfl rfl (by decide) (Nat.le_of_ble_eq_true rfl) (by decide) (by decide) ?_
  rintro v12 T h_ X ⟨eh_, rfl⟩
  rw [eh_] at X
  show own_Ends p e below _ (T.setTop (mkF m 15 #[.val (.ref a), .val (.int jj)] [(.int (own_c1 u))]))
  exact own_retN X .char own_d11_15 rfl (by simp) (by decide) (by decide) (⟨rfl, rfl⟩)
theorem own_d10_0 : decode method_5_code 0 = .ok (.iload 5, 2) := by decide +kernel
theorem own_d10_2 : decode method_5_code 2 = .ok (.aload_n 0, 1) := by decide +kernel
theorem own_d10_3 : decode method_5_code 3 = .ok (.arraylength, 1) := by decide +kernel
theorem own_d10_4 : decode method_5_code 4 = .ok (.if_icmp .lt 5, 3) := by decide +kernel
theorem own_d10_7 : decode method_5_code 7 = .ok (.iconst 1, 1) := by decide +kernel
theorem own_d10_8 : decode method_5_code 8 = .ok (.ireturn, 1) := by decide +kernel
theorem own_pn10 : plainFor (⟨"com/example/latchkey/latchkey/LockKeysHolderFieldsPinLaw", "at", "([BIIILjava/lang/String;I)Z"⟩ : MethodName) = true := plainFor_of_name (by first | (simp [plainName, overriddenIn]; done) | decide +kernel)
set_option maxRecDepth 65536 in
set_option maxHeartbeats 40000000 in
theorem own_at_hi (l : Launch) (Z : State) (a0 : Array Value) (hw : ∀ d ∈ tables_1, d.before a0 Z = true) (r : Addr) (nn : Int32) (pa : Int32) (pb : Int32) (sf : Addr) (ii : Int32) (kr : ClassId) (vs : List Value) (h0 : Heap) (n0 : Nat) (hs0 : n0 ≤ h0.size) (Ar : own_A Z h0 r kr .byte vs) (hge : ¬ ii < vs.length.toInt32) :
    own_Met l (⟨"com/example/latchkey/latchkey/LockKeysHolderFieldsPinLaw", "at", "([BIIILjava/lang/String;I)Z"⟩ : MethodName) method_5_code 7 (some .boolean) ({ frames := 0, cells := 0, slots := 0, locals := 0 } : Room) Z #[(.ref r), (.int nn), (.int pa), (.int pb), (.ref sf), (.int ii)] h0 n0 (fun v h' => h' = h0 ∧ v = some (.int (1 : Int32))) := by
  refine own_met (Ls := #[.val (.ref r), .val (.int nn), .val (.int pa), .val (.int pb), .val (.ref sf), .val (.int ii), .unset]) own_pn10 hs0 (fun m => by first  | (simp [entryFrame, mkF, argsToLocals, Value.category]; done) | rfl) ?_
  intro p e s m below meth c T X
  have hi_r : h0.size > r := Ar.lt
  refine own_iload X 2 ii own_d10_0 rfl rfl ?_
  refine own_aloadN X 3 (.ref r) own_d10_2 rfl rfl rfl ?_
  refine own_len X 4 vs.length.toInt32 own_d10_3 rfl Ar rfl ?_
  refine own_icN X 7 own_d10_4 rfl (XT.ii_lt_f hge) ?_
  refine own_iconst X 8 (1 : Int32) own_d10_7 rfl rfl ?_
  exact own_retN X .boolean own_d10_8 rfl (by simp) (by decide) (by decide) (⟨rfl, rfl⟩)
theorem own_d10_9 : decode method_5_code 9 = .ok (.iload 5, 2) := by decide +kernel
theorem own_d10_11 : decode method_5_code 11 = .ok (.iload_n 1, 1) := by decide +kernel
theorem own_d10_12 : decode method_5_code 12 = .ok (.if_icmp .ge 15, 3) := by decide +kernel
theorem own_d10_15 : decode method_5_code 15 = .ok (.iload_n 2, 1) := by decide +kernel
theorem own_d10_16 : decode method_5_code 16 = .ok (.iload_n 3, 1) := by decide +kernel
theorem own_d10_17 : decode method_5_code 17 = .ok (.iload 5, 2) := by decide +kernel
theorem own_d10_19 : decode method_5_code 19 = .ok (.invokestatic 14, 3) := by decide +kernel
theorem own_pd8 : parseMethodDescriptor "(III)B" = some ⟨[.int, .int, .int], some .byte⟩ := by decide +kernel
theorem own_d10_22 : decode method_5_code 22 = .ok (.istore 6, 2) := by decide +kernel
theorem own_d10_24 : decode method_5_code 24 = .ok (.goto 15, 3) := by decide +kernel
theorem own_d10_39 : decode method_5_code 39 = .ok (.aload_n 0, 1) := by decide +kernel
theorem own_d10_40 : decode method_5_code 40 = .ok (.iload 5, 2) := by decide +kernel
theorem own_d10_42 : decode method_5_code 42 = .ok (.baload, 1) := by decide +kernel
theorem own_d10_43 : decode method_5_code 43 = .ok (.iload 6, 2) := by decide +kernel
theorem own_d10_45 : decode method_5_code 45 = .ok (.if_icmp .ne 7, 3) := by decide +kernel
theorem own_d10_48 : decode method_5_code 48 = .ok (.iconst 1, 1) := by decide +kernel
theorem own_d10_49 : decode method_5_code 49 = .ok (.goto 4, 3) := by decide +kernel
theorem own_d10_53 : decode method_5_code 53 = .ok (.ireturn, 1) := by decide +kernel
set_option maxRecDepth 65536 in
set_option maxHeartbeats 40000000 in
theorem own_at_ob (l : Launch) (Z : State) (a0 : Array Value) (hw : ∀ d ∈ tables_1, d.before a0 Z = true) (r : Addr) (nn : Int32) (pa : Int32) (pb : Int32) (sf : Addr) (ii : Int32) (kr : ClassId) (vs : List Value) (j : Nat) (h0 : Heap) (n0 : Nat) (hs0 : n0 ≤ h0.size) (Ar : own_A Z h0 r kr .byte vs) (hlt : ii < vs.length.toInt32) (hin : ii < nn) (hj : ii.toNatClampNeg = j) (hj0 : ¬ ii < 0) (hv : vs[j]? = some (.int (own_ob pa pb ii))) :
    own_Met l (⟨"com/example/latchkey/latchkey/LockKeysHolderFieldsPinLaw", "at", "([BIIILjava/lang/String;I)Z"⟩ : MethodName) method_5_code 7 (some .boolean) ({ frames := 1, cells := 0, slots := 0, locals := 14 } : Room) Z #[(.ref r), (.int nn), (.int pa), (.int pb), (.ref sf), (.int ii)] h0 n0 (fun v h' => h' = h0 ∧ v = some (.int (1 : Int32))) := by
  refine own_met (Ls := #[.val (.ref r), .val (.int nn), .val (.int pa), .val (.int pb), .val (.ref sf), .val (.int ii), .unset]) own_pn10 hs0 (fun m => by first  | (simp [entryFrame, mkF, argsToLocals, Value.category]; done) | rfl) ?_
  intro p e s m below meth c T X
  have hi_r : h0.size > r := Ar.lt
  refine own_iload X 2 ii own_d10_0 rfl rfl ?_
  refine own_aloadN X 3 (.ref r) own_d10_2 rfl rfl rfl ?_
  refine own_len X 4 vs.length.toInt32 own_d10_3 rfl Ar rfl ?_
  refine own_icY X 9 own_d10_4 (by decide) (by decide) (XT.ii_lt_t hlt) ?_
  refine own_iload X 11 ii own_d10_9 rfl rfl ?_
  refine own_iloadN X 12 nn own_d10_11 rfl rfl ?_
  refine own_icN X 15 own_d10_12 rfl (XT.ii_ge_f hin) ?_
  refine own_iloadN X 16 pa own_d10_15 rfl rfl ?_
  refine own_iloadN X 17 pb own_d10_16 rfl rfl ?_
  refine own_iload X 19 ii own_d10_17 rfl rfl ?_
  refine own_callS X 22 [(.int pa), (.int pb), (.int ii)] [] own_d10_19 rfl (hw _ (List.mem_of_getElem? (i := 6) rfl)) (hw _ (List.mem_of_getElem? (i := 7) rfl)) (hw _ (List.mem_of_getElem? (i := 3) rfl)) (hw _ (List.mem_of_getElem? (i := 8) rfl)) (by decide) (own_obm l Z a0 hw pa pb ii h0 n0 X.sz) (fun _ _ q => Nat.le_of_eq (congrArg Array.size q.1.symm)) rfl own_pd8 rfl rfl rfl (by decide) (Nat.le_of_ble_eq_true rfl) (by decide) (by decide) ?_
  rintro v19 T h_ X ⟨eh_, rfl⟩
  rw [eh_] at X
  show own_Ends p e below _ (T.setTop (mkF m 22 #[.val (.ref r), .val (.int nn), .val (.int pa), .val (.int pb), .val (.ref sf), .val (.int ii), .unset] [(.int (own_ob pa pb ii))]))
  refine own_istore X 24 #[.val (.ref r), .val (.int nn), .val (.int pa), .val (.int pb), .val (.ref sf), .val (.int ii), .val (.int (own_ob pa pb ii))] own_d10_22 rfl rfl ?_
  refine own_goto X 39 own_d10_24 (by decide) (by decide) ?_
  refine own_aloadN X 40 (.ref r) own_d10_39 rfl rfl rfl ?_
  refine own_iload X 42 ii own_d10_40 rfl rfl ?_
  refine own_baload X 43 j (.int (own_ob pa pb ii)) own_d10_42 rfl Ar hj hj0 hv ?_
  refine own_iload X 45 (own_ob pa pb ii) own_d10_43 rfl rfl ?_
  refine own_icN X 48 own_d10_45 rfl (XT.ii_ne_f rfl) ?_
  refine own_iconst X 49 (1 : Int32) own_d10_48 rfl rfl ?_
  refine own_goto X 53 own_d10_49 (by decide) (by decide) ?_
  exact own_retN X .boolean own_d10_53 rfl (by simp) (by decide) (by decide) (⟨rfl, rfl⟩)
theorem own_d10_27 : decode method_5_code 27 = .ok (.aload 4, 2) := by decide +kernel
theorem own_d10_29 : decode method_5_code 29 = .ok (.iload 5, 2) := by decide +kernel
theorem own_d10_31 : decode method_5_code 31 = .ok (.iload_n 1, 1) := by decide +kernel
theorem own_d10_32 : decode method_5_code 32 = .ok (.isub, 1) := by decide +kernel
theorem own_d10_33 : decode method_5_code 33 = .ok (.invokevirtual 34, 3) := by decide +kernel
theorem own_pd9 : parseMethodDescriptor "(I)C" = some ⟨[.int], some .char⟩ := by decide +kernel
theorem own_d10_36 : decode method_5_code 36 = .ok (.i2b, 1) := by decide +kernel
theorem own_d10_37 : decode method_5_code 37 = .ok (.istore 6, 2) := by decide +kernel
set_option maxRecDepth 65536 in
set_option maxHeartbeats 40000000 in
theorem own_at_sf (l : Launch) (Z : State) (a0 : Array Value) (hw : ∀ d ∈ tables_1, d.before a0 Z = true) (r : Addr) (nn : Int32) (pa : Int32) (pb : Int32) (sf : Addr) (ii : Int32) (kr : ClassId) (vs : List Value) (j : Nat) (wv : Int32) (cs : Int32) (sv : Addr) (ks : ClassId) (us : List Value) (t : Nat) (u : Int32) (fo : Value) (h0 : Heap) (n0 : Nat) (hs0 : n0 ≤ h0.size) (Ar : own_A Z h0 r kr .byte vs) (hlt : ii < vs.length.toInt32) (hin : ¬ ii < nn) (hj : ii.toNatClampNeg = j) (hj0 : ¬ ii < 0) (hv : vs[j]? = some (.int wv)) (OL : Old Z n0 h0) (z_cs : Sta Z Z.heap "java/lang/String" "COMPACT_STRINGS" "Z" (.int cs)) (hcs : ¬ cs = 0) (z_fo : Sta Z Z.heap "jdk/internal/util/Preconditions" "SIOOBE_FORMATTER" "Ljava/util/function/BiFunction;" fo) (hfo : fo.isRef = true) (Ea : Exa Z h0 sf "java/lang/String") (Fc : Fld Z h0 sf "java/lang/String" "coder" "B" (.int 0)) (Fv : Fld Z h0 sf "java/lang/String" "value" "[B" (.ref sv)) (As : own_A Z h0 sv ks .byte us) (ht : (ii - nn).toNatClampNeg = t) (ht0 : ¬ (ii - nn) < 0) (ht1 : (ii - nn) < us.length.toInt32) (hu : us[t]? = some (.int u)) (heq : wv = (own_c2 u).toInt8.toInt32) :
    own_Met l (⟨"com/example/latchkey/latchkey/LockKeysHolderFieldsPinLaw", "at", "([BIIILjava/lang/String;I)Z"⟩ : MethodName) method_5_code 7 (some .boolean) ({ frames := 4, cells := 0, slots := 0, locals := 53 } : Room) Z #[(.ref r), (.int nn), (.int pa), (.int pb), (.ref sf), (.int ii)] h0 n0 (fun v h' => h' = h0 ∧ v = some (.int (1 : Int32))) := by
  refine own_met (Ls := #[.val (.ref r), .val (.int nn), .val (.int pa), .val (.int pb), .val (.ref sf), .val (.int ii), .unset]) own_pn10 hs0 (fun m => by first  | (simp [entryFrame, mkF, argsToLocals, Value.category]; done) | rfl) ?_
  intro p e s m below meth c T X
  have hi_r : h0.size > r := Ar.lt
  have hi_sv : h0.size > sv := As.lt
  have hi_sf : h0.size > sf := Ea.lt
  refine own_iload X 2 ii own_d10_0 rfl rfl ?_
  refine own_aloadN X 3 (.ref r) own_d10_2 rfl rfl rfl ?_
  refine own_len X 4 vs.length.toInt32 own_d10_3 rfl Ar rfl ?_
  refine own_icY X 9 own_d10_4 (by decide) (by decide) (XT.ii_lt_t hlt) ?_
  refine own_iload X 11 ii own_d10_9 rfl rfl ?_
  refine own_iloadN X 12 nn own_d10_11 rfl rfl ?_
  refine own_icY X 27 own_d10_12 (by decide) (by decide) (XT.ii_ge_t hin) ?_
  refine own_aload X 29 (.ref sf) own_d10_27 rfl rfl rfl ?_
  refine own_iload X 31 ii own_d10_29 rfl rfl ?_
  refine own_iloadN X 32 nn own_d10_31 rfl rfl ?_
  refine own_isub X 33 own_d10_32 rfl ?_
  refine own_callV X 36 [(.int (ii - nn))] [] own_d10_33 rfl (hw _ (List.mem_of_getElem? (i := 63) rfl)) (hw _ (List.mem_of_getElem? (i := 64) rfl)) (own_nf X.2.2.2.2.1 (hw _ (List.mem_of_getElem? (i := 66) rfl))) (hw _ (List.mem_of_getElem? (i := 66) rfl)) (hw _ (List.mem_of_getElem? (i := 65) rfl)) (hw _ (List.mem_of_getElem? (i := 37) rfl)) (hw _ (List.mem_of_getElem? (i := 67) rfl)) (by decide) Ea (own_sch l Z a0 hw sf (ii - nn) cs sv ks us t u fo h0 n0 X.sz OL z_cs hcs z_fo hfo Ea Fc Fv As ht ht0 ht1 hu) (fun _ _ q => Nat.le_of_eq (congrArg Array.size q.1.symm)) rfl own_pd9 rfl rfl rfl (by decide) (Nat.le_of_ble_eq_true rfl) (by decide) (by decide) ?_
  rintro v33 T h_ X ⟨eh_, rfl⟩
  rw [eh_] at X
  show own_Ends p e below _ (T.setTop (mkF m 36 #[.val (.ref r), .val (.int nn), .val (.int pa), .val (.int pb), .val (.ref sf), .val (.int ii), .unset] [(.int (own_c2 u))]))
  refine own_i2b X 37 own_d10_36 rfl ?_
  refine own_istore X 39 #[.val (.ref r), .val (.int nn), .val (.int pa), .val (.int pb), .val (.ref sf), .val (.int ii), .val (.int (own_c2 u).toInt8.toInt32)] own_d10_37 rfl rfl ?_
  refine own_aloadN X 40 (.ref r) own_d10_39 rfl rfl rfl ?_
  refine own_iload X 42 ii own_d10_40 rfl rfl ?_
  refine own_baload X 43 j (.int wv) own_d10_42 rfl Ar hj hj0 hv ?_
  refine own_iload X 45 (own_c2 u).toInt8.toInt32 own_d10_43 rfl rfl ?_
  refine own_icN X 48 own_d10_45 rfl (XT.ii_ne_f heq) ?_
  refine own_iconst X 49 (1 : Int32) own_d10_48 rfl rfl ?_
  refine own_goto X 53 own_d10_49 (by decide) (by decide) ?_
  exact own_retN X .boolean own_d10_53 rfl (by simp) (by decide) (by decide) (⟨rfl, rfl⟩)
theorem own_d7_0 : decode method_6_code 0 = .ok (.aload_n 0, 1) := by decide +kernel
theorem own_d7_1 : decode method_6_code 1 = .ok (.ifnull 15, 3) := by decide +kernel
theorem own_d7_4 : decode method_6_code 4 = .ok (.aload_n 0, 1) := by decide +kernel
theorem own_d7_5 : decode method_6_code 5 = .ok (.arraylength, 1) := by decide +kernel
theorem own_d7_6 : decode method_6_code 6 = .ok (.iload_n 1, 1) := by decide +kernel
theorem own_d7_7 : decode method_6_code 7 = .ok (.aload 4, 2) := by decide +kernel
theorem own_d7_9 : decode method_6_code 9 = .ok (.invokevirtual 40, 3) := by decide +kernel
theorem own_pd10 : parseMethodDescriptor "()I" = some ⟨[], some .int⟩ := by decide +kernel
theorem own_d7_12 : decode method_6_code 12 = .ok (.iadd, 1) := by decide +kernel
theorem own_d7_13 : decode method_6_code 13 = .ok (.if_icmp .eq 5, 3) := by decide +kernel
theorem own_d7_18 : decode method_6_code 18 = .ok (.aload_n 0, 1) := by decide +kernel
theorem own_d7_19 : decode method_6_code 19 = .ok (.iload_n 1, 1) := by decide +kernel
theorem own_d7_20 : decode method_6_code 20 = .ok (.iload_n 2, 1) := by decide +kernel
theorem own_d7_21 : decode method_6_code 21 = .ok (.iload_n 3, 1) := by decide +kernel
theorem own_d7_22 : decode method_6_code 22 = .ok (.aload 4, 2) := by decide +kernel
theorem own_d7_24 : decode method_6_code 24 = .ok (.iconst 0, 1) := by decide +kernel
theorem own_d7_25 : decode method_6_code 25 = .ok (.invokestatic 44, 3) := by decide +kernel
theorem own_pd11 : parseMethodDescriptor "([BIIILjava/lang/String;I)Z" = some ⟨[(.array .byte), .int, .int, .int, (.object "java/lang/String"), .int], some .boolean⟩ := by decide +kernel
theorem own_d7_28 : decode method_6_code 28 = .ok (.ifCond .eq 170, 3) := by decide +kernel
theorem own_d7_31 : decode method_6_code 31 = .ok (.aload_n 0, 1) := by decide +kernel
theorem own_d7_32 : decode method_6_code 32 = .ok (.iload_n 1, 1) := by decide +kernel
theorem own_d7_33 : decode method_6_code 33 = .ok (.iload_n 2, 1) := by decide +kernel
theorem own_d7_34 : decode method_6_code 34 = .ok (.iload_n 3, 1) := by decide +kernel
theorem own_d7_35 : decode method_6_code 35 = .ok (.aload 4, 2) := by decide +kernel
theorem own_d7_37 : decode method_6_code 37 = .ok (.iconst 1, 1) := by decide +kernel
theorem own_d7_38 : decode method_6_code 38 = .ok (.invokestatic 44, 3) := by decide +kernel
theorem own_d7_41 : decode method_6_code 41 = .ok (.ifCond .eq 157, 3) := by decide +kernel
theorem own_d7_44 : decode method_6_code 44 = .ok (.aload_n 0, 1) := by decide +kernel
theorem own_d7_45 : decode method_6_code 45 = .ok (.iload_n 1, 1) := by decide +kernel
theorem own_d7_46 : decode method_6_code 46 = .ok (.iload_n 2, 1) := by decide +kernel
theorem own_d7_47 : decode method_6_code 47 = .ok (.iload_n 3, 1) := by decide +kernel
theorem own_d7_48 : decode method_6_code 48 = .ok (.aload 4, 2) := by decide +kernel
theorem own_d7_50 : decode method_6_code 50 = .ok (.iconst 2, 1) := by decide +kernel
theorem own_d7_51 : decode method_6_code 51 = .ok (.invokestatic 44, 3) := by decide +kernel
theorem own_d7_54 : decode method_6_code 54 = .ok (.ifCond .eq 144, 3) := by decide +kernel
theorem own_d7_57 : decode method_6_code 57 = .ok (.aload_n 0, 1) := by decide +kernel
theorem own_d7_58 : decode method_6_code 58 = .ok (.iload_n 1, 1) := by decide +kernel
theorem own_d7_59 : decode method_6_code 59 = .ok (.iload_n 2, 1) := by decide +kernel
theorem own_d7_60 : decode method_6_code 60 = .ok (.iload_n 3, 1) := by decide +kernel
theorem own_d7_61 : decode method_6_code 61 = .ok (.aload 4, 2) := by decide +kernel
theorem own_d7_63 : decode method_6_code 63 = .ok (.iconst 3, 1) := by decide +kernel
theorem own_d7_64 : decode method_6_code 64 = .ok (.invokestatic 44, 3) := by decide +kernel
theorem own_d7_67 : decode method_6_code 67 = .ok (.ifCond .eq 131, 3) := by decide +kernel
theorem own_d7_70 : decode method_6_code 70 = .ok (.aload_n 0, 1) := by decide +kernel
theorem own_d7_71 : decode method_6_code 71 = .ok (.iload_n 1, 1) := by decide +kernel
theorem own_d7_72 : decode method_6_code 72 = .ok (.iload_n 2, 1) := by decide +kernel
theorem own_d7_73 : decode method_6_code 73 = .ok (.iload_n 3, 1) := by decide +kernel
theorem own_d7_74 : decode method_6_code 74 = .ok (.aload 4, 2) := by decide +kernel
theorem own_d7_76 : decode method_6_code 76 = .ok (.iconst 4, 1) := by decide +kernel
theorem own_d7_77 : decode method_6_code 77 = .ok (.invokestatic 44, 3) := by decide +kernel
theorem own_d7_80 : decode method_6_code 80 = .ok (.ifCond .eq 118, 3) := by decide +kernel
theorem own_d7_83 : decode method_6_code 83 = .ok (.aload_n 0, 1) := by decide +kernel
theorem own_d7_84 : decode method_6_code 84 = .ok (.iload_n 1, 1) := by decide +kernel
theorem own_d7_85 : decode method_6_code 85 = .ok (.iload_n 2, 1) := by decide +kernel
theorem own_d7_86 : decode method_6_code 86 = .ok (.iload_n 3, 1) := by decide +kernel
theorem own_d7_87 : decode method_6_code 87 = .ok (.aload 4, 2) := by decide +kernel
theorem own_d7_89 : decode method_6_code 89 = .ok (.iconst 5, 1) := by decide +kernel
theorem own_d7_90 : decode method_6_code 90 = .ok (.invokestatic 44, 3) := by decide +kernel
theorem own_d7_93 : decode method_6_code 93 = .ok (.ifCond .eq 105, 3) := by decide +kernel
theorem own_d7_96 : decode method_6_code 96 = .ok (.aload_n 0, 1) := by decide +kernel
theorem own_d7_97 : decode method_6_code 97 = .ok (.iload_n 1, 1) := by decide +kernel
theorem own_d7_98 : decode method_6_code 98 = .ok (.iload_n 2, 1) := by decide +kernel
theorem own_d7_99 : decode method_6_code 99 = .ok (.iload_n 3, 1) := by decide +kernel
theorem own_d7_100 : decode method_6_code 100 = .ok (.aload 4, 2) := by decide +kernel
theorem own_d7_102 : decode method_6_code 102 = .ok (.bipush 6, 2) := by decide +kernel
theorem own_d7_104 : decode method_6_code 104 = .ok (.invokestatic 44, 3) := by decide +kernel
theorem own_d7_107 : decode method_6_code 107 = .ok (.ifCond .eq 91, 3) := by decide +kernel
theorem own_d7_110 : decode method_6_code 110 = .ok (.aload_n 0, 1) := by decide +kernel
theorem own_d7_111 : decode method_6_code 111 = .ok (.iload_n 1, 1) := by decide +kernel
theorem own_d7_112 : decode method_6_code 112 = .ok (.iload_n 2, 1) := by decide +kernel
theorem own_d7_113 : decode method_6_code 113 = .ok (.iload_n 3, 1) := by decide +kernel
theorem own_d7_114 : decode method_6_code 114 = .ok (.aload 4, 2) := by decide +kernel
theorem own_d7_116 : decode method_6_code 116 = .ok (.bipush 7, 2) := by decide +kernel
theorem own_d7_118 : decode method_6_code 118 = .ok (.invokestatic 44, 3) := by decide +kernel
theorem own_d7_121 : decode method_6_code 121 = .ok (.ifCond .eq 77, 3) := by decide +kernel
theorem own_d7_124 : decode method_6_code 124 = .ok (.aload_n 0, 1) := by decide +kernel
theorem own_d7_125 : decode method_6_code 125 = .ok (.iload_n 1, 1) := by decide +kernel
theorem own_d7_126 : decode method_6_code 126 = .ok (.iload_n 2, 1) := by decide +kernel
theorem own_d7_127 : decode method_6_code 127 = .ok (.iload_n 3, 1) := by decide +kernel
theorem own_d7_128 : decode method_6_code 128 = .ok (.aload 4, 2) := by decide +kernel
theorem own_d7_130 : decode method_6_code 130 = .ok (.bipush 8, 2) := by decide +kernel
theorem own_d7_132 : decode method_6_code 132 = .ok (.invokestatic 44, 3) := by decide +kernel
theorem own_d7_135 : decode method_6_code 135 = .ok (.ifCond .eq 63, 3) := by decide +kernel
theorem own_d7_138 : decode method_6_code 138 = .ok (.aload_n 0, 1) := by decide +kernel
theorem own_d7_139 : decode method_6_code 139 = .ok (.iload_n 1, 1) := by decide +kernel
theorem own_d7_140 : decode method_6_code 140 = .ok (.iload_n 2, 1) := by decide +kernel
theorem own_d7_141 : decode method_6_code 141 = .ok (.iload_n 3, 1) := by decide +kernel
theorem own_d7_142 : decode method_6_code 142 = .ok (.aload 4, 2) := by decide +kernel
theorem own_d7_144 : decode method_6_code 144 = .ok (.bipush 9, 2) := by decide +kernel
theorem own_d7_146 : decode method_6_code 146 = .ok (.invokestatic 44, 3) := by decide +kernel
theorem own_d7_149 : decode method_6_code 149 = .ok (.ifCond .eq 49, 3) := by decide +kernel
theorem own_d7_152 : decode method_6_code 152 = .ok (.aload_n 0, 1) := by decide +kernel
theorem own_d7_153 : decode method_6_code 153 = .ok (.iload_n 1, 1) := by decide +kernel
theorem own_d7_154 : decode method_6_code 154 = .ok (.iload_n 2, 1) := by decide +kernel
theorem own_d7_155 : decode method_6_code 155 = .ok (.iload_n 3, 1) := by decide +kernel
theorem own_d7_156 : decode method_6_code 156 = .ok (.aload 4, 2) := by decide +kernel
theorem own_d7_158 : decode method_6_code 158 = .ok (.bipush 10, 2) := by decide +kernel
theorem own_d7_160 : decode method_6_code 160 = .ok (.invokestatic 44, 3) := by decide +kernel
theorem own_d7_163 : decode method_6_code 163 = .ok (.ifCond .eq 35, 3) := by decide +kernel
theorem own_d7_166 : decode method_6_code 166 = .ok (.aload_n 0, 1) := by decide +kernel
theorem own_d7_167 : decode method_6_code 167 = .ok (.iload_n 1, 1) := by decide +kernel
theorem own_d7_168 : decode method_6_code 168 = .ok (.iload_n 2, 1) := by decide +kernel
theorem own_d7_169 : decode method_6_code 169 = .ok (.iload_n 3, 1) := by decide +kernel
theorem own_d7_170 : decode method_6_code 170 = .ok (.aload 4, 2) := by decide +kernel
theorem own_d7_172 : decode method_6_code 172 = .ok (.bipush 11, 2) := by decide +kernel
theorem own_d7_174 : decode method_6_code 174 = .ok (.invokestatic 44, 3) := by decide +kernel
theorem own_d7_177 : decode method_6_code 177 = .ok (.ifCond .eq 21, 3) := by decide +kernel
theorem own_d7_180 : decode method_6_code 180 = .ok (.aload_n 0, 1) := by decide +kernel
theorem own_d7_181 : decode method_6_code 181 = .ok (.iload_n 1, 1) := by decide +kernel
theorem own_d7_182 : decode method_6_code 182 = .ok (.iload_n 2, 1) := by decide +kernel
theorem own_d7_183 : decode method_6_code 183 = .ok (.iload_n 3, 1) := by decide +kernel
theorem own_d7_184 : decode method_6_code 184 = .ok (.aload 4, 2) := by decide +kernel
theorem own_d7_186 : decode method_6_code 186 = .ok (.bipush 12, 2) := by decide +kernel
theorem own_d7_188 : decode method_6_code 188 = .ok (.invokestatic 44, 3) := by decide +kernel
theorem own_d7_191 : decode method_6_code 191 = .ok (.ifCond .eq 7, 3) := by decide +kernel
theorem own_d7_194 : decode method_6_code 194 = .ok (.iconst 1, 1) := by decide +kernel
theorem own_d7_195 : decode method_6_code 195 = .ok (.goto 4, 3) := by decide +kernel
theorem own_d7_199 : decode method_6_code 199 = .ok (.ireturn, 1) := by decide +kernel
theorem own_pn7 : plainFor (⟨"com/example/latchkey/latchkey/LockKeysHolderFieldsPinLaw", "matches", "([BIIILjava/lang/String;)Z"⟩ : MethodName) = true := plainFor_of_name (by first | (simp [plainName, overriddenIn]; done) | decide +kernel)
set_option maxRecDepth 65536 in
set_option maxHeartbeats 40000000 in
theorem own_mt0_0 (l : Launch) (Z : State) (a0 : Array Value) (hw : ∀ d ∈ tables_1, d.before a0 Z = true) (r : Addr) (nn : Int32) (pa : Int32) (pb : Int32) (sf : Addr) (kr : ClassId) (cs : Int32) (sv : Addr) (ks : ClassId) (fo : Value) (h0 : Heap) (n0 : Nat) (hs0 : n0 ≤ h0.size) (Ar : own_A Z h0 r kr .byte []) (OL : Old Z n0 h0) (z_cs : Sta Z Z.heap "java/lang/String" "COMPACT_STRINGS" "Z" (.int cs)) (hcs : ¬ cs = 0) (z_fo : Sta Z Z.heap "jdk/internal/util/Preconditions" "SIOOBE_FORMATTER" "Ljava/util/function/BiFunction;" fo) (hfo : fo.isRef = true) (Ea : Exa Z h0 sf "java/lang/String") (Fc : Fld Z h0 sf "java/lang/String" "coder" "B" (.int 0)) (Fv : Fld Z h0 sf "java/lang/String" "value" "[B" (.ref sv)) (As : own_A Z h0 sv ks .byte []) (hn : nn = 0) :
    own_Met l (⟨"com/example/latchkey/latchkey/LockKeysHolderFieldsPinLaw", "matches", "([BIIILjava/lang/String;)Z"⟩ : MethodName) method_6_code 5 (some .boolean) ({ frames := 2, cells := 0, slots := 0, locals := 27 } : Room) Z #[(.ref r), (.int nn), (.int pa), (.int pb), (.ref sf)] h0 n0 (fun v h' => h' = h0 ∧ v = some (.int (1 : Int32))) := by
  refine own_met (Ls := #[.val (.ref r), .val (.int nn), .val (.int pa), .val (.int pb), .val (.ref sf)]) own_pn7 hs0 (fun m => by first  | (simp [entryFrame, mkF, argsToLocals, Value.category]; done) | rfl) ?_
  intro p e s m below meth c T X
  have hi_r : h0.size > r := Ar.lt
  have hi_sv : h0.size > sv := As.lt
  have hi_sf : h0.size > sf := Ea.lt
  subst hn
  refine own_aloadN X 1 (.ref r) own_d7_0 rfl rfl rfl ?_
  refine own_nullN X 4 own_d7_1 rfl ?_
  refine own_aloadN X 5 (.ref r) own_d7_4 rfl rfl rfl ?_
  refine own_len X 6 (0 : Int32) own_d7_5 rfl Ar rfl ?_
  refine own_iloadN X 7 (0 : Int32) own_d7_6 rfl rfl ?_
  refine own_aload X 9 (.ref sf) own_d7_7 rfl rfl rfl ?_
  refine own_callV X 12 [] [(.int (0 : Int32)), (.int (0 : Int32))] own_d7_9 rfl (hw _ (List.mem_of_getElem? (i := 46) rfl)) (hw _ (List.mem_of_getElem? (i := 47) rfl)) (own_nf X.2.2.2.2.1 (hw _ (List.mem_of_getElem? (i := 49) rfl))) (hw _ (List.mem_of_getElem? (i := 49) rfl)) (hw _ (List.mem_of_getElem? (i := 48) rfl)) (hw _ (List.mem_of_getElem? (i := 37) rfl)) (hw _ (List.mem_of_getElem? (i := 50) rfl)) (by decide) Ea (own_sl0 l Z a0 hw sf cs sv ks h0 n0 X.sz OL z_cs hcs Ea Fc Fv As) (fun _ _ q => Nat.le_of_eq (congrArg Array.size q.1.symm)) rfl own_pd10 rfl rfl rfl (by decide) (Nat.le_of_ble_eq_true rfl) (by decide) (by decide) ?_
  rintro v9 T h_ X ⟨eh_, rfl⟩
  rw [eh_] at X
  show own_Ends p e below _ (T.setTop (mkF m 12 #[.val (.ref r), .val (.int (0 : Int32)), .val (.int pa), .val (.int pb), .val (.ref sf)] [(.int (0 : Int32)), (.int (0 : Int32)), (.int (0 : Int32))]))
  refine own_iadd X 13 own_d7_12 rfl ?_
  refine own_icY X 18 own_d7_13 (by decide) (by decide) (XT.ii_eq_t (by decide)) ?_
  refine own_aloadN X 19 (.ref r) own_d7_18 rfl rfl rfl ?_
  refine own_iloadN X 20 (0 : Int32) own_d7_19 rfl rfl ?_
  refine own_iloadN X 21 pa own_d7_20 rfl rfl ?_
  refine own_iloadN X 22 pb own_d7_21 rfl rfl ?_
  refine own_aload X 24 (.ref sf) own_d7_22 rfl rfl rfl ?_
  refine own_iconst X 25 (0 : Int32) own_d7_24 rfl rfl ?_
  refine own_callS X 28 [(.ref r), (.int (0 : Int32)), (.int pa), (.int pb), (.ref sf), (.int (0 : Int32))] [] own_d7_25 rfl (hw _ (List.mem_of_getElem? (i := 59) rfl)) (hw _ (List.mem_of_getElem? (i := 60) rfl)) (hw _ (List.mem_of_getElem? (i := 3) rfl)) (hw _ (List.mem_of_getElem? (i := 61) rfl)) (by decide) (own_at_hi l Z a0 hw r (0 : Int32) pa pb sf (0 : Int32) kr [] h0 n0 X.sz Ar (show ¬ (0 : Int32) < (0 : Int32) by decide)) (fun _ _ q => Nat.le_of_eq (congrArg Array.size q.1.symm)) rfl own_pd11 rfl rfl rfl (by decide) (Nat.le_of_ble_eq_true rfl) (by decide) (by decide) ?_
  rintro v25 T h_ X ⟨eh_, rfl⟩
  rw [eh_] at X
  show own_Ends p e below _ (T.setTop (mkF m 28 #[.val (.ref r), .val (.int (0 : Int32)), .val (.int pa), .val (.int pb), .val (.ref sf)] [(.int (1 : Int32))]))
  refine own_ifN X 31 own_d7_28 rfl (XT.i0_eq_f (by decide)) ?_
  refine own_aloadN X 32 (.ref r) own_d7_31 rfl rfl rfl ?_
  refine own_iloadN X 33 (0 : Int32) own_d7_32 rfl rfl ?_
  refine own_iloadN X 34 pa own_d7_33 rfl rfl ?_
  refine own_iloadN X 35 pb own_d7_34 rfl rfl ?_
  refine own_aload X 37 (.ref sf) own_d7_35 rfl rfl rfl ?_
  refine own_iconst X 38 (1 : Int32) own_d7_37 rfl rfl ?_
  refine own_callS X 41 [(.ref r), (.int (0 : Int32)), (.int pa), (.int pb), (.ref sf), (.int (1 : Int32))] [] own_d7_38 rfl (hw _ (List.mem_of_getElem? (i := 59) rfl)) (hw _ (List.mem_of_getElem? (i := 60) rfl)) (hw _ (List.mem_of_getElem? (i := 3) rfl)) (hw _ (List.mem_of_getElem? (i := 61) rfl)) (by decide) (own_at_hi l Z a0 hw r (0 : Int32) pa pb sf (1 : Int32) kr [] h0 n0 X.sz Ar (show ¬ (1 : Int32) < (0 : Int32) by decide)) (fun _ _ q => Nat.le_of_eq (congrArg Array.size q.1.symm)) rfl own_pd11 rfl rfl rfl (by decide) (Nat.le_of_ble_eq_true rfl) (by decide) (by decide) ?_
  rintro v38 T h_ X ⟨eh_, rfl⟩
  rw [eh_] at X
  show own_Ends p e below _ (T.setTop (mkF m 41 #[.val (.ref r), .val (.int (0 : Int32)), .val (.int pa), .val (.int pb), .val (.ref sf)] [(.int (1 : Int32))]))
  refine own_ifN X 44 own_d7_41 rfl (XT.i0_eq_f (by decide)) ?_
  refine own_aloadN X 45 (.ref r) own_d7_44 rfl rfl rfl ?_
  refine own_iloadN X 46 (0 : Int32) own_d7_45 rfl rfl ?_
  refine own_iloadN X 47 pa own_d7_46 rfl rfl ?_
  refine own_iloadN X 48 pb own_d7_47 rfl rfl ?_
  refine own_aload X 50 (.ref sf) own_d7_48 rfl rfl rfl ?_
  refine own_iconst X 51 (2 : Int32) own_d7_50 rfl rfl ?_
  refine own_callS X 54 [(.ref r), (.int (0 : Int32)), (.int pa), (.int pb), (.ref sf), (.int (2 : Int32))] [] own_d7_51 rfl (hw _ (List.mem_of_getElem? (i := 59) rfl)) (hw _ (List.mem_of_getElem? (i := 60) rfl)) (hw _ (List.mem_of_getElem? (i := 3) rfl)) (hw _ (List.mem_of_getElem? (i := 61) rfl)) (by decide) (own_at_hi l Z a0 hw r (0 : Int32) pa pb sf (2 : Int32) kr [] h0 n0 X.sz Ar (show ¬ (2 : Int32) < (0 : Int32) by decide)) (fun _ _ q => Nat.le_of_eq (congrArg Array.size q.1.symm)) rfl own_pd11 rfl rfl rfl (by decide) (Nat.le_of_ble_eq_true rfl) (by decide) (by decide) ?_
  rintro v51 T h_ X ⟨eh_, rfl⟩
  rw [eh_] at X
  show own_Ends p e below _ (T.setTop (mkF m 54 #[.val (.ref r), .val (.int (0 : Int32)), .val (.int pa), .val (.int pb), .val (.ref sf)] [(.int (1 : Int32))]))
  refine own_ifN X 57 own_d7_54 rfl (XT.i0_eq_f (by decide)) ?_
  refine own_aloadN X 58 (.ref r) own_d7_57 rfl rfl rfl ?_
  refine own_iloadN X 59 (0 : Int32) own_d7_58 rfl rfl ?_
  refine own_iloadN X 60 pa own_d7_59 rfl rfl ?_
  refine own_iloadN X 61 pb own_d7_60 rfl rfl ?_
  refine own_aload X 63 (.ref sf) own_d7_61 rfl rfl rfl ?_
  refine own_iconst X 64 (3 : Int32) own_d7_63 rfl rfl ?_
  refine own_callS X 67 [(.ref r), (.int (0 : Int32)), (.int pa), (.int pb), (.ref sf), (.int (3 : Int32))] [] own_d7_64 rfl (hw _ (List.mem_of_getElem? (i := 59) rfl)) (hw _ (List.mem_of_getElem? (i := 60) rfl)) (hw _ (List.mem_of_getElem? (i := 3) rfl)) (hw _ (List.mem_of_getElem? (i := 61) rfl)) (by decide) (own_at_hi l Z a0 hw r (0 : Int32) pa pb sf (3 : Int32) kr [] h0 n0 X.sz Ar (show ¬ (3 : Int32) < (0 : Int32) by decide)) (fun _ _ q => Nat.le_of_eq (congrArg Array.size q.1.symm)) rfl own_pd11 rfl rfl rfl (by decide) (Nat.le_of_ble_eq_true rfl) (by decide) (by decide) ?_
  rintro v64 T h_ X ⟨eh_, rfl⟩
  rw [eh_] at X
  show own_Ends p e below _ (T.setTop (mkF m 67 #[.val (.ref r), .val (.int (0 : Int32)), .val (.int pa), .val (.int pb), .val (.ref sf)] [(.int (1 : Int32))]))
  refine own_ifN X 70 own_d7_67 rfl (XT.i0_eq_f (by decide)) ?_
  refine own_aloadN X 71 (.ref r) own_d7_70 rfl rfl rfl ?_
  refine own_iloadN X 72 (0 : Int32) own_d7_71 rfl rfl ?_
  refine own_iloadN X 73 pa own_d7_72 rfl rfl ?_
  refine own_iloadN X 74 pb own_d7_73 rfl rfl ?_
  refine own_aload X 76 (.ref sf) own_d7_74 rfl rfl rfl ?_
  refine own_iconst X 77 (4 : Int32) own_d7_76 rfl rfl ?_
  refine own_callS X 80 [(.ref r), (.int (0 : Int32)), (.int pa), (.int pb), (.ref sf), (.int (4 : Int32))] [] own_d7_77 rfl (hw _ (List.mem_of_getElem? (i := 59) rfl)) (hw _ (List.mem_of_getElem? (i := 60) rfl)) (hw _ (List.mem_of_getElem? (i := 3) rfl)) (hw _ (List.mem_of_getElem? (i := 61) rfl)) (by decide) (own_at_hi l Z a0 hw r (0 : Int32) pa pb sf (4 : Int32) kr [] h0 n0 X.sz Ar (show ¬ (4 : Int32) < (0 : Int32) by decide)) (fun _ _ q => Nat.le_of_eq (congrArg Array.size q.1.symm)) rfl own_pd11 rfl rfl rfl (by decide) (Nat.le_of_ble_eq_true rfl) (by decide) (by decide) ?_
  rintro v77 T h_ X ⟨eh_, rfl⟩
  rw [eh_] at X
  show own_Ends p e below _ (T.setTop (mkF m 80 #[.val (.ref r), .val (.int (0 : Int32)), .val (.int pa), .val (.int pb), .val (.ref sf)] [(.int (1 : Int32))]))
  refine own_ifN X 83 own_d7_80 rfl (XT.i0_eq_f (by decide)) ?_
  refine own_aloadN X 84 (.ref r) own_d7_83 rfl rfl rfl ?_
  refine own_iloadN X 85 (0 : Int32) own_d7_84 rfl rfl ?_
  refine own_iloadN X 86 pa own_d7_85 rfl rfl ?_
  refine own_iloadN X 87 pb own_d7_86 rfl rfl ?_
  refine own_aload X 89 (.ref sf) own_d7_87 rfl rfl rfl ?_
  refine own_iconst X 90 (5 : Int32) own_d7_89 rfl rfl ?_
  refine own_callS X 93 [(.ref r), (.int (0 : Int32)), (.int pa), (.int pb), (.ref sf), (.int (5 : Int32))] [] own_d7_90 rfl (hw _ (List.mem_of_getElem? (i := 59) rfl)) (hw _ (List.mem_of_getElem? (i := 60) rfl)) (hw _ (List.mem_of_getElem? (i := 3) rfl)) (hw _ (List.mem_of_getElem? (i := 61) rfl)) (by decide) (own_at_hi l Z a0 hw r (0 : Int32) pa pb sf (5 : Int32) kr [] h0 n0 X.sz Ar (show ¬ (5 : Int32) < (0 : Int32) by decide)) (fun _ _ q => Nat.le_of_eq (congrArg Array.size q.1.symm)) rfl own_pd11 rfl rfl rfl (by decide) (Nat.le_of_ble_eq_true rfl) (by decide) (by decide) ?_
  rintro v90 T h_ X ⟨eh_, rfl⟩
  rw [eh_] at X
  show own_Ends p e below _ (T.setTop (mkF m 93 #[.val (.ref r), .val (.int (0 : Int32)), .val (.int pa), .val (.int pb), .val (.ref sf)] [(.int (1 : Int32))]))
  refine own_ifN X 96 own_d7_93 rfl (XT.i0_eq_f (by decide)) ?_
  refine own_aloadN X 97 (.ref r) own_d7_96 rfl rfl rfl ?_
  refine own_iloadN X 98 (0 : Int32) own_d7_97 rfl rfl ?_
  refine own_iloadN X 99 pa own_d7_98 rfl rfl ?_
  refine own_iloadN X 100 pb own_d7_99 rfl rfl ?_
  refine own_aload X 102 (.ref sf) own_d7_100 rfl rfl rfl ?_
  refine own_bipush X 104 (6 : Int32) own_d7_102 rfl (by decide) ?_
  refine own_callS X 107 [(.ref r), (.int (0 : Int32)), (.int pa), (.int pb), (.ref sf), (.int (6 : Int32))] [] own_d7_104 rfl (hw _ (List.mem_of_getElem? (i := 59) rfl)) (hw _ (List.mem_of_getElem? (i := 60) rfl)) (hw _ (List.mem_of_getElem? (i := 3) rfl)) (hw _ (List.mem_of_getElem? (i := 61) rfl)) (by decide) (own_at_hi l Z a0 hw r (0 : Int32) pa pb sf (6 : Int32) kr [] h0 n0 X.sz Ar (show ¬ (6 : Int32) < (0 : Int32) by decide)) (fun _ _ q => Nat.le_of_eq (congrArg Array.size q.1.symm)) rfl own_pd11 rfl rfl rfl (by decide) (Nat.le_of_ble_eq_true rfl) (by decide) (by decide) ?_
  rintro v104 T h_ X ⟨eh_, rfl⟩
  rw [eh_] at X
  show own_Ends p e below _ (T.setTop (mkF m 107 #[.val (.ref r), .val (.int (0 : Int32)), .val (.int pa), .val (.int pb), .val (.ref sf)] [(.int (1 : Int32))]))
  refine own_ifN X 110 own_d7_107 rfl (XT.i0_eq_f (by decide)) ?_
  refine own_aloadN X 111 (.ref r) own_d7_110 rfl rfl rfl ?_
  refine own_iloadN X 112 (0 : Int32) own_d7_111 rfl rfl ?_
  refine own_iloadN X 113 pa own_d7_112 rfl rfl ?_
  refine own_iloadN X 114 pb own_d7_113 rfl rfl ?_
  refine own_aload X 116 (.ref sf) own_d7_114 rfl rfl rfl ?_
  refine own_bipush X 118 (7 : Int32) own_d7_116 rfl (by decide) ?_
  refine own_callS X 121 [(.ref r), (.int (0 : Int32)), (.int pa), (.int pb), (.ref sf), (.int (7 : Int32))] [] own_d7_118 rfl (hw _ (List.mem_of_getElem? (i := 59) rfl)) (hw _ (List.mem_of_getElem? (i := 60) rfl)) (hw _ (List.mem_of_getElem? (i := 3) rfl)) (hw _ (List.mem_of_getElem? (i := 61) rfl)) (by decide) (own_at_hi l Z a0 hw r (0 : Int32) pa pb sf (7 : Int32) kr [] h0 n0 X.sz Ar (show ¬ (7 : Int32) < (0 : Int32) by decide)) (fun _ _ q => Nat.le_of_eq (congrArg Array.size q.1.symm)) rfl own_pd11 rfl rfl rfl (by decide) (Nat.le_of_ble_eq_true rfl) (by decide) (by decide) ?_
  rintro v118 T h_ X ⟨eh_, rfl⟩
  rw [eh_] at X
  show own_Ends p e below _ (T.setTop (mkF m 121 #[.val (.ref r), .val (.int (0 : Int32)), .val (.int pa), .val (.int pb), .val (.ref sf)] [(.int (1 : Int32))]))
  refine own_ifN X 124 own_d7_121 rfl (XT.i0_eq_f (by decide)) ?_
  refine own_aloadN X 125 (.ref r) own_d7_124 rfl rfl rfl ?_
  refine own_iloadN X 126 (0 : Int32) own_d7_125 rfl rfl ?_
  refine own_iloadN X 127 pa own_d7_126 rfl rfl ?_
  refine own_iloadN X 128 pb own_d7_127 rfl rfl ?_
  refine own_aload X 130 (.ref sf) own_d7_128 rfl rfl rfl ?_
  refine own_bipush X 132 (8 : Int32) own_d7_130 rfl (by decide) ?_
  refine own_callS X 135 [(.ref r), (.int (0 : Int32)), (.int pa), (.int pb), (.ref sf), (.int (8 : Int32))] [] own_d7_132 rfl (hw _ (List.mem_of_getElem? (i := 59) rfl)) (hw _ (List.mem_of_getElem? (i := 60) rfl)) (hw _ (List.mem_of_getElem? (i := 3) rfl)) (hw _ (List.mem_of_getElem? (i := 61) rfl)) (by decide) (own_at_hi l Z a0 hw r (0 : Int32) pa pb sf (8 : Int32) kr [] h0 n0 X.sz Ar (show ¬ (8 : Int32) < (0 : Int32) by decide)) (fun _ _ q => Nat.le_of_eq (congrArg Array.size q.1.symm)) rfl own_pd11 rfl rfl rfl (by decide) (Nat.le_of_ble_eq_true rfl) (by decide) (by decide) ?_
  rintro v132 T h_ X ⟨eh_, rfl⟩
  rw [eh_] at X
  show own_Ends p e below _ (T.setTop (mkF m 135 #[.val (.ref r), .val (.int (0 : Int32)), .val (.int pa), .val (.int pb), .val (.ref sf)] [(.int (1 : Int32))]))
  refine own_ifN X 138 own_d7_135 rfl (XT.i0_eq_f (by decide)) ?_
  refine own_aloadN X 139 (.ref r) own_d7_138 rfl rfl rfl ?_
  refine own_iloadN X 140 (0 : Int32) own_d7_139 rfl rfl ?_
  refine own_iloadN X 141 pa own_d7_140 rfl rfl ?_
  refine own_iloadN X 142 pb own_d7_141 rfl rfl ?_
  refine own_aload X 144 (.ref sf) own_d7_142 rfl rfl rfl ?_
  refine own_bipush X 146 (9 : Int32) own_d7_144 rfl (by decide) ?_
  refine own_callS X 149 [(.ref r), (.int (0 : Int32)), (.int pa), (.int pb), (.ref sf), (.int (9 : Int32))] [] own_d7_146 rfl (hw _ (List.mem_of_getElem? (i := 59) rfl)) (hw _ (List.mem_of_getElem? (i := 60) rfl)) (hw _ (List.mem_of_getElem? (i := 3) rfl)) (hw _ (List.mem_of_getElem? (i := 61) rfl)) (by decide) (own_at_hi l Z a0 hw r (0 : Int32) pa pb sf (9 : Int32) kr [] h0 n0 X.sz Ar (show ¬ (9 : Int32) < (0 : Int32) by decide)) (fun _ _ q => Nat.le_of_eq (congrArg Array.size q.1.symm)) rfl own_pd11 rfl rfl rfl (by decide) (Nat.le_of_ble_eq_true rfl) (by decide) (by decide) ?_
  rintro v146 T h_ X ⟨eh_, rfl⟩
  rw [eh_] at X
  show own_Ends p e below _ (T.setTop (mkF m 149 #[.val (.ref r), .val (.int (0 : Int32)), .val (.int pa), .val (.int pb), .val (.ref sf)] [(.int (1 : Int32))]))
  refine own_ifN X 152 own_d7_149 rfl (XT.i0_eq_f (by decide)) ?_
  refine own_aloadN X 153 (.ref r) own_d7_152 rfl rfl rfl ?_
  refine own_iloadN X 154 (0 : Int32) own_d7_153 rfl rfl ?_
  refine own_iloadN X 155 pa own_d7_154 rfl rfl ?_
  refine own_iloadN X 156 pb own_d7_155 rfl rfl ?_
  refine own_aload X 158 (.ref sf) own_d7_156 rfl rfl rfl ?_
  refine own_bipush X 160 (10 : Int32) own_d7_158 rfl (by decide) ?_
  refine own_callS X 163 [(.ref r), (.int (0 : Int32)), (.int pa), (.int pb), (.ref sf), (.int (10 : Int32))] [] own_d7_160 rfl (hw _ (List.mem_of_getElem? (i := 59) rfl)) (hw _ (List.mem_of_getElem? (i := 60) rfl)) (hw _ (List.mem_of_getElem? (i := 3) rfl)) (hw _ (List.mem_of_getElem? (i := 61) rfl)) (by decide) (own_at_hi l Z a0 hw r (0 : Int32) pa pb sf (10 : Int32) kr [] h0 n0 X.sz Ar (show ¬ (10 : Int32) < (0 : Int32) by decide)) (fun _ _ q => Nat.le_of_eq (congrArg Array.size q.1.symm)) rfl own_pd11 rfl rfl rfl (by decide) (Nat.le_of_ble_eq_true rfl) (by decide) (by decide) ?_
  rintro v160 T h_ X ⟨eh_, rfl⟩
  rw [eh_] at X
  show own_Ends p e below _ (T.setTop (mkF m 163 #[.val (.ref r), .val (.int (0 : Int32)), .val (.int pa), .val (.int pb), .val (.ref sf)] [(.int (1 : Int32))]))
  refine own_ifN X 166 own_d7_163 rfl (XT.i0_eq_f (by decide)) ?_
  refine own_aloadN X 167 (.ref r) own_d7_166 rfl rfl rfl ?_
  refine own_iloadN X 168 (0 : Int32) own_d7_167 rfl rfl ?_
  refine own_iloadN X 169 pa own_d7_168 rfl rfl ?_
  refine own_iloadN X 170 pb own_d7_169 rfl rfl ?_
  refine own_aload X 172 (.ref sf) own_d7_170 rfl rfl rfl ?_
  refine own_bipush X 174 (11 : Int32) own_d7_172 rfl (by decide) ?_
  refine own_callS X 177 [(.ref r), (.int (0 : Int32)), (.int pa), (.int pb), (.ref sf), (.int (11 : Int32))] [] own_d7_174 rfl (hw _ (List.mem_of_getElem? (i := 59) rfl)) (hw _ (List.mem_of_getElem? (i := 60) rfl)) (hw _ (List.mem_of_getElem? (i := 3) rfl)) (hw _ (List.mem_of_getElem? (i := 61) rfl)) (by decide) (own_at_hi l Z a0 hw r (0 : Int32) pa pb sf (11 : Int32) kr [] h0 n0 X.sz Ar (show ¬ (11 : Int32) < (0 : Int32) by decide)) (fun _ _ q => Nat.le_of_eq (congrArg Array.size q.1.symm)) rfl own_pd11 rfl rfl rfl (by decide) (Nat.le_of_ble_eq_true rfl) (by decide) (by decide) ?_
  rintro v174 T h_ X ⟨eh_, rfl⟩
  rw [eh_] at X
  show own_Ends p e below _ (T.setTop (mkF m 177 #[.val (.ref r), .val (.int (0 : Int32)), .val (.int pa), .val (.int pb), .val (.ref sf)] [(.int (1 : Int32))]))
  refine own_ifN X 180 own_d7_177 rfl (XT.i0_eq_f (by decide)) ?_
  refine own_aloadN X 181 (.ref r) own_d7_180 rfl rfl rfl ?_
  refine own_iloadN X 182 (0 : Int32) own_d7_181 rfl rfl ?_
  refine own_iloadN X 183 pa own_d7_182 rfl rfl ?_
  refine own_iloadN X 184 pb own_d7_183 rfl rfl ?_
  refine own_aload X 186 (.ref sf) own_d7_184 rfl rfl rfl ?_
  refine own_bipush X 188 (12 : Int32) own_d7_186 rfl (by decide) ?_
  refine own_callS X 191 [(.ref r), (.int (0 : Int32)), (.int pa), (.int pb), (.ref sf), (.int (12 : Int32))] [] own_d7_188 rfl (hw _ (List.mem_of_getElem? (i := 59) rfl)) (hw _ (List.mem_of_getElem? (i := 60) rfl)) (hw _ (List.mem_of_getElem? (i := 3) rfl)) (hw _ (List.mem_of_getElem? (i := 61) rfl)) (by decide) (own_at_hi l Z a0 hw r (0 : Int32) pa pb sf (12 : Int32) kr [] h0 n0 X.sz Ar (show ¬ (12 : Int32) < (0 : Int32) by decide)) (fun _ _ q => Nat.le_of_eq (congrArg Array.size q.1.symm)) rfl own_pd11 rfl rfl rfl (by decide) (Nat.le_of_ble_eq_true rfl) (by decide) (by decide) ?_
  rintro v188 T h_ X ⟨eh_, rfl⟩
  rw [eh_] at X
  show own_Ends p e below _ (T.setTop (mkF m 191 #[.val (.ref r), .val (.int (0 : Int32)), .val (.int pa), .val (.int pb), .val (.ref sf)] [(.int (1 : Int32))]))
  refine own_ifN X 194 own_d7_191 rfl (XT.i0_eq_f (by decide)) ?_
  refine own_iconst X 195 (1 : Int32) own_d7_194 rfl rfl ?_
  refine own_goto X 199 own_d7_195 (by decide) (by decide) ?_
  exact own_retN X .boolean own_d7_199 rfl (by simp) (by decide) (by decide) (⟨rfl, rfl⟩)
set_option maxRecDepth 65536 in
set_option maxHeartbeats 40000000 in
theorem own_mt0_6 (l : Launch) (Z : State) (a0 : Array Value) (hw : ∀ d ∈ tables_1, d.before a0 Z = true) (r : Addr) (nn : Int32) (pa : Int32) (pb : Int32) (sf : Addr) (kr : ClassId) (cs : Int32) (sv : Addr) (ks : ClassId) (fo : Value) (h0 : Heap) (n0 : Nat) (hs0 : n0 ≤ h0.size) (Ar : own_A Z h0 r kr .byte [(.int 58), (.int 104), (.int 111), (.int 108), (.int 100), (.int 115)]) (OL : Old Z n0 h0) (z_cs : Sta Z Z.heap "java/lang/String" "COMPACT_STRINGS" "Z" (.int cs)) (hcs : ¬ cs = 0) (z_fo : Sta Z Z.heap "jdk/internal/util/Preconditions" "SIOOBE_FORMATTER" "Ljava/util/function/BiFunction;" fo) (hfo : fo.isRef = true) (Ea : Exa Z h0 sf "java/lang/String") (Fc : Fld Z h0 sf "java/lang/String" "coder" "B" (.int 0)) (Fv : Fld Z h0 sf "java/lang/String" "value" "[B" (.ref sv)) (As : own_A Z h0 sv ks .byte [(.int 58), (.int 104), (.int 111), (.int 108), (.int 100), (.int 115)]) (hn : nn = 0) :
    own_Met l (⟨"com/example/latchkey/latchkey/LockKeysHolderFieldsPinLaw", "matches", "([BIIILjava/lang/String;)Z"⟩ : MethodName) method_6_code 5 (some .boolean) ({ frames := 5, cells := 0, slots := 0, locals := 71 } : Room) Z #[(.ref r), (.int nn), (.int pa), (.int pb), (.ref sf)] h0 n0 (fun v h' => h' = h0 ∧ v = some (.int (1 : Int32))) := by
  refine own_met (Ls := #[.val (.ref r), .val (.int nn), .val (.int pa), .val (.int pb), .val (.ref sf)]) own_pn7 hs0 (fun m => by first  | (simp [entryFrame, mkF, argsToLocals, Value.category]; done) | rfl) ?_
  intro p e s m below meth c T X
  have hi_r : h0.size > r := Ar.lt
  have hi_sv : h0.size > sv := As.lt
  have hi_sf : h0.size > sf := Ea.lt
  subst hn
  refine own_aloadN X 1 (.ref r) own_d7_0 rfl rfl rfl ?_
  refine own_nullN X 4 own_d7_1 rfl ?_
  refine own_aloadN X 5 (.ref r) own_d7_4 rfl rfl rfl ?_
  refine own_len X 6 (6 : Int32) own_d7_5 rfl Ar rfl ?_
  refine own_iloadN X 7 (0 : Int32) own_d7_6 rfl rfl ?_
  refine own_aload X 9 (.ref sf) own_d7_7 rfl rfl rfl ?_
  refine own_callV X 12 [] [(.int (0 : Int32)), (.int (6 : Int32))] own_d7_9 rfl (hw _ (List.mem_of_getElem? (i := 46) rfl)) (hw _ (List.mem_of_getElem? (i := 47) rfl)) (own_nf X.2.2.2.2.1 (hw _ (List.mem_of_getElem? (i := 49) rfl))) (hw _ (List.mem_of_getElem? (i := 49) rfl)) (hw _ (List.mem_of_getElem? (i := 48) rfl)) (hw _ (List.mem_of_getElem? (i := 37) rfl)) (hw _ (List.mem_of_getElem? (i := 50) rfl)) (by decide) Ea (own_sl6 l Z a0 hw sf cs sv ks h0 n0 X.sz OL z_cs hcs Ea Fc Fv As) (fun _ _ q => Nat.le_of_eq (congrArg Array.size q.1.symm)) rfl own_pd10 rfl rfl rfl (by decide) (Nat.le_of_ble_eq_true rfl) (by decide) (by decide) ?_
  rintro v9 T h_ X ⟨eh_, rfl⟩
  rw [eh_] at X
  show own_Ends p e below _ (T.setTop (mkF m 12 #[.val (.ref r), .val (.int (0 : Int32)), .val (.int pa), .val (.int pb), .val (.ref sf)] [(.int (6 : Int32)), (.int (0 : Int32)), (.int (6 : Int32))]))
  refine own_iadd X 13 own_d7_12 rfl ?_
  refine own_icY X 18 own_d7_13 (by decide) (by decide) (XT.ii_eq_t (by decide)) ?_
  refine own_aloadN X 19 (.ref r) own_d7_18 rfl rfl rfl ?_
  refine own_iloadN X 20 (0 : Int32) own_d7_19 rfl rfl ?_
  refine own_iloadN X 21 pa own_d7_20 rfl rfl ?_
  refine own_iloadN X 22 pb own_d7_21 rfl rfl ?_
  refine own_aload X 24 (.ref sf) own_d7_22 rfl rfl rfl ?_
  refine own_iconst X 25 (0 : Int32) own_d7_24 rfl rfl ?_
  refine own_callS X 28 [(.ref r), (.int (0 : Int32)), (.int pa), (.int pb), (.ref sf), (.int (0 : Int32))] [] own_d7_25 rfl (hw _ (List.mem_of_getElem? (i := 59) rfl)) (hw _ (List.mem_of_getElem? (i := 60) rfl)) (hw _ (List.mem_of_getElem? (i := 3) rfl)) (hw _ (List.mem_of_getElem? (i := 61) rfl)) (by decide) (own_at_sf l Z a0 hw r (0 : Int32) pa pb sf (0 : Int32) kr [(.int 58), (.int 104), (.int 111), (.int 108), (.int 100), (.int 115)] 0 58 cs sv ks [(.int 58), (.int 104), (.int 111), (.int 108), (.int 100), (.int 115)] 0 58 fo h0 n0 X.sz Ar (show (0 : Int32) < (6 : Int32) by decide) (by decide) (by decide) (by decide) rfl OL z_cs hcs z_fo hfo Ea Fc Fv As (by decide) (by decide) (show (0 : Int32) - (0 : Int32) < (6 : Int32) by decide) rfl (by decide)) (fun _ _ q => Nat.le_of_eq (congrArg Array.size q.1.symm)) rfl own_pd11 rfl rfl rfl (by decide) (Nat.le_of_ble_eq_true rfl) (by decide) (by decide) ?_
  rintro v25 T h_ X ⟨eh_, rfl⟩
  rw [eh_] at X
  show own_Ends p e below _ (T.setTop (mkF m 28 #[.val (.ref r), .val (.int (0 : Int32)), .val (.int pa), .val (.int pb), .val (.ref sf)] [(.int (1 : Int32))]))
  refine own_ifN X 31 own_d7_28 rfl (XT.i0_eq_f (by decide)) ?_
  refine own_aloadN X 32 (.ref r) own_d7_31 rfl rfl rfl ?_
  refine own_iloadN X 33 (0 : Int32) own_d7_32 rfl rfl ?_
  refine own_iloadN X 34 pa own_d7_33 rfl rfl ?_
  refine own_iloadN X 35 pb own_d7_34 rfl rfl ?_
  refine own_aload X 37 (.ref sf) own_d7_35 rfl rfl rfl ?_
  refine own_iconst X 38 (1 : Int32) own_d7_37 rfl rfl ?_
  refine own_callS X 41 [(.ref r), (.int (0 : Int32)), (.int pa), (.int pb), (.ref sf), (.int (1 : Int32))] [] own_d7_38 rfl (hw _ (List.mem_of_getElem? (i := 59) rfl)) (hw _ (List.mem_of_getElem? (i := 60) rfl)) (hw _ (List.mem_of_getElem? (i := 3) rfl)) (hw _ (List.mem_of_getElem? (i := 61) rfl)) (by decide) (own_at_sf l Z a0 hw r (0 : Int32) pa pb sf (1 : Int32) kr [(.int 58), (.int 104), (.int 111), (.int 108), (.int 100), (.int 115)] 1 104 cs sv ks [(.int 58), (.int 104), (.int 111), (.int 108), (.int 100), (.int 115)] 1 104 fo h0 n0 X.sz Ar (show (1 : Int32) < (6 : Int32) by decide) (by decide) (by decide) (by decide) rfl OL z_cs hcs z_fo hfo Ea Fc Fv As (by decide) (by decide) (show (1 : Int32) - (0 : Int32) < (6 : Int32) by decide) rfl (by decide)) (fun _ _ q => Nat.le_of_eq (congrArg Array.size q.1.symm)) rfl own_pd11 rfl rfl rfl (by decide) (Nat.le_of_ble_eq_true rfl) (by decide) (by decide) ?_
  rintro v38 T h_ X ⟨eh_, rfl⟩
  rw [eh_] at X
  show own_Ends p e below _ (T.setTop (mkF m 41 #[.val (.ref r), .val (.int (0 : Int32)), .val (.int pa), .val (.int pb), .val (.ref sf)] [(.int (1 : Int32))]))
  refine own_ifN X 44 own_d7_41 rfl (XT.i0_eq_f (by decide)) ?_
  refine own_aloadN X 45 (.ref r) own_d7_44 rfl rfl rfl ?_
  refine own_iloadN X 46 (0 : Int32) own_d7_45 rfl rfl ?_
  refine own_iloadN X 47 pa own_d7_46 rfl rfl ?_
  refine own_iloadN X 48 pb own_d7_47 rfl rfl ?_
  refine own_aload X 50 (.ref sf) own_d7_48 rfl rfl rfl ?_
  refine own_iconst X 51 (2 : Int32) own_d7_50 rfl rfl ?_
  refine own_callS X 54 [(.ref r), (.int (0 : Int32)), (.int pa), (.int pb), (.ref sf), (.int (2 : Int32))] [] own_d7_51 rfl (hw _ (List.mem_of_getElem? (i := 59) rfl)) (hw _ (List.mem_of_getElem? (i := 60) rfl)) (hw _ (List.mem_of_getElem? (i := 3) rfl)) (hw _ (List.mem_of_getElem? (i := 61) rfl)) (by decide) (own_at_sf l Z a0 hw r (0 : Int32) pa pb sf (2 : Int32) kr [(.int 58), (.int 104), (.int 111), (.int 108), (.int 100), (.int 115)] 2 111 cs sv ks [(.int 58), (.int 104), (.int 111), (.int 108), (.int 100), (.int 115)] 2 111 fo h0 n0 X.sz Ar (show (2 : Int32) < (6 : Int32) by decide) (by decide) (by decide) (by decide) rfl OL z_cs hcs z_fo hfo Ea Fc Fv As (by decide) (by decide) (show (2 : Int32) - (0 : Int32) < (6 : Int32) by decide) rfl (by decide)) (fun _ _ q => Nat.le_of_eq (congrArg Array.size q.1.symm)) rfl own_pd11 rfl rfl rfl (by decide) (Nat.le_of_ble_eq_true rfl) (by decide) (by decide) ?_
  rintro v51 T h_ X ⟨eh_, rfl⟩
  rw [eh_] at X
  show own_Ends p e below _ (T.setTop (mkF m 54 #[.val (.ref r), .val (.int (0 : Int32)), .val (.int pa), .val (.int pb), .val (.ref sf)] [(.int (1 : Int32))]))
  refine own_ifN X 57 own_d7_54 rfl (XT.i0_eq_f (by decide)) ?_
  refine own_aloadN X 58 (.ref r) own_d7_57 rfl rfl rfl ?_
  refine own_iloadN X 59 (0 : Int32) own_d7_58 rfl rfl ?_
  refine own_iloadN X 60 pa own_d7_59 rfl rfl ?_
  refine own_iloadN X 61 pb own_d7_60 rfl rfl ?_
  refine own_aload X 63 (.ref sf) own_d7_61 rfl rfl rfl ?_
  refine own_iconst X 64 (3 : Int32) own_d7_63 rfl rfl ?_
  refine own_callS X 67 [(.ref r), (.int (0 : Int32)), (.int pa), (.int pb), (.ref sf), (.int (3 : Int32))] [] own_d7_64 rfl (hw _ (List.mem_of_getElem? (i := 59) rfl)) (hw _ (List.mem_of_getElem? (i := 60) rfl)) (hw _ (List.mem_of_getElem? (i := 3) rfl)) (hw _ (List.mem_of_getElem? (i := 61) rfl)) (by decide) (own_at_sf l Z a0 hw r (0 : Int32) pa pb sf (3 : Int32) kr [(.int 58), (.int 104), (.int 111), (.int 108), (.int 100), (.int 115)] 3 108 cs sv ks [(.int 58), (.int 104), (.int 111), (.int 108), (.int 100), (.int 115)] 3 108 fo h0 n0 X.sz Ar (show (3 : Int32) < (6 : Int32) by decide) (by decide) (by decide) (by decide) rfl OL z_cs hcs z_fo hfo Ea Fc Fv As (by decide) (by decide) (show (3 : Int32) - (0 : Int32) < (6 : Int32) by decide) rfl (by decide)) (fun _ _ q => Nat.le_of_eq (congrArg Array.size q.1.symm)) rfl own_pd11 rfl rfl rfl (by decide) (Nat.le_of_ble_eq_true rfl) (by decide) (by decide) ?_
  rintro v64 T h_ X ⟨eh_, rfl⟩
  rw [eh_] at X
  show own_Ends p e below _ (T.setTop (mkF m 67 #[.val (.ref r), .val (.int (0 : Int32)), .val (.int pa), .val (.int pb), .val (.ref sf)] [(.int (1 : Int32))]))
  refine own_ifN X 70 own_d7_67 rfl (XT.i0_eq_f (by decide)) ?_
  refine own_aloadN X 71 (.ref r) own_d7_70 rfl rfl rfl ?_
  refine own_iloadN X 72 (0 : Int32) own_d7_71 rfl rfl ?_
  refine own_iloadN X 73 pa own_d7_72 rfl rfl ?_
  refine own_iloadN X 74 pb own_d7_73 rfl rfl ?_
  refine own_aload X 76 (.ref sf) own_d7_74 rfl rfl rfl ?_
  refine own_iconst X 77 (4 : Int32) own_d7_76 rfl rfl ?_
  refine own_callS X 80 [(.ref r), (.int (0 : Int32)), (.int pa), (.int pb), (.ref sf), (.int (4 : Int32))] [] own_d7_77 rfl (hw _ (List.mem_of_getElem? (i := 59) rfl)) (hw _ (List.mem_of_getElem? (i := 60) rfl)) (hw _ (List.mem_of_getElem? (i := 3) rfl)) (hw _ (List.mem_of_getElem? (i := 61) rfl)) (by decide) (own_at_sf l Z a0 hw r (0 : Int32) pa pb sf (4 : Int32) kr [(.int 58), (.int 104), (.int 111), (.int 108), (.int 100), (.int 115)] 4 100 cs sv ks [(.int 58), (.int 104), (.int 111), (.int 108), (.int 100), (.int 115)] 4 100 fo h0 n0 X.sz Ar (show (4 : Int32) < (6 : Int32) by decide) (by decide) (by decide) (by decide) rfl OL z_cs hcs z_fo hfo Ea Fc Fv As (by decide) (by decide) (show (4 : Int32) - (0 : Int32) < (6 : Int32) by decide) rfl (by decide)) (fun _ _ q => Nat.le_of_eq (congrArg Array.size q.1.symm)) rfl own_pd11 rfl rfl rfl (by decide) (Nat.le_of_ble_eq_true rfl) (by decide) (by decide) ?_
  rintro v77 T h_ X ⟨eh_, rfl⟩
  rw [eh_] at X
  show own_Ends p e below _ (T.setTop (mkF m 80 #[.val (.ref r), .val (.int (0 : Int32)), .val (.int pa), .val (.int pb), .val (.ref sf)] [(.int (1 : Int32))]))
  refine own_ifN X 83 own_d7_80 rfl (XT.i0_eq_f (by decide)) ?_
  refine own_aloadN X 84 (.ref r) own_d7_83 rfl rfl rfl ?_
  refine own_iloadN X 85 (0 : Int32) own_d7_84 rfl rfl ?_
  refine own_iloadN X 86 pa own_d7_85 rfl rfl ?_
  refine own_iloadN X 87 pb own_d7_86 rfl rfl ?_
  refine own_aload X 89 (.ref sf) own_d7_87 rfl rfl rfl ?_
  refine own_iconst X 90 (5 : Int32) own_d7_89 rfl rfl ?_
  refine own_callS X 93 [(.ref r), (.int (0 : Int32)), (.int pa), (.int pb), (.ref sf), (.int (5 : Int32))] [] own_d7_90 rfl (hw _ (List.mem_of_getElem? (i := 59) rfl)) (hw _ (List.mem_of_getElem? (i := 60) rfl)) (hw _ (List.mem_of_getElem? (i := 3) rfl)) (hw _ (List.mem_of_getElem? (i := 61) rfl)) (by decide) (own_at_sf l Z a0 hw r (0 : Int32) pa pb sf (5 : Int32) kr [(.int 58), (.int 104), (.int 111), (.int 108), (.int 100), (.int 115)] 5 115 cs sv ks [(.int 58), (.int 104), (.int 111), (.int 108), (.int 100), (.int 115)] 5 115 fo h0 n0 X.sz Ar (show (5 : Int32) < (6 : Int32) by decide) (by decide) (by decide) (by decide) rfl OL z_cs hcs z_fo hfo Ea Fc Fv As (by decide) (by decide) (show (5 : Int32) - (0 : Int32) < (6 : Int32) by decide) rfl (by decide)) (fun _ _ q => Nat.le_of_eq (congrArg Array.size q.1.symm)) rfl own_pd11 rfl rfl rfl (by decide) (Nat.le_of_ble_eq_true rfl) (by decide) (by decide) ?_
  rintro v90 T h_ X ⟨eh_, rfl⟩
  rw [eh_] at X
  show own_Ends p e below _ (T.setTop (mkF m 93 #[.val (.ref r), .val (.int (0 : Int32)), .val (.int pa), .val (.int pb), .val (.ref sf)] [(.int (1 : Int32))]))
  refine own_ifN X 96 own_d7_93 rfl (XT.i0_eq_f (by decide)) ?_
  refine own_aloadN X 97 (.ref r) own_d7_96 rfl rfl rfl ?_
  refine own_iloadN X 98 (0 : Int32) own_d7_97 rfl rfl ?_
  refine own_iloadN X 99 pa own_d7_98 rfl rfl ?_
  refine own_iloadN X 100 pb own_d7_99 rfl rfl ?_
  refine own_aload X 102 (.ref sf) own_d7_100 rfl rfl rfl ?_
  refine own_bipush X 104 (6 : Int32) own_d7_102 rfl (by decide) ?_
  refine own_callS X 107 [(.ref r), (.int (0 : Int32)), (.int pa), (.int pb), (.ref sf), (.int (6 : Int32))] [] own_d7_104 rfl (hw _ (List.mem_of_getElem? (i := 59) rfl)) (hw _ (List.mem_of_getElem? (i := 60) rfl)) (hw _ (List.mem_of_getElem? (i := 3) rfl)) (hw _ (List.mem_of_getElem? (i := 61) rfl)) (by decide) (own_at_hi l Z a0 hw r (0 : Int32) pa pb sf (6 : Int32) kr [(.int 58), (.int 104), (.int 111), (.int 108), (.int 100), (.int 115)] h0 n0 X.sz Ar (show ¬ (6 : Int32) < (6 : Int32) by decide)) (fun _ _ q => Nat.le_of_eq (congrArg Array.size q.1.symm)) rfl own_pd11 rfl rfl rfl (by decide) (Nat.le_of_ble_eq_true rfl) (by decide) (by decide) ?_
  rintro v104 T h_ X ⟨eh_, rfl⟩
  rw [eh_] at X
  show own_Ends p e below _ (T.setTop (mkF m 107 #[.val (.ref r), .val (.int (0 : Int32)), .val (.int pa), .val (.int pb), .val (.ref sf)] [(.int (1 : Int32))]))
  refine own_ifN X 110 own_d7_107 rfl (XT.i0_eq_f (by decide)) ?_
  refine own_aloadN X 111 (.ref r) own_d7_110 rfl rfl rfl ?_
  refine own_iloadN X 112 (0 : Int32) own_d7_111 rfl rfl ?_
  refine own_iloadN X 113 pa own_d7_112 rfl rfl ?_
  refine own_iloadN X 114 pb own_d7_113 rfl rfl ?_
  refine own_aload X 116 (.ref sf) own_d7_114 rfl rfl rfl ?_
  refine own_bipush X 118 (7 : Int32) own_d7_116 rfl (by decide) ?_
  refine own_callS X 121 [(.ref r), (.int (0 : Int32)), (.int pa), (.int pb), (.ref sf), (.int (7 : Int32))] [] own_d7_118 rfl (hw _ (List.mem_of_getElem? (i := 59) rfl)) (hw _ (List.mem_of_getElem? (i := 60) rfl)) (hw _ (List.mem_of_getElem? (i := 3) rfl)) (hw _ (List.mem_of_getElem? (i := 61) rfl)) (by decide) (own_at_hi l Z a0 hw r (0 : Int32) pa pb sf (7 : Int32) kr [(.int 58), (.int 104), (.int 111), (.int 108), (.int 100), (.int 115)] h0 n0 X.sz Ar (show ¬ (7 : Int32) < (6 : Int32) by decide)) (fun _ _ q => Nat.le_of_eq (congrArg Array.size q.1.symm)) rfl own_pd11 rfl rfl rfl (by decide) (Nat.le_of_ble_eq_true rfl) (by decide) (by decide) ?_
  rintro v118 T h_ X ⟨eh_, rfl⟩
  rw [eh_] at X
  show own_Ends p e below _ (T.setTop (mkF m 121 #[.val (.ref r), .val (.int (0 : Int32)), .val (.int pa), .val (.int pb), .val (.ref sf)] [(.int (1 : Int32))]))
  refine own_ifN X 124 own_d7_121 rfl (XT.i0_eq_f (by decide)) ?_
  refine own_aloadN X 125 (.ref r) own_d7_124 rfl rfl rfl ?_
  refine own_iloadN X 126 (0 : Int32) own_d7_125 rfl rfl ?_
  refine own_iloadN X 127 pa own_d7_126 rfl rfl ?_
  refine own_iloadN X 128 pb own_d7_127 rfl rfl ?_
  refine own_aload X 130 (.ref sf) own_d7_128 rfl rfl rfl ?_
  refine own_bipush X 132 (8 : Int32) own_d7_130 rfl (by decide) ?_
  refine own_callS X 135 [(.ref r), (.int (0 : Int32)), (.int pa), (.int pb), (.ref sf), (.int (8 : Int32))] [] own_d7_132 rfl (hw _ (List.mem_of_getElem? (i := 59) rfl)) (hw _ (List.mem_of_getElem? (i := 60) rfl)) (hw _ (List.mem_of_getElem? (i := 3) rfl)) (hw _ (List.mem_of_getElem? (i := 61) rfl)) (by decide) (own_at_hi l Z a0 hw r (0 : Int32) pa pb sf (8 : Int32) kr [(.int 58), (.int 104), (.int 111), (.int 108), (.int 100), (.int 115)] h0 n0 X.sz Ar (show ¬ (8 : Int32) < (6 : Int32) by decide)) (fun _ _ q => Nat.le_of_eq (congrArg Array.size q.1.symm)) rfl own_pd11 rfl rfl rfl (by decide) (Nat.le_of_ble_eq_true rfl) (by decide) (by decide) ?_
  rintro v132 T h_ X ⟨eh_, rfl⟩
  rw [eh_] at X
  show own_Ends p e below _ (T.setTop (mkF m 135 #[.val (.ref r), .val (.int (0 : Int32)), .val (.int pa), .val (.int pb), .val (.ref sf)] [(.int (1 : Int32))]))
  refine own_ifN X 138 own_d7_135 rfl (XT.i0_eq_f (by decide)) ?_
  refine own_aloadN X 139 (.ref r) own_d7_138 rfl rfl rfl ?_
  refine own_iloadN X 140 (0 : Int32) own_d7_139 rfl rfl ?_
  refine own_iloadN X 141 pa own_d7_140 rfl rfl ?_
  refine own_iloadN X 142 pb own_d7_141 rfl rfl ?_
  refine own_aload X 144 (.ref sf) own_d7_142 rfl rfl rfl ?_
  refine own_bipush X 146 (9 : Int32) own_d7_144 rfl (by decide) ?_
  refine own_callS X 149 [(.ref r), (.int (0 : Int32)), (.int pa), (.int pb), (.ref sf), (.int (9 : Int32))] [] own_d7_146 rfl (hw _ (List.mem_of_getElem? (i := 59) rfl)) (hw _ (List.mem_of_getElem? (i := 60) rfl)) (hw _ (List.mem_of_getElem? (i := 3) rfl)) (hw _ (List.mem_of_getElem? (i := 61) rfl)) (by decide) (own_at_hi l Z a0 hw r (0 : Int32) pa pb sf (9 : Int32) kr [(.int 58), (.int 104), (.int 111), (.int 108), (.int 100), (.int 115)] h0 n0 X.sz Ar (show ¬ (9 : Int32) < (6 : Int32) by decide)) (fun _ _ q => Nat.le_of_eq (congrArg Array.size q.1.symm)) rfl own_pd11 rfl rfl rfl (by decide) (Nat.le_of_ble_eq_true rfl) (by decide) (by decide) ?_
  rintro v146 T h_ X ⟨eh_, rfl⟩
  rw [eh_] at X
  show own_Ends p e below _ (T.setTop (mkF m 149 #[.val (.ref r), .val (.int (0 : Int32)), .val (.int pa), .val (.int pb), .val (.ref sf)] [(.int (1 : Int32))]))
  refine own_ifN X 152 own_d7_149 rfl (XT.i0_eq_f (by decide)) ?_
  refine own_aloadN X 153 (.ref r) own_d7_152 rfl rfl rfl ?_
  refine own_iloadN X 154 (0 : Int32) own_d7_153 rfl rfl ?_
  refine own_iloadN X 155 pa own_d7_154 rfl rfl ?_
  refine own_iloadN X 156 pb own_d7_155 rfl rfl ?_
  refine own_aload X 158 (.ref sf) own_d7_156 rfl rfl rfl ?_
  refine own_bipush X 160 (10 : Int32) own_d7_158 rfl (by decide) ?_
  refine own_callS X 163 [(.ref r), (.int (0 : Int32)), (.int pa), (.int pb), (.ref sf), (.int (10 : Int32))] [] own_d7_160 rfl (hw _ (List.mem_of_getElem? (i := 59) rfl)) (hw _ (List.mem_of_getElem? (i := 60) rfl)) (hw _ (List.mem_of_getElem? (i := 3) rfl)) (hw _ (List.mem_of_getElem? (i := 61) rfl)) (by decide) (own_at_hi l Z a0 hw r (0 : Int32) pa pb sf (10 : Int32) kr [(.int 58), (.int 104), (.int 111), (.int 108), (.int 100), (.int 115)] h0 n0 X.sz Ar (show ¬ (10 : Int32) < (6 : Int32) by decide)) (fun _ _ q => Nat.le_of_eq (congrArg Array.size q.1.symm)) rfl own_pd11 rfl rfl rfl (by decide) (Nat.le_of_ble_eq_true rfl) (by decide) (by decide) ?_
  rintro v160 T h_ X ⟨eh_, rfl⟩
  rw [eh_] at X
  show own_Ends p e below _ (T.setTop (mkF m 163 #[.val (.ref r), .val (.int (0 : Int32)), .val (.int pa), .val (.int pb), .val (.ref sf)] [(.int (1 : Int32))]))
  refine own_ifN X 166 own_d7_163 rfl (XT.i0_eq_f (by decide)) ?_
  refine own_aloadN X 167 (.ref r) own_d7_166 rfl rfl rfl ?_
  refine own_iloadN X 168 (0 : Int32) own_d7_167 rfl rfl ?_
  refine own_iloadN X 169 pa own_d7_168 rfl rfl ?_
  refine own_iloadN X 170 pb own_d7_169 rfl rfl ?_
  refine own_aload X 172 (.ref sf) own_d7_170 rfl rfl rfl ?_
  refine own_bipush X 174 (11 : Int32) own_d7_172 rfl (by decide) ?_
  refine own_callS X 177 [(.ref r), (.int (0 : Int32)), (.int pa), (.int pb), (.ref sf), (.int (11 : Int32))] [] own_d7_174 rfl (hw _ (List.mem_of_getElem? (i := 59) rfl)) (hw _ (List.mem_of_getElem? (i := 60) rfl)) (hw _ (List.mem_of_getElem? (i := 3) rfl)) (hw _ (List.mem_of_getElem? (i := 61) rfl)) (by decide) (own_at_hi l Z a0 hw r (0 : Int32) pa pb sf (11 : Int32) kr [(.int 58), (.int 104), (.int 111), (.int 108), (.int 100), (.int 115)] h0 n0 X.sz Ar (show ¬ (11 : Int32) < (6 : Int32) by decide)) (fun _ _ q => Nat.le_of_eq (congrArg Array.size q.1.symm)) rfl own_pd11 rfl rfl rfl (by decide) (Nat.le_of_ble_eq_true rfl) (by decide) (by decide) ?_
  rintro v174 T h_ X ⟨eh_, rfl⟩
  rw [eh_] at X
  show own_Ends p e below _ (T.setTop (mkF m 177 #[.val (.ref r), .val (.int (0 : Int32)), .val (.int pa), .val (.int pb), .val (.ref sf)] [(.int (1 : Int32))]))
  refine own_ifN X 180 own_d7_177 rfl (XT.i0_eq_f (by decide)) ?_
  refine own_aloadN X 181 (.ref r) own_d7_180 rfl rfl rfl ?_
  refine own_iloadN X 182 (0 : Int32) own_d7_181 rfl rfl ?_
  refine own_iloadN X 183 pa own_d7_182 rfl rfl ?_
  refine own_iloadN X 184 pb own_d7_183 rfl rfl ?_
  refine own_aload X 186 (.ref sf) own_d7_184 rfl rfl rfl ?_
  refine own_bipush X 188 (12 : Int32) own_d7_186 rfl (by decide) ?_
  refine own_callS X 191 [(.ref r), (.int (0 : Int32)), (.int pa), (.int pb), (.ref sf), (.int (12 : Int32))] [] own_d7_188 rfl (hw _ (List.mem_of_getElem? (i := 59) rfl)) (hw _ (List.mem_of_getElem? (i := 60) rfl)) (hw _ (List.mem_of_getElem? (i := 3) rfl)) (hw _ (List.mem_of_getElem? (i := 61) rfl)) (by decide) (own_at_hi l Z a0 hw r (0 : Int32) pa pb sf (12 : Int32) kr [(.int 58), (.int 104), (.int 111), (.int 108), (.int 100), (.int 115)] h0 n0 X.sz Ar (show ¬ (12 : Int32) < (6 : Int32) by decide)) (fun _ _ q => Nat.le_of_eq (congrArg Array.size q.1.symm)) rfl own_pd11 rfl rfl rfl (by decide) (Nat.le_of_ble_eq_true rfl) (by decide) (by decide) ?_
  rintro v188 T h_ X ⟨eh_, rfl⟩
  rw [eh_] at X
  show own_Ends p e below _ (T.setTop (mkF m 191 #[.val (.ref r), .val (.int (0 : Int32)), .val (.int pa), .val (.int pb), .val (.ref sf)] [(.int (1 : Int32))]))
  refine own_ifN X 194 own_d7_191 rfl (XT.i0_eq_f (by decide)) ?_
  refine own_iconst X 195 (1 : Int32) own_d7_194 rfl rfl ?_
  refine own_goto X 199 own_d7_195 (by decide) (by decide) ?_
  exact own_retN X .boolean own_d7_199 rfl (by simp) (by decide) (by decide) (⟨rfl, rfl⟩)
set_option maxRecDepth 65536 in
set_option maxHeartbeats 40000000 in
theorem own_mt0_8 (l : Launch) (Z : State) (a0 : Array Value) (hw : ∀ d ∈ tables_1, d.before a0 Z = true) (r : Addr) (nn : Int32) (pa : Int32) (pb : Int32) (sf : Addr) (kr : ClassId) (cs : Int32) (sv : Addr) (ks : ClassId) (fo : Value) (h0 : Heap) (n0 : Nat) (hs0 : n0 ≤ h0.size) (Ar : own_A Z h0 r kr .byte [(.int 58), (.int 119), (.int 97), (.int 105), (.int 116), (.int 105), (.int 110), (.int 103)]) (OL : Old Z n0 h0) (z_cs : Sta Z Z.heap "java/lang/String" "COMPACT_STRINGS" "Z" (.int cs)) (hcs : ¬ cs = 0) (z_fo : Sta Z Z.heap "jdk/internal/util/Preconditions" "SIOOBE_FORMATTER" "Ljava/util/function/BiFunction;" fo) (hfo : fo.isRef = true) (Ea : Exa Z h0 sf "java/lang/String") (Fc : Fld Z h0 sf "java/lang/String" "coder" "B" (.int 0)) (Fv : Fld Z h0 sf "java/lang/String" "value" "[B" (.ref sv)) (As : own_A Z h0 sv ks .byte [(.int 58), (.int 119), (.int 97), (.int 105), (.int 116), (.int 105), (.int 110), (.int 103)]) (hn : nn = 0) :
    own_Met l (⟨"com/example/latchkey/latchkey/LockKeysHolderFieldsPinLaw", "matches", "([BIIILjava/lang/String;)Z"⟩ : MethodName) method_6_code 5 (some .boolean) ({ frames := 5, cells := 0, slots := 0, locals := 71 } : Room) Z #[(.ref r), (.int nn), (.int pa), (.int pb), (.ref sf)] h0 n0 (fun v h' => h' = h0 ∧ v = some (.int (1 : Int32))) := by
  refine own_met (Ls := #[.val (.ref r), .val (.int nn), .val (.int pa), .val (.int pb), .val (.ref sf)]) own_pn7 hs0 (fun m => by first  | (simp [entryFrame, mkF, argsToLocals, Value.category]; done) | rfl) ?_
  intro p e s m below meth c T X
  have hi_r : h0.size > r := Ar.lt
  have hi_sv : h0.size > sv := As.lt
  have hi_sf : h0.size > sf := Ea.lt
  subst hn
  refine own_aloadN X 1 (.ref r) own_d7_0 rfl rfl rfl ?_
  refine own_nullN X 4 own_d7_1 rfl ?_
  refine own_aloadN X 5 (.ref r) own_d7_4 rfl rfl rfl ?_
  refine own_len X 6 (8 : Int32) own_d7_5 rfl Ar rfl ?_
  refine own_iloadN X 7 (0 : Int32) own_d7_6 rfl rfl ?_
  refine own_aload X 9 (.ref sf) own_d7_7 rfl rfl rfl ?_
  refine own_callV X 12 [] [(.int (0 : Int32)), (.int (8 : Int32))] own_d7_9 rfl (hw _ (List.mem_of_getElem? (i := 46) rfl)) (hw _ (List.mem_of_getElem? (i := 47) rfl)) (own_nf X.2.2.2.2.1 (hw _ (List.mem_of_getElem? (i := 49) rfl))) (hw _ (List.mem_of_getElem? (i := 49) rfl)) (hw _ (List.mem_of_getElem? (i := 48) rfl)) (hw _ (List.mem_of_getElem? (i := 37) rfl)) (hw _ (List.mem_of_getElem? (i := 50) rfl)) (by decide) Ea (own_sl8 l Z a0 hw sf cs sv ks h0 n0 X.sz OL z_cs hcs Ea Fc Fv As) (fun _ _ q => Nat.le_of_eq (congrArg Array.size q.1.symm)) rfl own_pd10 rfl rfl rfl (by decide) (Nat.le_of_ble_eq_true rfl) (by decide) (by decide) ?_
  rintro v9 T h_ X ⟨eh_, rfl⟩
  rw [eh_] at X
  show own_Ends p e below _ (T.setTop (mkF m 12 #[.val (.ref r), .val (.int (0 : Int32)), .val (.int pa), .val (.int pb), .val (.ref sf)] [(.int (8 : Int32)), (.int (0 : Int32)), (.int (8 : Int32))]))
  refine own_iadd X 13 own_d7_12 rfl ?_
  refine own_icY X 18 own_d7_13 (by decide) (by decide) (XT.ii_eq_t (by decide)) ?_
  refine own_aloadN X 19 (.ref r) own_d7_18 rfl rfl rfl ?_
  refine own_iloadN X 20 (0 : Int32) own_d7_19 rfl rfl ?_
  refine own_iloadN X 21 pa own_d7_20 rfl rfl ?_
  refine own_iloadN X 22 pb own_d7_21 rfl rfl ?_
  refine own_aload X 24 (.ref sf) own_d7_22 rfl rfl rfl ?_
  refine own_iconst X 25 (0 : Int32) own_d7_24 rfl rfl ?_
  refine own_callS X 28 [(.ref r), (.int (0 : Int32)), (.int pa), (.int pb), (.ref sf), (.int (0 : Int32))] [] own_d7_25 rfl (hw _ (List.mem_of_getElem? (i := 59) rfl)) (hw _ (List.mem_of_getElem? (i := 60) rfl)) (hw _ (List.mem_of_getElem? (i := 3) rfl)) (hw _ (List.mem_of_getElem? (i := 61) rfl)) (by decide) (own_at_sf l Z a0 hw r (0 : Int32) pa pb sf (0 : Int32) kr [(.int 58), (.int 119), (.int 97), (.int 105), (.int 116), (.int 105), (.int 110), (.int 103)] 0 58 cs sv ks [(.int 58), (.int 119), (.int 97), (.int 105), (.int 116), (.int 105), (.int 110), (.int 103)] 0 58 fo h0 n0 X.sz Ar (show (0 : Int32) < (8 : Int32) by decide) (by decide) (by decide) (by decide) rfl OL z_cs hcs z_fo hfo Ea Fc Fv As (by decide) (by decide) (show (0 : Int32) - (0 : Int32) < (8 : Int32) by decide) rfl (by decide)) (fun _ _ q => Nat.le_of_eq (congrArg Array.size q.1.symm)) rfl own_pd11 rfl rfl rfl (by decide) (Nat.le_of_ble_eq_true rfl) (by decide) (by decide) ?_
  rintro v25 T h_ X ⟨eh_, rfl⟩
  rw [eh_] at X
  show own_Ends p e below _ (T.setTop (mkF m 28 #[.val (.ref r), .val (.int (0 : Int32)), .val (.int pa), .val (.int pb), .val (.ref sf)] [(.int (1 : Int32))]))
  refine own_ifN X 31 own_d7_28 rfl (XT.i0_eq_f (by decide)) ?_
  refine own_aloadN X 32 (.ref r) own_d7_31 rfl rfl rfl ?_
  refine own_iloadN X 33 (0 : Int32) own_d7_32 rfl rfl ?_
  refine own_iloadN X 34 pa own_d7_33 rfl rfl ?_
  refine own_iloadN X 35 pb own_d7_34 rfl rfl ?_
  refine own_aload X 37 (.ref sf) own_d7_35 rfl rfl rfl ?_
  refine own_iconst X 38 (1 : Int32) own_d7_37 rfl rfl ?_
  refine own_callS X 41 [(.ref r), (.int (0 : Int32)), (.int pa), (.int pb), (.ref sf), (.int (1 : Int32))] [] own_d7_38 rfl (hw _ (List.mem_of_getElem? (i := 59) rfl)) (hw _ (List.mem_of_getElem? (i := 60) rfl)) (hw _ (List.mem_of_getElem? (i := 3) rfl)) (hw _ (List.mem_of_getElem? (i := 61) rfl)) (by decide) (own_at_sf l Z a0 hw r (0 : Int32) pa pb sf (1 : Int32) kr [(.int 58), (.int 119), (.int 97), (.int 105), (.int 116), (.int 105), (.int 110), (.int 103)] 1 119 cs sv ks [(.int 58), (.int 119), (.int 97), (.int 105), (.int 116), (.int 105), (.int 110), (.int 103)] 1 119 fo h0 n0 X.sz Ar (show (1 : Int32) < (8 : Int32) by decide) (by decide) (by decide) (by decide) rfl OL z_cs hcs z_fo hfo Ea Fc Fv As (by decide) (by decide) (show (1 : Int32) - (0 : Int32) < (8 : Int32) by decide) rfl (by decide)) (fun _ _ q => Nat.le_of_eq (congrArg Array.size q.1.symm)) rfl own_pd11 rfl rfl rfl (by decide) (Nat.le_of_ble_eq_true rfl) (by decide) (by decide) ?_
  rintro v38 T h_ X ⟨eh_, rfl⟩
  rw [eh_] at X
  show own_Ends p e below _ (T.setTop (mkF m 41 #[.val (.ref r), .val (.int (0 : Int32)), .val (.int pa), .val (.int pb), .val (.ref sf)] [(.int (1 : Int32))]))
  refine own_ifN X 44 own_d7_41 rfl (XT.i0_eq_f (by decide)) ?_
  refine own_aloadN X 45 (.ref r) own_d7_44 rfl rfl rfl ?_
  refine own_iloadN X 46 (0 : Int32) own_d7_45 rfl rfl ?_
  refine own_iloadN X 47 pa own_d7_46 rfl rfl ?_
  refine own_iloadN X 48 pb own_d7_47 rfl rfl ?_
  refine own_aload X 50 (.ref sf) own_d7_48 rfl rfl rfl ?_
  refine own_iconst X 51 (2 : Int32) own_d7_50 rfl rfl ?_
  refine own_callS X 54 [(.ref r), (.int (0 : Int32)), (.int pa), (.int pb), (.ref sf), (.int (2 : Int32))] [] own_d7_51 rfl (hw _ (List.mem_of_getElem? (i := 59) rfl)) (hw _ (List.mem_of_getElem? (i := 60) rfl)) (hw _ (List.mem_of_getElem? (i := 3) rfl)) (hw _ (List.mem_of_getElem? (i := 61) rfl)) (by decide) (own_at_sf l Z a0 hw r (0 : Int32) pa pb sf (2 : Int32) kr [(.int 58), (.int 119), (.int 97), (.int 105), (.int 116), (.int 105), (.int 110), (.int 103)] 2 97 cs sv ks [(.int 58), (.int 119), (.int 97), (.int 105), (.int 116), (.int 105), (.int 110), (.int 103)] 2 97 fo h0 n0 X.sz Ar (show (2 : Int32) < (8 : Int32) by decide) (by decide) (by decide) (by decide) rfl OL z_cs hcs z_fo hfo Ea Fc Fv As (by decide) (by decide) (show (2 : Int32) - (0 : Int32) < (8 : Int32) by decide) rfl (by decide)) (fun _ _ q => Nat.le_of_eq (congrArg Array.size q.1.symm)) rfl own_pd11 rfl rfl rfl (by decide) (Nat.le_of_ble_eq_true rfl) (by decide) (by decide) ?_
  rintro v51 T h_ X ⟨eh_, rfl⟩
  rw [eh_] at X
  show own_Ends p e below _ (T.setTop (mkF m 54 #[.val (.ref r), .val (.int (0 : Int32)), .val (.int pa), .val (.int pb), .val (.ref sf)] [(.int (1 : Int32))]))
  refine own_ifN X 57 own_d7_54 rfl (XT.i0_eq_f (by decide)) ?_
  refine own_aloadN X 58 (.ref r) own_d7_57 rfl rfl rfl ?_
  refine own_iloadN X 59 (0 : Int32) own_d7_58 rfl rfl ?_
  refine own_iloadN X 60 pa own_d7_59 rfl rfl ?_
  refine own_iloadN X 61 pb own_d7_60 rfl rfl ?_
  refine own_aload X 63 (.ref sf) own_d7_61 rfl rfl rfl ?_
  refine own_iconst X 64 (3 : Int32) own_d7_63 rfl rfl ?_
  refine own_callS X 67 [(.ref r), (.int (0 : Int32)), (.int pa), (.int pb), (.ref sf), (.int (3 : Int32))] [] own_d7_64 rfl (hw _ (List.mem_of_getElem? (i := 59) rfl)) (hw _ (List.mem_of_getElem? (i := 60) rfl)) (hw _ (List.mem_of_getElem? (i := 3) rfl)) (hw _ (List.mem_of_getElem? (i := 61) rfl)) (by decide) (own_at_sf l Z a0 hw r (0 : Int32) pa pb sf (3 : Int32) kr [(.int 58), (.int 119), (.int 97), (.int 105), (.int 116), (.int 105), (.int 110), (.int 103)] 3 105 cs sv ks [(.int 58), (.int 119), (.int 97), (.int 105), (.int 116), (.int 105), (.int 110), (.int 103)] 3 105 fo h0 n0 X.sz Ar (show (3 : Int32) < (8 : Int32) by decide) (by decide) (by decide) (by decide) rfl OL z_cs hcs z_fo hfo Ea Fc Fv As (by decide) (by decide) (show (3 : Int32) - (0 : Int32) < (8 : Int32) by decide) rfl (by decide)) (fun _ _ q => Nat.le_of_eq (congrArg Array.size q.1.symm)) rfl own_pd11 rfl rfl rfl (by decide) (Nat.le_of_ble_eq_true rfl) (by decide) (by decide) ?_
  rintro v64 T h_ X ⟨eh_, rfl⟩
  rw [eh_] at X
  show own_Ends p e below _ (T.setTop (mkF m 67 #[.val (.ref r), .val (.int (0 : Int32)), .val (.int pa), .val (.int pb), .val (.ref sf)] [(.int (1 : Int32))]))
  refine own_ifN X 70 own_d7_67 rfl (XT.i0_eq_f (by decide)) ?_
  refine own_aloadN X 71 (.ref r) own_d7_70 rfl rfl rfl ?_
  refine own_iloadN X 72 (0 : Int32) own_d7_71 rfl rfl ?_
  refine own_iloadN X 73 pa own_d7_72 rfl rfl ?_
  refine own_iloadN X 74 pb own_d7_73 rfl rfl ?_
  refine own_aload X 76 (.ref sf) own_d7_74 rfl rfl rfl ?_
  refine own_iconst X 77 (4 : Int32) own_d7_76 rfl rfl ?_
  refine own_callS X 80 [(.ref r), (.int (0 : Int32)), (.int pa), (.int pb), (.ref sf), (.int (4 : Int32))] [] own_d7_77 rfl (hw _ (List.mem_of_getElem? (i := 59) rfl)) (hw _ (List.mem_of_getElem? (i := 60) rfl)) (hw _ (List.mem_of_getElem? (i := 3) rfl)) (hw _ (List.mem_of_getElem? (i := 61) rfl)) (by decide) (own_at_sf l Z a0 hw r (0 : Int32) pa pb sf (4 : Int32) kr [(.int 58), (.int 119), (.int 97), (.int 105), (.int 116), (.int 105), (.int 110), (.int 103)] 4 116 cs sv ks [(.int 58), (.int 119), (.int 97), (.int 105), (.int 116), (.int 105), (.int 110), (.int 103)] 4 116 fo h0 n0 X.sz Ar (show (4 : Int32) < (8 : Int32) by decide) (by decide) (by decide) (by decide) rfl OL z_cs hcs z_fo hfo Ea Fc Fv As (by decide) (by decide) (show (4 : Int32) - (0 : Int32) < (8 : Int32) by decide) rfl (by decide)) (fun _ _ q => Nat.le_of_eq (congrArg Array.size q.1.symm)) rfl own_pd11 rfl rfl rfl (by decide) (Nat.le_of_ble_eq_true rfl) (by decide) (by decide) ?_
  rintro v77 T h_ X ⟨eh_, rfl⟩
  rw [eh_] at X
  show own_Ends p e below _ (T.setTop (mkF m 80 #[.val (.ref r), .val (.int (0 : Int32)), .val (.int pa), .val (.int pb), .val (.ref sf)] [(.int (1 : Int32))]))
  refine own_ifN X 83 own_d7_80 rfl (XT.i0_eq_f (by decide)) ?_
  refine own_aloadN X 84 (.ref r) own_d7_83 rfl rfl rfl ?_
  refine own_iloadN X 85 (0 : Int32) own_d7_84 rfl rfl ?_
  refine own_iloadN X 86 pa own_d7_85 rfl rfl ?_
  refine own_iloadN X 87 pb own_d7_86 rfl rfl ?_
  refine own_aload X 89 (.ref sf) own_d7_87 rfl rfl rfl ?_
  refine own_iconst X 90 (5 : Int32) own_d7_89 rfl rfl ?_
  refine own_callS X 93 [(.ref r), (.int (0 : Int32)), (.int pa), (.int pb), (.ref sf), (.int (5 : Int32))] [] own_d7_90 rfl (hw _ (List.mem_of_getElem? (i := 59) rfl)) (hw _ (List.mem_of_getElem? (i := 60) rfl)) (hw _ (List.mem_of_getElem? (i := 3) rfl)) (hw _ (List.mem_of_getElem? (i := 61) rfl)) (by decide) (own_at_sf l Z a0 hw r (0 : Int32) pa pb sf (5 : Int32) kr [(.int 58), (.int 119), (.int 97), (.int 105), (.int 116), (.int 105), (.int 110), (.int 103)] 5 105 cs sv ks [(.int 58), (.int 119), (.int 97), (.int 105), (.int 116), (.int 105), (.int 110), (.int 103)] 5 105 fo h0 n0 X.sz Ar (show (5 : Int32) < (8 : Int32) by decide) (by decide) (by decide) (by decide) rfl OL z_cs hcs z_fo hfo Ea Fc Fv As (by decide) (by decide) (show (5 : Int32) - (0 : Int32) < (8 : Int32) by decide) rfl (by decide)) (fun _ _ q => Nat.le_of_eq (congrArg Array.size q.1.symm)) rfl own_pd11 rfl rfl rfl (by decide) (Nat.le_of_ble_eq_true rfl) (by decide) (by decide) ?_
  rintro v90 T h_ X ⟨eh_, rfl⟩
  rw [eh_] at X
  show own_Ends p e below _ (T.setTop (mkF m 93 #[.val (.ref r), .val (.int (0 : Int32)), .val (.int pa), .val (.int pb), .val (.ref sf)] [(.int (1 : Int32))]))
  refine own_ifN X 96 own_d7_93 rfl (XT.i0_eq_f (by decide)) ?_
  refine own_aloadN X 97 (.ref r) own_d7_96 rfl rfl rfl ?_
  refine own_iloadN X 98 (0 : Int32) own_d7_97 rfl rfl ?_
  refine own_iloadN X 99 pa own_d7_98 rfl rfl ?_
  refine own_iloadN X 100 pb own_d7_99 rfl rfl ?_
  refine own_aload X 102 (.ref sf) own_d7_100 rfl rfl rfl ?_
  refine own_bipush X 104 (6 : Int32) own_d7_102 rfl (by decide) ?_
  refine own_callS X 107 [(.ref r), (.int (0 : Int32)), (.int pa), (.int pb), (.ref sf), (.int (6 : Int32))] [] own_d7_104 rfl (hw _ (List.mem_of_getElem? (i := 59) rfl)) (hw _ (List.mem_of_getElem? (i := 60) rfl)) (hw _ (List.mem_of_getElem? (i := 3) rfl)) (hw _ (List.mem_of_getElem? (i := 61) rfl)) (by decide) (own_at_sf l Z a0 hw r (0 : Int32) pa pb sf (6 : Int32) kr [(.int 58), (.int 119), (.int 97), (.int 105), (.int 116), (.int 105), (.int 110), (.int 103)] 6 110 cs sv ks [(.int 58), (.int 119), (.int 97), (.int 105), (.int 116), (.int 105), (.int 110), (.int 103)] 6 110 fo h0 n0 X.sz Ar (show (6 : Int32) < (8 : Int32) by decide) (by decide) (by decide) (by decide) rfl OL z_cs hcs z_fo hfo Ea Fc Fv As (by decide) (by decide) (show (6 : Int32) - (0 : Int32) < (8 : Int32) by decide) rfl (by decide)) (fun _ _ q => Nat.le_of_eq (congrArg Array.size q.1.symm)) rfl own_pd11 rfl rfl rfl (by decide) (Nat.le_of_ble_eq_true rfl) (by decide) (by decide) ?_
  rintro v104 T h_ X ⟨eh_, rfl⟩
  rw [eh_] at X
  show own_Ends p e below _ (T.setTop (mkF m 107 #[.val (.ref r), .val (.int (0 : Int32)), .val (.int pa), .val (.int pb), .val (.ref sf)] [(.int (1 : Int32))]))
  refine own_ifN X 110 own_d7_107 rfl (XT.i0_eq_f (by decide)) ?_
  refine own_aloadN X 111 (.ref r) own_d7_110 rfl rfl rfl ?_
  refine own_iloadN X 112 (0 : Int32) own_d7_111 rfl rfl ?_
  refine own_iloadN X 113 pa own_d7_112 rfl rfl ?_
  refine own_iloadN X 114 pb own_d7_113 rfl rfl ?_
  refine own_aload X 116 (.ref sf) own_d7_114 rfl rfl rfl ?_
  refine own_bipush X 118 (7 : Int32) own_d7_116 rfl (by decide) ?_
  refine own_callS X 121 [(.ref r), (.int (0 : Int32)), (.int pa), (.int pb), (.ref sf), (.int (7 : Int32))] [] own_d7_118 rfl (hw _ (List.mem_of_getElem? (i := 59) rfl)) (hw _ (List.mem_of_getElem? (i := 60) rfl)) (hw _ (List.mem_of_getElem? (i := 3) rfl)) (hw _ (List.mem_of_getElem? (i := 61) rfl)) (by decide) (own_at_sf l Z a0 hw r (0 : Int32) pa pb sf (7 : Int32) kr [(.int 58), (.int 119), (.int 97), (.int 105), (.int 116), (.int 105), (.int 110), (.int 103)] 7 103 cs sv ks [(.int 58), (.int 119), (.int 97), (.int 105), (.int 116), (.int 105), (.int 110), (.int 103)] 7 103 fo h0 n0 X.sz Ar (show (7 : Int32) < (8 : Int32) by decide) (by decide) (by decide) (by decide) rfl OL z_cs hcs z_fo hfo Ea Fc Fv As (by decide) (by decide) (show (7 : Int32) - (0 : Int32) < (8 : Int32) by decide) rfl (by decide)) (fun _ _ q => Nat.le_of_eq (congrArg Array.size q.1.symm)) rfl own_pd11 rfl rfl rfl (by decide) (Nat.le_of_ble_eq_true rfl) (by decide) (by decide) ?_
  rintro v118 T h_ X ⟨eh_, rfl⟩
  rw [eh_] at X
  show own_Ends p e below _ (T.setTop (mkF m 121 #[.val (.ref r), .val (.int (0 : Int32)), .val (.int pa), .val (.int pb), .val (.ref sf)] [(.int (1 : Int32))]))
  refine own_ifN X 124 own_d7_121 rfl (XT.i0_eq_f (by decide)) ?_
  refine own_aloadN X 125 (.ref r) own_d7_124 rfl rfl rfl ?_
  refine own_iloadN X 126 (0 : Int32) own_d7_125 rfl rfl ?_
  refine own_iloadN X 127 pa own_d7_126 rfl rfl ?_
  refine own_iloadN X 128 pb own_d7_127 rfl rfl ?_
  refine own_aload X 130 (.ref sf) own_d7_128 rfl rfl rfl ?_
  refine own_bipush X 132 (8 : Int32) own_d7_130 rfl (by decide) ?_
  refine own_callS X 135 [(.ref r), (.int (0 : Int32)), (.int pa), (.int pb), (.ref sf), (.int (8 : Int32))] [] own_d7_132 rfl (hw _ (List.mem_of_getElem? (i := 59) rfl)) (hw _ (List.mem_of_getElem? (i := 60) rfl)) (hw _ (List.mem_of_getElem? (i := 3) rfl)) (hw _ (List.mem_of_getElem? (i := 61) rfl)) (by decide) (own_at_hi l Z a0 hw r (0 : Int32) pa pb sf (8 : Int32) kr [(.int 58), (.int 119), (.int 97), (.int 105), (.int 116), (.int 105), (.int 110), (.int 103)] h0 n0 X.sz Ar (show ¬ (8 : Int32) < (8 : Int32) by decide)) (fun _ _ q => Nat.le_of_eq (congrArg Array.size q.1.symm)) rfl own_pd11 rfl rfl rfl (by decide) (Nat.le_of_ble_eq_true rfl) (by decide) (by decide) ?_
  rintro v132 T h_ X ⟨eh_, rfl⟩
  rw [eh_] at X
  show own_Ends p e below _ (T.setTop (mkF m 135 #[.val (.ref r), .val (.int (0 : Int32)), .val (.int pa), .val (.int pb), .val (.ref sf)] [(.int (1 : Int32))]))
  refine own_ifN X 138 own_d7_135 rfl (XT.i0_eq_f (by decide)) ?_
  refine own_aloadN X 139 (.ref r) own_d7_138 rfl rfl rfl ?_
  refine own_iloadN X 140 (0 : Int32) own_d7_139 rfl rfl ?_
  refine own_iloadN X 141 pa own_d7_140 rfl rfl ?_
  refine own_iloadN X 142 pb own_d7_141 rfl rfl ?_
  refine own_aload X 144 (.ref sf) own_d7_142 rfl rfl rfl ?_
  refine own_bipush X 146 (9 : Int32) own_d7_144 rfl (by decide) ?_
  refine own_callS X 149 [(.ref r), (.int (0 : Int32)), (.int pa), (.int pb), (.ref sf), (.int (9 : Int32))] [] own_d7_146 rfl (hw _ (List.mem_of_getElem? (i := 59) rfl)) (hw _ (List.mem_of_getElem? (i := 60) rfl)) (hw _ (List.mem_of_getElem? (i := 3) rfl)) (hw _ (List.mem_of_getElem? (i := 61) rfl)) (by decide) (own_at_hi l Z a0 hw r (0 : Int32) pa pb sf (9 : Int32) kr [(.int 58), (.int 119), (.int 97), (.int 105), (.int 116), (.int 105), (.int 110), (.int 103)] h0 n0 X.sz Ar (show ¬ (9 : Int32) < (8 : Int32) by decide)) (fun _ _ q => Nat.le_of_eq (congrArg Array.size q.1.symm)) rfl own_pd11 rfl rfl rfl (by decide) (Nat.le_of_ble_eq_true rfl) (by decide) (by decide) ?_
  rintro v146 T h_ X ⟨eh_, rfl⟩
  rw [eh_] at X
  show own_Ends p e below _ (T.setTop (mkF m 149 #[.val (.ref r), .val (.int (0 : Int32)), .val (.int pa), .val (.int pb), .val (.ref sf)] [(.int (1 : Int32))]))
  refine own_ifN X 152 own_d7_149 rfl (XT.i0_eq_f (by decide)) ?_
  refine own_aloadN X 153 (.ref r) own_d7_152 rfl rfl rfl ?_
  refine own_iloadN X 154 (0 : Int32) own_d7_153 rfl rfl ?_
  refine own_iloadN X 155 pa own_d7_154 rfl rfl ?_
  refine own_iloadN X 156 pb own_d7_155 rfl rfl ?_
  refine own_aload X 158 (.ref sf) own_d7_156 rfl rfl rfl ?_
  refine own_bipush X 160 (10 : Int32) own_d7_158 rfl (by decide) ?_
  refine own_callS X 163 [(.ref r), (.int (0 : Int32)), (.int pa), (.int pb), (.ref sf), (.int (10 : Int32))] [] own_d7_160 rfl (hw _ (List.mem_of_getElem? (i := 59) rfl)) (hw _ (List.mem_of_getElem? (i := 60) rfl)) (hw _ (List.mem_of_getElem? (i := 3) rfl)) (hw _ (List.mem_of_getElem? (i := 61) rfl)) (by decide) (own_at_hi l Z a0 hw r (0 : Int32) pa pb sf (10 : Int32) kr [(.int 58), (.int 119), (.int 97), (.int 105), (.int 116), (.int 105), (.int 110), (.int 103)] h0 n0 X.sz Ar (show ¬ (10 : Int32) < (8 : Int32) by decide)) (fun _ _ q => Nat.le_of_eq (congrArg Array.size q.1.symm)) rfl own_pd11 rfl rfl rfl (by decide) (Nat.le_of_ble_eq_true rfl) (by decide) (by decide) ?_
  rintro v160 T h_ X ⟨eh_, rfl⟩
  rw [eh_] at X
  show own_Ends p e below _ (T.setTop (mkF m 163 #[.val (.ref r), .val (.int (0 : Int32)), .val (.int pa), .val (.int pb), .val (.ref sf)] [(.int (1 : Int32))]))
  refine own_ifN X 166 own_d7_163 rfl (XT.i0_eq_f (by decide)) ?_
  refine own_aloadN X 167 (.ref r) own_d7_166 rfl rfl rfl ?_
  refine own_iloadN X 168 (0 : Int32) own_d7_167 rfl rfl ?_
  refine own_iloadN X 169 pa own_d7_168 rfl rfl ?_
  refine own_iloadN X 170 pb own_d7_169 rfl rfl ?_
  refine own_aload X 172 (.ref sf) own_d7_170 rfl rfl rfl ?_
  refine own_bipush X 174 (11 : Int32) own_d7_172 rfl (by decide) ?_
  refine own_callS X 177 [(.ref r), (.int (0 : Int32)), (.int pa), (.int pb), (.ref sf), (.int (11 : Int32))] [] own_d7_174 rfl (hw _ (List.mem_of_getElem? (i := 59) rfl)) (hw _ (List.mem_of_getElem? (i := 60) rfl)) (hw _ (List.mem_of_getElem? (i := 3) rfl)) (hw _ (List.mem_of_getElem? (i := 61) rfl)) (by decide) (own_at_hi l Z a0 hw r (0 : Int32) pa pb sf (11 : Int32) kr [(.int 58), (.int 119), (.int 97), (.int 105), (.int 116), (.int 105), (.int 110), (.int 103)] h0 n0 X.sz Ar (show ¬ (11 : Int32) < (8 : Int32) by decide)) (fun _ _ q => Nat.le_of_eq (congrArg Array.size q.1.symm)) rfl own_pd11 rfl rfl rfl (by decide) (Nat.le_of_ble_eq_true rfl) (by decide) (by decide) ?_
  rintro v174 T h_ X ⟨eh_, rfl⟩
  rw [eh_] at X
  show own_Ends p e below _ (T.setTop (mkF m 177 #[.val (.ref r), .val (.int (0 : Int32)), .val (.int pa), .val (.int pb), .val (.ref sf)] [(.int (1 : Int32))]))
  refine own_ifN X 180 own_d7_177 rfl (XT.i0_eq_f (by decide)) ?_
  refine own_aloadN X 181 (.ref r) own_d7_180 rfl rfl rfl ?_
  refine own_iloadN X 182 (0 : Int32) own_d7_181 rfl rfl ?_
  refine own_iloadN X 183 pa own_d7_182 rfl rfl ?_
  refine own_iloadN X 184 pb own_d7_183 rfl rfl ?_
  refine own_aload X 186 (.ref sf) own_d7_184 rfl rfl rfl ?_
  refine own_bipush X 188 (12 : Int32) own_d7_186 rfl (by decide) ?_
  refine own_callS X 191 [(.ref r), (.int (0 : Int32)), (.int pa), (.int pb), (.ref sf), (.int (12 : Int32))] [] own_d7_188 rfl (hw _ (List.mem_of_getElem? (i := 59) rfl)) (hw _ (List.mem_of_getElem? (i := 60) rfl)) (hw _ (List.mem_of_getElem? (i := 3) rfl)) (hw _ (List.mem_of_getElem? (i := 61) rfl)) (by decide) (own_at_hi l Z a0 hw r (0 : Int32) pa pb sf (12 : Int32) kr [(.int 58), (.int 119), (.int 97), (.int 105), (.int 116), (.int 105), (.int 110), (.int 103)] h0 n0 X.sz Ar (show ¬ (12 : Int32) < (8 : Int32) by decide)) (fun _ _ q => Nat.le_of_eq (congrArg Array.size q.1.symm)) rfl own_pd11 rfl rfl rfl (by decide) (Nat.le_of_ble_eq_true rfl) (by decide) (by decide) ?_
  rintro v188 T h_ X ⟨eh_, rfl⟩
  rw [eh_] at X
  show own_Ends p e below _ (T.setTop (mkF m 191 #[.val (.ref r), .val (.int (0 : Int32)), .val (.int pa), .val (.int pb), .val (.ref sf)] [(.int (1 : Int32))]))
  refine own_ifN X 194 own_d7_191 rfl (XT.i0_eq_f (by decide)) ?_
  refine own_iconst X 195 (1 : Int32) own_d7_194 rfl rfl ?_
  refine own_goto X 199 own_d7_195 (by decide) (by decide) ?_
  exact own_retN X .boolean own_d7_199 rfl (by simp) (by decide) (by decide) (⟨rfl, rfl⟩)
set_option maxRecDepth 65536 in
set_option maxHeartbeats 40000000 in
theorem own_mt1_0 (l : Launch) (Z : State) (a0 : Array Value) (hw : ∀ d ∈ tables_1, d.before a0 Z = true) (r : Addr) (nn : Int32) (pa : Int32) (pb : Int32) (sf : Addr) (kr : ClassId) (cs : Int32) (sv : Addr) (ks : ClassId) (fo : Value) (h0 : Heap) (n0 : Nat) (hs0 : n0 ≤ h0.size) (Ar : own_A Z h0 r kr .byte [(.int (own_ob pa pb (0 : Int32)))]) (OL : Old Z n0 h0) (z_cs : Sta Z Z.heap "java/lang/String" "COMPACT_STRINGS" "Z" (.int cs)) (hcs : ¬ cs = 0) (z_fo : Sta Z Z.heap "jdk/internal/util/Preconditions" "SIOOBE_FORMATTER" "Ljava/util/function/BiFunction;" fo) (hfo : fo.isRef = true) (Ea : Exa Z h0 sf "java/lang/String") (Fc : Fld Z h0 sf "java/lang/String" "coder" "B" (.int 0)) (Fv : Fld Z h0 sf "java/lang/String" "value" "[B" (.ref sv)) (As : own_A Z h0 sv ks .byte []) (hn : nn = 1) :
    own_Met l (⟨"com/example/latchkey/latchkey/LockKeysHolderFieldsPinLaw", "matches", "([BIIILjava/lang/String;)Z"⟩ : MethodName) method_6_code 5 (some .boolean) ({ frames := 2, cells := 0, slots := 0, locals := 32 } : Room) Z #[(.ref r), (.int nn), (.int pa), (.int pb), (.ref sf)] h0 n0 (fun v h' => h' = h0 ∧ v = some (.int (1 : Int32))) := by
  refine own_met (Ls := #[.val (.ref r), .val (.int nn), .val (.int pa), .val (.int pb), .val (.ref sf)]) own_pn7 hs0 (fun m => by first  | (simp [entryFrame, mkF, argsToLocals, Value.category]; done) | rfl) ?_
  intro p e s m below meth c T X
  have hi_r : h0.size > r := Ar.lt
  have hi_sv : h0.size > sv := As.lt
  have hi_sf : h0.size > sf := Ea.lt
  subst hn
  refine own_aloadN X 1 (.ref r) own_d7_0 rfl rfl rfl ?_
  refine own_nullN X 4 own_d7_1 rfl ?_
  refine own_aloadN X 5 (.ref r) own_d7_4 rfl rfl rfl ?_
  refine own_len X 6 (1 : Int32) own_d7_5 rfl Ar rfl ?_
  refine own_iloadN X 7 (1 : Int32) own_d7_6 rfl rfl ?_
  refine own_aload X 9 (.ref sf) own_d7_7 rfl rfl rfl ?_
  refine own_callV X 12 [] [(.int (1 : Int32)), (.int (1 : Int32))] own_d7_9 rfl (hw _ (List.mem_of_getElem? (i := 46) rfl)) (hw _ (List.mem_of_getElem? (i := 47) rfl)) (own_nf X.2.2.2.2.1 (hw _ (List.mem_of_getElem? (i := 49) rfl))) (hw _ (List.mem_of_getElem? (i := 49) rfl)) (hw _ (List.mem_of_getElem? (i := 48) rfl)) (hw _ (List.mem_of_getElem? (i := 37) rfl)) (hw _ (List.mem_of_getElem? (i := 50) rfl)) (by decide) Ea (own_sl0 l Z a0 hw sf cs sv ks h0 n0 X.sz OL z_cs hcs Ea Fc Fv As) (fun _ _ q => Nat.le_of_eq (congrArg Array.size q.1.symm)) rfl own_pd10 rfl rfl rfl (by decide) (Nat.le_of_ble_eq_true rfl) (by decide) (by decide) ?_
  rintro v9 T h_ X ⟨eh_, rfl⟩
  rw [eh_] at X
  show own_Ends p e below _ (T.setTop (mkF m 12 #[.val (.ref r), .val (.int (1 : Int32)), .val (.int pa), .val (.int pb), .val (.ref sf)] [(.int (0 : Int32)), (.int (1 : Int32)), (.int (1 : Int32))]))
  refine own_iadd X 13 own_d7_12 rfl ?_
  refine own_icY X 18 own_d7_13 (by decide) (by decide) (XT.ii_eq_t (by decide)) ?_
  refine own_aloadN X 19 (.ref r) own_d7_18 rfl rfl rfl ?_
  refine own_iloadN X 20 (1 : Int32) own_d7_19 rfl rfl ?_
  refine own_iloadN X 21 pa own_d7_20 rfl rfl ?_
  refine own_iloadN X 22 pb own_d7_21 rfl rfl ?_
  refine own_aload X 24 (.ref sf) own_d7_22 rfl rfl rfl ?_
  refine own_iconst X 25 (0 : Int32) own_d7_24 rfl rfl ?_
  refine own_callS X 28 [(.ref r), (.int (1 : Int32)), (.int pa), (.int pb), (.ref sf), (.int (0 : Int32))] [] own_d7_25 rfl (hw _ (List.mem_of_getElem? (i := 59) rfl)) (hw _ (List.mem_of_getElem? (i := 60) rfl)) (hw _ (List.mem_of_getElem? (i := 3) rfl)) (hw _ (List.mem_of_getElem? (i := 61) rfl)) (by decide) (own_at_ob l Z a0 hw r (1 : Int32) pa pb sf (0 : Int32) kr [(.int (own_ob pa pb (0 : Int32)))] 0 h0 n0 X.sz Ar (show (0 : Int32) < (1 : Int32) by decide) (by decide) (by decide) (by decide) rfl) (fun _ _ q => Nat.le_of_eq (congrArg Array.size q.1.symm)) rfl own_pd11 rfl rfl rfl (by decide) (Nat.le_of_ble_eq_true rfl) (by decide) (by decide) ?_
  rintro v25 T h_ X ⟨eh_, rfl⟩
  rw [eh_] at X
  show own_Ends p e below _ (T.setTop (mkF m 28 #[.val (.ref r), .val (.int (1 : Int32)), .val (.int pa), .val (.int pb), .val (.ref sf)] [(.int (1 : Int32))]))
  refine own_ifN X 31 own_d7_28 rfl (XT.i0_eq_f (by decide)) ?_
  refine own_aloadN X 32 (.ref r) own_d7_31 rfl rfl rfl ?_
  refine own_iloadN X 33 (1 : Int32) own_d7_32 rfl rfl ?_
  refine own_iloadN X 34 pa own_d7_33 rfl rfl ?_
  refine own_iloadN X 35 pb own_d7_34 rfl rfl ?_
  refine own_aload X 37 (.ref sf) own_d7_35 rfl rfl rfl ?_
  refine own_iconst X 38 (1 : Int32) own_d7_37 rfl rfl ?_
  refine own_callS X 41 [(.ref r), (.int (1 : Int32)), (.int pa), (.int pb), (.ref sf), (.int (1 : Int32))] [] own_d7_38 rfl (hw _ (List.mem_of_getElem? (i := 59) rfl)) (hw _ (List.mem_of_getElem? (i := 60) rfl)) (hw _ (List.mem_of_getElem? (i := 3) rfl)) (hw _ (List.mem_of_getElem? (i := 61) rfl)) (by decide) (own_at_hi l Z a0 hw r (1 : Int32) pa pb sf (1 : Int32) kr [(.int (own_ob pa pb (0 : Int32)))] h0 n0 X.sz Ar (show ¬ (1 : Int32) < (1 : Int32) by decide)) (fun _ _ q => Nat.le_of_eq (congrArg Array.size q.1.symm)) rfl own_pd11 rfl rfl rfl (by decide) (Nat.le_of_ble_eq_true rfl) (by decide) (by decide) ?_
  rintro v38 T h_ X ⟨eh_, rfl⟩
  rw [eh_] at X
  show own_Ends p e below _ (T.setTop (mkF m 41 #[.val (.ref r), .val (.int (1 : Int32)), .val (.int pa), .val (.int pb), .val (.ref sf)] [(.int (1 : Int32))]))
  refine own_ifN X 44 own_d7_41 rfl (XT.i0_eq_f (by decide)) ?_
  refine own_aloadN X 45 (.ref r) own_d7_44 rfl rfl rfl ?_
  refine own_iloadN X 46 (1 : Int32) own_d7_45 rfl rfl ?_
  refine own_iloadN X 47 pa own_d7_46 rfl rfl ?_
  refine own_iloadN X 48 pb own_d7_47 rfl rfl ?_
  refine own_aload X 50 (.ref sf) own_d7_48 rfl rfl rfl ?_
  refine own_iconst X 51 (2 : Int32) own_d7_50 rfl rfl ?_
  refine own_callS X 54 [(.ref r), (.int (1 : Int32)), (.int pa), (.int pb), (.ref sf), (.int (2 : Int32))] [] own_d7_51 rfl (hw _ (List.mem_of_getElem? (i := 59) rfl)) (hw _ (List.mem_of_getElem? (i := 60) rfl)) (hw _ (List.mem_of_getElem? (i := 3) rfl)) (hw _ (List.mem_of_getElem? (i := 61) rfl)) (by decide) (own_at_hi l Z a0 hw r (1 : Int32) pa pb sf (2 : Int32) kr [(.int (own_ob pa pb (0 : Int32)))] h0 n0 X.sz Ar (show ¬ (2 : Int32) < (1 : Int32) by decide)) (fun _ _ q => Nat.le_of_eq (congrArg Array.size q.1.symm)) rfl own_pd11 rfl rfl rfl (by decide) (Nat.le_of_ble_eq_true rfl) (by decide) (by decide) ?_
  rintro v51 T h_ X ⟨eh_, rfl⟩
  rw [eh_] at X
  show own_Ends p e below _ (T.setTop (mkF m 54 #[.val (.ref r), .val (.int (1 : Int32)), .val (.int pa), .val (.int pb), .val (.ref sf)] [(.int (1 : Int32))]))
  refine own_ifN X 57 own_d7_54 rfl (XT.i0_eq_f (by decide)) ?_
  refine own_aloadN X 58 (.ref r) own_d7_57 rfl rfl rfl ?_
  refine own_iloadN X 59 (1 : Int32) own_d7_58 rfl rfl ?_
  refine own_iloadN X 60 pa own_d7_59 rfl rfl ?_
  refine own_iloadN X 61 pb own_d7_60 rfl rfl ?_
  refine own_aload X 63 (.ref sf) own_d7_61 rfl rfl rfl ?_
  refine own_iconst X 64 (3 : Int32) own_d7_63 rfl rfl ?_
  refine own_callS X 67 [(.ref r), (.int (1 : Int32)), (.int pa), (.int pb), (.ref sf), (.int (3 : Int32))] [] own_d7_64 rfl (hw _ (List.mem_of_getElem? (i := 59) rfl)) (hw _ (List.mem_of_getElem? (i := 60) rfl)) (hw _ (List.mem_of_getElem? (i := 3) rfl)) (hw _ (List.mem_of_getElem? (i := 61) rfl)) (by decide) (own_at_hi l Z a0 hw r (1 : Int32) pa pb sf (3 : Int32) kr [(.int (own_ob pa pb (0 : Int32)))] h0 n0 X.sz Ar (show ¬ (3 : Int32) < (1 : Int32) by decide)) (fun _ _ q => Nat.le_of_eq (congrArg Array.size q.1.symm)) rfl own_pd11 rfl rfl rfl (by decide) (Nat.le_of_ble_eq_true rfl) (by decide) (by decide) ?_
  rintro v64 T h_ X ⟨eh_, rfl⟩
  rw [eh_] at X
  show own_Ends p e below _ (T.setTop (mkF m 67 #[.val (.ref r), .val (.int (1 : Int32)), .val (.int pa), .val (.int pb), .val (.ref sf)] [(.int (1 : Int32))]))
  refine own_ifN X 70 own_d7_67 rfl (XT.i0_eq_f (by decide)) ?_
  refine own_aloadN X 71 (.ref r) own_d7_70 rfl rfl rfl ?_
  refine own_iloadN X 72 (1 : Int32) own_d7_71 rfl rfl ?_
  refine own_iloadN X 73 pa own_d7_72 rfl rfl ?_
  refine own_iloadN X 74 pb own_d7_73 rfl rfl ?_
  refine own_aload X 76 (.ref sf) own_d7_74 rfl rfl rfl ?_
  refine own_iconst X 77 (4 : Int32) own_d7_76 rfl rfl ?_
  refine own_callS X 80 [(.ref r), (.int (1 : Int32)), (.int pa), (.int pb), (.ref sf), (.int (4 : Int32))] [] own_d7_77 rfl (hw _ (List.mem_of_getElem? (i := 59) rfl)) (hw _ (List.mem_of_getElem? (i := 60) rfl)) (hw _ (List.mem_of_getElem? (i := 3) rfl)) (hw _ (List.mem_of_getElem? (i := 61) rfl)) (by decide) (own_at_hi l Z a0 hw r (1 : Int32) pa pb sf (4 : Int32) kr [(.int (own_ob pa pb (0 : Int32)))] h0 n0 X.sz Ar (show ¬ (4 : Int32) < (1 : Int32) by decide)) (fun _ _ q => Nat.le_of_eq (congrArg Array.size q.1.symm)) rfl own_pd11 rfl rfl rfl (by decide) (Nat.le_of_ble_eq_true rfl) (by decide) (by decide) ?_
  rintro v77 T h_ X ⟨eh_, rfl⟩
  rw [eh_] at X
  show own_Ends p e below _ (T.setTop (mkF m 80 #[.val (.ref r), .val (.int (1 : Int32)), .val (.int pa), .val (.int pb), .val (.ref sf)] [(.int (1 : Int32))]))
  refine own_ifN X 83 own_d7_80 rfl (XT.i0_eq_f (by decide)) ?_
  refine own_aloadN X 84 (.ref r) own_d7_83 rfl rfl rfl ?_
  refine own_iloadN X 85 (1 : Int32) own_d7_84 rfl rfl ?_
  refine own_iloadN X 86 pa own_d7_85 rfl rfl ?_
  refine own_iloadN X 87 pb own_d7_86 rfl rfl ?_
  refine own_aload X 89 (.ref sf) own_d7_87 rfl rfl rfl ?_
  refine own_iconst X 90 (5 : Int32) own_d7_89 rfl rfl ?_
  refine own_callS X 93 [(.ref r), (.int (1 : Int32)), (.int pa), (.int pb), (.ref sf), (.int (5 : Int32))] [] own_d7_90 rfl (hw _ (List.mem_of_getElem? (i := 59) rfl)) (hw _ (List.mem_of_getElem? (i := 60) rfl)) (hw _ (List.mem_of_getElem? (i := 3) rfl)) (hw _ (List.mem_of_getElem? (i := 61) rfl)) (by decide) (own_at_hi l Z a0 hw r (1 : Int32) pa pb sf (5 : Int32) kr [(.int (own_ob pa pb (0 : Int32)))] h0 n0 X.sz Ar (show ¬ (5 : Int32) < (1 : Int32) by decide)) (fun _ _ q => Nat.le_of_eq (congrArg Array.size q.1.symm)) rfl own_pd11 rfl rfl rfl (by decide) (Nat.le_of_ble_eq_true rfl) (by decide) (by decide) ?_
  rintro v90 T h_ X ⟨eh_, rfl⟩
  rw [eh_] at X
  show own_Ends p e below _ (T.setTop (mkF m 93 #[.val (.ref r), .val (.int (1 : Int32)), .val (.int pa), .val (.int pb), .val (.ref sf)] [(.int (1 : Int32))]))
  refine own_ifN X 96 own_d7_93 rfl (XT.i0_eq_f (by decide)) ?_
  refine own_aloadN X 97 (.ref r) own_d7_96 rfl rfl rfl ?_
  refine own_iloadN X 98 (1 : Int32) own_d7_97 rfl rfl ?_
  refine own_iloadN X 99 pa own_d7_98 rfl rfl ?_
  refine own_iloadN X 100 pb own_d7_99 rfl rfl ?_
  refine own_aload X 102 (.ref sf) own_d7_100 rfl rfl rfl ?_
  refine own_bipush X 104 (6 : Int32) own_d7_102 rfl (by decide) ?_
  refine own_callS X 107 [(.ref r), (.int (1 : Int32)), (.int pa), (.int pb), (.ref sf), (.int (6 : Int32))] [] own_d7_104 rfl (hw _ (List.mem_of_getElem? (i := 59) rfl)) (hw _ (List.mem_of_getElem? (i := 60) rfl)) (hw _ (List.mem_of_getElem? (i := 3) rfl)) (hw _ (List.mem_of_getElem? (i := 61) rfl)) (by decide) (own_at_hi l Z a0 hw r (1 : Int32) pa pb sf (6 : Int32) kr [(.int (own_ob pa pb (0 : Int32)))] h0 n0 X.sz Ar (show ¬ (6 : Int32) < (1 : Int32) by decide)) (fun _ _ q => Nat.le_of_eq (congrArg Array.size q.1.symm)) rfl own_pd11 rfl rfl rfl (by decide) (Nat.le_of_ble_eq_true rfl) (by decide) (by decide) ?_
  rintro v104 T h_ X ⟨eh_, rfl⟩
  rw [eh_] at X
  show own_Ends p e below _ (T.setTop (mkF m 107 #[.val (.ref r), .val (.int (1 : Int32)), .val (.int pa), .val (.int pb), .val (.ref sf)] [(.int (1 : Int32))]))
  refine own_ifN X 110 own_d7_107 rfl (XT.i0_eq_f (by decide)) ?_
  refine own_aloadN X 111 (.ref r) own_d7_110 rfl rfl rfl ?_
  refine own_iloadN X 112 (1 : Int32) own_d7_111 rfl rfl ?_
  refine own_iloadN X 113 pa own_d7_112 rfl rfl ?_
  refine own_iloadN X 114 pb own_d7_113 rfl rfl ?_
  refine own_aload X 116 (.ref sf) own_d7_114 rfl rfl rfl ?_
  refine own_bipush X 118 (7 : Int32) own_d7_116 rfl (by decide) ?_
  refine own_callS X 121 [(.ref r), (.int (1 : Int32)), (.int pa), (.int pb), (.ref sf), (.int (7 : Int32))] [] own_d7_118 rfl (hw _ (List.mem_of_getElem? (i := 59) rfl)) (hw _ (List.mem_of_getElem? (i := 60) rfl)) (hw _ (List.mem_of_getElem? (i := 3) rfl)) (hw _ (List.mem_of_getElem? (i := 61) rfl)) (by decide) (own_at_hi l Z a0 hw r (1 : Int32) pa pb sf (7 : Int32) kr [(.int (own_ob pa pb (0 : Int32)))] h0 n0 X.sz Ar (show ¬ (7 : Int32) < (1 : Int32) by decide)) (fun _ _ q => Nat.le_of_eq (congrArg Array.size q.1.symm)) rfl own_pd11 rfl rfl rfl (by decide) (Nat.le_of_ble_eq_true rfl) (by decide) (by decide) ?_
  rintro v118 T h_ X ⟨eh_, rfl⟩
  rw [eh_] at X
  show own_Ends p e below _ (T.setTop (mkF m 121 #[.val (.ref r), .val (.int (1 : Int32)), .val (.int pa), .val (.int pb), .val (.ref sf)] [(.int (1 : Int32))]))
  refine own_ifN X 124 own_d7_121 rfl (XT.i0_eq_f (by decide)) ?_
  refine own_aloadN X 125 (.ref r) own_d7_124 rfl rfl rfl ?_
  refine own_iloadN X 126 (1 : Int32) own_d7_125 rfl rfl ?_
  refine own_iloadN X 127 pa own_d7_126 rfl rfl ?_
  refine own_iloadN X 128 pb own_d7_127 rfl rfl ?_
  refine own_aload X 130 (.ref sf) own_d7_128 rfl rfl rfl ?_
  refine own_bipush X 132 (8 : Int32) own_d7_130 rfl (by decide) ?_
  refine own_callS X 135 [(.ref r), (.int (1 : Int32)), (.int pa), (.int pb), (.ref sf), (.int (8 : Int32))] [] own_d7_132 rfl (hw _ (List.mem_of_getElem? (i := 59) rfl)) (hw _ (List.mem_of_getElem? (i := 60) rfl)) (hw _ (List.mem_of_getElem? (i := 3) rfl)) (hw _ (List.mem_of_getElem? (i := 61) rfl)) (by decide) (own_at_hi l Z a0 hw r (1 : Int32) pa pb sf (8 : Int32) kr [(.int (own_ob pa pb (0 : Int32)))] h0 n0 X.sz Ar (show ¬ (8 : Int32) < (1 : Int32) by decide)) (fun _ _ q => Nat.le_of_eq (congrArg Array.size q.1.symm)) rfl own_pd11 rfl rfl rfl (by decide) (Nat.le_of_ble_eq_true rfl) (by decide) (by decide) ?_
  rintro v132 T h_ X ⟨eh_, rfl⟩
  rw [eh_] at X
  show own_Ends p e below _ (T.setTop (mkF m 135 #[.val (.ref r), .val (.int (1 : Int32)), .val (.int pa), .val (.int pb), .val (.ref sf)] [(.int (1 : Int32))]))
  refine own_ifN X 138 own_d7_135 rfl (XT.i0_eq_f (by decide)) ?_
  refine own_aloadN X 139 (.ref r) own_d7_138 rfl rfl rfl ?_
  refine own_iloadN X 140 (1 : Int32) own_d7_139 rfl rfl ?_
  refine own_iloadN X 141 pa own_d7_140 rfl rfl ?_
  refine own_iloadN X 142 pb own_d7_141 rfl rfl ?_
  refine own_aload X 144 (.ref sf) own_d7_142 rfl rfl rfl ?_
  refine own_bipush X 146 (9 : Int32) own_d7_144 rfl (by decide) ?_
  refine own_callS X 149 [(.ref r), (.int (1 : Int32)), (.int pa), (.int pb), (.ref sf), (.int (9 : Int32))] [] own_d7_146 rfl (hw _ (List.mem_of_getElem? (i := 59) rfl)) (hw _ (List.mem_of_getElem? (i := 60) rfl)) (hw _ (List.mem_of_getElem? (i := 3) rfl)) (hw _ (List.mem_of_getElem? (i := 61) rfl)) (by decide) (own_at_hi l Z a0 hw r (1 : Int32) pa pb sf (9 : Int32) kr [(.int (own_ob pa pb (0 : Int32)))] h0 n0 X.sz Ar (show ¬ (9 : Int32) < (1 : Int32) by decide)) (fun _ _ q => Nat.le_of_eq (congrArg Array.size q.1.symm)) rfl own_pd11 rfl rfl rfl (by decide) (Nat.le_of_ble_eq_true rfl) (by decide) (by decide) ?_
  rintro v146 T h_ X ⟨eh_, rfl⟩
  rw [eh_] at X
  show own_Ends p e below _ (T.setTop (mkF m 149 #[.val (.ref r), .val (.int (1 : Int32)), .val (.int pa), .val (.int pb), .val (.ref sf)] [(.int (1 : Int32))]))
  refine own_ifN X 152 own_d7_149 rfl (XT.i0_eq_f (by decide)) ?_
  refine own_aloadN X 153 (.ref r) own_d7_152 rfl rfl rfl ?_
  refine own_iloadN X 154 (1 : Int32) own_d7_153 rfl rfl ?_
  refine own_iloadN X 155 pa own_d7_154 rfl rfl ?_
  refine own_iloadN X 156 pb own_d7_155 rfl rfl ?_
  refine own_aload X 158 (.ref sf) own_d7_156 rfl rfl rfl ?_
  refine own_bipush X 160 (10 : Int32) own_d7_158 rfl (by decide) ?_
  refine own_callS X 163 [(.ref r), (.int (1 : Int32)), (.int pa), (.int pb), (.ref sf), (.int (10 : Int32))] [] own_d7_160 rfl (hw _ (List.mem_of_getElem? (i := 59) rfl)) (hw _ (List.mem_of_getElem? (i := 60) rfl)) (hw _ (List.mem_of_getElem? (i := 3) rfl)) (hw _ (List.mem_of_getElem? (i := 61) rfl)) (by decide) (own_at_hi l Z a0 hw r (1 : Int32) pa pb sf (10 : Int32) kr [(.int (own_ob pa pb (0 : Int32)))] h0 n0 X.sz Ar (show ¬ (10 : Int32) < (1 : Int32) by decide)) (fun _ _ q => Nat.le_of_eq (congrArg Array.size q.1.symm)) rfl own_pd11 rfl rfl rfl (by decide) (Nat.le_of_ble_eq_true rfl) (by decide) (by decide) ?_
  rintro v160 T h_ X ⟨eh_, rfl⟩
  rw [eh_] at X
  show own_Ends p e below _ (T.setTop (mkF m 163 #[.val (.ref r), .val (.int (1 : Int32)), .val (.int pa), .val (.int pb), .val (.ref sf)] [(.int (1 : Int32))]))
  refine own_ifN X 166 own_d7_163 rfl (XT.i0_eq_f (by decide)) ?_
  refine own_aloadN X 167 (.ref r) own_d7_166 rfl rfl rfl ?_
  refine own_iloadN X 168 (1 : Int32) own_d7_167 rfl rfl ?_
  refine own_iloadN X 169 pa own_d7_168 rfl rfl ?_
  refine own_iloadN X 170 pb own_d7_169 rfl rfl ?_
  refine own_aload X 172 (.ref sf) own_d7_170 rfl rfl rfl ?_
  refine own_bipush X 174 (11 : Int32) own_d7_172 rfl (by decide) ?_
  refine own_callS X 177 [(.ref r), (.int (1 : Int32)), (.int pa), (.int pb), (.ref sf), (.int (11 : Int32))] [] own_d7_174 rfl (hw _ (List.mem_of_getElem? (i := 59) rfl)) (hw _ (List.mem_of_getElem? (i := 60) rfl)) (hw _ (List.mem_of_getElem? (i := 3) rfl)) (hw _ (List.mem_of_getElem? (i := 61) rfl)) (by decide) (own_at_hi l Z a0 hw r (1 : Int32) pa pb sf (11 : Int32) kr [(.int (own_ob pa pb (0 : Int32)))] h0 n0 X.sz Ar (show ¬ (11 : Int32) < (1 : Int32) by decide)) (fun _ _ q => Nat.le_of_eq (congrArg Array.size q.1.symm)) rfl own_pd11 rfl rfl rfl (by decide) (Nat.le_of_ble_eq_true rfl) (by decide) (by decide) ?_
  rintro v174 T h_ X ⟨eh_, rfl⟩
  rw [eh_] at X
  show own_Ends p e below _ (T.setTop (mkF m 177 #[.val (.ref r), .val (.int (1 : Int32)), .val (.int pa), .val (.int pb), .val (.ref sf)] [(.int (1 : Int32))]))
  refine own_ifN X 180 own_d7_177 rfl (XT.i0_eq_f (by decide)) ?_
  refine own_aloadN X 181 (.ref r) own_d7_180 rfl rfl rfl ?_
  refine own_iloadN X 182 (1 : Int32) own_d7_181 rfl rfl ?_
  refine own_iloadN X 183 pa own_d7_182 rfl rfl ?_
  refine own_iloadN X 184 pb own_d7_183 rfl rfl ?_
  refine own_aload X 186 (.ref sf) own_d7_184 rfl rfl rfl ?_
  refine own_bipush X 188 (12 : Int32) own_d7_186 rfl (by decide) ?_
  refine own_callS X 191 [(.ref r), (.int (1 : Int32)), (.int pa), (.int pb), (.ref sf), (.int (12 : Int32))] [] own_d7_188 rfl (hw _ (List.mem_of_getElem? (i := 59) rfl)) (hw _ (List.mem_of_getElem? (i := 60) rfl)) (hw _ (List.mem_of_getElem? (i := 3) rfl)) (hw _ (List.mem_of_getElem? (i := 61) rfl)) (by decide) (own_at_hi l Z a0 hw r (1 : Int32) pa pb sf (12 : Int32) kr [(.int (own_ob pa pb (0 : Int32)))] h0 n0 X.sz Ar (show ¬ (12 : Int32) < (1 : Int32) by decide)) (fun _ _ q => Nat.le_of_eq (congrArg Array.size q.1.symm)) rfl own_pd11 rfl rfl rfl (by decide) (Nat.le_of_ble_eq_true rfl) (by decide) (by decide) ?_
  rintro v188 T h_ X ⟨eh_, rfl⟩
  rw [eh_] at X
  show own_Ends p e below _ (T.setTop (mkF m 191 #[.val (.ref r), .val (.int (1 : Int32)), .val (.int pa), .val (.int pb), .val (.ref sf)] [(.int (1 : Int32))]))
  refine own_ifN X 194 own_d7_191 rfl (XT.i0_eq_f (by decide)) ?_
  refine own_iconst X 195 (1 : Int32) own_d7_194 rfl rfl ?_
  refine own_goto X 199 own_d7_195 (by decide) (by decide) ?_
  exact own_retN X .boolean own_d7_199 rfl (by simp) (by decide) (by decide) (⟨rfl, rfl⟩)
set_option maxRecDepth 65536 in
set_option maxHeartbeats 40000000 in
theorem own_mt1_6 (l : Launch) (Z : State) (a0 : Array Value) (hw : ∀ d ∈ tables_1, d.before a0 Z = true) (r : Addr) (nn : Int32) (pa : Int32) (pb : Int32) (sf : Addr) (kr : ClassId) (cs : Int32) (sv : Addr) (ks : ClassId) (fo : Value) (h0 : Heap) (n0 : Nat) (hs0 : n0 ≤ h0.size) (Ar : own_A Z h0 r kr .byte [(.int (own_ob pa pb (0 : Int32))), (.int 58), (.int 104), (.int 111), (.int 108), (.int 100), (.int 115)]) (OL : Old Z n0 h0) (z_cs : Sta Z Z.heap "java/lang/String" "COMPACT_STRINGS" "Z" (.int cs)) (hcs : ¬ cs = 0) (z_fo : Sta Z Z.heap "jdk/internal/util/Preconditions" "SIOOBE_FORMATTER" "Ljava/util/function/BiFunction;" fo) (hfo : fo.isRef = true) (Ea : Exa Z h0 sf "java/lang/String") (Fc : Fld Z h0 sf "java/lang/String" "coder" "B" (.int 0)) (Fv : Fld Z h0 sf "java/lang/String" "value" "[B" (.ref sv)) (As : own_A Z h0 sv ks .byte [(.int 58), (.int 104), (.int 111), (.int 108), (.int 100), (.int 115)]) (hn : nn = 1) :
    own_Met l (⟨"com/example/latchkey/latchkey/LockKeysHolderFieldsPinLaw", "matches", "([BIIILjava/lang/String;)Z"⟩ : MethodName) method_6_code 5 (some .boolean) ({ frames := 5, cells := 0, slots := 0, locals := 71 } : Room) Z #[(.ref r), (.int nn), (.int pa), (.int pb), (.ref sf)] h0 n0 (fun v h' => h' = h0 ∧ v = some (.int (1 : Int32))) := by
  refine own_met (Ls := #[.val (.ref r), .val (.int nn), .val (.int pa), .val (.int pb), .val (.ref sf)]) own_pn7 hs0 (fun m => by first  | (simp [entryFrame, mkF, argsToLocals, Value.category]; done) | rfl) ?_
  intro p e s m below meth c T X
  have hi_r : h0.size > r := Ar.lt
  have hi_sv : h0.size > sv := As.lt
  have hi_sf : h0.size > sf := Ea.lt
  subst hn
  refine own_aloadN X 1 (.ref r) own_d7_0 rfl rfl rfl ?_
  refine own_nullN X 4 own_d7_1 rfl ?_
  refine own_aloadN X 5 (.ref r) own_d7_4 rfl rfl rfl ?_
  refine own_len X 6 (7 : Int32) own_d7_5 rfl Ar rfl ?_
  refine own_iloadN X 7 (1 : Int32) own_d7_6 rfl rfl ?_
  refine own_aload X 9 (.ref sf) own_d7_7 rfl rfl rfl ?_
  refine own_callV X 12 [] [(.int (1 : Int32)), (.int (7 : Int32))] own_d7_9 rfl (hw _ (List.mem_of_getElem? (i := 46) rfl)) (hw _ (List.mem_of_getElem? (i := 47) rfl)) (own_nf X.2.2.2.2.1 (hw _ (List.mem_of_getElem? (i := 49) rfl))) (hw _ (List.mem_of_getElem? (i := 49) rfl)) (hw _ (List.mem_of_getElem? (i := 48) rfl)) (hw _ (List.mem_of_getElem? (i := 37) rfl)) (hw _ (List.mem_of_getElem? (i := 50) rfl)) (by decide) Ea (own_sl6 l Z a0 hw sf cs sv ks h0 n0 X.sz OL z_cs hcs Ea Fc Fv As) (fun _ _ q => Nat.le_of_eq (congrArg Array.size q.1.symm)) rfl own_pd10 rfl rfl rfl (by decide) (Nat.le_of_ble_eq_true rfl) (by decide) (by decide) ?_
  rintro v9 T h_ X ⟨eh_, rfl⟩
  rw [eh_] at X
  show own_Ends p e below _ (T.setTop (mkF m 12 #[.val (.ref r), .val (.int (1 : Int32)), .val (.int pa), .val (.int pb), .val (.ref sf)] [(.int (6 : Int32)), (.int (1 : Int32)), (.int (7 : Int32))]))
  refine own_iadd X 13 own_d7_12 rfl ?_
  refine own_icY X 18 own_d7_13 (by decide) (by decide) (XT.ii_eq_t (by decide)) ?_
  refine own_aloadN X 19 (.ref r) own_d7_18 rfl rfl rfl ?_
  refine own_iloadN X 20 (1 : Int32) own_d7_19 rfl rfl ?_
  refine own_iloadN X 21 pa own_d7_20 rfl rfl ?_
  refine own_iloadN X 22 pb own_d7_21 rfl rfl ?_
  refine own_aload X 24 (.ref sf) own_d7_22 rfl rfl rfl ?_
  refine own_iconst X 25 (0 : Int32) own_d7_24 rfl rfl ?_
  refine own_callS X 28 [(.ref r), (.int (1 : Int32)), (.int pa), (.int pb), (.ref sf), (.int (0 : Int32))] [] own_d7_25 rfl (hw _ (List.mem_of_getElem? (i := 59) rfl)) (hw _ (List.mem_of_getElem? (i := 60) rfl)) (hw _ (List.mem_of_getElem? (i := 3) rfl)) (hw _ (List.mem_of_getElem? (i := 61) rfl)) (by decide) (own_at_ob l Z a0 hw r (1 : Int32) pa pb sf (0 : Int32) kr [(.int (own_ob pa pb (0 : Int32))), (.int 58), (.int 104), (.int 111), (.int 108), (.int 100), (.int 115)] 0 h0 n0 X.sz Ar (show (0 : Int32) < (7 : Int32) by decide) (by decide) (by decide) (by decide) rfl) (fun _ _ q => Nat.le_of_eq (congrArg Array.size q.1.symm)) rfl own_pd11 rfl rfl rfl (by decide) (Nat.le_of_ble_eq_true rfl) (by decide) (by decide) ?_
  rintro v25 T h_ X ⟨eh_, rfl⟩
  rw [eh_] at X
  show own_Ends p e below _ (T.setTop (mkF m 28 #[.val (.ref r), .val (.int (1 : Int32)), .val (.int pa), .val (.int pb), .val (.ref sf)] [(.int (1 : Int32))]))
  refine own_ifN X 31 own_d7_28 rfl (XT.i0_eq_f (by decide)) ?_
  refine own_aloadN X 32 (.ref r) own_d7_31 rfl rfl rfl ?_
  refine own_iloadN X 33 (1 : Int32) own_d7_32 rfl rfl ?_
  refine own_iloadN X 34 pa own_d7_33 rfl rfl ?_
  refine own_iloadN X 35 pb own_d7_34 rfl rfl ?_
  refine own_aload X 37 (.ref sf) own_d7_35 rfl rfl rfl ?_
  refine own_iconst X 38 (1 : Int32) own_d7_37 rfl rfl ?_
  refine own_callS X 41 [(.ref r), (.int (1 : Int32)), (.int pa), (.int pb), (.ref sf), (.int (1 : Int32))] [] own_d7_38 rfl (hw _ (List.mem_of_getElem? (i := 59) rfl)) (hw _ (List.mem_of_getElem? (i := 60) rfl)) (hw _ (List.mem_of_getElem? (i := 3) rfl)) (hw _ (List.mem_of_getElem? (i := 61) rfl)) (by decide) (own_at_sf l Z a0 hw r (1 : Int32) pa pb sf (1 : Int32) kr [(.int (own_ob pa pb (0 : Int32))), (.int 58), (.int 104), (.int 111), (.int 108), (.int 100), (.int 115)] 1 58 cs sv ks [(.int 58), (.int 104), (.int 111), (.int 108), (.int 100), (.int 115)] 0 58 fo h0 n0 X.sz Ar (show (1 : Int32) < (7 : Int32) by decide) (by decide) (by decide) (by decide) rfl OL z_cs hcs z_fo hfo Ea Fc Fv As (by decide) (by decide) (show (1 : Int32) - (1 : Int32) < (6 : Int32) by decide) rfl (by decide)) (fun _ _ q => Nat.le_of_eq (congrArg Array.size q.1.symm)) rfl own_pd11 rfl rfl rfl (by decide) (Nat.le_of_ble_eq_true rfl) (by decide) (by decide) ?_
  rintro v38 T h_ X ⟨eh_, rfl⟩
  rw [eh_] at X
  show own_Ends p e below _ (T.setTop (mkF m 41 #[.val (.ref r), .val (.int (1 : Int32)), .val (.int pa), .val (.int pb), .val (.ref sf)] [(.int (1 : Int32))]))
  refine own_ifN X 44 own_d7_41 rfl (XT.i0_eq_f (by decide)) ?_
  refine own_aloadN X 45 (.ref r) own_d7_44 rfl rfl rfl ?_
  refine own_iloadN X 46 (1 : Int32) own_d7_45 rfl rfl ?_
  refine own_iloadN X 47 pa own_d7_46 rfl rfl ?_
  refine own_iloadN X 48 pb own_d7_47 rfl rfl ?_
  refine own_aload X 50 (.ref sf) own_d7_48 rfl rfl rfl ?_
  refine own_iconst X 51 (2 : Int32) own_d7_50 rfl rfl ?_
  refine own_callS X 54 [(.ref r), (.int (1 : Int32)), (.int pa), (.int pb), (.ref sf), (.int (2 : Int32))] [] own_d7_51 rfl (hw _ (List.mem_of_getElem? (i := 59) rfl)) (hw _ (List.mem_of_getElem? (i := 60) rfl)) (hw _ (List.mem_of_getElem? (i := 3) rfl)) (hw _ (List.mem_of_getElem? (i := 61) rfl)) (by decide) (own_at_sf l Z a0 hw r (1 : Int32) pa pb sf (2 : Int32) kr [(.int (own_ob pa pb (0 : Int32))), (.int 58), (.int 104), (.int 111), (.int 108), (.int 100), (.int 115)] 2 104 cs sv ks [(.int 58), (.int 104), (.int 111), (.int 108), (.int 100), (.int 115)] 1 104 fo h0 n0 X.sz Ar (show (2 : Int32) < (7 : Int32) by decide) (by decide) (by decide) (by decide) rfl OL z_cs hcs z_fo hfo Ea Fc Fv As (by decide) (by decide) (show (2 : Int32) - (1 : Int32) < (6 : Int32) by decide) rfl (by decide)) (fun _ _ q => Nat.le_of_eq (congrArg Array.size q.1.symm)) rfl own_pd11 rfl rfl rfl (by decide) (Nat.le_of_ble_eq_true rfl) (by decide) (by decide) ?_
  rintro v51 T h_ X ⟨eh_, rfl⟩
  rw [eh_] at X
  show own_Ends p e below _ (T.setTop (mkF m 54 #[.val (.ref r), .val (.int (1 : Int32)), .val (.int pa), .val (.int pb), .val (.ref sf)] [(.int (1 : Int32))]))
  refine own_ifN X 57 own_d7_54 rfl (XT.i0_eq_f (by decide)) ?_
  refine own_aloadN X 58 (.ref r) own_d7_57 rfl rfl rfl ?_
  refine own_iloadN X 59 (1 : Int32) own_d7_58 rfl rfl ?_
  refine own_iloadN X 60 pa own_d7_59 rfl rfl ?_
  refine own_iloadN X 61 pb own_d7_60 rfl rfl ?_
  refine own_aload X 63 (.ref sf) own_d7_61 rfl rfl rfl ?_
  refine own_iconst X 64 (3 : Int32) own_d7_63 rfl rfl ?_
  refine own_callS X 67 [(.ref r), (.int (1 : Int32)), (.int pa), (.int pb), (.ref sf), (.int (3 : Int32))] [] own_d7_64 rfl (hw _ (List.mem_of_getElem? (i := 59) rfl)) (hw _ (List.mem_of_getElem? (i := 60) rfl)) (hw _ (List.mem_of_getElem? (i := 3) rfl)) (hw _ (List.mem_of_getElem? (i := 61) rfl)) (by decide) (own_at_sf l Z a0 hw r (1 : Int32) pa pb sf (3 : Int32) kr [(.int (own_ob pa pb (0 : Int32))), (.int 58), (.int 104), (.int 111), (.int 108), (.int 100), (.int 115)] 3 111 cs sv ks [(.int 58), (.int 104), (.int 111), (.int 108), (.int 100), (.int 115)] 2 111 fo h0 n0 X.sz Ar (show (3 : Int32) < (7 : Int32) by decide) (by decide) (by decide) (by decide) rfl OL z_cs hcs z_fo hfo Ea Fc Fv As (by decide) (by decide) (show (3 : Int32) - (1 : Int32) < (6 : Int32) by decide) rfl (by decide)) (fun _ _ q => Nat.le_of_eq (congrArg Array.size q.1.symm)) rfl own_pd11 rfl rfl rfl (by decide) (Nat.le_of_ble_eq_true rfl) (by decide) (by decide) ?_
  rintro v64 T h_ X ⟨eh_, rfl⟩
  rw [eh_] at X
  show own_Ends p e below _ (T.setTop (mkF m 67 #[.val (.ref r), .val (.int (1 : Int32)), .val (.int pa), .val (.int pb), .val (.ref sf)] [(.int (1 : Int32))]))
  refine own_ifN X 70 own_d7_67 rfl (XT.i0_eq_f (by decide)) ?_
  refine own_aloadN X 71 (.ref r) own_d7_70 rfl rfl rfl ?_
  refine own_iloadN X 72 (1 : Int32) own_d7_71 rfl rfl ?_
  refine own_iloadN X 73 pa own_d7_72 rfl rfl ?_
  refine own_iloadN X 74 pb own_d7_73 rfl rfl ?_
  refine own_aload X 76 (.ref sf) own_d7_74 rfl rfl rfl ?_
  refine own_iconst X 77 (4 : Int32) own_d7_76 rfl rfl ?_
  refine own_callS X 80 [(.ref r), (.int (1 : Int32)), (.int pa), (.int pb), (.ref sf), (.int (4 : Int32))] [] own_d7_77 rfl (hw _ (List.mem_of_getElem? (i := 59) rfl)) (hw _ (List.mem_of_getElem? (i := 60) rfl)) (hw _ (List.mem_of_getElem? (i := 3) rfl)) (hw _ (List.mem_of_getElem? (i := 61) rfl)) (by decide) (own_at_sf l Z a0 hw r (1 : Int32) pa pb sf (4 : Int32) kr [(.int (own_ob pa pb (0 : Int32))), (.int 58), (.int 104), (.int 111), (.int 108), (.int 100), (.int 115)] 4 108 cs sv ks [(.int 58), (.int 104), (.int 111), (.int 108), (.int 100), (.int 115)] 3 108 fo h0 n0 X.sz Ar (show (4 : Int32) < (7 : Int32) by decide) (by decide) (by decide) (by decide) rfl OL z_cs hcs z_fo hfo Ea Fc Fv As (by decide) (by decide) (show (4 : Int32) - (1 : Int32) < (6 : Int32) by decide) rfl (by decide)) (fun _ _ q => Nat.le_of_eq (congrArg Array.size q.1.symm)) rfl own_pd11 rfl rfl rfl (by decide) (Nat.le_of_ble_eq_true rfl) (by decide) (by decide) ?_
  rintro v77 T h_ X ⟨eh_, rfl⟩
  rw [eh_] at X
  show own_Ends p e below _ (T.setTop (mkF m 80 #[.val (.ref r), .val (.int (1 : Int32)), .val (.int pa), .val (.int pb), .val (.ref sf)] [(.int (1 : Int32))]))
  refine own_ifN X 83 own_d7_80 rfl (XT.i0_eq_f (by decide)) ?_
  refine own_aloadN X 84 (.ref r) own_d7_83 rfl rfl rfl ?_
  refine own_iloadN X 85 (1 : Int32) own_d7_84 rfl rfl ?_
  refine own_iloadN X 86 pa own_d7_85 rfl rfl ?_
  refine own_iloadN X 87 pb own_d7_86 rfl rfl ?_
  refine own_aload X 89 (.ref sf) own_d7_87 rfl rfl rfl ?_
  refine own_iconst X 90 (5 : Int32) own_d7_89 rfl rfl ?_
  refine own_callS X 93 [(.ref r), (.int (1 : Int32)), (.int pa), (.int pb), (.ref sf), (.int (5 : Int32))] [] own_d7_90 rfl (hw _ (List.mem_of_getElem? (i := 59) rfl)) (hw _ (List.mem_of_getElem? (i := 60) rfl)) (hw _ (List.mem_of_getElem? (i := 3) rfl)) (hw _ (List.mem_of_getElem? (i := 61) rfl)) (by decide) (own_at_sf l Z a0 hw r (1 : Int32) pa pb sf (5 : Int32) kr [(.int (own_ob pa pb (0 : Int32))), (.int 58), (.int 104), (.int 111), (.int 108), (.int 100), (.int 115)] 5 100 cs sv ks [(.int 58), (.int 104), (.int 111), (.int 108), (.int 100), (.int 115)] 4 100 fo h0 n0 X.sz Ar (show (5 : Int32) < (7 : Int32) by decide) (by decide) (by decide) (by decide) rfl OL z_cs hcs z_fo hfo Ea Fc Fv As (by decide) (by decide) (show (5 : Int32) - (1 : Int32) < (6 : Int32) by decide) rfl (by decide)) (fun _ _ q => Nat.le_of_eq (congrArg Array.size q.1.symm)) rfl own_pd11 rfl rfl rfl (by decide) (Nat.le_of_ble_eq_true rfl) (by decide) (by decide) ?_
  rintro v90 T h_ X ⟨eh_, rfl⟩
  rw [eh_] at X
  show own_Ends p e below _ (T.setTop (mkF m 93 #[.val (.ref r), .val (.int (1 : Int32)), .val (.int pa), .val (.int pb), .val (.ref sf)] [(.int (1 : Int32))]))
  refine own_ifN X 96 own_d7_93 rfl (XT.i0_eq_f (by decide)) ?_
  refine own_aloadN X 97 (.ref r) own_d7_96 rfl rfl rfl ?_
  refine own_iloadN X 98 (1 : Int32) own_d7_97 rfl rfl ?_
  refine own_iloadN X 99 pa own_d7_98 rfl rfl ?_
  refine own_iloadN X 100 pb own_d7_99 rfl rfl ?_
  refine own_aload X 102 (.ref sf) own_d7_100 rfl rfl rfl ?_
  refine own_bipush X 104 (6 : Int32) own_d7_102 rfl (by decide) ?_
  refine own_callS X 107 [(.ref r), (.int (1 : Int32)), (.int pa), (.int pb), (.ref sf), (.int (6 : Int32))] [] own_d7_104 rfl (hw _ (List.mem_of_getElem? (i := 59) rfl)) (hw _ (List.mem_of_getElem? (i := 60) rfl)) (hw _ (List.mem_of_getElem? (i := 3) rfl)) (hw _ (List.mem_of_getElem? (i := 61) rfl)) (by decide) (own_at_sf l Z a0 hw r (1 : Int32) pa pb sf (6 : Int32) kr [(.int (own_ob pa pb (0 : Int32))), (.int 58), (.int 104), (.int 111), (.int 108), (.int 100), (.int 115)] 6 115 cs sv ks [(.int 58), (.int 104), (.int 111), (.int 108), (.int 100), (.int 115)] 5 115 fo h0 n0 X.sz Ar (show (6 : Int32) < (7 : Int32) by decide) (by decide) (by decide) (by decide) rfl OL z_cs hcs z_fo hfo Ea Fc Fv As (by decide) (by decide) (show (6 : Int32) - (1 : Int32) < (6 : Int32) by decide) rfl (by decide)) (fun _ _ q => Nat.le_of_eq (congrArg Array.size q.1.symm)) rfl own_pd11 rfl rfl rfl (by decide) (Nat.le_of_ble_eq_true rfl) (by decide) (by decide) ?_
  rintro v104 T h_ X ⟨eh_, rfl⟩
  rw [eh_] at X
  show own_Ends p e below _ (T.setTop (mkF m 107 #[.val (.ref r), .val (.int (1 : Int32)), .val (.int pa), .val (.int pb), .val (.ref sf)] [(.int (1 : Int32))]))
  refine own_ifN X 110 own_d7_107 rfl (XT.i0_eq_f (by decide)) ?_
  refine own_aloadN X 111 (.ref r) own_d7_110 rfl rfl rfl ?_
  refine own_iloadN X 112 (1 : Int32) own_d7_111 rfl rfl ?_
  refine own_iloadN X 113 pa own_d7_112 rfl rfl ?_
  refine own_iloadN X 114 pb own_d7_113 rfl rfl ?_
  refine own_aload X 116 (.ref sf) own_d7_114 rfl rfl rfl ?_
  refine own_bipush X 118 (7 : Int32) own_d7_116 rfl (by decide) ?_
  refine own_callS X 121 [(.ref r), (.int (1 : Int32)), (.int pa), (.int pb), (.ref sf), (.int (7 : Int32))] [] own_d7_118 rfl (hw _ (List.mem_of_getElem? (i := 59) rfl)) (hw _ (List.mem_of_getElem? (i := 60) rfl)) (hw _ (List.mem_of_getElem? (i := 3) rfl)) (hw _ (List.mem_of_getElem? (i := 61) rfl)) (by decide) (own_at_hi l Z a0 hw r (1 : Int32) pa pb sf (7 : Int32) kr [(.int (own_ob pa pb (0 : Int32))), (.int 58), (.int 104), (.int 111), (.int 108), (.int 100), (.int 115)] h0 n0 X.sz Ar (show ¬ (7 : Int32) < (7 : Int32) by decide)) (fun _ _ q => Nat.le_of_eq (congrArg Array.size q.1.symm)) rfl own_pd11 rfl rfl rfl (by decide) (Nat.le_of_ble_eq_true rfl) (by decide) (by decide) ?_
  rintro v118 T h_ X ⟨eh_, rfl⟩
  rw [eh_] at X
  show own_Ends p e below _ (T.setTop (mkF m 121 #[.val (.ref r), .val (.int (1 : Int32)), .val (.int pa), .val (.int pb), .val (.ref sf)] [(.int (1 : Int32))]))
  refine own_ifN X 124 own_d7_121 rfl (XT.i0_eq_f (by decide)) ?_
  refine own_aloadN X 125 (.ref r) own_d7_124 rfl rfl rfl ?_
  refine own_iloadN X 126 (1 : Int32) own_d7_125 rfl rfl ?_
  refine own_iloadN X 127 pa own_d7_126 rfl rfl ?_
  refine own_iloadN X 128 pb own_d7_127 rfl rfl ?_
  refine own_aload X 130 (.ref sf) own_d7_128 rfl rfl rfl ?_
  refine own_bipush X 132 (8 : Int32) own_d7_130 rfl (by decide) ?_
  refine own_callS X 135 [(.ref r), (.int (1 : Int32)), (.int pa), (.int pb), (.ref sf), (.int (8 : Int32))] [] own_d7_132 rfl (hw _ (List.mem_of_getElem? (i := 59) rfl)) (hw _ (List.mem_of_getElem? (i := 60) rfl)) (hw _ (List.mem_of_getElem? (i := 3) rfl)) (hw _ (List.mem_of_getElem? (i := 61) rfl)) (by decide) (own_at_hi l Z a0 hw r (1 : Int32) pa pb sf (8 : Int32) kr [(.int (own_ob pa pb (0 : Int32))), (.int 58), (.int 104), (.int 111), (.int 108), (.int 100), (.int 115)] h0 n0 X.sz Ar (show ¬ (8 : Int32) < (7 : Int32) by decide)) (fun _ _ q => Nat.le_of_eq (congrArg Array.size q.1.symm)) rfl own_pd11 rfl rfl rfl (by decide) (Nat.le_of_ble_eq_true rfl) (by decide) (by decide) ?_
  rintro v132 T h_ X ⟨eh_, rfl⟩
  rw [eh_] at X
  show own_Ends p e below _ (T.setTop (mkF m 135 #[.val (.ref r), .val (.int (1 : Int32)), .val (.int pa), .val (.int pb), .val (.ref sf)] [(.int (1 : Int32))]))
  refine own_ifN X 138 own_d7_135 rfl (XT.i0_eq_f (by decide)) ?_
  refine own_aloadN X 139 (.ref r) own_d7_138 rfl rfl rfl ?_
  refine own_iloadN X 140 (1 : Int32) own_d7_139 rfl rfl ?_
  refine own_iloadN X 141 pa own_d7_140 rfl rfl ?_
  refine own_iloadN X 142 pb own_d7_141 rfl rfl ?_
  refine own_aload X 144 (.ref sf) own_d7_142 rfl rfl rfl ?_
  refine own_bipush X 146 (9 : Int32) own_d7_144 rfl (by decide) ?_
  refine own_callS X 149 [(.ref r), (.int (1 : Int32)), (.int pa), (.int pb), (.ref sf), (.int (9 : Int32))] [] own_d7_146 rfl (hw _ (List.mem_of_getElem? (i := 59) rfl)) (hw _ (List.mem_of_getElem? (i := 60) rfl)) (hw _ (List.mem_of_getElem? (i := 3) rfl)) (hw _ (List.mem_of_getElem? (i := 61) rfl)) (by decide) (own_at_hi l Z a0 hw r (1 : Int32) pa pb sf (9 : Int32) kr [(.int (own_ob pa pb (0 : Int32))), (.int 58), (.int 104), (.int 111), (.int 108), (.int 100), (.int 115)] h0 n0 X.sz Ar (show ¬ (9 : Int32) < (7 : Int32) by decide)) (fun _ _ q => Nat.le_of_eq (congrArg Array.size q.1.symm)) rfl own_pd11 rfl rfl rfl (by decide) (Nat.le_of_ble_eq_true rfl) (by decide) (by decide) ?_
  rintro v146 T h_ X ⟨eh_, rfl⟩
  rw [eh_] at X
  show own_Ends p e below _ (T.setTop (mkF m 149 #[.val (.ref r), .val (.int (1 : Int32)), .val (.int pa), .val (.int pb), .val (.ref sf)] [(.int (1 : Int32))]))
  refine own_ifN X 152 own_d7_149 rfl (XT.i0_eq_f (by decide)) ?_
  refine own_aloadN X 153 (.ref r) own_d7_152 rfl rfl rfl ?_
  refine own_iloadN X 154 (1 : Int32) own_d7_153 rfl rfl ?_
  refine own_iloadN X 155 pa own_d7_154 rfl rfl ?_
  refine own_iloadN X 156 pb own_d7_155 rfl rfl ?_
  refine own_aload X 158 (.ref sf) own_d7_156 rfl rfl rfl ?_
  refine own_bipush X 160 (10 : Int32) own_d7_158 rfl (by decide) ?_
  refine own_callS X 163 [(.ref r), (.int (1 : Int32)), (.int pa), (.int pb), (.ref sf), (.int (10 : Int32))] [] own_d7_160 rfl (hw _ (List.mem_of_getElem? (i := 59) rfl)) (hw _ (List.mem_of_getElem? (i := 60) rfl)) (hw _ (List.mem_of_getElem? (i := 3) rfl)) (hw _ (List.mem_of_getElem? (i := 61) rfl)) (by decide) (own_at_hi l Z a0 hw r (1 : Int32) pa pb sf (10 : Int32) kr [(.int (own_ob pa pb (0 : Int32))), (.int 58), (.int 104), (.int 111), (.int 108), (.int 100), (.int 115)] h0 n0 X.sz Ar (show ¬ (10 : Int32) < (7 : Int32) by decide)) (fun _ _ q => Nat.le_of_eq (congrArg Array.size q.1.symm)) rfl own_pd11 rfl rfl rfl (by decide) (Nat.le_of_ble_eq_true rfl) (by decide) (by decide) ?_
  rintro v160 T h_ X ⟨eh_, rfl⟩
  rw [eh_] at X
  show own_Ends p e below _ (T.setTop (mkF m 163 #[.val (.ref r), .val (.int (1 : Int32)), .val (.int pa), .val (.int pb), .val (.ref sf)] [(.int (1 : Int32))]))
  refine own_ifN X 166 own_d7_163 rfl (XT.i0_eq_f (by decide)) ?_
  refine own_aloadN X 167 (.ref r) own_d7_166 rfl rfl rfl ?_
  refine own_iloadN X 168 (1 : Int32) own_d7_167 rfl rfl ?_
  refine own_iloadN X 169 pa own_d7_168 rfl rfl ?_
  refine own_iloadN X 170 pb own_d7_169 rfl rfl ?_
  refine own_aload X 172 (.ref sf) own_d7_170 rfl rfl rfl ?_
  refine own_bipush X 174 (11 : Int32) own_d7_172 rfl (by decide) ?_
  refine own_callS X 177 [(.ref r), (.int (1 : Int32)), (.int pa), (.int pb), (.ref sf), (.int (11 : Int32))] [] own_d7_174 rfl (hw _ (List.mem_of_getElem? (i := 59) rfl)) (hw _ (List.mem_of_getElem? (i := 60) rfl)) (hw _ (List.mem_of_getElem? (i := 3) rfl)) (hw _ (List.mem_of_getElem? (i := 61) rfl)) (by decide) (own_at_hi l Z a0 hw r (1 : Int32) pa pb sf (11 : Int32) kr [(.int (own_ob pa pb (0 : Int32))), (.int 58), (.int 104), (.int 111), (.int 108), (.int 100), (.int 115)] h0 n0 X.sz Ar (show ¬ (11 : Int32) < (7 : Int32) by decide)) (fun _ _ q => Nat.le_of_eq (congrArg Array.size q.1.symm)) rfl own_pd11 rfl rfl rfl (by decide) (Nat.le_of_ble_eq_true rfl) (by decide) (by decide) ?_
  rintro v174 T h_ X ⟨eh_, rfl⟩
  rw [eh_] at X
  show own_Ends p e below _ (T.setTop (mkF m 177 #[.val (.ref r), .val (.int (1 : Int32)), .val (.int pa), .val (.int pb), .val (.ref sf)] [(.int (1 : Int32))]))
  refine own_ifN X 180 own_d7_177 rfl (XT.i0_eq_f (by decide)) ?_
  refine own_aloadN X 181 (.ref r) own_d7_180 rfl rfl rfl ?_
  refine own_iloadN X 182 (1 : Int32) own_d7_181 rfl rfl ?_
  refine own_iloadN X 183 pa own_d7_182 rfl rfl ?_
  refine own_iloadN X 184 pb own_d7_183 rfl rfl ?_
  refine own_aload X 186 (.ref sf) own_d7_184 rfl rfl rfl ?_
  refine own_bipush X 188 (12 : Int32) own_d7_186 rfl (by decide) ?_
  refine own_callS X 191 [(.ref r), (.int (1 : Int32)), (.int pa), (.int pb), (.ref sf), (.int (12 : Int32))] [] own_d7_188 rfl (hw _ (List.mem_of_getElem? (i := 59) rfl)) (hw _ (List.mem_of_getElem? (i := 60) rfl)) (hw _ (List.mem_of_getElem? (i := 3) rfl)) (hw _ (List.mem_of_getElem? (i := 61) rfl)) (by decide) (own_at_hi l Z a0 hw r (1 : Int32) pa pb sf (12 : Int32) kr [(.int (own_ob pa pb (0 : Int32))), (.int 58), (.int 104), (.int 111), (.int 108), (.int 100), (.int 115)] h0 n0 X.sz Ar (show ¬ (12 : Int32) < (7 : Int32) by decide)) (fun _ _ q => Nat.le_of_eq (congrArg Array.size q.1.symm)) rfl own_pd11 rfl rfl rfl (by decide) (Nat.le_of_ble_eq_true rfl) (by decide) (by decide) ?_
  rintro v188 T h_ X ⟨eh_, rfl⟩
  rw [eh_] at X
  show own_Ends p e below _ (T.setTop (mkF m 191 #[.val (.ref r), .val (.int (1 : Int32)), .val (.int pa), .val (.int pb), .val (.ref sf)] [(.int (1 : Int32))]))
  refine own_ifN X 194 own_d7_191 rfl (XT.i0_eq_f (by decide)) ?_
  refine own_iconst X 195 (1 : Int32) own_d7_194 rfl rfl ?_
  refine own_goto X 199 own_d7_195 (by decide) (by decide) ?_
  exact own_retN X .boolean own_d7_199 rfl (by simp) (by decide) (by decide) (⟨rfl, rfl⟩)
set_option maxRecDepth 65536 in
set_option maxHeartbeats 40000000 in
theorem own_mt1_8 (l : Launch) (Z : State) (a0 : Array Value) (hw : ∀ d ∈ tables_1, d.before a0 Z = true) (r : Addr) (nn : Int32) (pa : Int32) (pb : Int32) (sf : Addr) (kr : ClassId) (cs : Int32) (sv : Addr) (ks : ClassId) (fo : Value) (h0 : Heap) (n0 : Nat) (hs0 : n0 ≤ h0.size) (Ar : own_A Z h0 r kr .byte [(.int (own_ob pa pb (0 : Int32))), (.int 58), (.int 119), (.int 97), (.int 105), (.int 116), (.int 105), (.int 110), (.int 103)]) (OL : Old Z n0 h0) (z_cs : Sta Z Z.heap "java/lang/String" "COMPACT_STRINGS" "Z" (.int cs)) (hcs : ¬ cs = 0) (z_fo : Sta Z Z.heap "jdk/internal/util/Preconditions" "SIOOBE_FORMATTER" "Ljava/util/function/BiFunction;" fo) (hfo : fo.isRef = true) (Ea : Exa Z h0 sf "java/lang/String") (Fc : Fld Z h0 sf "java/lang/String" "coder" "B" (.int 0)) (Fv : Fld Z h0 sf "java/lang/String" "value" "[B" (.ref sv)) (As : own_A Z h0 sv ks .byte [(.int 58), (.int 119), (.int 97), (.int 105), (.int 116), (.int 105), (.int 110), (.int 103)]) (hn : nn = 1) :
    own_Met l (⟨"com/example/latchkey/latchkey/LockKeysHolderFieldsPinLaw", "matches", "([BIIILjava/lang/String;)Z"⟩ : MethodName) method_6_code 5 (some .boolean) ({ frames := 5, cells := 0, slots := 0, locals := 71 } : Room) Z #[(.ref r), (.int nn), (.int pa), (.int pb), (.ref sf)] h0 n0 (fun v h' => h' = h0 ∧ v = some (.int (1 : Int32))) := by
  refine own_met (Ls := #[.val (.ref r), .val (.int nn), .val (.int pa), .val (.int pb), .val (.ref sf)]) own_pn7 hs0 (fun m => by first  | (simp [entryFrame, mkF, argsToLocals, Value.category]; done) | rfl) ?_
  intro p e s m below meth c T X
  have hi_r : h0.size > r := Ar.lt
  have hi_sv : h0.size > sv := As.lt
  have hi_sf : h0.size > sf := Ea.lt
  subst hn
  refine own_aloadN X 1 (.ref r) own_d7_0 rfl rfl rfl ?_
  refine own_nullN X 4 own_d7_1 rfl ?_
  refine own_aloadN X 5 (.ref r) own_d7_4 rfl rfl rfl ?_
  refine own_len X 6 (9 : Int32) own_d7_5 rfl Ar rfl ?_
  refine own_iloadN X 7 (1 : Int32) own_d7_6 rfl rfl ?_
  refine own_aload X 9 (.ref sf) own_d7_7 rfl rfl rfl ?_
  refine own_callV X 12 [] [(.int (1 : Int32)), (.int (9 : Int32))] own_d7_9 rfl (hw _ (List.mem_of_getElem? (i := 46) rfl)) (hw _ (List.mem_of_getElem? (i := 47) rfl)) (own_nf X.2.2.2.2.1 (hw _ (List.mem_of_getElem? (i := 49) rfl))) (hw _ (List.mem_of_getElem? (i := 49) rfl)) (hw _ (List.mem_of_getElem? (i := 48) rfl)) (hw _ (List.mem_of_getElem? (i := 37) rfl)) (hw _ (List.mem_of_getElem? (i := 50) rfl)) (by decide) Ea (own_sl8 l Z a0 hw sf cs sv ks h0 n0 X.sz OL z_cs hcs Ea Fc Fv As) (fun _ _ q => Nat.le_of_eq (congrArg Array.size q.1.symm)) rfl own_pd10 rfl rfl rfl (by decide) (Nat.le_of_ble_eq_true rfl) (by decide) (by decide) ?_
  rintro v9 T h_ X ⟨eh_, rfl⟩
  rw [eh_] at X
  show own_Ends p e below _ (T.setTop (mkF m 12 #[.val (.ref r), .val (.int (1 : Int32)), .val (.int pa), .val (.int pb), .val (.ref sf)] [(.int (8 : Int32)), (.int (1 : Int32)), (.int (9 : Int32))]))
  refine own_iadd X 13 own_d7_12 rfl ?_
  refine own_icY X 18 own_d7_13 (by decide) (by decide) (XT.ii_eq_t (by decide)) ?_
  refine own_aloadN X 19 (.ref r) own_d7_18 rfl rfl rfl ?_
  refine own_iloadN X 20 (1 : Int32) own_d7_19 rfl rfl ?_
  refine own_iloadN X 21 pa own_d7_20 rfl rfl ?_
  refine own_iloadN X 22 pb own_d7_21 rfl rfl ?_
  refine own_aload X 24 (.ref sf) own_d7_22 rfl rfl rfl ?_
  refine own_iconst X 25 (0 : Int32) own_d7_24 rfl rfl ?_
  refine own_callS X 28 [(.ref r), (.int (1 : Int32)), (.int pa), (.int pb), (.ref sf), (.int (0 : Int32))] [] own_d7_25 rfl (hw _ (List.mem_of_getElem? (i := 59) rfl)) (hw _ (List.mem_of_getElem? (i := 60) rfl)) (hw _ (List.mem_of_getElem? (i := 3) rfl)) (hw _ (List.mem_of_getElem? (i := 61) rfl)) (by decide) (own_at_ob l Z a0 hw r (1 : Int32) pa pb sf (0 : Int32) kr [(.int (own_ob pa pb (0 : Int32))), (.int 58), (.int 119), (.int 97), (.int 105), (.int 116), (.int 105), (.int 110), (.int 103)] 0 h0 n0 X.sz Ar (show (0 : Int32) < (9 : Int32) by decide) (by decide) (by decide) (by decide) rfl) (fun _ _ q => Nat.le_of_eq (congrArg Array.size q.1.symm)) rfl own_pd11 rfl rfl rfl (by decide) (Nat.le_of_ble_eq_true rfl) (by decide) (by decide) ?_
  rintro v25 T h_ X ⟨eh_, rfl⟩
  rw [eh_] at X
  show own_Ends p e below _ (T.setTop (mkF m 28 #[.val (.ref r), .val (.int (1 : Int32)), .val (.int pa), .val (.int pb), .val (.ref sf)] [(.int (1 : Int32))]))
  refine own_ifN X 31 own_d7_28 rfl (XT.i0_eq_f (by decide)) ?_
  refine own_aloadN X 32 (.ref r) own_d7_31 rfl rfl rfl ?_
  refine own_iloadN X 33 (1 : Int32) own_d7_32 rfl rfl ?_
  refine own_iloadN X 34 pa own_d7_33 rfl rfl ?_
  refine own_iloadN X 35 pb own_d7_34 rfl rfl ?_
  refine own_aload X 37 (.ref sf) own_d7_35 rfl rfl rfl ?_
  refine own_iconst X 38 (1 : Int32) own_d7_37 rfl rfl ?_
  refine own_callS X 41 [(.ref r), (.int (1 : Int32)), (.int pa), (.int pb), (.ref sf), (.int (1 : Int32))] [] own_d7_38 rfl (hw _ (List.mem_of_getElem? (i := 59) rfl)) (hw _ (List.mem_of_getElem? (i := 60) rfl)) (hw _ (List.mem_of_getElem? (i := 3) rfl)) (hw _ (List.mem_of_getElem? (i := 61) rfl)) (by decide) (own_at_sf l Z a0 hw r (1 : Int32) pa pb sf (1 : Int32) kr [(.int (own_ob pa pb (0 : Int32))), (.int 58), (.int 119), (.int 97), (.int 105), (.int 116), (.int 105), (.int 110), (.int 103)] 1 58 cs sv ks [(.int 58), (.int 119), (.int 97), (.int 105), (.int 116), (.int 105), (.int 110), (.int 103)] 0 58 fo h0 n0 X.sz Ar (show (1 : Int32) < (9 : Int32) by decide) (by decide) (by decide) (by decide) rfl OL z_cs hcs z_fo hfo Ea Fc Fv As (by decide) (by decide) (show (1 : Int32) - (1 : Int32) < (8 : Int32) by decide) rfl (by decide)) (fun _ _ q => Nat.le_of_eq (congrArg Array.size q.1.symm)) rfl own_pd11 rfl rfl rfl (by decide) (Nat.le_of_ble_eq_true rfl) (by decide) (by decide) ?_
  rintro v38 T h_ X ⟨eh_, rfl⟩
  rw [eh_] at X
  show own_Ends p e below _ (T.setTop (mkF m 41 #[.val (.ref r), .val (.int (1 : Int32)), .val (.int pa), .val (.int pb), .val (.ref sf)] [(.int (1 : Int32))]))
  refine own_ifN X 44 own_d7_41 rfl (XT.i0_eq_f (by decide)) ?_
  refine own_aloadN X 45 (.ref r) own_d7_44 rfl rfl rfl ?_
  refine own_iloadN X 46 (1 : Int32) own_d7_45 rfl rfl ?_
  refine own_iloadN X 47 pa own_d7_46 rfl rfl ?_
  refine own_iloadN X 48 pb own_d7_47 rfl rfl ?_
  refine own_aload X 50 (.ref sf) own_d7_48 rfl rfl rfl ?_
  refine own_iconst X 51 (2 : Int32) own_d7_50 rfl rfl ?_
  refine own_callS X 54 [(.ref r), (.int (1 : Int32)), (.int pa), (.int pb), (.ref sf), (.int (2 : Int32))] [] own_d7_51 rfl (hw _ (List.mem_of_getElem? (i := 59) rfl)) (hw _ (List.mem_of_getElem? (i := 60) rfl)) (hw _ (List.mem_of_getElem? (i := 3) rfl)) (hw _ (List.mem_of_getElem? (i := 61) rfl)) (by decide) (own_at_sf l Z a0 hw r (1 : Int32) pa pb sf (2 : Int32) kr [(.int (own_ob pa pb (0 : Int32))), (.int 58), (.int 119), (.int 97), (.int 105), (.int 116), (.int 105), (.int 110), (.int 103)] 2 119 cs sv ks [(.int 58), (.int 119), (.int 97), (.int 105), (.int 116), (.int 105), (.int 110), (.int 103)] 1 119 fo h0 n0 X.sz Ar (show (2 : Int32) < (9 : Int32) by decide) (by decide) (by decide) (by decide) rfl OL z_cs hcs z_fo hfo Ea Fc Fv As (by decide) (by decide) (show (2 : Int32) - (1 : Int32) < (8 : Int32) by decide) rfl (by decide)) (fun _ _ q => Nat.le_of_eq (congrArg Array.size q.1.symm)) rfl own_pd11 rfl rfl rfl (by decide) (Nat.le_of_ble_eq_true rfl) (by decide) (by decide) ?_
  rintro v51 T h_ X ⟨eh_, rfl⟩
  rw [eh_] at X
  show own_Ends p e below _ (T.setTop (mkF m 54 #[.val (.ref r), .val (.int (1 : Int32)), .val (.int pa), .val (.int pb), .val (.ref sf)] [(.int (1 : Int32))]))
  refine own_ifN X 57 own_d7_54 rfl (XT.i0_eq_f (by decide)) ?_
  refine own_aloadN X 58 (.ref r) own_d7_57 rfl rfl rfl ?_
  refine own_iloadN X 59 (1 : Int32) own_d7_58 rfl rfl ?_
  refine own_iloadN X 60 pa own_d7_59 rfl rfl ?_
  refine own_iloadN X 61 pb own_d7_60 rfl rfl ?_
  refine own_aload X 63 (.ref sf) own_d7_61 rfl rfl rfl ?_
  refine own_iconst X 64 (3 : Int32) own_d7_63 rfl rfl ?_
  refine own_callS X 67 [(.ref r), (.int (1 : Int32)), (.int pa), (.int pb), (.ref sf), (.int (3 : Int32))] [] own_d7_64 rfl (hw _ (List.mem_of_getElem? (i := 59) rfl)) (hw _ (List.mem_of_getElem? (i := 60) rfl)) (hw _ (List.mem_of_getElem? (i := 3) rfl)) (hw _ (List.mem_of_getElem? (i := 61) rfl)) (by decide) (own_at_sf l Z a0 hw r (1 : Int32) pa pb sf (3 : Int32) kr [(.int (own_ob pa pb (0 : Int32))), (.int 58), (.int 119), (.int 97), (.int 105), (.int 116), (.int 105), (.int 110), (.int 103)] 3 97 cs sv ks [(.int 58), (.int 119), (.int 97), (.int 105), (.int 116), (.int 105), (.int 110), (.int 103)] 2 97 fo h0 n0 X.sz Ar (show (3 : Int32) < (9 : Int32) by decide) (by decide) (by decide) (by decide) rfl OL z_cs hcs z_fo hfo Ea Fc Fv As (by decide) (by decide) (show (3 : Int32) - (1 : Int32) < (8 : Int32) by decide) rfl (by decide)) (fun _ _ q => Nat.le_of_eq (congrArg Array.size q.1.symm)) rfl own_pd11 rfl rfl rfl (by decide) (Nat.le_of_ble_eq_true rfl) (by decide) (by decide) ?_
  rintro v64 T h_ X ⟨eh_, rfl⟩
  rw [eh_] at X
  show own_Ends p e below _ (T.setTop (mkF m 67 #[.val (.ref r), .val (.int (1 : Int32)), .val (.int pa), .val (.int pb), .val (.ref sf)] [(.int (1 : Int32))]))
  refine own_ifN X 70 own_d7_67 rfl (XT.i0_eq_f (by decide)) ?_
  refine own_aloadN X 71 (.ref r) own_d7_70 rfl rfl rfl ?_
  refine own_iloadN X 72 (1 : Int32) own_d7_71 rfl rfl ?_
  refine own_iloadN X 73 pa own_d7_72 rfl rfl ?_
  refine own_iloadN X 74 pb own_d7_73 rfl rfl ?_
  refine own_aload X 76 (.ref sf) own_d7_74 rfl rfl rfl ?_
  refine own_iconst X 77 (4 : Int32) own_d7_76 rfl rfl ?_
  refine own_callS X 80 [(.ref r), (.int (1 : Int32)), (.int pa), (.int pb), (.ref sf), (.int (4 : Int32))] [] own_d7_77 rfl (hw _ (List.mem_of_getElem? (i := 59) rfl)) (hw _ (List.mem_of_getElem? (i := 60) rfl)) (hw _ (List.mem_of_getElem? (i := 3) rfl)) (hw _ (List.mem_of_getElem? (i := 61) rfl)) (by decide) (own_at_sf l Z a0 hw r (1 : Int32) pa pb sf (4 : Int32) kr [(.int (own_ob pa pb (0 : Int32))), (.int 58), (.int 119), (.int 97), (.int 105), (.int 116), (.int 105), (.int 110), (.int 103)] 4 105 cs sv ks [(.int 58), (.int 119), (.int 97), (.int 105), (.int 116), (.int 105), (.int 110), (.int 103)] 3 105 fo h0 n0 X.sz Ar (show (4 : Int32) < (9 : Int32) by decide) (by decide) (by decide) (by decide) rfl OL z_cs hcs z_fo hfo Ea Fc Fv As (by decide) (by decide) (show (4 : Int32) - (1 : Int32) < (8 : Int32) by decide) rfl (by decide)) (fun _ _ q => Nat.le_of_eq (congrArg Array.size q.1.symm)) rfl own_pd11 rfl rfl rfl (by decide) (Nat.le_of_ble_eq_true rfl) (by decide) (by decide) ?_
  rintro v77 T h_ X ⟨eh_, rfl⟩
  rw [eh_] at X
  show own_Ends p e below _ (T.setTop (mkF m 80 #[.val (.ref r), .val (.int (1 : Int32)), .val (.int pa), .val (.int pb), .val (.ref sf)] [(.int (1 : Int32))]))
  refine own_ifN X 83 own_d7_80 rfl (XT.i0_eq_f (by decide)) ?_
  refine own_aloadN X 84 (.ref r) own_d7_83 rfl rfl rfl ?_
  refine own_iloadN X 85 (1 : Int32) own_d7_84 rfl rfl ?_
  refine own_iloadN X 86 pa own_d7_85 rfl rfl ?_
  refine own_iloadN X 87 pb own_d7_86 rfl rfl ?_
  refine own_aload X 89 (.ref sf) own_d7_87 rfl rfl rfl ?_
  refine own_iconst X 90 (5 : Int32) own_d7_89 rfl rfl ?_
  refine own_callS X 93 [(.ref r), (.int (1 : Int32)), (.int pa), (.int pb), (.ref sf), (.int (5 : Int32))] [] own_d7_90 rfl (hw _ (List.mem_of_getElem? (i := 59) rfl)) (hw _ (List.mem_of_getElem? (i := 60) rfl)) (hw _ (List.mem_of_getElem? (i := 3) rfl)) (hw _ (List.mem_of_getElem? (i := 61) rfl)) (by decide) (own_at_sf l Z a0 hw r (1 : Int32) pa pb sf (5 : Int32) kr [(.int (own_ob pa pb (0 : Int32))), (.int 58), (.int 119), (.int 97), (.int 105), (.int 116), (.int 105), (.int 110), (.int 103)] 5 116 cs sv ks [(.int 58), (.int 119), (.int 97), (.int 105), (.int 116), (.int 105), (.int 110), (.int 103)] 4 116 fo h0 n0 X.sz Ar (show (5 : Int32) < (9 : Int32) by decide) (by decide) (by decide) (by decide) rfl OL z_cs hcs z_fo hfo Ea Fc Fv As (by decide) (by decide) (show (5 : Int32) - (1 : Int32) < (8 : Int32) by decide) rfl (by decide)) (fun _ _ q => Nat.le_of_eq (congrArg Array.size q.1.symm)) rfl own_pd11 rfl rfl rfl (by decide) (Nat.le_of_ble_eq_true rfl) (by decide) (by decide) ?_
  rintro v90 T h_ X ⟨eh_, rfl⟩
  rw [eh_] at X
  show own_Ends p e below _ (T.setTop (mkF m 93 #[.val (.ref r), .val (.int (1 : Int32)), .val (.int pa), .val (.int pb), .val (.ref sf)] [(.int (1 : Int32))]))
  refine own_ifN X 96 own_d7_93 rfl (XT.i0_eq_f (by decide)) ?_
  refine own_aloadN X 97 (.ref r) own_d7_96 rfl rfl rfl ?_
  refine own_iloadN X 98 (1 : Int32) own_d7_97 rfl rfl ?_
  refine own_iloadN X 99 pa own_d7_98 rfl rfl ?_
  refine own_iloadN X 100 pb own_d7_99 rfl rfl ?_
  refine own_aload X 102 (.ref sf) own_d7_100 rfl rfl rfl ?_
  refine own_bipush X 104 (6 : Int32) own_d7_102 rfl (by decide) ?_
  refine own_callS X 107 [(.ref r), (.int (1 : Int32)), (.int pa), (.int pb), (.ref sf), (.int (6 : Int32))] [] own_d7_104 rfl (hw _ (List.mem_of_getElem? (i := 59) rfl)) (hw _ (List.mem_of_getElem? (i := 60) rfl)) (hw _ (List.mem_of_getElem? (i := 3) rfl)) (hw _ (List.mem_of_getElem? (i := 61) rfl)) (by decide) (own_at_sf l Z a0 hw r (1 : Int32) pa pb sf (6 : Int32) kr [(.int (own_ob pa pb (0 : Int32))), (.int 58), (.int 119), (.int 97), (.int 105), (.int 116), (.int 105), (.int 110), (.int 103)] 6 105 cs sv ks [(.int 58), (.int 119), (.int 97), (.int 105), (.int 116), (.int 105), (.int 110), (.int 103)] 5 105 fo h0 n0 X.sz Ar (show (6 : Int32) < (9 : Int32) by decide) (by decide) (by decide) (by decide) rfl OL z_cs hcs z_fo hfo Ea Fc Fv As (by decide) (by decide) (show (6 : Int32) - (1 : Int32) < (8 : Int32) by decide) rfl (by decide)) (fun _ _ q => Nat.le_of_eq (congrArg Array.size q.1.symm)) rfl own_pd11 rfl rfl rfl (by decide) (Nat.le_of_ble_eq_true rfl) (by decide) (by decide) ?_
  rintro v104 T h_ X ⟨eh_, rfl⟩
  rw [eh_] at X
  show own_Ends p e below _ (T.setTop (mkF m 107 #[.val (.ref r), .val (.int (1 : Int32)), .val (.int pa), .val (.int pb), .val (.ref sf)] [(.int (1 : Int32))]))
  refine own_ifN X 110 own_d7_107 rfl (XT.i0_eq_f (by decide)) ?_
  refine own_aloadN X 111 (.ref r) own_d7_110 rfl rfl rfl ?_
  refine own_iloadN X 112 (1 : Int32) own_d7_111 rfl rfl ?_
  refine own_iloadN X 113 pa own_d7_112 rfl rfl ?_
  refine own_iloadN X 114 pb own_d7_113 rfl rfl ?_
  refine own_aload X 116 (.ref sf) own_d7_114 rfl rfl rfl ?_
  refine own_bipush X 118 (7 : Int32) own_d7_116 rfl (by decide) ?_
  refine own_callS X 121 [(.ref r), (.int (1 : Int32)), (.int pa), (.int pb), (.ref sf), (.int (7 : Int32))] [] own_d7_118 rfl (hw _ (List.mem_of_getElem? (i := 59) rfl)) (hw _ (List.mem_of_getElem? (i := 60) rfl)) (hw _ (List.mem_of_getElem? (i := 3) rfl)) (hw _ (List.mem_of_getElem? (i := 61) rfl)) (by decide) (own_at_sf l Z a0 hw r (1 : Int32) pa pb sf (7 : Int32) kr [(.int (own_ob pa pb (0 : Int32))), (.int 58), (.int 119), (.int 97), (.int 105), (.int 116), (.int 105), (.int 110), (.int 103)] 7 110 cs sv ks [(.int 58), (.int 119), (.int 97), (.int 105), (.int 116), (.int 105), (.int 110), (.int 103)] 6 110 fo h0 n0 X.sz Ar (show (7 : Int32) < (9 : Int32) by decide) (by decide) (by decide) (by decide) rfl OL z_cs hcs z_fo hfo Ea Fc Fv As (by decide) (by decide) (show (7 : Int32) - (1 : Int32) < (8 : Int32) by decide) rfl (by decide)) (fun _ _ q => Nat.le_of_eq (congrArg Array.size q.1.symm)) rfl own_pd11 rfl rfl rfl (by decide) (Nat.le_of_ble_eq_true rfl) (by decide) (by decide) ?_
  rintro v118 T h_ X ⟨eh_, rfl⟩
  rw [eh_] at X
  show own_Ends p e below _ (T.setTop (mkF m 121 #[.val (.ref r), .val (.int (1 : Int32)), .val (.int pa), .val (.int pb), .val (.ref sf)] [(.int (1 : Int32))]))
  refine own_ifN X 124 own_d7_121 rfl (XT.i0_eq_f (by decide)) ?_
  refine own_aloadN X 125 (.ref r) own_d7_124 rfl rfl rfl ?_
  refine own_iloadN X 126 (1 : Int32) own_d7_125 rfl rfl ?_
  refine own_iloadN X 127 pa own_d7_126 rfl rfl ?_
  refine own_iloadN X 128 pb own_d7_127 rfl rfl ?_
  refine own_aload X 130 (.ref sf) own_d7_128 rfl rfl rfl ?_
  refine own_bipush X 132 (8 : Int32) own_d7_130 rfl (by decide) ?_
  refine own_callS X 135 [(.ref r), (.int (1 : Int32)), (.int pa), (.int pb), (.ref sf), (.int (8 : Int32))] [] own_d7_132 rfl (hw _ (List.mem_of_getElem? (i := 59) rfl)) (hw _ (List.mem_of_getElem? (i := 60) rfl)) (hw _ (List.mem_of_getElem? (i := 3) rfl)) (hw _ (List.mem_of_getElem? (i := 61) rfl)) (by decide) (own_at_sf l Z a0 hw r (1 : Int32) pa pb sf (8 : Int32) kr [(.int (own_ob pa pb (0 : Int32))), (.int 58), (.int 119), (.int 97), (.int 105), (.int 116), (.int 105), (.int 110), (.int 103)] 8 103 cs sv ks [(.int 58), (.int 119), (.int 97), (.int 105), (.int 116), (.int 105), (.int 110), (.int 103)] 7 103 fo h0 n0 X.sz Ar (show (8 : Int32) < (9 : Int32) by decide) (by decide) (by decide) (by decide) rfl OL z_cs hcs z_fo hfo Ea Fc Fv As (by decide) (by decide) (show (8 : Int32) - (1 : Int32) < (8 : Int32) by decide) rfl (by decide)) (fun _ _ q => Nat.le_of_eq (congrArg Array.size q.1.symm)) rfl own_pd11 rfl rfl rfl (by decide) (Nat.le_of_ble_eq_true rfl) (by decide) (by decide) ?_
  rintro v132 T h_ X ⟨eh_, rfl⟩
  rw [eh_] at X
  show own_Ends p e below _ (T.setTop (mkF m 135 #[.val (.ref r), .val (.int (1 : Int32)), .val (.int pa), .val (.int pb), .val (.ref sf)] [(.int (1 : Int32))]))
  refine own_ifN X 138 own_d7_135 rfl (XT.i0_eq_f (by decide)) ?_
  refine own_aloadN X 139 (.ref r) own_d7_138 rfl rfl rfl ?_
  refine own_iloadN X 140 (1 : Int32) own_d7_139 rfl rfl ?_
  refine own_iloadN X 141 pa own_d7_140 rfl rfl ?_
  refine own_iloadN X 142 pb own_d7_141 rfl rfl ?_
  refine own_aload X 144 (.ref sf) own_d7_142 rfl rfl rfl ?_
  refine own_bipush X 146 (9 : Int32) own_d7_144 rfl (by decide) ?_
  refine own_callS X 149 [(.ref r), (.int (1 : Int32)), (.int pa), (.int pb), (.ref sf), (.int (9 : Int32))] [] own_d7_146 rfl (hw _ (List.mem_of_getElem? (i := 59) rfl)) (hw _ (List.mem_of_getElem? (i := 60) rfl)) (hw _ (List.mem_of_getElem? (i := 3) rfl)) (hw _ (List.mem_of_getElem? (i := 61) rfl)) (by decide) (own_at_hi l Z a0 hw r (1 : Int32) pa pb sf (9 : Int32) kr [(.int (own_ob pa pb (0 : Int32))), (.int 58), (.int 119), (.int 97), (.int 105), (.int 116), (.int 105), (.int 110), (.int 103)] h0 n0 X.sz Ar (show ¬ (9 : Int32) < (9 : Int32) by decide)) (fun _ _ q => Nat.le_of_eq (congrArg Array.size q.1.symm)) rfl own_pd11 rfl rfl rfl (by decide) (Nat.le_of_ble_eq_true rfl) (by decide) (by decide) ?_
  rintro v146 T h_ X ⟨eh_, rfl⟩
  rw [eh_] at X
  show own_Ends p e below _ (T.setTop (mkF m 149 #[.val (.ref r), .val (.int (1 : Int32)), .val (.int pa), .val (.int pb), .val (.ref sf)] [(.int (1 : Int32))]))
  refine own_ifN X 152 own_d7_149 rfl (XT.i0_eq_f (by decide)) ?_
  refine own_aloadN X 153 (.ref r) own_d7_152 rfl rfl rfl ?_
  refine own_iloadN X 154 (1 : Int32) own_d7_153 rfl rfl ?_
  refine own_iloadN X 155 pa own_d7_154 rfl rfl ?_
  refine own_iloadN X 156 pb own_d7_155 rfl rfl ?_
  refine own_aload X 158 (.ref sf) own_d7_156 rfl rfl rfl ?_
  refine own_bipush X 160 (10 : Int32) own_d7_158 rfl (by decide) ?_
  refine own_callS X 163 [(.ref r), (.int (1 : Int32)), (.int pa), (.int pb), (.ref sf), (.int (10 : Int32))] [] own_d7_160 rfl (hw _ (List.mem_of_getElem? (i := 59) rfl)) (hw _ (List.mem_of_getElem? (i := 60) rfl)) (hw _ (List.mem_of_getElem? (i := 3) rfl)) (hw _ (List.mem_of_getElem? (i := 61) rfl)) (by decide) (own_at_hi l Z a0 hw r (1 : Int32) pa pb sf (10 : Int32) kr [(.int (own_ob pa pb (0 : Int32))), (.int 58), (.int 119), (.int 97), (.int 105), (.int 116), (.int 105), (.int 110), (.int 103)] h0 n0 X.sz Ar (show ¬ (10 : Int32) < (9 : Int32) by decide)) (fun _ _ q => Nat.le_of_eq (congrArg Array.size q.1.symm)) rfl own_pd11 rfl rfl rfl (by decide) (Nat.le_of_ble_eq_true rfl) (by decide) (by decide) ?_
  rintro v160 T h_ X ⟨eh_, rfl⟩
  rw [eh_] at X
  show own_Ends p e below _ (T.setTop (mkF m 163 #[.val (.ref r), .val (.int (1 : Int32)), .val (.int pa), .val (.int pb), .val (.ref sf)] [(.int (1 : Int32))]))
  refine own_ifN X 166 own_d7_163 rfl (XT.i0_eq_f (by decide)) ?_
  refine own_aloadN X 167 (.ref r) own_d7_166 rfl rfl rfl ?_
  refine own_iloadN X 168 (1 : Int32) own_d7_167 rfl rfl ?_
  refine own_iloadN X 169 pa own_d7_168 rfl rfl ?_
  refine own_iloadN X 170 pb own_d7_169 rfl rfl ?_
  refine own_aload X 172 (.ref sf) own_d7_170 rfl rfl rfl ?_
  refine own_bipush X 174 (11 : Int32) own_d7_172 rfl (by decide) ?_
  refine own_callS X 177 [(.ref r), (.int (1 : Int32)), (.int pa), (.int pb), (.ref sf), (.int (11 : Int32))] [] own_d7_174 rfl (hw _ (List.mem_of_getElem? (i := 59) rfl)) (hw _ (List.mem_of_getElem? (i := 60) rfl)) (hw _ (List.mem_of_getElem? (i := 3) rfl)) (hw _ (List.mem_of_getElem? (i := 61) rfl)) (by decide) (own_at_hi l Z a0 hw r (1 : Int32) pa pb sf (11 : Int32) kr [(.int (own_ob pa pb (0 : Int32))), (.int 58), (.int 119), (.int 97), (.int 105), (.int 116), (.int 105), (.int 110), (.int 103)] h0 n0 X.sz Ar (show ¬ (11 : Int32) < (9 : Int32) by decide)) (fun _ _ q => Nat.le_of_eq (congrArg Array.size q.1.symm)) rfl own_pd11 rfl rfl rfl (by decide) (Nat.le_of_ble_eq_true rfl) (by decide) (by decide) ?_
  rintro v174 T h_ X ⟨eh_, rfl⟩
  rw [eh_] at X
  show own_Ends p e below _ (T.setTop (mkF m 177 #[.val (.ref r), .val (.int (1 : Int32)), .val (.int pa), .val (.int pb), .val (.ref sf)] [(.int (1 : Int32))]))
  refine own_ifN X 180 own_d7_177 rfl (XT.i0_eq_f (by decide)) ?_
  refine own_aloadN X 181 (.ref r) own_d7_180 rfl rfl rfl ?_
  refine own_iloadN X 182 (1 : Int32) own_d7_181 rfl rfl ?_
  refine own_iloadN X 183 pa own_d7_182 rfl rfl ?_
  refine own_iloadN X 184 pb own_d7_183 rfl rfl ?_
  refine own_aload X 186 (.ref sf) own_d7_184 rfl rfl rfl ?_
  refine own_bipush X 188 (12 : Int32) own_d7_186 rfl (by decide) ?_
  refine own_callS X 191 [(.ref r), (.int (1 : Int32)), (.int pa), (.int pb), (.ref sf), (.int (12 : Int32))] [] own_d7_188 rfl (hw _ (List.mem_of_getElem? (i := 59) rfl)) (hw _ (List.mem_of_getElem? (i := 60) rfl)) (hw _ (List.mem_of_getElem? (i := 3) rfl)) (hw _ (List.mem_of_getElem? (i := 61) rfl)) (by decide) (own_at_hi l Z a0 hw r (1 : Int32) pa pb sf (12 : Int32) kr [(.int (own_ob pa pb (0 : Int32))), (.int 58), (.int 119), (.int 97), (.int 105), (.int 116), (.int 105), (.int 110), (.int 103)] h0 n0 X.sz Ar (show ¬ (12 : Int32) < (9 : Int32) by decide)) (fun _ _ q => Nat.le_of_eq (congrArg Array.size q.1.symm)) rfl own_pd11 rfl rfl rfl (by decide) (Nat.le_of_ble_eq_true rfl) (by decide) (by decide) ?_
  rintro v188 T h_ X ⟨eh_, rfl⟩
  rw [eh_] at X
  show own_Ends p e below _ (T.setTop (mkF m 191 #[.val (.ref r), .val (.int (1 : Int32)), .val (.int pa), .val (.int pb), .val (.ref sf)] [(.int (1 : Int32))]))
  refine own_ifN X 194 own_d7_191 rfl (XT.i0_eq_f (by decide)) ?_
  refine own_iconst X 195 (1 : Int32) own_d7_194 rfl rfl ?_
  refine own_goto X 199 own_d7_195 (by decide) (by decide) ?_
  exact own_retN X .boolean own_d7_199 rfl (by simp) (by decide) (by decide) (⟨rfl, rfl⟩)
set_option maxRecDepth 65536 in
set_option maxHeartbeats 40000000 in
theorem own_mt2_0 (l : Launch) (Z : State) (a0 : Array Value) (hw : ∀ d ∈ tables_1, d.before a0 Z = true) (r : Addr) (nn : Int32) (pa : Int32) (pb : Int32) (sf : Addr) (kr : ClassId) (cs : Int32) (sv : Addr) (ks : ClassId) (fo : Value) (h0 : Heap) (n0 : Nat) (hs0 : n0 ≤ h0.size) (Ar : own_A Z h0 r kr .byte [(.int (own_ob pa pb (0 : Int32))), (.int (own_ob pa pb (1 : Int32)))]) (OL : Old Z n0 h0) (z_cs : Sta Z Z.heap "java/lang/String" "COMPACT_STRINGS" "Z" (.int cs)) (hcs : ¬ cs = 0) (z_fo : Sta Z Z.heap "jdk/internal/util/Preconditions" "SIOOBE_FORMATTER" "Ljava/util/function/BiFunction;" fo) (hfo : fo.isRef = true) (Ea : Exa Z h0 sf "java/lang/String") (Fc : Fld Z h0 sf "java/lang/String" "coder" "B" (.int 0)) (Fv : Fld Z h0 sf "java/lang/String" "value" "[B" (.ref sv)) (As : own_A Z h0 sv ks .byte []) (hn : nn = 2) :
    own_Met l (⟨"com/example/latchkey/latchkey/LockKeysHolderFieldsPinLaw", "matches", "([BIIILjava/lang/String;)Z"⟩ : MethodName) method_6_code 5 (some .boolean) ({ frames := 2, cells := 0, slots := 0, locals := 32 } : Room) Z #[(.ref r), (.int nn), (.int pa), (.int pb), (.ref sf)] h0 n0 (fun v h' => h' = h0 ∧ v = some (.int (1 : Int32))) := by
  refine own_met (Ls := #[.val (.ref r), .val (.int nn), .val (.int pa), .val (.int pb), .val (.ref sf)]) own_pn7 hs0 (fun m => by first  | (simp [entryFrame, mkF, argsToLocals, Value.category]; done) | rfl) ?_
  intro p e s m below meth c T X
  have hi_r : h0.size > r := Ar.lt
  have hi_sv : h0.size > sv := As.lt
  have hi_sf : h0.size > sf := Ea.lt
  subst hn
  refine own_aloadN X 1 (.ref r) own_d7_0 rfl rfl rfl ?_
  refine own_nullN X 4 own_d7_1 rfl ?_
  refine own_aloadN X 5 (.ref r) own_d7_4 rfl rfl rfl ?_
  refine own_len X 6 (2 : Int32) own_d7_5 rfl Ar rfl ?_
  refine own_iloadN X 7 (2 : Int32) own_d7_6 rfl rfl ?_
  refine own_aload X 9 (.ref sf) own_d7_7 rfl rfl rfl ?_
  refine own_callV X 12 [] [(.int (2 : Int32)), (.int (2 : Int32))] own_d7_9 rfl (hw _ (List.mem_of_getElem? (i := 46) rfl)) (hw _ (List.mem_of_getElem? (i := 47) rfl)) (own_nf X.2.2.2.2.1 (hw _ (List.mem_of_getElem? (i := 49) rfl))) (hw _ (List.mem_of_getElem? (i := 49) rfl)) (hw _ (List.mem_of_getElem? (i := 48) rfl)) (hw _ (List.mem_of_getElem? (i := 37) rfl)) (hw _ (List.mem_of_getElem? (i := 50) rfl)) (by decide) Ea (own_sl0 l Z a0 hw sf cs sv ks h0 n0 X.sz OL z_cs hcs Ea Fc Fv As) (fun _ _ q => Nat.le_of_eq (congrArg Array.size q.1.symm)) rfl own_pd10 rfl rfl rfl (by decide) (Nat.le_of_ble_eq_true rfl) (by decide) (by decide) ?_
  rintro v9 T h_ X ⟨eh_, rfl⟩
  rw [eh_] at X
  show own_Ends p e below _ (T.setTop (mkF m 12 #[.val (.ref r), .val (.int (2 : Int32)), .val (.int pa), .val (.int pb), .val (.ref sf)] [(.int (0 : Int32)), (.int (2 : Int32)), (.int (2 : Int32))]))
  refine own_iadd X 13 own_d7_12 rfl ?_
  refine own_icY X 18 own_d7_13 (by decide) (by decide) (XT.ii_eq_t (by decide)) ?_
  refine own_aloadN X 19 (.ref r) own_d7_18 rfl rfl rfl ?_
  refine own_iloadN X 20 (2 : Int32) own_d7_19 rfl rfl ?_
  refine own_iloadN X 21 pa own_d7_20 rfl rfl ?_
  refine own_iloadN X 22 pb own_d7_21 rfl rfl ?_
  refine own_aload X 24 (.ref sf) own_d7_22 rfl rfl rfl ?_
  refine own_iconst X 25 (0 : Int32) own_d7_24 rfl rfl ?_
  refine own_callS X 28 [(.ref r), (.int (2 : Int32)), (.int pa), (.int pb), (.ref sf), (.int (0 : Int32))] [] own_d7_25 rfl (hw _ (List.mem_of_getElem? (i := 59) rfl)) (hw _ (List.mem_of_getElem? (i := 60) rfl)) (hw _ (List.mem_of_getElem? (i := 3) rfl)) (hw _ (List.mem_of_getElem? (i := 61) rfl)) (by decide) (own_at_ob l Z a0 hw r (2 : Int32) pa pb sf (0 : Int32) kr [(.int (own_ob pa pb (0 : Int32))), (.int (own_ob pa pb (1 : Int32)))] 0 h0 n0 X.sz Ar (show (0 : Int32) < (2 : Int32) by decide) (by decide) (by decide) (by decide) rfl) (fun _ _ q => Nat.le_of_eq (congrArg Array.size q.1.symm)) rfl own_pd11 rfl rfl rfl (by decide) (Nat.le_of_ble_eq_true rfl) (by decide) (by decide) ?_
  rintro v25 T h_ X ⟨eh_, rfl⟩
  rw [eh_] at X
  show own_Ends p e below _ (T.setTop (mkF m 28 #[.val (.ref r), .val (.int (2 : Int32)), .val (.int pa), .val (.int pb), .val (.ref sf)] [(.int (1 : Int32))]))
  refine own_ifN X 31 own_d7_28 rfl (XT.i0_eq_f (by decide)) ?_
  refine own_aloadN X 32 (.ref r) own_d7_31 rfl rfl rfl ?_
  refine own_iloadN X 33 (2 : Int32) own_d7_32 rfl rfl ?_
  refine own_iloadN X 34 pa own_d7_33 rfl rfl ?_
  refine own_iloadN X 35 pb own_d7_34 rfl rfl ?_
  refine own_aload X 37 (.ref sf) own_d7_35 rfl rfl rfl ?_
  refine own_iconst X 38 (1 : Int32) own_d7_37 rfl rfl ?_
  refine own_callS X 41 [(.ref r), (.int (2 : Int32)), (.int pa), (.int pb), (.ref sf), (.int (1 : Int32))] [] own_d7_38 rfl (hw _ (List.mem_of_getElem? (i := 59) rfl)) (hw _ (List.mem_of_getElem? (i := 60) rfl)) (hw _ (List.mem_of_getElem? (i := 3) rfl)) (hw _ (List.mem_of_getElem? (i := 61) rfl)) (by decide) (own_at_ob l Z a0 hw r (2 : Int32) pa pb sf (1 : Int32) kr [(.int (own_ob pa pb (0 : Int32))), (.int (own_ob pa pb (1 : Int32)))] 1 h0 n0 X.sz Ar (show (1 : Int32) < (2 : Int32) by decide) (by decide) (by decide) (by decide) rfl) (fun _ _ q => Nat.le_of_eq (congrArg Array.size q.1.symm)) rfl own_pd11 rfl rfl rfl (by decide) (Nat.le_of_ble_eq_true rfl) (by decide) (by decide) ?_
  rintro v38 T h_ X ⟨eh_, rfl⟩
  rw [eh_] at X
  show own_Ends p e below _ (T.setTop (mkF m 41 #[.val (.ref r), .val (.int (2 : Int32)), .val (.int pa), .val (.int pb), .val (.ref sf)] [(.int (1 : Int32))]))
  refine own_ifN X 44 own_d7_41 rfl (XT.i0_eq_f (by decide)) ?_
  refine own_aloadN X 45 (.ref r) own_d7_44 rfl rfl rfl ?_
  refine own_iloadN X 46 (2 : Int32) own_d7_45 rfl rfl ?_
  refine own_iloadN X 47 pa own_d7_46 rfl rfl ?_
  refine own_iloadN X 48 pb own_d7_47 rfl rfl ?_
  refine own_aload X 50 (.ref sf) own_d7_48 rfl rfl rfl ?_
  refine own_iconst X 51 (2 : Int32) own_d7_50 rfl rfl ?_
  refine own_callS X 54 [(.ref r), (.int (2 : Int32)), (.int pa), (.int pb), (.ref sf), (.int (2 : Int32))] [] own_d7_51 rfl (hw _ (List.mem_of_getElem? (i := 59) rfl)) (hw _ (List.mem_of_getElem? (i := 60) rfl)) (hw _ (List.mem_of_getElem? (i := 3) rfl)) (hw _ (List.mem_of_getElem? (i := 61) rfl)) (by decide) (own_at_hi l Z a0 hw r (2 : Int32) pa pb sf (2 : Int32) kr [(.int (own_ob pa pb (0 : Int32))), (.int (own_ob pa pb (1 : Int32)))] h0 n0 X.sz Ar (show ¬ (2 : Int32) < (2 : Int32) by decide)) (fun _ _ q => Nat.le_of_eq (congrArg Array.size q.1.symm)) rfl own_pd11 rfl rfl rfl (by decide) (Nat.le_of_ble_eq_true rfl) (by decide) (by decide) ?_
  rintro v51 T h_ X ⟨eh_, rfl⟩
  rw [eh_] at X
  show own_Ends p e below _ (T.setTop (mkF m 54 #[.val (.ref r), .val (.int (2 : Int32)), .val (.int pa), .val (.int pb), .val (.ref sf)] [(.int (1 : Int32))]))
  refine own_ifN X 57 own_d7_54 rfl (XT.i0_eq_f (by decide)) ?_
  refine own_aloadN X 58 (.ref r) own_d7_57 rfl rfl rfl ?_
  refine own_iloadN X 59 (2 : Int32) own_d7_58 rfl rfl ?_
  refine own_iloadN X 60 pa own_d7_59 rfl rfl ?_
  refine own_iloadN X 61 pb own_d7_60 rfl rfl ?_
  refine own_aload X 63 (.ref sf) own_d7_61 rfl rfl rfl ?_
  refine own_iconst X 64 (3 : Int32) own_d7_63 rfl rfl ?_
  refine own_callS X 67 [(.ref r), (.int (2 : Int32)), (.int pa), (.int pb), (.ref sf), (.int (3 : Int32))] [] own_d7_64 rfl (hw _ (List.mem_of_getElem? (i := 59) rfl)) (hw _ (List.mem_of_getElem? (i := 60) rfl)) (hw _ (List.mem_of_getElem? (i := 3) rfl)) (hw _ (List.mem_of_getElem? (i := 61) rfl)) (by decide) (own_at_hi l Z a0 hw r (2 : Int32) pa pb sf (3 : Int32) kr [(.int (own_ob pa pb (0 : Int32))), (.int (own_ob pa pb (1 : Int32)))] h0 n0 X.sz Ar (show ¬ (3 : Int32) < (2 : Int32) by decide)) (fun _ _ q => Nat.le_of_eq (congrArg Array.size q.1.symm)) rfl own_pd11 rfl rfl rfl (by decide) (Nat.le_of_ble_eq_true rfl) (by decide) (by decide) ?_
  rintro v64 T h_ X ⟨eh_, rfl⟩
  rw [eh_] at X
  show own_Ends p e below _ (T.setTop (mkF m 67 #[.val (.ref r), .val (.int (2 : Int32)), .val (.int pa), .val (.int pb), .val (.ref sf)] [(.int (1 : Int32))]))
  refine own_ifN X 70 own_d7_67 rfl (XT.i0_eq_f (by decide)) ?_
  refine own_aloadN X 71 (.ref r) own_d7_70 rfl rfl rfl ?_
  refine own_iloadN X 72 (2 : Int32) own_d7_71 rfl rfl ?_
  refine own_iloadN X 73 pa own_d7_72 rfl rfl ?_
  refine own_iloadN X 74 pb own_d7_73 rfl rfl ?_
  refine own_aload X 76 (.ref sf) own_d7_74 rfl rfl rfl ?_
  refine own_iconst X 77 (4 : Int32) own_d7_76 rfl rfl ?_
  refine own_callS X 80 [(.ref r), (.int (2 : Int32)), (.int pa), (.int pb), (.ref sf), (.int (4 : Int32))] [] own_d7_77 rfl (hw _ (List.mem_of_getElem? (i := 59) rfl)) (hw _ (List.mem_of_getElem? (i := 60) rfl)) (hw _ (List.mem_of_getElem? (i := 3) rfl)) (hw _ (List.mem_of_getElem? (i := 61) rfl)) (by decide) (own_at_hi l Z a0 hw r (2 : Int32) pa pb sf (4 : Int32) kr [(.int (own_ob pa pb (0 : Int32))), (.int (own_ob pa pb (1 : Int32)))] h0 n0 X.sz Ar (show ¬ (4 : Int32) < (2 : Int32) by decide)) (fun _ _ q => Nat.le_of_eq (congrArg Array.size q.1.symm)) rfl own_pd11 rfl rfl rfl (by decide) (Nat.le_of_ble_eq_true rfl) (by decide) (by decide) ?_
  rintro v77 T h_ X ⟨eh_, rfl⟩
  rw [eh_] at X
  show own_Ends p e below _ (T.setTop (mkF m 80 #[.val (.ref r), .val (.int (2 : Int32)), .val (.int pa), .val (.int pb), .val (.ref sf)] [(.int (1 : Int32))]))
  refine own_ifN X 83 own_d7_80 rfl (XT.i0_eq_f (by decide)) ?_
  refine own_aloadN X 84 (.ref r) own_d7_83 rfl rfl rfl ?_
  refine own_iloadN X 85 (2 : Int32) own_d7_84 rfl rfl ?_
  refine own_iloadN X 86 pa own_d7_85 rfl rfl ?_
  refine own_iloadN X 87 pb own_d7_86 rfl rfl ?_
  refine own_aload X 89 (.ref sf) own_d7_87 rfl rfl rfl ?_
  refine own_iconst X 90 (5 : Int32) own_d7_89 rfl rfl ?_
  refine own_callS X 93 [(.ref r), (.int (2 : Int32)), (.int pa), (.int pb), (.ref sf), (.int (5 : Int32))] [] own_d7_90 rfl (hw _ (List.mem_of_getElem? (i := 59) rfl)) (hw _ (List.mem_of_getElem? (i := 60) rfl)) (hw _ (List.mem_of_getElem? (i := 3) rfl)) (hw _ (List.mem_of_getElem? (i := 61) rfl)) (by decide) (own_at_hi l Z a0 hw r (2 : Int32) pa pb sf (5 : Int32) kr [(.int (own_ob pa pb (0 : Int32))), (.int (own_ob pa pb (1 : Int32)))] h0 n0 X.sz Ar (show ¬ (5 : Int32) < (2 : Int32) by decide)) (fun _ _ q => Nat.le_of_eq (congrArg Array.size q.1.symm)) rfl own_pd11 rfl rfl rfl (by decide) (Nat.le_of_ble_eq_true rfl) (by decide) (by decide) ?_
  rintro v90 T h_ X ⟨eh_, rfl⟩
  rw [eh_] at X
  show own_Ends p e below _ (T.setTop (mkF m 93 #[.val (.ref r), .val (.int (2 : Int32)), .val (.int pa), .val (.int pb), .val (.ref sf)] [(.int (1 : Int32))]))
  refine own_ifN X 96 own_d7_93 rfl (XT.i0_eq_f (by decide)) ?_
  refine own_aloadN X 97 (.ref r) own_d7_96 rfl rfl rfl ?_
  refine own_iloadN X 98 (2 : Int32) own_d7_97 rfl rfl ?_
  refine own_iloadN X 99 pa own_d7_98 rfl rfl ?_
  refine own_iloadN X 100 pb own_d7_99 rfl rfl ?_
  refine own_aload X 102 (.ref sf) own_d7_100 rfl rfl rfl ?_
  refine own_bipush X 104 (6 : Int32) own_d7_102 rfl (by decide) ?_
  refine own_callS X 107 [(.ref r), (.int (2 : Int32)), (.int pa), (.int pb), (.ref sf), (.int (6 : Int32))] [] own_d7_104 rfl (hw _ (List.mem_of_getElem? (i := 59) rfl)) (hw _ (List.mem_of_getElem? (i := 60) rfl)) (hw _ (List.mem_of_getElem? (i := 3) rfl)) (hw _ (List.mem_of_getElem? (i := 61) rfl)) (by decide) (own_at_hi l Z a0 hw r (2 : Int32) pa pb sf (6 : Int32) kr [(.int (own_ob pa pb (0 : Int32))), (.int (own_ob pa pb (1 : Int32)))] h0 n0 X.sz Ar (show ¬ (6 : Int32) < (2 : Int32) by decide)) (fun _ _ q => Nat.le_of_eq (congrArg Array.size q.1.symm)) rfl own_pd11 rfl rfl rfl (by decide) (Nat.le_of_ble_eq_true rfl) (by decide) (by decide) ?_
  rintro v104 T h_ X ⟨eh_, rfl⟩
  rw [eh_] at X
  show own_Ends p e below _ (T.setTop (mkF m 107 #[.val (.ref r), .val (.int (2 : Int32)), .val (.int pa), .val (.int pb), .val (.ref sf)] [(.int (1 : Int32))]))
  refine own_ifN X 110 own_d7_107 rfl (XT.i0_eq_f (by decide)) ?_
  refine own_aloadN X 111 (.ref r) own_d7_110 rfl rfl rfl ?_
  refine own_iloadN X 112 (2 : Int32) own_d7_111 rfl rfl ?_
  refine own_iloadN X 113 pa own_d7_112 rfl rfl ?_
  refine own_iloadN X 114 pb own_d7_113 rfl rfl ?_
  refine own_aload X 116 (.ref sf) own_d7_114 rfl rfl rfl ?_
  refine own_bipush X 118 (7 : Int32) own_d7_116 rfl (by decide) ?_
  refine own_callS X 121 [(.ref r), (.int (2 : Int32)), (.int pa), (.int pb), (.ref sf), (.int (7 : Int32))] [] own_d7_118 rfl (hw _ (List.mem_of_getElem? (i := 59) rfl)) (hw _ (List.mem_of_getElem? (i := 60) rfl)) (hw _ (List.mem_of_getElem? (i := 3) rfl)) (hw _ (List.mem_of_getElem? (i := 61) rfl)) (by decide) (own_at_hi l Z a0 hw r (2 : Int32) pa pb sf (7 : Int32) kr [(.int (own_ob pa pb (0 : Int32))), (.int (own_ob pa pb (1 : Int32)))] h0 n0 X.sz Ar (show ¬ (7 : Int32) < (2 : Int32) by decide)) (fun _ _ q => Nat.le_of_eq (congrArg Array.size q.1.symm)) rfl own_pd11 rfl rfl rfl (by decide) (Nat.le_of_ble_eq_true rfl) (by decide) (by decide) ?_
  rintro v118 T h_ X ⟨eh_, rfl⟩
  rw [eh_] at X
  show own_Ends p e below _ (T.setTop (mkF m 121 #[.val (.ref r), .val (.int (2 : Int32)), .val (.int pa), .val (.int pb), .val (.ref sf)] [(.int (1 : Int32))]))
  refine own_ifN X 124 own_d7_121 rfl (XT.i0_eq_f (by decide)) ?_
  refine own_aloadN X 125 (.ref r) own_d7_124 rfl rfl rfl ?_
  refine own_iloadN X 126 (2 : Int32) own_d7_125 rfl rfl ?_
  refine own_iloadN X 127 pa own_d7_126 rfl rfl ?_
  refine own_iloadN X 128 pb own_d7_127 rfl rfl ?_
  refine own_aload X 130 (.ref sf) own_d7_128 rfl rfl rfl ?_
  refine own_bipush X 132 (8 : Int32) own_d7_130 rfl (by decide) ?_
  refine own_callS X 135 [(.ref r), (.int (2 : Int32)), (.int pa), (.int pb), (.ref sf), (.int (8 : Int32))] [] own_d7_132 rfl (hw _ (List.mem_of_getElem? (i := 59) rfl)) (hw _ (List.mem_of_getElem? (i := 60) rfl)) (hw _ (List.mem_of_getElem? (i := 3) rfl)) (hw _ (List.mem_of_getElem? (i := 61) rfl)) (by decide) (own_at_hi l Z a0 hw r (2 : Int32) pa pb sf (8 : Int32) kr [(.int (own_ob pa pb (0 : Int32))), (.int (own_ob pa pb (1 : Int32)))] h0 n0 X.sz Ar (show ¬ (8 : Int32) < (2 : Int32) by decide)) (fun _ _ q => Nat.le_of_eq (congrArg Array.size q.1.symm)) rfl own_pd11 rfl rfl rfl (by decide) (Nat.le_of_ble_eq_true rfl) (by decide) (by decide) ?_
  rintro v132 T h_ X ⟨eh_, rfl⟩
  rw [eh_] at X
  show own_Ends p e below _ (T.setTop (mkF m 135 #[.val (.ref r), .val (.int (2 : Int32)), .val (.int pa), .val (.int pb), .val (.ref sf)] [(.int (1 : Int32))]))
  refine own_ifN X 138 own_d7_135 rfl (XT.i0_eq_f (by decide)) ?_
  refine own_aloadN X 139 (.ref r) own_d7_138 rfl rfl rfl ?_
  refine own_iloadN X 140 (2 : Int32) own_d7_139 rfl rfl ?_
  refine own_iloadN X 141 pa own_d7_140 rfl rfl ?_
  refine own_iloadN X 142 pb own_d7_141 rfl rfl ?_
  refine own_aload X 144 (.ref sf) own_d7_142 rfl rfl rfl ?_
  refine own_bipush X 146 (9 : Int32) own_d7_144 rfl (by decide) ?_
  refine own_callS X 149 [(.ref r), (.int (2 : Int32)), (.int pa), (.int pb), (.ref sf), (.int (9 : Int32))] [] own_d7_146 rfl (hw _ (List.mem_of_getElem? (i := 59) rfl)) (hw _ (List.mem_of_getElem? (i := 60) rfl)) (hw _ (List.mem_of_getElem? (i := 3) rfl)) (hw _ (List.mem_of_getElem? (i := 61) rfl)) (by decide) (own_at_hi l Z a0 hw r (2 : Int32) pa pb sf (9 : Int32) kr [(.int (own_ob pa pb (0 : Int32))), (.int (own_ob pa pb (1 : Int32)))] h0 n0 X.sz Ar (show ¬ (9 : Int32) < (2 : Int32) by decide)) (fun _ _ q => Nat.le_of_eq (congrArg Array.size q.1.symm)) rfl own_pd11 rfl rfl rfl (by decide) (Nat.le_of_ble_eq_true rfl) (by decide) (by decide) ?_
  rintro v146 T h_ X ⟨eh_, rfl⟩
  rw [eh_] at X
  show own_Ends p e below _ (T.setTop (mkF m 149 #[.val (.ref r), .val (.int (2 : Int32)), .val (.int pa), .val (.int pb), .val (.ref sf)] [(.int (1 : Int32))]))
  refine own_ifN X 152 own_d7_149 rfl (XT.i0_eq_f (by decide)) ?_
  refine own_aloadN X 153 (.ref r) own_d7_152 rfl rfl rfl ?_
  refine own_iloadN X 154 (2 : Int32) own_d7_153 rfl rfl ?_
  refine own_iloadN X 155 pa own_d7_154 rfl rfl ?_
  refine own_iloadN X 156 pb own_d7_155 rfl rfl ?_
  refine own_aload X 158 (.ref sf) own_d7_156 rfl rfl rfl ?_
  refine own_bipush X 160 (10 : Int32) own_d7_158 rfl (by decide) ?_
  refine own_callS X 163 [(.ref r), (.int (2 : Int32)), (.int pa), (.int pb), (.ref sf), (.int (10 : Int32))] [] own_d7_160 rfl (hw _ (List.mem_of_getElem? (i := 59) rfl)) (hw _ (List.mem_of_getElem? (i := 60) rfl)) (hw _ (List.mem_of_getElem? (i := 3) rfl)) (hw _ (List.mem_of_getElem? (i := 61) rfl)) (by decide) (own_at_hi l Z a0 hw r (2 : Int32) pa pb sf (10 : Int32) kr [(.int (own_ob pa pb (0 : Int32))), (.int (own_ob pa pb (1 : Int32)))] h0 n0 X.sz Ar (show ¬ (10 : Int32) < (2 : Int32) by decide)) (fun _ _ q => Nat.le_of_eq (congrArg Array.size q.1.symm)) rfl own_pd11 rfl rfl rfl (by decide) (Nat.le_of_ble_eq_true rfl) (by decide) (by decide) ?_
  rintro v160 T h_ X ⟨eh_, rfl⟩
  rw [eh_] at X
  show own_Ends p e below _ (T.setTop (mkF m 163 #[.val (.ref r), .val (.int (2 : Int32)), .val (.int pa), .val (.int pb), .val (.ref sf)] [(.int (1 : Int32))]))
  refine own_ifN X 166 own_d7_163 rfl (XT.i0_eq_f (by decide)) ?_
  refine own_aloadN X 167 (.ref r) own_d7_166 rfl rfl rfl ?_
  refine own_iloadN X 168 (2 : Int32) own_d7_167 rfl rfl ?_
  refine own_iloadN X 169 pa own_d7_168 rfl rfl ?_
  refine own_iloadN X 170 pb own_d7_169 rfl rfl ?_
  refine own_aload X 172 (.ref sf) own_d7_170 rfl rfl rfl ?_
  refine own_bipush X 174 (11 : Int32) own_d7_172 rfl (by decide) ?_
  refine own_callS X 177 [(.ref r), (.int (2 : Int32)), (.int pa), (.int pb), (.ref sf), (.int (11 : Int32))] [] own_d7_174 rfl (hw _ (List.mem_of_getElem? (i := 59) rfl)) (hw _ (List.mem_of_getElem? (i := 60) rfl)) (hw _ (List.mem_of_getElem? (i := 3) rfl)) (hw _ (List.mem_of_getElem? (i := 61) rfl)) (by decide) (own_at_hi l Z a0 hw r (2 : Int32) pa pb sf (11 : Int32) kr [(.int (own_ob pa pb (0 : Int32))), (.int (own_ob pa pb (1 : Int32)))] h0 n0 X.sz Ar (show ¬ (11 : Int32) < (2 : Int32) by decide)) (fun _ _ q => Nat.le_of_eq (congrArg Array.size q.1.symm)) rfl own_pd11 rfl rfl rfl (by decide) (Nat.le_of_ble_eq_true rfl) (by decide) (by decide) ?_
  rintro v174 T h_ X ⟨eh_, rfl⟩
  rw [eh_] at X
  show own_Ends p e below _ (T.setTop (mkF m 177 #[.val (.ref r), .val (.int (2 : Int32)), .val (.int pa), .val (.int pb), .val (.ref sf)] [(.int (1 : Int32))]))
  refine own_ifN X 180 own_d7_177 rfl (XT.i0_eq_f (by decide)) ?_
  refine own_aloadN X 181 (.ref r) own_d7_180 rfl rfl rfl ?_
  refine own_iloadN X 182 (2 : Int32) own_d7_181 rfl rfl ?_
  refine own_iloadN X 183 pa own_d7_182 rfl rfl ?_
  refine own_iloadN X 184 pb own_d7_183 rfl rfl ?_
  refine own_aload X 186 (.ref sf) own_d7_184 rfl rfl rfl ?_
  refine own_bipush X 188 (12 : Int32) own_d7_186 rfl (by decide) ?_
  refine own_callS X 191 [(.ref r), (.int (2 : Int32)), (.int pa), (.int pb), (.ref sf), (.int (12 : Int32))] [] own_d7_188 rfl (hw _ (List.mem_of_getElem? (i := 59) rfl)) (hw _ (List.mem_of_getElem? (i := 60) rfl)) (hw _ (List.mem_of_getElem? (i := 3) rfl)) (hw _ (List.mem_of_getElem? (i := 61) rfl)) (by decide) (own_at_hi l Z a0 hw r (2 : Int32) pa pb sf (12 : Int32) kr [(.int (own_ob pa pb (0 : Int32))), (.int (own_ob pa pb (1 : Int32)))] h0 n0 X.sz Ar (show ¬ (12 : Int32) < (2 : Int32) by decide)) (fun _ _ q => Nat.le_of_eq (congrArg Array.size q.1.symm)) rfl own_pd11 rfl rfl rfl (by decide) (Nat.le_of_ble_eq_true rfl) (by decide) (by decide) ?_
  rintro v188 T h_ X ⟨eh_, rfl⟩
  rw [eh_] at X
  show own_Ends p e below _ (T.setTop (mkF m 191 #[.val (.ref r), .val (.int (2 : Int32)), .val (.int pa), .val (.int pb), .val (.ref sf)] [(.int (1 : Int32))]))
  refine own_ifN X 194 own_d7_191 rfl (XT.i0_eq_f (by decide)) ?_
  refine own_iconst X 195 (1 : Int32) own_d7_194 rfl rfl ?_
  refine own_goto X 199 own_d7_195 (by decide) (by decide) ?_
  exact own_retN X .boolean own_d7_199 rfl (by simp) (by decide) (by decide) (⟨rfl, rfl⟩)
set_option maxRecDepth 65536 in
set_option maxHeartbeats 40000000 in
theorem own_mt2_6 (l : Launch) (Z : State) (a0 : Array Value) (hw : ∀ d ∈ tables_1, d.before a0 Z = true) (r : Addr) (nn : Int32) (pa : Int32) (pb : Int32) (sf : Addr) (kr : ClassId) (cs : Int32) (sv : Addr) (ks : ClassId) (fo : Value) (h0 : Heap) (n0 : Nat) (hs0 : n0 ≤ h0.size) (Ar : own_A Z h0 r kr .byte [(.int (own_ob pa pb (0 : Int32))), (.int (own_ob pa pb (1 : Int32))), (.int 58), (.int 104), (.int 111), (.int 108), (.int 100), (.int 115)]) (OL : Old Z n0 h0) (z_cs : Sta Z Z.heap "java/lang/String" "COMPACT_STRINGS" "Z" (.int cs)) (hcs : ¬ cs = 0) (z_fo : Sta Z Z.heap "jdk/internal/util/Preconditions" "SIOOBE_FORMATTER" "Ljava/util/function/BiFunction;" fo) (hfo : fo.isRef = true) (Ea : Exa Z h0 sf "java/lang/String") (Fc : Fld Z h0 sf "java/lang/String" "coder" "B" (.int 0)) (Fv : Fld Z h0 sf "java/lang/String" "value" "[B" (.ref sv)) (As : own_A Z h0 sv ks .byte [(.int 58), (.int 104), (.int 111), (.int 108), (.int 100), (.int 115)]) (hn : nn = 2) :
    own_Met l (⟨"com/example/latchkey/latchkey/LockKeysHolderFieldsPinLaw", "matches", "([BIIILjava/lang/String;)Z"⟩ : MethodName) method_6_code 5 (some .boolean) ({ frames := 5, cells := 0, slots := 0, locals := 71 } : Room) Z #[(.ref r), (.int nn), (.int pa), (.int pb), (.ref sf)] h0 n0 (fun v h' => h' = h0 ∧ v = some (.int (1 : Int32))) := by
  refine own_met (Ls := #[.val (.ref r), .val (.int nn), .val (.int pa), .val (.int pb), .val (.ref sf)]) own_pn7 hs0 (fun m => by first  | (simp [entryFrame, mkF, argsToLocals, Value.category]; done) | rfl) ?_
  intro p e s m below meth c T X
  have hi_r : h0.size > r := Ar.lt
  have hi_sv : h0.size > sv := As.lt
  have hi_sf : h0.size > sf := Ea.lt
  subst hn
  refine own_aloadN X 1 (.ref r) own_d7_0 rfl rfl rfl ?_
  refine own_nullN X 4 own_d7_1 rfl ?_
  refine own_aloadN X 5 (.ref r) own_d7_4 rfl rfl rfl ?_
  refine own_len X 6 (8 : Int32) own_d7_5 rfl Ar rfl ?_
  refine own_iloadN X 7 (2 : Int32) own_d7_6 rfl rfl ?_
  refine own_aload X 9 (.ref sf) own_d7_7 rfl rfl rfl ?_
  refine own_callV X 12 [] [(.int (2 : Int32)), (.int (8 : Int32))] own_d7_9 rfl (hw _ (List.mem_of_getElem? (i := 46) rfl)) (hw _ (List.mem_of_getElem? (i := 47) rfl)) (own_nf X.2.2.2.2.1 (hw _ (List.mem_of_getElem? (i := 49) rfl))) (hw _ (List.mem_of_getElem? (i := 49) rfl)) (hw _ (List.mem_of_getElem? (i := 48) rfl)) (hw _ (List.mem_of_getElem? (i := 37) rfl)) (hw _ (List.mem_of_getElem? (i := 50) rfl)) (by decide) Ea (own_sl6 l Z a0 hw sf cs sv ks h0 n0 X.sz OL z_cs hcs Ea Fc Fv As) (fun _ _ q => Nat.le_of_eq (congrArg Array.size q.1.symm)) rfl own_pd10 rfl rfl rfl (by decide) (Nat.le_of_ble_eq_true rfl) (by decide) (by decide) ?_
  rintro v9 T h_ X ⟨eh_, rfl⟩
  rw [eh_] at X
  show own_Ends p e below _ (T.setTop (mkF m 12 #[.val (.ref r), .val (.int (2 : Int32)), .val (.int pa), .val (.int pb), .val (.ref sf)] [(.int (6 : Int32)), (.int (2 : Int32)), (.int (8 : Int32))]))
  refine own_iadd X 13 own_d7_12 rfl ?_
  refine own_icY X 18 own_d7_13 (by decide) (by decide) (XT.ii_eq_t (by decide)) ?_
  refine own_aloadN X 19 (.ref r) own_d7_18 rfl rfl rfl ?_
  refine own_iloadN X 20 (2 : Int32) own_d7_19 rfl rfl ?_
  refine own_iloadN X 21 pa own_d7_20 rfl rfl ?_
  refine own_iloadN X 22 pb own_d7_21 rfl rfl ?_
  refine own_aload X 24 (.ref sf) own_d7_22 rfl rfl rfl ?_
  refine own_iconst X 25 (0 : Int32) own_d7_24 rfl rfl ?_
  refine own_callS X 28 [(.ref r), (.int (2 : Int32)), (.int pa), (.int pb), (.ref sf), (.int (0 : Int32))] [] own_d7_25 rfl (hw _ (List.mem_of_getElem? (i := 59) rfl)) (hw _ (List.mem_of_getElem? (i := 60) rfl)) (hw _ (List.mem_of_getElem? (i := 3) rfl)) (hw _ (List.mem_of_getElem? (i := 61) rfl)) (by decide) (own_at_ob l Z a0 hw r (2 : Int32) pa pb sf (0 : Int32) kr [(.int (own_ob pa pb (0 : Int32))), (.int (own_ob pa pb (1 : Int32))), (.int 58), (.int 104), (.int 111), (.int 108), (.int 100), (.int 115)] 0 h0 n0 X.sz Ar (show (0 : Int32) < (8 : Int32) by decide) (by decide) (by decide) (by decide) rfl) (fun _ _ q => Nat.le_of_eq (congrArg Array.size q.1.symm)) rfl own_pd11 rfl rfl rfl (by decide) (Nat.le_of_ble_eq_true rfl) (by decide) (by decide) ?_
  rintro v25 T h_ X ⟨eh_, rfl⟩
  rw [eh_] at X
  show own_Ends p e below _ (T.setTop (mkF m 28 #[.val (.ref r), .val (.int (2 : Int32)), .val (.int pa), .val (.int pb), .val (.ref sf)] [(.int (1 : Int32))]))
  refine own_ifN X 31 own_d7_28 rfl (XT.i0_eq_f (by decide)) ?_
  refine own_aloadN X 32 (.ref r) own_d7_31 rfl rfl rfl ?_
  refine own_iloadN X 33 (2 : Int32) own_d7_32 rfl rfl ?_
  refine own_iloadN X 34 pa own_d7_33 rfl rfl ?_
  refine own_iloadN X 35 pb own_d7_34 rfl rfl ?_
  refine own_aload X 37 (.ref sf) own_d7_35 rfl rfl rfl ?_
  refine own_iconst X 38 (1 : Int32) own_d7_37 rfl rfl ?_
  refine own_callS X 41 [(.ref r), (.int (2 : Int32)), (.int pa), (.int pb), (.ref sf), (.int (1 : Int32))] [] own_d7_38 rfl (hw _ (List.mem_of_getElem? (i := 59) rfl)) (hw _ (List.mem_of_getElem? (i := 60) rfl)) (hw _ (List.mem_of_getElem? (i := 3) rfl)) (hw _ (List.mem_of_getElem? (i := 61) rfl)) (by decide) (own_at_ob l Z a0 hw r (2 : Int32) pa pb sf (1 : Int32) kr [(.int (own_ob pa pb (0 : Int32))), (.int (own_ob pa pb (1 : Int32))), (.int 58), (.int 104), (.int 111), (.int 108), (.int 100), (.int 115)] 1 h0 n0 X.sz Ar (show (1 : Int32) < (8 : Int32) by decide) (by decide) (by decide) (by decide) rfl) (fun _ _ q => Nat.le_of_eq (congrArg Array.size q.1.symm)) rfl own_pd11 rfl rfl rfl (by decide) (Nat.le_of_ble_eq_true rfl) (by decide) (by decide) ?_
  rintro v38 T h_ X ⟨eh_, rfl⟩
  rw [eh_] at X
  show own_Ends p e below _ (T.setTop (mkF m 41 #[.val (.ref r), .val (.int (2 : Int32)), .val (.int pa), .val (.int pb), .val (.ref sf)] [(.int (1 : Int32))]))
  refine own_ifN X 44 own_d7_41 rfl (XT.i0_eq_f (by decide)) ?_
  refine own_aloadN X 45 (.ref r) own_d7_44 rfl rfl rfl ?_
  refine own_iloadN X 46 (2 : Int32) own_d7_45 rfl rfl ?_
  refine own_iloadN X 47 pa own_d7_46 rfl rfl ?_
  refine own_iloadN X 48 pb own_d7_47 rfl rfl ?_
  refine own_aload X 50 (.ref sf) own_d7_48 rfl rfl rfl ?_
  refine own_iconst X 51 (2 : Int32) own_d7_50 rfl rfl ?_
  refine own_callS X 54 [(.ref r), (.int (2 : Int32)), (.int pa), (.int pb), (.ref sf), (.int (2 : Int32))] [] own_d7_51 rfl (hw _ (List.mem_of_getElem? (i := 59) rfl)) (hw _ (List.mem_of_getElem? (i := 60) rfl)) (hw _ (List.mem_of_getElem? (i := 3) rfl)) (hw _ (List.mem_of_getElem? (i := 61) rfl)) (by decide) (own_at_sf l Z a0 hw r (2 : Int32) pa pb sf (2 : Int32) kr [(.int (own_ob pa pb (0 : Int32))), (.int (own_ob pa pb (1 : Int32))), (.int 58), (.int 104), (.int 111), (.int 108), (.int 100), (.int 115)] 2 58 cs sv ks [(.int 58), (.int 104), (.int 111), (.int 108), (.int 100), (.int 115)] 0 58 fo h0 n0 X.sz Ar (show (2 : Int32) < (8 : Int32) by decide) (by decide) (by decide) (by decide) rfl OL z_cs hcs z_fo hfo Ea Fc Fv As (by decide) (by decide) (show (2 : Int32) - (2 : Int32) < (6 : Int32) by decide) rfl (by decide)) (fun _ _ q => Nat.le_of_eq (congrArg Array.size q.1.symm)) rfl own_pd11 rfl rfl rfl (by decide) (Nat.le_of_ble_eq_true rfl) (by decide) (by decide) ?_
  rintro v51 T h_ X ⟨eh_, rfl⟩
  rw [eh_] at X
  show own_Ends p e below _ (T.setTop (mkF m 54 #[.val (.ref r), .val (.int (2 : Int32)), .val (.int pa), .val (.int pb), .val (.ref sf)] [(.int (1 : Int32))]))
  refine own_ifN X 57 own_d7_54 rfl (XT.i0_eq_f (by decide)) ?_
  refine own_aloadN X 58 (.ref r) own_d7_57 rfl rfl rfl ?_
  refine own_iloadN X 59 (2 : Int32) own_d7_58 rfl rfl ?_
  refine own_iloadN X 60 pa own_d7_59 rfl rfl ?_
  refine own_iloadN X 61 pb own_d7_60 rfl rfl ?_
  refine own_aload X 63 (.ref sf) own_d7_61 rfl rfl rfl ?_
  refine own_iconst X 64 (3 : Int32) own_d7_63 rfl rfl ?_
  refine own_callS X 67 [(.ref r), (.int (2 : Int32)), (.int pa), (.int pb), (.ref sf), (.int (3 : Int32))] [] own_d7_64 rfl (hw _ (List.mem_of_getElem? (i := 59) rfl)) (hw _ (List.mem_of_getElem? (i := 60) rfl)) (hw _ (List.mem_of_getElem? (i := 3) rfl)) (hw _ (List.mem_of_getElem? (i := 61) rfl)) (by decide) (own_at_sf l Z a0 hw r (2 : Int32) pa pb sf (3 : Int32) kr [(.int (own_ob pa pb (0 : Int32))), (.int (own_ob pa pb (1 : Int32))), (.int 58), (.int 104), (.int 111), (.int 108), (.int 100), (.int 115)] 3 104 cs sv ks [(.int 58), (.int 104), (.int 111), (.int 108), (.int 100), (.int 115)] 1 104 fo h0 n0 X.sz Ar (show (3 : Int32) < (8 : Int32) by decide) (by decide) (by decide) (by decide) rfl OL z_cs hcs z_fo hfo Ea Fc Fv As (by decide) (by decide) (show (3 : Int32) - (2 : Int32) < (6 : Int32) by decide) rfl (by decide)) (fun _ _ q => Nat.le_of_eq (congrArg Array.size q.1.symm)) rfl own_pd11 rfl rfl rfl (by decide) (Nat.le_of_ble_eq_true rfl) (by decide) (by decide) ?_
  rintro v64 T h_ X ⟨eh_, rfl⟩
  rw [eh_] at X
  show own_Ends p e below _ (T.setTop (mkF m 67 #[.val (.ref r), .val (.int (2 : Int32)), .val (.int pa), .val (.int pb), .val (.ref sf)] [(.int (1 : Int32))]))
  refine own_ifN X 70 own_d7_67 rfl (XT.i0_eq_f (by decide)) ?_
  refine own_aloadN X 71 (.ref r) own_d7_70 rfl rfl rfl ?_
  refine own_iloadN X 72 (2 : Int32) own_d7_71 rfl rfl ?_
  refine own_iloadN X 73 pa own_d7_72 rfl rfl ?_
  refine own_iloadN X 74 pb own_d7_73 rfl rfl ?_
  refine own_aload X 76 (.ref sf) own_d7_74 rfl rfl rfl ?_
  refine own_iconst X 77 (4 : Int32) own_d7_76 rfl rfl ?_
  refine own_callS X 80 [(.ref r), (.int (2 : Int32)), (.int pa), (.int pb), (.ref sf), (.int (4 : Int32))] [] own_d7_77 rfl (hw _ (List.mem_of_getElem? (i := 59) rfl)) (hw _ (List.mem_of_getElem? (i := 60) rfl)) (hw _ (List.mem_of_getElem? (i := 3) rfl)) (hw _ (List.mem_of_getElem? (i := 61) rfl)) (by decide) (own_at_sf l Z a0 hw r (2 : Int32) pa pb sf (4 : Int32) kr [(.int (own_ob pa pb (0 : Int32))), (.int (own_ob pa pb (1 : Int32))), (.int 58), (.int 104), (.int 111), (.int 108), (.int 100), (.int 115)] 4 111 cs sv ks [(.int 58), (.int 104), (.int 111), (.int 108), (.int 100), (.int 115)] 2 111 fo h0 n0 X.sz Ar (show (4 : Int32) < (8 : Int32) by decide) (by decide) (by decide) (by decide) rfl OL z_cs hcs z_fo hfo Ea Fc Fv As (by decide) (by decide) (show (4 : Int32) - (2 : Int32) < (6 : Int32) by decide) rfl (by decide)) (fun _ _ q => Nat.le_of_eq (congrArg Array.size q.1.symm)) rfl own_pd11 rfl rfl rfl (by decide) (Nat.le_of_ble_eq_true rfl) (by decide) (by decide) ?_
  rintro v77 T h_ X ⟨eh_, rfl⟩
  rw [eh_] at X
  show own_Ends p e below _ (T.setTop (mkF m 80 #[.val (.ref r), .val (.int (2 : Int32)), .val (.int pa), .val (.int pb), .val (.ref sf)] [(.int (1 : Int32))]))
  refine own_ifN X 83 own_d7_80 rfl (XT.i0_eq_f (by decide)) ?_
  refine own_aloadN X 84 (.ref r) own_d7_83 rfl rfl rfl ?_
  refine own_iloadN X 85 (2 : Int32) own_d7_84 rfl rfl ?_
  refine own_iloadN X 86 pa own_d7_85 rfl rfl ?_
  refine own_iloadN X 87 pb own_d7_86 rfl rfl ?_
  refine own_aload X 89 (.ref sf) own_d7_87 rfl rfl rfl ?_
  refine own_iconst X 90 (5 : Int32) own_d7_89 rfl rfl ?_
  refine own_callS X 93 [(.ref r), (.int (2 : Int32)), (.int pa), (.int pb), (.ref sf), (.int (5 : Int32))] [] own_d7_90 rfl (hw _ (List.mem_of_getElem? (i := 59) rfl)) (hw _ (List.mem_of_getElem? (i := 60) rfl)) (hw _ (List.mem_of_getElem? (i := 3) rfl)) (hw _ (List.mem_of_getElem? (i := 61) rfl)) (by decide) (own_at_sf l Z a0 hw r (2 : Int32) pa pb sf (5 : Int32) kr [(.int (own_ob pa pb (0 : Int32))), (.int (own_ob pa pb (1 : Int32))), (.int 58), (.int 104), (.int 111), (.int 108), (.int 100), (.int 115)] 5 108 cs sv ks [(.int 58), (.int 104), (.int 111), (.int 108), (.int 100), (.int 115)] 3 108 fo h0 n0 X.sz Ar (show (5 : Int32) < (8 : Int32) by decide) (by decide) (by decide) (by decide) rfl OL z_cs hcs z_fo hfo Ea Fc Fv As (by decide) (by decide) (show (5 : Int32) - (2 : Int32) < (6 : Int32) by decide) rfl (by decide)) (fun _ _ q => Nat.le_of_eq (congrArg Array.size q.1.symm)) rfl own_pd11 rfl rfl rfl (by decide) (Nat.le_of_ble_eq_true rfl) (by decide) (by decide) ?_
  rintro v90 T h_ X ⟨eh_, rfl⟩
  rw [eh_] at X
  show own_Ends p e below _ (T.setTop (mkF m 93 #[.val (.ref r), .val (.int (2 : Int32)), .val (.int pa), .val (.int pb), .val (.ref sf)] [(.int (1 : Int32))]))
  refine own_ifN X 96 own_d7_93 rfl (XT.i0_eq_f (by decide)) ?_
  refine own_aloadN X 97 (.ref r) own_d7_96 rfl rfl rfl ?_
  refine own_iloadN X 98 (2 : Int32) own_d7_97 rfl rfl ?_
  refine own_iloadN X 99 pa own_d7_98 rfl rfl ?_
  refine own_iloadN X 100 pb own_d7_99 rfl rfl ?_
  refine own_aload X 102 (.ref sf) own_d7_100 rfl rfl rfl ?_
  refine own_bipush X 104 (6 : Int32) own_d7_102 rfl (by decide) ?_
  refine own_callS X 107 [(.ref r), (.int (2 : Int32)), (.int pa), (.int pb), (.ref sf), (.int (6 : Int32))] [] own_d7_104 rfl (hw _ (List.mem_of_getElem? (i := 59) rfl)) (hw _ (List.mem_of_getElem? (i := 60) rfl)) (hw _ (List.mem_of_getElem? (i := 3) rfl)) (hw _ (List.mem_of_getElem? (i := 61) rfl)) (by decide) (own_at_sf l Z a0 hw r (2 : Int32) pa pb sf (6 : Int32) kr [(.int (own_ob pa pb (0 : Int32))), (.int (own_ob pa pb (1 : Int32))), (.int 58), (.int 104), (.int 111), (.int 108), (.int 100), (.int 115)] 6 100 cs sv ks [(.int 58), (.int 104), (.int 111), (.int 108), (.int 100), (.int 115)] 4 100 fo h0 n0 X.sz Ar (show (6 : Int32) < (8 : Int32) by decide) (by decide) (by decide) (by decide) rfl OL z_cs hcs z_fo hfo Ea Fc Fv As (by decide) (by decide) (show (6 : Int32) - (2 : Int32) < (6 : Int32) by decide) rfl (by decide)) (fun _ _ q => Nat.le_of_eq (congrArg Array.size q.1.symm)) rfl own_pd11 rfl rfl rfl (by decide) (Nat.le_of_ble_eq_true rfl) (by decide) (by decide) ?_
  rintro v104 T h_ X ⟨eh_, rfl⟩
  rw [eh_] at X
  show own_Ends p e below _ (T.setTop (mkF m 107 #[.val (.ref r), .val (.int (2 : Int32)), .val (.int pa), .val (.int pb), .val (.ref sf)] [(.int (1 : Int32))]))
  refine own_ifN X 110 own_d7_107 rfl (XT.i0_eq_f (by decide)) ?_
  refine own_aloadN X 111 (.ref r) own_d7_110 rfl rfl rfl ?_
  refine own_iloadN X 112 (2 : Int32) own_d7_111 rfl rfl ?_
  refine own_iloadN X 113 pa own_d7_112 rfl rfl ?_
  refine own_iloadN X 114 pb own_d7_113 rfl rfl ?_
  refine own_aload X 116 (.ref sf) own_d7_114 rfl rfl rfl ?_
  refine own_bipush X 118 (7 : Int32) own_d7_116 rfl (by decide) ?_
  refine own_callS X 121 [(.ref r), (.int (2 : Int32)), (.int pa), (.int pb), (.ref sf), (.int (7 : Int32))] [] own_d7_118 rfl (hw _ (List.mem_of_getElem? (i := 59) rfl)) (hw _ (List.mem_of_getElem? (i := 60) rfl)) (hw _ (List.mem_of_getElem? (i := 3) rfl)) (hw _ (List.mem_of_getElem? (i := 61) rfl)) (by decide) (own_at_sf l Z a0 hw r (2 : Int32) pa pb sf (7 : Int32) kr [(.int (own_ob pa pb (0 : Int32))), (.int (own_ob pa pb (1 : Int32))), (.int 58), (.int 104), (.int 111), (.int 108), (.int 100), (.int 115)] 7 115 cs sv ks [(.int 58), (.int 104), (.int 111), (.int 108), (.int 100), (.int 115)] 5 115 fo h0 n0 X.sz Ar (show (7 : Int32) < (8 : Int32) by decide) (by decide) (by decide) (by decide) rfl OL z_cs hcs z_fo hfo Ea Fc Fv As (by decide) (by decide) (show (7 : Int32) - (2 : Int32) < (6 : Int32) by decide) rfl (by decide)) (fun _ _ q => Nat.le_of_eq (congrArg Array.size q.1.symm)) rfl own_pd11 rfl rfl rfl (by decide) (Nat.le_of_ble_eq_true rfl) (by decide) (by decide) ?_
  rintro v118 T h_ X ⟨eh_, rfl⟩
  rw [eh_] at X
  show own_Ends p e below _ (T.setTop (mkF m 121 #[.val (.ref r), .val (.int (2 : Int32)), .val (.int pa), .val (.int pb), .val (.ref sf)] [(.int (1 : Int32))]))
  refine own_ifN X 124 own_d7_121 rfl (XT.i0_eq_f (by decide)) ?_
  refine own_aloadN X 125 (.ref r) own_d7_124 rfl rfl rfl ?_
  refine own_iloadN X 126 (2 : Int32) own_d7_125 rfl rfl ?_
  refine own_iloadN X 127 pa own_d7_126 rfl rfl ?_
  refine own_iloadN X 128 pb own_d7_127 rfl rfl ?_
  refine own_aload X 130 (.ref sf) own_d7_128 rfl rfl rfl ?_
  refine own_bipush X 132 (8 : Int32) own_d7_130 rfl (by decide) ?_
  refine own_callS X 135 [(.ref r), (.int (2 : Int32)), (.int pa), (.int pb), (.ref sf), (.int (8 : Int32))] [] own_d7_132 rfl (hw _ (List.mem_of_getElem? (i := 59) rfl)) (hw _ (List.mem_of_getElem? (i := 60) rfl)) (hw _ (List.mem_of_getElem? (i := 3) rfl)) (hw _ (List.mem_of_getElem? (i := 61) rfl)) (by decide) (own_at_hi l Z a0 hw r (2 : Int32) pa pb sf (8 : Int32) kr [(.int (own_ob pa pb (0 : Int32))), (.int (own_ob pa pb (1 : Int32))), (.int 58), (.int 104), (.int 111), (.int 108), (.int 100), (.int 115)] h0 n0 X.sz Ar (show ¬ (8 : Int32) < (8 : Int32) by decide)) (fun _ _ q => Nat.le_of_eq (congrArg Array.size q.1.symm)) rfl own_pd11 rfl rfl rfl (by decide) (Nat.le_of_ble_eq_true rfl) (by decide) (by decide) ?_
  rintro v132 T h_ X ⟨eh_, rfl⟩
  rw [eh_] at X
  show own_Ends p e below _ (T.setTop (mkF m 135 #[.val (.ref r), .val (.int (2 : Int32)), .val (.int pa), .val (.int pb), .val (.ref sf)] [(.int (1 : Int32))]))
  refine own_ifN X 138 own_d7_135 rfl (XT.i0_eq_f (by decide)) ?_
  refine own_aloadN X 139 (.ref r) own_d7_138 rfl rfl rfl ?_
  refine own_iloadN X 140 (2 : Int32) own_d7_139 rfl rfl ?_
  refine own_iloadN X 141 pa own_d7_140 rfl rfl ?_
  refine own_iloadN X 142 pb own_d7_141 rfl rfl ?_
  refine own_aload X 144 (.ref sf) own_d7_142 rfl rfl rfl ?_
  refine own_bipush X 146 (9 : Int32) own_d7_144 rfl (by decide) ?_
  refine own_callS X 149 [(.ref r), (.int (2 : Int32)), (.int pa), (.int pb), (.ref sf), (.int (9 : Int32))] [] own_d7_146 rfl (hw _ (List.mem_of_getElem? (i := 59) rfl)) (hw _ (List.mem_of_getElem? (i := 60) rfl)) (hw _ (List.mem_of_getElem? (i := 3) rfl)) (hw _ (List.mem_of_getElem? (i := 61) rfl)) (by decide) (own_at_hi l Z a0 hw r (2 : Int32) pa pb sf (9 : Int32) kr [(.int (own_ob pa pb (0 : Int32))), (.int (own_ob pa pb (1 : Int32))), (.int 58), (.int 104), (.int 111), (.int 108), (.int 100), (.int 115)] h0 n0 X.sz Ar (show ¬ (9 : Int32) < (8 : Int32) by decide)) (fun _ _ q => Nat.le_of_eq (congrArg Array.size q.1.symm)) rfl own_pd11 rfl rfl rfl (by decide) (Nat.le_of_ble_eq_true rfl) (by decide) (by decide) ?_
  rintro v146 T h_ X ⟨eh_, rfl⟩
  rw [eh_] at X
  show own_Ends p e below _ (T.setTop (mkF m 149 #[.val (.ref r), .val (.int (2 : Int32)), .val (.int pa), .val (.int pb), .val (.ref sf)] [(.int (1 : Int32))]))
  refine own_ifN X 152 own_d7_149 rfl (XT.i0_eq_f (by decide)) ?_
  refine own_aloadN X 153 (.ref r) own_d7_152 rfl rfl rfl ?_
  refine own_iloadN X 154 (2 : Int32) own_d7_153 rfl rfl ?_
  refine own_iloadN X 155 pa own_d7_154 rfl rfl ?_
  refine own_iloadN X 156 pb own_d7_155 rfl rfl ?_
  refine own_aload X 158 (.ref sf) own_d7_156 rfl rfl rfl ?_
  refine own_bipush X 160 (10 : Int32) own_d7_158 rfl (by decide) ?_
  refine own_callS X 163 [(.ref r), (.int (2 : Int32)), (.int pa), (.int pb), (.ref sf), (.int (10 : Int32))] [] own_d7_160 rfl (hw _ (List.mem_of_getElem? (i := 59) rfl)) (hw _ (List.mem_of_getElem? (i := 60) rfl)) (hw _ (List.mem_of_getElem? (i := 3) rfl)) (hw _ (List.mem_of_getElem? (i := 61) rfl)) (by decide) (own_at_hi l Z a0 hw r (2 : Int32) pa pb sf (10 : Int32) kr [(.int (own_ob pa pb (0 : Int32))), (.int (own_ob pa pb (1 : Int32))), (.int 58), (.int 104), (.int 111), (.int 108), (.int 100), (.int 115)] h0 n0 X.sz Ar (show ¬ (10 : Int32) < (8 : Int32) by decide)) (fun _ _ q => Nat.le_of_eq (congrArg Array.size q.1.symm)) rfl own_pd11 rfl rfl rfl (by decide) (Nat.le_of_ble_eq_true rfl) (by decide) (by decide) ?_
  rintro v160 T h_ X ⟨eh_, rfl⟩
  rw [eh_] at X
  show own_Ends p e below _ (T.setTop (mkF m 163 #[.val (.ref r), .val (.int (2 : Int32)), .val (.int pa), .val (.int pb), .val (.ref sf)] [(.int (1 : Int32))]))
  refine own_ifN X 166 own_d7_163 rfl (XT.i0_eq_f (by decide)) ?_
  refine own_aloadN X 167 (.ref r) own_d7_166 rfl rfl rfl ?_
  refine own_iloadN X 168 (2 : Int32) own_d7_167 rfl rfl ?_
  refine own_iloadN X 169 pa own_d7_168 rfl rfl ?_
  refine own_iloadN X 170 pb own_d7_169 rfl rfl ?_
  refine own_aload X 172 (.ref sf) own_d7_170 rfl rfl rfl ?_
  refine own_bipush X 174 (11 : Int32) own_d7_172 rfl (by decide) ?_
  refine own_callS X 177 [(.ref r), (.int (2 : Int32)), (.int pa), (.int pb), (.ref sf), (.int (11 : Int32))] [] own_d7_174 rfl (hw _ (List.mem_of_getElem? (i := 59) rfl)) (hw _ (List.mem_of_getElem? (i := 60) rfl)) (hw _ (List.mem_of_getElem? (i := 3) rfl)) (hw _ (List.mem_of_getElem? (i := 61) rfl)) (by decide) (own_at_hi l Z a0 hw r (2 : Int32) pa pb sf (11 : Int32) kr [(.int (own_ob pa pb (0 : Int32))), (.int (own_ob pa pb (1 : Int32))), (.int 58), (.int 104), (.int 111), (.int 108), (.int 100), (.int 115)] h0 n0 X.sz Ar (show ¬ (11 : Int32) < (8 : Int32) by decide)) (fun _ _ q => Nat.le_of_eq (congrArg Array.size q.1.symm)) rfl own_pd11 rfl rfl rfl (by decide) (Nat.le_of_ble_eq_true rfl) (by decide) (by decide) ?_
  rintro v174 T h_ X ⟨eh_, rfl⟩
  rw [eh_] at X
  show own_Ends p e below _ (T.setTop (mkF m 177 #[.val (.ref r), .val (.int (2 : Int32)), .val (.int pa), .val (.int pb), .val (.ref sf)] [(.int (1 : Int32))]))
  refine own_ifN X 180 own_d7_177 rfl (XT.i0_eq_f (by decide)) ?_
  refine own_aloadN X 181 (.ref r) own_d7_180 rfl rfl rfl ?_
  refine own_iloadN X 182 (2 : Int32) own_d7_181 rfl rfl ?_
  refine own_iloadN X 183 pa own_d7_182 rfl rfl ?_
  refine own_iloadN X 184 pb own_d7_183 rfl rfl ?_
  refine own_aload X 186 (.ref sf) own_d7_184 rfl rfl rfl ?_
  refine own_bipush X 188 (12 : Int32) own_d7_186 rfl (by decide) ?_
  refine own_callS X 191 [(.ref r), (.int (2 : Int32)), (.int pa), (.int pb), (.ref sf), (.int (12 : Int32))] [] own_d7_188 rfl (hw _ (List.mem_of_getElem? (i := 59) rfl)) (hw _ (List.mem_of_getElem? (i := 60) rfl)) (hw _ (List.mem_of_getElem? (i := 3) rfl)) (hw _ (List.mem_of_getElem? (i := 61) rfl)) (by decide) (own_at_hi l Z a0 hw r (2 : Int32) pa pb sf (12 : Int32) kr [(.int (own_ob pa pb (0 : Int32))), (.int (own_ob pa pb (1 : Int32))), (.int 58), (.int 104), (.int 111), (.int 108), (.int 100), (.int 115)] h0 n0 X.sz Ar (show ¬ (12 : Int32) < (8 : Int32) by decide)) (fun _ _ q => Nat.le_of_eq (congrArg Array.size q.1.symm)) rfl own_pd11 rfl rfl rfl (by decide) (Nat.le_of_ble_eq_true rfl) (by decide) (by decide) ?_
  rintro v188 T h_ X ⟨eh_, rfl⟩
  rw [eh_] at X
  show own_Ends p e below _ (T.setTop (mkF m 191 #[.val (.ref r), .val (.int (2 : Int32)), .val (.int pa), .val (.int pb), .val (.ref sf)] [(.int (1 : Int32))]))
  refine own_ifN X 194 own_d7_191 rfl (XT.i0_eq_f (by decide)) ?_
  refine own_iconst X 195 (1 : Int32) own_d7_194 rfl rfl ?_
  refine own_goto X 199 own_d7_195 (by decide) (by decide) ?_
  exact own_retN X .boolean own_d7_199 rfl (by simp) (by decide) (by decide) (⟨rfl, rfl⟩)
set_option maxRecDepth 65536 in
set_option maxHeartbeats 40000000 in
theorem own_mt2_8 (l : Launch) (Z : State) (a0 : Array Value) (hw : ∀ d ∈ tables_1, d.before a0 Z = true) (r : Addr) (nn : Int32) (pa : Int32) (pb : Int32) (sf : Addr) (kr : ClassId) (cs : Int32) (sv : Addr) (ks : ClassId) (fo : Value) (h0 : Heap) (n0 : Nat) (hs0 : n0 ≤ h0.size) (Ar : own_A Z h0 r kr .byte [(.int (own_ob pa pb (0 : Int32))), (.int (own_ob pa pb (1 : Int32))), (.int 58), (.int 119), (.int 97), (.int 105), (.int 116), (.int 105), (.int 110), (.int 103)]) (OL : Old Z n0 h0) (z_cs : Sta Z Z.heap "java/lang/String" "COMPACT_STRINGS" "Z" (.int cs)) (hcs : ¬ cs = 0) (z_fo : Sta Z Z.heap "jdk/internal/util/Preconditions" "SIOOBE_FORMATTER" "Ljava/util/function/BiFunction;" fo) (hfo : fo.isRef = true) (Ea : Exa Z h0 sf "java/lang/String") (Fc : Fld Z h0 sf "java/lang/String" "coder" "B" (.int 0)) (Fv : Fld Z h0 sf "java/lang/String" "value" "[B" (.ref sv)) (As : own_A Z h0 sv ks .byte [(.int 58), (.int 119), (.int 97), (.int 105), (.int 116), (.int 105), (.int 110), (.int 103)]) (hn : nn = 2) :
    own_Met l (⟨"com/example/latchkey/latchkey/LockKeysHolderFieldsPinLaw", "matches", "([BIIILjava/lang/String;)Z"⟩ : MethodName) method_6_code 5 (some .boolean) ({ frames := 5, cells := 0, slots := 0, locals := 71 } : Room) Z #[(.ref r), (.int nn), (.int pa), (.int pb), (.ref sf)] h0 n0 (fun v h' => h' = h0 ∧ v = some (.int (1 : Int32))) := by
  refine own_met (Ls := #[.val (.ref r), .val (.int nn), .val (.int pa), .val (.int pb), .val (.ref sf)]) own_pn7 hs0 (fun m => by first  | (simp [entryFrame, mkF, argsToLocals, Value.category]; done) | rfl) ?_
  intro p e s m below meth c T X
  have hi_r : h0.size > r := Ar.lt
  have hi_sv : h0.size > sv := As.lt
  have hi_sf : h0.size > sf := Ea.lt
  subst hn
  refine own_aloadN X 1 (.ref r) own_d7_0 rfl rfl rfl ?_
  refine own_nullN X 4 own_d7_1 rfl ?_
  refine own_aloadN X 5 (.ref r) own_d7_4 rfl rfl rfl ?_
  refine own_len X 6 (10 : Int32) own_d7_5 rfl Ar rfl ?_
  refine own_iloadN X 7 (2 : Int32) own_d7_6 rfl rfl ?_
  refine own_aload X 9 (.ref sf) own_d7_7 rfl rfl rfl ?_
  refine own_callV X 12 [] [(.int (2 : Int32)), (.int (10 : Int32))] own_d7_9 rfl (hw _ (List.mem_of_getElem? (i := 46) rfl)) (hw _ (List.mem_of_getElem? (i := 47) rfl)) (own_nf X.2.2.2.2.1 (hw _ (List.mem_of_getElem? (i := 49) rfl))) (hw _ (List.mem_of_getElem? (i := 49) rfl)) (hw _ (List.mem_of_getElem? (i := 48) rfl)) (hw _ (List.mem_of_getElem? (i := 37) rfl)) (hw _ (List.mem_of_getElem? (i := 50) rfl)) (by decide) Ea (own_sl8 l Z a0 hw sf cs sv ks h0 n0 X.sz OL z_cs hcs Ea Fc Fv As) (fun _ _ q => Nat.le_of_eq (congrArg Array.size q.1.symm)) rfl own_pd10 rfl rfl rfl (by decide) (Nat.le_of_ble_eq_true rfl) (by decide) (by decide) ?_
  rintro v9 T h_ X ⟨eh_, rfl⟩
  rw [eh_] at X
  show own_Ends p e below _ (T.setTop (mkF m 12 #[.val (.ref r), .val (.int (2 : Int32)), .val (.int pa), .val (.int pb), .val (.ref sf)] [(.int (8 : Int32)), (.int (2 : Int32)), (.int (10 : Int32))]))
  refine own_iadd X 13 own_d7_12 rfl ?_
  refine own_icY X 18 own_d7_13 (by decide) (by decide) (XT.ii_eq_t (by decide)) ?_
  refine own_aloadN X 19 (.ref r) own_d7_18 rfl rfl rfl ?_
  refine own_iloadN X 20 (2 : Int32) own_d7_19 rfl rfl ?_
  refine own_iloadN X 21 pa own_d7_20 rfl rfl ?_
  refine own_iloadN X 22 pb own_d7_21 rfl rfl ?_
  refine own_aload X 24 (.ref sf) own_d7_22 rfl rfl rfl ?_
  refine own_iconst X 25 (0 : Int32) own_d7_24 rfl rfl ?_
  refine own_callS X 28 [(.ref r), (.int (2 : Int32)), (.int pa), (.int pb), (.ref sf), (.int (0 : Int32))] [] own_d7_25 rfl (hw _ (List.mem_of_getElem? (i := 59) rfl)) (hw _ (List.mem_of_getElem? (i := 60) rfl)) (hw _ (List.mem_of_getElem? (i := 3) rfl)) (hw _ (List.mem_of_getElem? (i := 61) rfl)) (by decide) (own_at_ob l Z a0 hw r (2 : Int32) pa pb sf (0 : Int32) kr [(.int (own_ob pa pb (0 : Int32))), (.int (own_ob pa pb (1 : Int32))), (.int 58), (.int 119), (.int 97), (.int 105), (.int 116), (.int 105), (.int 110), (.int 103)] 0 h0 n0 X.sz Ar (show (0 : Int32) < (10 : Int32) by decide) (by decide) (by decide) (by decide) rfl) (fun _ _ q => Nat.le_of_eq (congrArg Array.size q.1.symm)) rfl own_pd11 rfl rfl rfl (by decide) (Nat.le_of_ble_eq_true rfl) (by decide) (by decide) ?_
  rintro v25 T h_ X ⟨eh_, rfl⟩
  rw [eh_] at X
  show own_Ends p e below _ (T.setTop (mkF m 28 #[.val (.ref r), .val (.int (2 : Int32)), .val (.int pa), .val (.int pb), .val (.ref sf)] [(.int (1 : Int32))]))
  refine own_ifN X 31 own_d7_28 rfl (XT.i0_eq_f (by decide)) ?_
  refine own_aloadN X 32 (.ref r) own_d7_31 rfl rfl rfl ?_
  refine own_iloadN X 33 (2 : Int32) own_d7_32 rfl rfl ?_
  refine own_iloadN X 34 pa own_d7_33 rfl rfl ?_
  refine own_iloadN X 35 pb own_d7_34 rfl rfl ?_
  refine own_aload X 37 (.ref sf) own_d7_35 rfl rfl rfl ?_
  refine own_iconst X 38 (1 : Int32) own_d7_37 rfl rfl ?_
  refine own_callS X 41 [(.ref r), (.int (2 : Int32)), (.int pa), (.int pb), (.ref sf), (.int (1 : Int32))] [] own_d7_38 rfl (hw _ (List.mem_of_getElem? (i := 59) rfl)) (hw _ (List.mem_of_getElem? (i := 60) rfl)) (hw _ (List.mem_of_getElem? (i := 3) rfl)) (hw _ (List.mem_of_getElem? (i := 61) rfl)) (by decide) (own_at_ob l Z a0 hw r (2 : Int32) pa pb sf (1 : Int32) kr [(.int (own_ob pa pb (0 : Int32))), (.int (own_ob pa pb (1 : Int32))), (.int 58), (.int 119), (.int 97), (.int 105), (.int 116), (.int 105), (.int 110), (.int 103)] 1 h0 n0 X.sz Ar (show (1 : Int32) < (10 : Int32) by decide) (by decide) (by decide) (by decide) rfl) (fun _ _ q => Nat.le_of_eq (congrArg Array.size q.1.symm)) rfl own_pd11 rfl rfl rfl (by decide) (Nat.le_of_ble_eq_true rfl) (by decide) (by decide) ?_
  rintro v38 T h_ X ⟨eh_, rfl⟩
  rw [eh_] at X
  show own_Ends p e below _ (T.setTop (mkF m 41 #[.val (.ref r), .val (.int (2 : Int32)), .val (.int pa), .val (.int pb), .val (.ref sf)] [(.int (1 : Int32))]))
  refine own_ifN X 44 own_d7_41 rfl (XT.i0_eq_f (by decide)) ?_
  refine own_aloadN X 45 (.ref r) own_d7_44 rfl rfl rfl ?_
  refine own_iloadN X 46 (2 : Int32) own_d7_45 rfl rfl ?_
  refine own_iloadN X 47 pa own_d7_46 rfl rfl ?_
  refine own_iloadN X 48 pb own_d7_47 rfl rfl ?_
  refine own_aload X 50 (.ref sf) own_d7_48 rfl rfl rfl ?_
  refine own_iconst X 51 (2 : Int32) own_d7_50 rfl rfl ?_
  refine own_callS X 54 [(.ref r), (.int (2 : Int32)), (.int pa), (.int pb), (.ref sf), (.int (2 : Int32))] [] own_d7_51 rfl (hw _ (List.mem_of_getElem? (i := 59) rfl)) (hw _ (List.mem_of_getElem? (i := 60) rfl)) (hw _ (List.mem_of_getElem? (i := 3) rfl)) (hw _ (List.mem_of_getElem? (i := 61) rfl)) (by decide) (own_at_sf l Z a0 hw r (2 : Int32) pa pb sf (2 : Int32) kr [(.int (own_ob pa pb (0 : Int32))), (.int (own_ob pa pb (1 : Int32))), (.int 58), (.int 119), (.int 97), (.int 105), (.int 116), (.int 105), (.int 110), (.int 103)] 2 58 cs sv ks [(.int 58), (.int 119), (.int 97), (.int 105), (.int 116), (.int 105), (.int 110), (.int 103)] 0 58 fo h0 n0 X.sz Ar (show (2 : Int32) < (10 : Int32) by decide) (by decide) (by decide) (by decide) rfl OL z_cs hcs z_fo hfo Ea Fc Fv As (by decide) (by decide) (show (2 : Int32) - (2 : Int32) < (8 : Int32) by decide) rfl (by decide)) (fun _ _ q => Nat.le_of_eq (congrArg Array.size q.1.symm)) rfl own_pd11 rfl rfl rfl (by decide) (Nat.le_of_ble_eq_true rfl) (by decide) (by decide) ?_
  rintro v51 T h_ X ⟨eh_, rfl⟩
  rw [eh_] at X
  show own_Ends p e below _ (T.setTop (mkF m 54 #[.val (.ref r), .val (.int (2 : Int32)), .val (.int pa), .val (.int pb), .val (.ref sf)] [(.int (1 : Int32))]))
  refine own_ifN X 57 own_d7_54 rfl (XT.i0_eq_f (by decide)) ?_
  refine own_aloadN X 58 (.ref r) own_d7_57 rfl rfl rfl ?_
  refine own_iloadN X 59 (2 : Int32) own_d7_58 rfl rfl ?_
  refine own_iloadN X 60 pa own_d7_59 rfl rfl ?_
  refine own_iloadN X 61 pb own_d7_60 rfl rfl ?_
  refine own_aload X 63 (.ref sf) own_d7_61 rfl rfl rfl ?_
  refine own_iconst X 64 (3 : Int32) own_d7_63 rfl rfl ?_
  refine own_callS X 67 [(.ref r), (.int (2 : Int32)), (.int pa), (.int pb), (.ref sf), (.int (3 : Int32))] [] own_d7_64 rfl (hw _ (List.mem_of_getElem? (i := 59) rfl)) (hw _ (List.mem_of_getElem? (i := 60) rfl)) (hw _ (List.mem_of_getElem? (i := 3) rfl)) (hw _ (List.mem_of_getElem? (i := 61) rfl)) (by decide) (own_at_sf l Z a0 hw r (2 : Int32) pa pb sf (3 : Int32) kr [(.int (own_ob pa pb (0 : Int32))), (.int (own_ob pa pb (1 : Int32))), (.int 58), (.int 119), (.int 97), (.int 105), (.int 116), (.int 105), (.int 110), (.int 103)] 3 119 cs sv ks [(.int 58), (.int 119), (.int 97), (.int 105), (.int 116), (.int 105), (.int 110), (.int 103)] 1 119 fo h0 n0 X.sz Ar (show (3 : Int32) < (10 : Int32) by decide) (by decide) (by decide) (by decide) rfl OL z_cs hcs z_fo hfo Ea Fc Fv As (by decide) (by decide) (show (3 : Int32) - (2 : Int32) < (8 : Int32) by decide) rfl (by decide)) (fun _ _ q => Nat.le_of_eq (congrArg Array.size q.1.symm)) rfl own_pd11 rfl rfl rfl (by decide) (Nat.le_of_ble_eq_true rfl) (by decide) (by decide) ?_
  rintro v64 T h_ X ⟨eh_, rfl⟩
  rw [eh_] at X
  show own_Ends p e below _ (T.setTop (mkF m 67 #[.val (.ref r), .val (.int (2 : Int32)), .val (.int pa), .val (.int pb), .val (.ref sf)] [(.int (1 : Int32))]))
  refine own_ifN X 70 own_d7_67 rfl (XT.i0_eq_f (by decide)) ?_
  refine own_aloadN X 71 (.ref r) own_d7_70 rfl rfl rfl ?_
  refine own_iloadN X 72 (2 : Int32) own_d7_71 rfl rfl ?_
  refine own_iloadN X 73 pa own_d7_72 rfl rfl ?_
  refine own_iloadN X 74 pb own_d7_73 rfl rfl ?_
  refine own_aload X 76 (.ref sf) own_d7_74 rfl rfl rfl ?_
  refine own_iconst X 77 (4 : Int32) own_d7_76 rfl rfl ?_
  refine own_callS X 80 [(.ref r), (.int (2 : Int32)), (.int pa), (.int pb), (.ref sf), (.int (4 : Int32))] [] own_d7_77 rfl (hw _ (List.mem_of_getElem? (i := 59) rfl)) (hw _ (List.mem_of_getElem? (i := 60) rfl)) (hw _ (List.mem_of_getElem? (i := 3) rfl)) (hw _ (List.mem_of_getElem? (i := 61) rfl)) (by decide) (own_at_sf l Z a0 hw r (2 : Int32) pa pb sf (4 : Int32) kr [(.int (own_ob pa pb (0 : Int32))), (.int (own_ob pa pb (1 : Int32))), (.int 58), (.int 119), (.int 97), (.int 105), (.int 116), (.int 105), (.int 110), (.int 103)] 4 97 cs sv ks [(.int 58), (.int 119), (.int 97), (.int 105), (.int 116), (.int 105), (.int 110), (.int 103)] 2 97 fo h0 n0 X.sz Ar (show (4 : Int32) < (10 : Int32) by decide) (by decide) (by decide) (by decide) rfl OL z_cs hcs z_fo hfo Ea Fc Fv As (by decide) (by decide) (show (4 : Int32) - (2 : Int32) < (8 : Int32) by decide) rfl (by decide)) (fun _ _ q => Nat.le_of_eq (congrArg Array.size q.1.symm)) rfl own_pd11 rfl rfl rfl (by decide) (Nat.le_of_ble_eq_true rfl) (by decide) (by decide) ?_
  rintro v77 T h_ X ⟨eh_, rfl⟩
  rw [eh_] at X
  show own_Ends p e below _ (T.setTop (mkF m 80 #[.val (.ref r), .val (.int (2 : Int32)), .val (.int pa), .val (.int pb), .val (.ref sf)] [(.int (1 : Int32))]))
  refine own_ifN X 83 own_d7_80 rfl (XT.i0_eq_f (by decide)) ?_
  refine own_aloadN X 84 (.ref r) own_d7_83 rfl rfl rfl ?_
  refine own_iloadN X 85 (2 : Int32) own_d7_84 rfl rfl ?_
  refine own_iloadN X 86 pa own_d7_85 rfl rfl ?_
  refine own_iloadN X 87 pb own_d7_86 rfl rfl ?_
  refine own_aload X 89 (.ref sf) own_d7_87 rfl rfl rfl ?_
  refine own_iconst X 90 (5 : Int32) own_d7_89 rfl rfl ?_
  refine own_callS X 93 [(.ref r), (.int (2 : Int32)), (.int pa), (.int pb), (.ref sf), (.int (5 : Int32))] [] own_d7_90 rfl (hw _ (List.mem_of_getElem? (i := 59) rfl)) (hw _ (List.mem_of_getElem? (i := 60) rfl)) (hw _ (List.mem_of_getElem? (i := 3) rfl)) (hw _ (List.mem_of_getElem? (i := 61) rfl)) (by decide) (own_at_sf l Z a0 hw r (2 : Int32) pa pb sf (5 : Int32) kr [(.int (own_ob pa pb (0 : Int32))), (.int (own_ob pa pb (1 : Int32))), (.int 58), (.int 119), (.int 97), (.int 105), (.int 116), (.int 105), (.int 110), (.int 103)] 5 105 cs sv ks [(.int 58), (.int 119), (.int 97), (.int 105), (.int 116), (.int 105), (.int 110), (.int 103)] 3 105 fo h0 n0 X.sz Ar (show (5 : Int32) < (10 : Int32) by decide) (by decide) (by decide) (by decide) rfl OL z_cs hcs z_fo hfo Ea Fc Fv As (by decide) (by decide) (show (5 : Int32) - (2 : Int32) < (8 : Int32) by decide) rfl (by decide)) (fun _ _ q => Nat.le_of_eq (congrArg Array.size q.1.symm)) rfl own_pd11 rfl rfl rfl (by decide) (Nat.le_of_ble_eq_true rfl) (by decide) (by decide) ?_
  rintro v90 T h_ X ⟨eh_, rfl⟩
  rw [eh_] at X
  show own_Ends p e below _ (T.setTop (mkF m 93 #[.val (.ref r), .val (.int (2 : Int32)), .val (.int pa), .val (.int pb), .val (.ref sf)] [(.int (1 : Int32))]))
  refine own_ifN X 96 own_d7_93 rfl (XT.i0_eq_f (by decide)) ?_
  refine own_aloadN X 97 (.ref r) own_d7_96 rfl rfl rfl ?_
  refine own_iloadN X 98 (2 : Int32) own_d7_97 rfl rfl ?_
  refine own_iloadN X 99 pa own_d7_98 rfl rfl ?_
  refine own_iloadN X 100 pb own_d7_99 rfl rfl ?_
  refine own_aload X 102 (.ref sf) own_d7_100 rfl rfl rfl ?_
  refine own_bipush X 104 (6 : Int32) own_d7_102 rfl (by decide) ?_
  refine own_callS X 107 [(.ref r), (.int (2 : Int32)), (.int pa), (.int pb), (.ref sf), (.int (6 : Int32))] [] own_d7_104 rfl (hw _ (List.mem_of_getElem? (i := 59) rfl)) (hw _ (List.mem_of_getElem? (i := 60) rfl)) (hw _ (List.mem_of_getElem? (i := 3) rfl)) (hw _ (List.mem_of_getElem? (i := 61) rfl)) (by decide) (own_at_sf l Z a0 hw r (2 : Int32) pa pb sf (6 : Int32) kr [(.int (own_ob pa pb (0 : Int32))), (.int (own_ob pa pb (1 : Int32))), (.int 58), (.int 119), (.int 97), (.int 105), (.int 116), (.int 105), (.int 110), (.int 103)] 6 116 cs sv ks [(.int 58), (.int 119), (.int 97), (.int 105), (.int 116), (.int 105), (.int 110), (.int 103)] 4 116 fo h0 n0 X.sz Ar (show (6 : Int32) < (10 : Int32) by decide) (by decide) (by decide) (by decide) rfl OL z_cs hcs z_fo hfo Ea Fc Fv As (by decide) (by decide) (show (6 : Int32) - (2 : Int32) < (8 : Int32) by decide) rfl (by decide)) (fun _ _ q => Nat.le_of_eq (congrArg Array.size q.1.symm)) rfl own_pd11 rfl rfl rfl (by decide) (Nat.le_of_ble_eq_true rfl) (by decide) (by decide) ?_
  rintro v104 T h_ X ⟨eh_, rfl⟩
  rw [eh_] at X
  show own_Ends p e below _ (T.setTop (mkF m 107 #[.val (.ref r), .val (.int (2 : Int32)), .val (.int pa), .val (.int pb), .val (.ref sf)] [(.int (1 : Int32))]))
  refine own_ifN X 110 own_d7_107 rfl (XT.i0_eq_f (by decide)) ?_
  refine own_aloadN X 111 (.ref r) own_d7_110 rfl rfl rfl ?_
  refine own_iloadN X 112 (2 : Int32) own_d7_111 rfl rfl ?_
  refine own_iloadN X 113 pa own_d7_112 rfl rfl ?_
  refine own_iloadN X 114 pb own_d7_113 rfl rfl ?_
  refine own_aload X 116 (.ref sf) own_d7_114 rfl rfl rfl ?_
  refine own_bipush X 118 (7 : Int32) own_d7_116 rfl (by decide) ?_
  refine own_callS X 121 [(.ref r), (.int (2 : Int32)), (.int pa), (.int pb), (.ref sf), (.int (7 : Int32))] [] own_d7_118 rfl (hw _ (List.mem_of_getElem? (i := 59) rfl)) (hw _ (List.mem_of_getElem? (i := 60) rfl)) (hw _ (List.mem_of_getElem? (i := 3) rfl)) (hw _ (List.mem_of_getElem? (i := 61) rfl)) (by decide) (own_at_sf l Z a0 hw r (2 : Int32) pa pb sf (7 : Int32) kr [(.int (own_ob pa pb (0 : Int32))), (.int (own_ob pa pb (1 : Int32))), (.int 58), (.int 119), (.int 97), (.int 105), (.int 116), (.int 105), (.int 110), (.int 103)] 7 105 cs sv ks [(.int 58), (.int 119), (.int 97), (.int 105), (.int 116), (.int 105), (.int 110), (.int 103)] 5 105 fo h0 n0 X.sz Ar (show (7 : Int32) < (10 : Int32) by decide) (by decide) (by decide) (by decide) rfl OL z_cs hcs z_fo hfo Ea Fc Fv As (by decide) (by decide) (show (7 : Int32) - (2 : Int32) < (8 : Int32) by decide) rfl (by decide)) (fun _ _ q => Nat.le_of_eq (congrArg Array.size q.1.symm)) rfl own_pd11 rfl rfl rfl (by decide) (Nat.le_of_ble_eq_true rfl) (by decide) (by decide) ?_
  rintro v118 T h_ X ⟨eh_, rfl⟩
  rw [eh_] at X
  show own_Ends p e below _ (T.setTop (mkF m 121 #[.val (.ref r), .val (.int (2 : Int32)), .val (.int pa), .val (.int pb), .val (.ref sf)] [(.int (1 : Int32))]))
  refine own_ifN X 124 own_d7_121 rfl (XT.i0_eq_f (by decide)) ?_
  refine own_aloadN X 125 (.ref r) own_d7_124 rfl rfl rfl ?_
  refine own_iloadN X 126 (2 : Int32) own_d7_125 rfl rfl ?_
  refine own_iloadN X 127 pa own_d7_126 rfl rfl ?_
  refine own_iloadN X 128 pb own_d7_127 rfl rfl ?_
  refine own_aload X 130 (.ref sf) own_d7_128 rfl rfl rfl ?_
  refine own_bipush X 132 (8 : Int32) own_d7_130 rfl (by decide) ?_
  refine own_callS X 135 [(.ref r), (.int (2 : Int32)), (.int pa), (.int pb), (.ref sf), (.int (8 : Int32))] [] own_d7_132 rfl (hw _ (List.mem_of_getElem? (i := 59) rfl)) (hw _ (List.mem_of_getElem? (i := 60) rfl)) (hw _ (List.mem_of_getElem? (i := 3) rfl)) (hw _ (List.mem_of_getElem? (i := 61) rfl)) (by decide) (own_at_sf l Z a0 hw r (2 : Int32) pa pb sf (8 : Int32) kr [(.int (own_ob pa pb (0 : Int32))), (.int (own_ob pa pb (1 : Int32))), (.int 58), (.int 119), (.int 97), (.int 105), (.int 116), (.int 105), (.int 110), (.int 103)] 8 110 cs sv ks [(.int 58), (.int 119), (.int 97), (.int 105), (.int 116), (.int 105), (.int 110), (.int 103)] 6 110 fo h0 n0 X.sz Ar (show (8 : Int32) < (10 : Int32) by decide) (by decide) (by decide) (by decide) rfl OL z_cs hcs z_fo hfo Ea Fc Fv As (by decide) (by decide) (show (8 : Int32) - (2 : Int32) < (8 : Int32) by decide) rfl (by decide)) (fun _ _ q => Nat.le_of_eq (congrArg Array.size q.1.symm)) rfl own_pd11 rfl rfl rfl (by decide) (Nat.le_of_ble_eq_true rfl) (by decide) (by decide) ?_
  rintro v132 T h_ X ⟨eh_, rfl⟩
  rw [eh_] at X
  show own_Ends p e below _ (T.setTop (mkF m 135 #[.val (.ref r), .val (.int (2 : Int32)), .val (.int pa), .val (.int pb), .val (.ref sf)] [(.int (1 : Int32))]))
  refine own_ifN X 138 own_d7_135 rfl (XT.i0_eq_f (by decide)) ?_
  refine own_aloadN X 139 (.ref r) own_d7_138 rfl rfl rfl ?_
  refine own_iloadN X 140 (2 : Int32) own_d7_139 rfl rfl ?_
  refine own_iloadN X 141 pa own_d7_140 rfl rfl ?_
  refine own_iloadN X 142 pb own_d7_141 rfl rfl ?_
  refine own_aload X 144 (.ref sf) own_d7_142 rfl rfl rfl ?_
  refine own_bipush X 146 (9 : Int32) own_d7_144 rfl (by decide) ?_
  refine own_callS X 149 [(.ref r), (.int (2 : Int32)), (.int pa), (.int pb), (.ref sf), (.int (9 : Int32))] [] own_d7_146 rfl (hw _ (List.mem_of_getElem? (i := 59) rfl)) (hw _ (List.mem_of_getElem? (i := 60) rfl)) (hw _ (List.mem_of_getElem? (i := 3) rfl)) (hw _ (List.mem_of_getElem? (i := 61) rfl)) (by decide) (own_at_sf l Z a0 hw r (2 : Int32) pa pb sf (9 : Int32) kr [(.int (own_ob pa pb (0 : Int32))), (.int (own_ob pa pb (1 : Int32))), (.int 58), (.int 119), (.int 97), (.int 105), (.int 116), (.int 105), (.int 110), (.int 103)] 9 103 cs sv ks [(.int 58), (.int 119), (.int 97), (.int 105), (.int 116), (.int 105), (.int 110), (.int 103)] 7 103 fo h0 n0 X.sz Ar (show (9 : Int32) < (10 : Int32) by decide) (by decide) (by decide) (by decide) rfl OL z_cs hcs z_fo hfo Ea Fc Fv As (by decide) (by decide) (show (9 : Int32) - (2 : Int32) < (8 : Int32) by decide) rfl (by decide)) (fun _ _ q => Nat.le_of_eq (congrArg Array.size q.1.symm)) rfl own_pd11 rfl rfl rfl (by decide) (Nat.le_of_ble_eq_true rfl) (by decide) (by decide) ?_
  rintro v146 T h_ X ⟨eh_, rfl⟩
  rw [eh_] at X
  show own_Ends p e below _ (T.setTop (mkF m 149 #[.val (.ref r), .val (.int (2 : Int32)), .val (.int pa), .val (.int pb), .val (.ref sf)] [(.int (1 : Int32))]))
  refine own_ifN X 152 own_d7_149 rfl (XT.i0_eq_f (by decide)) ?_
  refine own_aloadN X 153 (.ref r) own_d7_152 rfl rfl rfl ?_
  refine own_iloadN X 154 (2 : Int32) own_d7_153 rfl rfl ?_
  refine own_iloadN X 155 pa own_d7_154 rfl rfl ?_
  refine own_iloadN X 156 pb own_d7_155 rfl rfl ?_
  refine own_aload X 158 (.ref sf) own_d7_156 rfl rfl rfl ?_
  refine own_bipush X 160 (10 : Int32) own_d7_158 rfl (by decide) ?_
  refine own_callS X 163 [(.ref r), (.int (2 : Int32)), (.int pa), (.int pb), (.ref sf), (.int (10 : Int32))] [] own_d7_160 rfl (hw _ (List.mem_of_getElem? (i := 59) rfl)) (hw _ (List.mem_of_getElem? (i := 60) rfl)) (hw _ (List.mem_of_getElem? (i := 3) rfl)) (hw _ (List.mem_of_getElem? (i := 61) rfl)) (by decide) (own_at_hi l Z a0 hw r (2 : Int32) pa pb sf (10 : Int32) kr [(.int (own_ob pa pb (0 : Int32))), (.int (own_ob pa pb (1 : Int32))), (.int 58), (.int 119), (.int 97), (.int 105), (.int 116), (.int 105), (.int 110), (.int 103)] h0 n0 X.sz Ar (show ¬ (10 : Int32) < (10 : Int32) by decide)) (fun _ _ q => Nat.le_of_eq (congrArg Array.size q.1.symm)) rfl own_pd11 rfl rfl rfl (by decide) (Nat.le_of_ble_eq_true rfl) (by decide) (by decide) ?_
  rintro v160 T h_ X ⟨eh_, rfl⟩
  rw [eh_] at X
  show own_Ends p e below _ (T.setTop (mkF m 163 #[.val (.ref r), .val (.int (2 : Int32)), .val (.int pa), .val (.int pb), .val (.ref sf)] [(.int (1 : Int32))]))
  refine own_ifN X 166 own_d7_163 rfl (XT.i0_eq_f (by decide)) ?_
  refine own_aloadN X 167 (.ref r) own_d7_166 rfl rfl rfl ?_
  refine own_iloadN X 168 (2 : Int32) own_d7_167 rfl rfl ?_
  refine own_iloadN X 169 pa own_d7_168 rfl rfl ?_
  refine own_iloadN X 170 pb own_d7_169 rfl rfl ?_
  refine own_aload X 172 (.ref sf) own_d7_170 rfl rfl rfl ?_
  refine own_bipush X 174 (11 : Int32) own_d7_172 rfl (by decide) ?_
  refine own_callS X 177 [(.ref r), (.int (2 : Int32)), (.int pa), (.int pb), (.ref sf), (.int (11 : Int32))] [] own_d7_174 rfl (hw _ (List.mem_of_getElem? (i := 59) rfl)) (hw _ (List.mem_of_getElem? (i := 60) rfl)) (hw _ (List.mem_of_getElem? (i := 3) rfl)) (hw _ (List.mem_of_getElem? (i := 61) rfl)) (by decide) (own_at_hi l Z a0 hw r (2 : Int32) pa pb sf (11 : Int32) kr [(.int (own_ob pa pb (0 : Int32))), (.int (own_ob pa pb (1 : Int32))), (.int 58), (.int 119), (.int 97), (.int 105), (.int 116), (.int 105), (.int 110), (.int 103)] h0 n0 X.sz Ar (show ¬ (11 : Int32) < (10 : Int32) by decide)) (fun _ _ q => Nat.le_of_eq (congrArg Array.size q.1.symm)) rfl own_pd11 rfl rfl rfl (by decide) (Nat.le_of_ble_eq_true rfl) (by decide) (by decide) ?_
  rintro v174 T h_ X ⟨eh_, rfl⟩
  rw [eh_] at X
  show own_Ends p e below _ (T.setTop (mkF m 177 #[.val (.ref r), .val (.int (2 : Int32)), .val (.int pa), .val (.int pb), .val (.ref sf)] [(.int (1 : Int32))]))
  refine own_ifN X 180 own_d7_177 rfl (XT.i0_eq_f (by decide)) ?_
  refine own_aloadN X 181 (.ref r) own_d7_180 rfl rfl rfl ?_
  refine own_iloadN X 182 (2 : Int32) own_d7_181 rfl rfl ?_
  refine own_iloadN X 183 pa own_d7_182 rfl rfl ?_
  refine own_iloadN X 184 pb own_d7_183 rfl rfl ?_
  refine own_aload X 186 (.ref sf) own_d7_184 rfl rfl rfl ?_
  refine own_bipush X 188 (12 : Int32) own_d7_186 rfl (by decide) ?_
  refine own_callS X 191 [(.ref r), (.int (2 : Int32)), (.int pa), (.int pb), (.ref sf), (.int (12 : Int32))] [] own_d7_188 rfl (hw _ (List.mem_of_getElem? (i := 59) rfl)) (hw _ (List.mem_of_getElem? (i := 60) rfl)) (hw _ (List.mem_of_getElem? (i := 3) rfl)) (hw _ (List.mem_of_getElem? (i := 61) rfl)) (by decide) (own_at_hi l Z a0 hw r (2 : Int32) pa pb sf (12 : Int32) kr [(.int (own_ob pa pb (0 : Int32))), (.int (own_ob pa pb (1 : Int32))), (.int 58), (.int 119), (.int 97), (.int 105), (.int 116), (.int 105), (.int 110), (.int 103)] h0 n0 X.sz Ar (show ¬ (12 : Int32) < (10 : Int32) by decide)) (fun _ _ q => Nat.le_of_eq (congrArg Array.size q.1.symm)) rfl own_pd11 rfl rfl rfl (by decide) (Nat.le_of_ble_eq_true rfl) (by decide) (by decide) ?_
  rintro v188 T h_ X ⟨eh_, rfl⟩
  rw [eh_] at X
  show own_Ends p e below _ (T.setTop (mkF m 191 #[.val (.ref r), .val (.int (2 : Int32)), .val (.int pa), .val (.int pb), .val (.ref sf)] [(.int (1 : Int32))]))
  refine own_ifN X 194 own_d7_191 rfl (XT.i0_eq_f (by decide)) ?_
  refine own_iconst X 195 (1 : Int32) own_d7_194 rfl rfl ?_
  refine own_goto X 199 own_d7_195 (by decide) (by decide) ?_
  exact own_retN X .boolean own_d7_199 rfl (by simp) (by decide) (by decide) (⟨rfl, rfl⟩)
set_option maxRecDepth 65536 in
set_option maxHeartbeats 40000000 in
theorem own_mt3_0 (l : Launch) (Z : State) (a0 : Array Value) (hw : ∀ d ∈ tables_1, d.before a0 Z = true) (r : Addr) (nn : Int32) (pa : Int32) (pb : Int32) (sf : Addr) (kr : ClassId) (cs : Int32) (sv : Addr) (ks : ClassId) (fo : Value) (h0 : Heap) (n0 : Nat) (hs0 : n0 ≤ h0.size) (Ar : own_A Z h0 r kr .byte [(.int (own_ob pa pb (0 : Int32))), (.int (own_ob pa pb (1 : Int32))), (.int (own_ob pa pb (2 : Int32)))]) (OL : Old Z n0 h0) (z_cs : Sta Z Z.heap "java/lang/String" "COMPACT_STRINGS" "Z" (.int cs)) (hcs : ¬ cs = 0) (z_fo : Sta Z Z.heap "jdk/internal/util/Preconditions" "SIOOBE_FORMATTER" "Ljava/util/function/BiFunction;" fo) (hfo : fo.isRef = true) (Ea : Exa Z h0 sf "java/lang/String") (Fc : Fld Z h0 sf "java/lang/String" "coder" "B" (.int 0)) (Fv : Fld Z h0 sf "java/lang/String" "value" "[B" (.ref sv)) (As : own_A Z h0 sv ks .byte []) (hn : nn = 3) :
    own_Met l (⟨"com/example/latchkey/latchkey/LockKeysHolderFieldsPinLaw", "matches", "([BIIILjava/lang/String;)Z"⟩ : MethodName) method_6_code 5 (some .boolean) ({ frames := 2, cells := 0, slots := 0, locals := 32 } : Room) Z #[(.ref r), (.int nn), (.int pa), (.int pb), (.ref sf)] h0 n0 (fun v h' => h' = h0 ∧ v = some (.int (1 : Int32))) := by
  refine own_met (Ls := #[.val (.ref r), .val (.int nn), .val (.int pa), .val (.int pb), .val (.ref sf)]) own_pn7 hs0 (fun m => by first  | (simp [entryFrame, mkF, argsToLocals, Value.category]; done) | rfl) ?_
  intro p e s m below meth c T X
  have hi_r : h0.size > r := Ar.lt
  have hi_sv : h0.size > sv := As.lt
  have hi_sf : h0.size > sf := Ea.lt
  subst hn
  refine own_aloadN X 1 (.ref r) own_d7_0 rfl rfl rfl ?_
  refine own_nullN X 4 own_d7_1 rfl ?_
  refine own_aloadN X 5 (.ref r) own_d7_4 rfl rfl rfl ?_
  refine own_len X 6 (3 : Int32) own_d7_5 rfl Ar rfl ?_
  refine own_iloadN X 7 (3 : Int32) own_d7_6 rfl rfl ?_
  refine own_aload X 9 (.ref sf) own_d7_7 rfl rfl rfl ?_
  refine own_callV X 12 [] [(.int (3 : Int32)), (.int (3 : Int32))] own_d7_9 rfl (hw _ (List.mem_of_getElem? (i := 46) rfl)) (hw _ (List.mem_of_getElem? (i := 47) rfl)) (own_nf X.2.2.2.2.1 (hw _ (List.mem_of_getElem? (i := 49) rfl))) (hw _ (List.mem_of_getElem? (i := 49) rfl)) (hw _ (List.mem_of_getElem? (i := 48) rfl)) (hw _ (List.mem_of_getElem? (i := 37) rfl)) (hw _ (List.mem_of_getElem? (i := 50) rfl)) (by decide) Ea (own_sl0 l Z a0 hw sf cs sv ks h0 n0 X.sz OL z_cs hcs Ea Fc Fv As) (fun _ _ q => Nat.le_of_eq (congrArg Array.size q.1.symm)) rfl own_pd10 rfl rfl rfl (by decide) (Nat.le_of_ble_eq_true rfl) (by decide) (by decide) ?_
  rintro v9 T h_ X ⟨eh_, rfl⟩
  rw [eh_] at X
  show own_Ends p e below _ (T.setTop (mkF m 12 #[.val (.ref r), .val (.int (3 : Int32)), .val (.int pa), .val (.int pb), .val (.ref sf)] [(.int (0 : Int32)), (.int (3 : Int32)), (.int (3 : Int32))]))
  refine own_iadd X 13 own_d7_12 rfl ?_
  refine own_icY X 18 own_d7_13 (by decide) (by decide) (XT.ii_eq_t (by decide)) ?_
  refine own_aloadN X 19 (.ref r) own_d7_18 rfl rfl rfl ?_
  refine own_iloadN X 20 (3 : Int32) own_d7_19 rfl rfl ?_
  refine own_iloadN X 21 pa own_d7_20 rfl rfl ?_
  refine own_iloadN X 22 pb own_d7_21 rfl rfl ?_
  refine own_aload X 24 (.ref sf) own_d7_22 rfl rfl rfl ?_
  refine own_iconst X 25 (0 : Int32) own_d7_24 rfl rfl ?_
  refine own_callS X 28 [(.ref r), (.int (3 : Int32)), (.int pa), (.int pb), (.ref sf), (.int (0 : Int32))] [] own_d7_25 rfl (hw _ (List.mem_of_getElem? (i := 59) rfl)) (hw _ (List.mem_of_getElem? (i := 60) rfl)) (hw _ (List.mem_of_getElem? (i := 3) rfl)) (hw _ (List.mem_of_getElem? (i := 61) rfl)) (by decide) (own_at_ob l Z a0 hw r (3 : Int32) pa pb sf (0 : Int32) kr [(.int (own_ob pa pb (0 : Int32))), (.int (own_ob pa pb (1 : Int32))), (.int (own_ob pa pb (2 : Int32)))] 0 h0 n0 X.sz Ar (show (0 : Int32) < (3 : Int32) by decide) (by decide) (by decide) (by decide) rfl) (fun _ _ q => Nat.le_of_eq (congrArg Array.size q.1.symm)) rfl own_pd11 rfl rfl rfl (by decide) (Nat.le_of_ble_eq_true rfl) (by decide) (by decide) ?_
  rintro v25 T h_ X ⟨eh_, rfl⟩
  rw [eh_] at X
  show own_Ends p e below _ (T.setTop (mkF m 28 #[.val (.ref r), .val (.int (3 : Int32)), .val (.int pa), .val (.int pb), .val (.ref sf)] [(.int (1 : Int32))]))
  refine own_ifN X 31 own_d7_28 rfl (XT.i0_eq_f (by decide)) ?_
  refine own_aloadN X 32 (.ref r) own_d7_31 rfl rfl rfl ?_
  refine own_iloadN X 33 (3 : Int32) own_d7_32 rfl rfl ?_
  refine own_iloadN X 34 pa own_d7_33 rfl rfl ?_
  refine own_iloadN X 35 pb own_d7_34 rfl rfl ?_
  refine own_aload X 37 (.ref sf) own_d7_35 rfl rfl rfl ?_
  refine own_iconst X 38 (1 : Int32) own_d7_37 rfl rfl ?_
  refine own_callS X 41 [(.ref r), (.int (3 : Int32)), (.int pa), (.int pb), (.ref sf), (.int (1 : Int32))] [] own_d7_38 rfl (hw _ (List.mem_of_getElem? (i := 59) rfl)) (hw _ (List.mem_of_getElem? (i := 60) rfl)) (hw _ (List.mem_of_getElem? (i := 3) rfl)) (hw _ (List.mem_of_getElem? (i := 61) rfl)) (by decide) (own_at_ob l Z a0 hw r (3 : Int32) pa pb sf (1 : Int32) kr [(.int (own_ob pa pb (0 : Int32))), (.int (own_ob pa pb (1 : Int32))), (.int (own_ob pa pb (2 : Int32)))] 1 h0 n0 X.sz Ar (show (1 : Int32) < (3 : Int32) by decide) (by decide) (by decide) (by decide) rfl) (fun _ _ q => Nat.le_of_eq (congrArg Array.size q.1.symm)) rfl own_pd11 rfl rfl rfl (by decide) (Nat.le_of_ble_eq_true rfl) (by decide) (by decide) ?_
  rintro v38 T h_ X ⟨eh_, rfl⟩
  rw [eh_] at X
  show own_Ends p e below _ (T.setTop (mkF m 41 #[.val (.ref r), .val (.int (3 : Int32)), .val (.int pa), .val (.int pb), .val (.ref sf)] [(.int (1 : Int32))]))
  refine own_ifN X 44 own_d7_41 rfl (XT.i0_eq_f (by decide)) ?_
  refine own_aloadN X 45 (.ref r) own_d7_44 rfl rfl rfl ?_
  refine own_iloadN X 46 (3 : Int32) own_d7_45 rfl rfl ?_
  refine own_iloadN X 47 pa own_d7_46 rfl rfl ?_
  refine own_iloadN X 48 pb own_d7_47 rfl rfl ?_
  refine own_aload X 50 (.ref sf) own_d7_48 rfl rfl rfl ?_
  refine own_iconst X 51 (2 : Int32) own_d7_50 rfl rfl ?_
  refine own_callS X 54 [(.ref r), (.int (3 : Int32)), (.int pa), (.int pb), (.ref sf), (.int (2 : Int32))] [] own_d7_51 rfl (hw _ (List.mem_of_getElem? (i := 59) rfl)) (hw _ (List.mem_of_getElem? (i := 60) rfl)) (hw _ (List.mem_of_getElem? (i := 3) rfl)) (hw _ (List.mem_of_getElem? (i := 61) rfl)) (by decide) (own_at_ob l Z a0 hw r (3 : Int32) pa pb sf (2 : Int32) kr [(.int (own_ob pa pb (0 : Int32))), (.int (own_ob pa pb (1 : Int32))), (.int (own_ob pa pb (2 : Int32)))] 2 h0 n0 X.sz Ar (show (2 : Int32) < (3 : Int32) by decide) (by decide) (by decide) (by decide) rfl) (fun _ _ q => Nat.le_of_eq (congrArg Array.size q.1.symm)) rfl own_pd11 rfl rfl rfl (by decide) (Nat.le_of_ble_eq_true rfl) (by decide) (by decide) ?_
  rintro v51 T h_ X ⟨eh_, rfl⟩
  rw [eh_] at X
  show own_Ends p e below _ (T.setTop (mkF m 54 #[.val (.ref r), .val (.int (3 : Int32)), .val (.int pa), .val (.int pb), .val (.ref sf)] [(.int (1 : Int32))]))
  refine own_ifN X 57 own_d7_54 rfl (XT.i0_eq_f (by decide)) ?_
  refine own_aloadN X 58 (.ref r) own_d7_57 rfl rfl rfl ?_
  refine own_iloadN X 59 (3 : Int32) own_d7_58 rfl rfl ?_
  refine own_iloadN X 60 pa own_d7_59 rfl rfl ?_
  refine own_iloadN X 61 pb own_d7_60 rfl rfl ?_
  refine own_aload X 63 (.ref sf) own_d7_61 rfl rfl rfl ?_
  refine own_iconst X 64 (3 : Int32) own_d7_63 rfl rfl ?_
  refine own_callS X 67 [(.ref r), (.int (3 : Int32)), (.int pa), (.int pb), (.ref sf), (.int (3 : Int32))] [] own_d7_64 rfl (hw _ (List.mem_of_getElem? (i := 59) rfl)) (hw _ (List.mem_of_getElem? (i := 60) rfl)) (hw _ (List.mem_of_getElem? (i := 3) rfl)) (hw _ (List.mem_of_getElem? (i := 61) rfl)) (by decide) (own_at_hi l Z a0 hw r (3 : Int32) pa pb sf (3 : Int32) kr [(.int (own_ob pa pb (0 : Int32))), (.int (own_ob pa pb (1 : Int32))), (.int (own_ob pa pb (2 : Int32)))] h0 n0 X.sz Ar (show ¬ (3 : Int32) < (3 : Int32) by decide)) (fun _ _ q => Nat.le_of_eq (congrArg Array.size q.1.symm)) rfl own_pd11 rfl rfl rfl (by decide) (Nat.le_of_ble_eq_true rfl) (by decide) (by decide) ?_
  rintro v64 T h_ X ⟨eh_, rfl⟩
  rw [eh_] at X
  show own_Ends p e below _ (T.setTop (mkF m 67 #[.val (.ref r), .val (.int (3 : Int32)), .val (.int pa), .val (.int pb), .val (.ref sf)] [(.int (1 : Int32))]))
  refine own_ifN X 70 own_d7_67 rfl (XT.i0_eq_f (by decide)) ?_
  refine own_aloadN X 71 (.ref r) own_d7_70 rfl rfl rfl ?_
  refine own_iloadN X 72 (3 : Int32) own_d7_71 rfl rfl ?_
  refine own_iloadN X 73 pa own_d7_72 rfl rfl ?_
  refine own_iloadN X 74 pb own_d7_73 rfl rfl ?_
  refine own_aload X 76 (.ref sf) own_d7_74 rfl rfl rfl ?_
  refine own_iconst X 77 (4 : Int32) own_d7_76 rfl rfl ?_
  refine own_callS X 80 [(.ref r), (.int (3 : Int32)), (.int pa), (.int pb), (.ref sf), (.int (4 : Int32))] [] own_d7_77 rfl (hw _ (List.mem_of_getElem? (i := 59) rfl)) (hw _ (List.mem_of_getElem? (i := 60) rfl)) (hw _ (List.mem_of_getElem? (i := 3) rfl)) (hw _ (List.mem_of_getElem? (i := 61) rfl)) (by decide) (own_at_hi l Z a0 hw r (3 : Int32) pa pb sf (4 : Int32) kr [(.int (own_ob pa pb (0 : Int32))), (.int (own_ob pa pb (1 : Int32))), (.int (own_ob pa pb (2 : Int32)))] h0 n0 X.sz Ar (show ¬ (4 : Int32) < (3 : Int32) by decide)) (fun _ _ q => Nat.le_of_eq (congrArg Array.size q.1.symm)) rfl own_pd11 rfl rfl rfl (by decide) (Nat.le_of_ble_eq_true rfl) (by decide) (by decide) ?_
  rintro v77 T h_ X ⟨eh_, rfl⟩
  rw [eh_] at X
  show own_Ends p e below _ (T.setTop (mkF m 80 #[.val (.ref r), .val (.int (3 : Int32)), .val (.int pa), .val (.int pb), .val (.ref sf)] [(.int (1 : Int32))]))
  refine own_ifN X 83 own_d7_80 rfl (XT.i0_eq_f (by decide)) ?_
  refine own_aloadN X 84 (.ref r) own_d7_83 rfl rfl rfl ?_
  refine own_iloadN X 85 (3 : Int32) own_d7_84 rfl rfl ?_
  refine own_iloadN X 86 pa own_d7_85 rfl rfl ?_
  refine own_iloadN X 87 pb own_d7_86 rfl rfl ?_
  refine own_aload X 89 (.ref sf) own_d7_87 rfl rfl rfl ?_
  refine own_iconst X 90 (5 : Int32) own_d7_89 rfl rfl ?_
  refine own_callS X 93 [(.ref r), (.int (3 : Int32)), (.int pa), (.int pb), (.ref sf), (.int (5 : Int32))] [] own_d7_90 rfl (hw _ (List.mem_of_getElem? (i := 59) rfl)) (hw _ (List.mem_of_getElem? (i := 60) rfl)) (hw _ (List.mem_of_getElem? (i := 3) rfl)) (hw _ (List.mem_of_getElem? (i := 61) rfl)) (by decide) (own_at_hi l Z a0 hw r (3 : Int32) pa pb sf (5 : Int32) kr [(.int (own_ob pa pb (0 : Int32))), (.int (own_ob pa pb (1 : Int32))), (.int (own_ob pa pb (2 : Int32)))] h0 n0 X.sz Ar (show ¬ (5 : Int32) < (3 : Int32) by decide)) (fun _ _ q => Nat.le_of_eq (congrArg Array.size q.1.symm)) rfl own_pd11 rfl rfl rfl (by decide) (Nat.le_of_ble_eq_true rfl) (by decide) (by decide) ?_
  rintro v90 T h_ X ⟨eh_, rfl⟩
  rw [eh_] at X
  show own_Ends p e below _ (T.setTop (mkF m 93 #[.val (.ref r), .val (.int (3 : Int32)), .val (.int pa), .val (.int pb), .val (.ref sf)] [(.int (1 : Int32))]))
  refine own_ifN X 96 own_d7_93 rfl (XT.i0_eq_f (by decide)) ?_
  refine own_aloadN X 97 (.ref r) own_d7_96 rfl rfl rfl ?_
  refine own_iloadN X 98 (3 : Int32) own_d7_97 rfl rfl ?_
  refine own_iloadN X 99 pa own_d7_98 rfl rfl ?_
  refine own_iloadN X 100 pb own_d7_99 rfl rfl ?_
  refine own_aload X 102 (.ref sf) own_d7_100 rfl rfl rfl ?_
  refine own_bipush X 104 (6 : Int32) own_d7_102 rfl (by decide) ?_
  refine own_callS X 107 [(.ref r), (.int (3 : Int32)), (.int pa), (.int pb), (.ref sf), (.int (6 : Int32))] [] own_d7_104 rfl (hw _ (List.mem_of_getElem? (i := 59) rfl)) (hw _ (List.mem_of_getElem? (i := 60) rfl)) (hw _ (List.mem_of_getElem? (i := 3) rfl)) (hw _ (List.mem_of_getElem? (i := 61) rfl)) (by decide) (own_at_hi l Z a0 hw r (3 : Int32) pa pb sf (6 : Int32) kr [(.int (own_ob pa pb (0 : Int32))), (.int (own_ob pa pb (1 : Int32))), (.int (own_ob pa pb (2 : Int32)))] h0 n0 X.sz Ar (show ¬ (6 : Int32) < (3 : Int32) by decide)) (fun _ _ q => Nat.le_of_eq (congrArg Array.size q.1.symm)) rfl own_pd11 rfl rfl rfl (by decide) (Nat.le_of_ble_eq_true rfl) (by decide) (by decide) ?_
  rintro v104 T h_ X ⟨eh_, rfl⟩
  rw [eh_] at X
  show own_Ends p e below _ (T.setTop (mkF m 107 #[.val (.ref r), .val (.int (3 : Int32)), .val (.int pa), .val (.int pb), .val (.ref sf)] [(.int (1 : Int32))]))
  refine own_ifN X 110 own_d7_107 rfl (XT.i0_eq_f (by decide)) ?_
  refine own_aloadN X 111 (.ref r) own_d7_110 rfl rfl rfl ?_
  refine own_iloadN X 112 (3 : Int32) own_d7_111 rfl rfl ?_
  refine own_iloadN X 113 pa own_d7_112 rfl rfl ?_
  refine own_iloadN X 114 pb own_d7_113 rfl rfl ?_
  refine own_aload X 116 (.ref sf) own_d7_114 rfl rfl rfl ?_
  refine own_bipush X 118 (7 : Int32) own_d7_116 rfl (by decide) ?_
  refine own_callS X 121 [(.ref r), (.int (3 : Int32)), (.int pa), (.int pb), (.ref sf), (.int (7 : Int32))] [] own_d7_118 rfl (hw _ (List.mem_of_getElem? (i := 59) rfl)) (hw _ (List.mem_of_getElem? (i := 60) rfl)) (hw _ (List.mem_of_getElem? (i := 3) rfl)) (hw _ (List.mem_of_getElem? (i := 61) rfl)) (by decide) (own_at_hi l Z a0 hw r (3 : Int32) pa pb sf (7 : Int32) kr [(.int (own_ob pa pb (0 : Int32))), (.int (own_ob pa pb (1 : Int32))), (.int (own_ob pa pb (2 : Int32)))] h0 n0 X.sz Ar (show ¬ (7 : Int32) < (3 : Int32) by decide)) (fun _ _ q => Nat.le_of_eq (congrArg Array.size q.1.symm)) rfl own_pd11 rfl rfl rfl (by decide) (Nat.le_of_ble_eq_true rfl) (by decide) (by decide) ?_
  rintro v118 T h_ X ⟨eh_, rfl⟩
  rw [eh_] at X
  show own_Ends p e below _ (T.setTop (mkF m 121 #[.val (.ref r), .val (.int (3 : Int32)), .val (.int pa), .val (.int pb), .val (.ref sf)] [(.int (1 : Int32))]))
  refine own_ifN X 124 own_d7_121 rfl (XT.i0_eq_f (by decide)) ?_
  refine own_aloadN X 125 (.ref r) own_d7_124 rfl rfl rfl ?_
  refine own_iloadN X 126 (3 : Int32) own_d7_125 rfl rfl ?_
  refine own_iloadN X 127 pa own_d7_126 rfl rfl ?_
  refine own_iloadN X 128 pb own_d7_127 rfl rfl ?_
  refine own_aload X 130 (.ref sf) own_d7_128 rfl rfl rfl ?_
  refine own_bipush X 132 (8 : Int32) own_d7_130 rfl (by decide) ?_
  refine own_callS X 135 [(.ref r), (.int (3 : Int32)), (.int pa), (.int pb), (.ref sf), (.int (8 : Int32))] [] own_d7_132 rfl (hw _ (List.mem_of_getElem? (i := 59) rfl)) (hw _ (List.mem_of_getElem? (i := 60) rfl)) (hw _ (List.mem_of_getElem? (i := 3) rfl)) (hw _ (List.mem_of_getElem? (i := 61) rfl)) (by decide) (own_at_hi l Z a0 hw r (3 : Int32) pa pb sf (8 : Int32) kr [(.int (own_ob pa pb (0 : Int32))), (.int (own_ob pa pb (1 : Int32))), (.int (own_ob pa pb (2 : Int32)))] h0 n0 X.sz Ar (show ¬ (8 : Int32) < (3 : Int32) by decide)) (fun _ _ q => Nat.le_of_eq (congrArg Array.size q.1.symm)) rfl own_pd11 rfl rfl rfl (by decide) (Nat.le_of_ble_eq_true rfl) (by decide) (by decide) ?_
  rintro v132 T h_ X ⟨eh_, rfl⟩
  rw [eh_] at X
  show own_Ends p e below _ (T.setTop (mkF m 135 #[.val (.ref r), .val (.int (3 : Int32)), .val (.int pa), .val (.int pb), .val (.ref sf)] [(.int (1 : Int32))]))
  refine own_ifN X 138 own_d7_135 rfl (XT.i0_eq_f (by decide)) ?_
  refine own_aloadN X 139 (.ref r) own_d7_138 rfl rfl rfl ?_
  refine own_iloadN X 140 (3 : Int32) own_d7_139 rfl rfl ?_
  refine own_iloadN X 141 pa own_d7_140 rfl rfl ?_
  refine own_iloadN X 142 pb own_d7_141 rfl rfl ?_
  refine own_aload X 144 (.ref sf) own_d7_142 rfl rfl rfl ?_
  refine own_bipush X 146 (9 : Int32) own_d7_144 rfl (by decide) ?_
  refine own_callS X 149 [(.ref r), (.int (3 : Int32)), (.int pa), (.int pb), (.ref sf), (.int (9 : Int32))] [] own_d7_146 rfl (hw _ (List.mem_of_getElem? (i := 59) rfl)) (hw _ (List.mem_of_getElem? (i := 60) rfl)) (hw _ (List.mem_of_getElem? (i := 3) rfl)) (hw _ (List.mem_of_getElem? (i := 61) rfl)) (by decide) (own_at_hi l Z a0 hw r (3 : Int32) pa pb sf (9 : Int32) kr [(.int (own_ob pa pb (0 : Int32))), (.int (own_ob pa pb (1 : Int32))), (.int (own_ob pa pb (2 : Int32)))] h0 n0 X.sz Ar (show ¬ (9 : Int32) < (3 : Int32) by decide)) (fun _ _ q => Nat.le_of_eq (congrArg Array.size q.1.symm)) rfl own_pd11 rfl rfl rfl (by decide) (Nat.le_of_ble_eq_true rfl) (by decide) (by decide) ?_
  rintro v146 T h_ X ⟨eh_, rfl⟩
  rw [eh_] at X
  show own_Ends p e below _ (T.setTop (mkF m 149 #[.val (.ref r), .val (.int (3 : Int32)), .val (.int pa), .val (.int pb), .val (.ref sf)] [(.int (1 : Int32))]))
  refine own_ifN X 152 own_d7_149 rfl (XT.i0_eq_f (by decide)) ?_
  refine own_aloadN X 153 (.ref r) own_d7_152 rfl rfl rfl ?_
  refine own_iloadN X 154 (3 : Int32) own_d7_153 rfl rfl ?_
  refine own_iloadN X 155 pa own_d7_154 rfl rfl ?_
  refine own_iloadN X 156 pb own_d7_155 rfl rfl ?_
  refine own_aload X 158 (.ref sf) own_d7_156 rfl rfl rfl ?_
  refine own_bipush X 160 (10 : Int32) own_d7_158 rfl (by decide) ?_
  refine own_callS X 163 [(.ref r), (.int (3 : Int32)), (.int pa), (.int pb), (.ref sf), (.int (10 : Int32))] [] own_d7_160 rfl (hw _ (List.mem_of_getElem? (i := 59) rfl)) (hw _ (List.mem_of_getElem? (i := 60) rfl)) (hw _ (List.mem_of_getElem? (i := 3) rfl)) (hw _ (List.mem_of_getElem? (i := 61) rfl)) (by decide) (own_at_hi l Z a0 hw r (3 : Int32) pa pb sf (10 : Int32) kr [(.int (own_ob pa pb (0 : Int32))), (.int (own_ob pa pb (1 : Int32))), (.int (own_ob pa pb (2 : Int32)))] h0 n0 X.sz Ar (show ¬ (10 : Int32) < (3 : Int32) by decide)) (fun _ _ q => Nat.le_of_eq (congrArg Array.size q.1.symm)) rfl own_pd11 rfl rfl rfl (by decide) (Nat.le_of_ble_eq_true rfl) (by decide) (by decide) ?_
  rintro v160 T h_ X ⟨eh_, rfl⟩
  rw [eh_] at X
  show own_Ends p e below _ (T.setTop (mkF m 163 #[.val (.ref r), .val (.int (3 : Int32)), .val (.int pa), .val (.int pb), .val (.ref sf)] [(.int (1 : Int32))]))
  refine own_ifN X 166 own_d7_163 rfl (XT.i0_eq_f (by decide)) ?_
  refine own_aloadN X 167 (.ref r) own_d7_166 rfl rfl rfl ?_
  refine own_iloadN X 168 (3 : Int32) own_d7_167 rfl rfl ?_
  refine own_iloadN X 169 pa own_d7_168 rfl rfl ?_
  refine own_iloadN X 170 pb own_d7_169 rfl rfl ?_
  refine own_aload X 172 (.ref sf) own_d7_170 rfl rfl rfl ?_
  refine own_bipush X 174 (11 : Int32) own_d7_172 rfl (by decide) ?_
  refine own_callS X 177 [(.ref r), (.int (3 : Int32)), (.int pa), (.int pb), (.ref sf), (.int (11 : Int32))] [] own_d7_174 rfl (hw _ (List.mem_of_getElem? (i := 59) rfl)) (hw _ (List.mem_of_getElem? (i := 60) rfl)) (hw _ (List.mem_of_getElem? (i := 3) rfl)) (hw _ (List.mem_of_getElem? (i := 61) rfl)) (by decide) (own_at_hi l Z a0 hw r (3 : Int32) pa pb sf (11 : Int32) kr [(.int (own_ob pa pb (0 : Int32))), (.int (own_ob pa pb (1 : Int32))), (.int (own_ob pa pb (2 : Int32)))] h0 n0 X.sz Ar (show ¬ (11 : Int32) < (3 : Int32) by decide)) (fun _ _ q => Nat.le_of_eq (congrArg Array.size q.1.symm)) rfl own_pd11 rfl rfl rfl (by decide) (Nat.le_of_ble_eq_true rfl) (by decide) (by decide) ?_
  rintro v174 T h_ X ⟨eh_, rfl⟩
  rw [eh_] at X
  show own_Ends p e below _ (T.setTop (mkF m 177 #[.val (.ref r), .val (.int (3 : Int32)), .val (.int pa), .val (.int pb), .val (.ref sf)] [(.int (1 : Int32))]))
  refine own_ifN X 180 own_d7_177 rfl (XT.i0_eq_f (by decide)) ?_
  refine own_aloadN X 181 (.ref r) own_d7_180 rfl rfl rfl ?_
  refine own_iloadN X 182 (3 : Int32) own_d7_181 rfl rfl ?_
  refine own_iloadN X 183 pa own_d7_182 rfl rfl ?_
  refine own_iloadN X 184 pb own_d7_183 rfl rfl ?_
  refine own_aload X 186 (.ref sf) own_d7_184 rfl rfl rfl ?_
  refine own_bipush X 188 (12 : Int32) own_d7_186 rfl (by decide) ?_
  refine own_callS X 191 [(.ref r), (.int (3 : Int32)), (.int pa), (.int pb), (.ref sf), (.int (12 : Int32))] [] own_d7_188 rfl (hw _ (List.mem_of_getElem? (i := 59) rfl)) (hw _ (List.mem_of_getElem? (i := 60) rfl)) (hw _ (List.mem_of_getElem? (i := 3) rfl)) (hw _ (List.mem_of_getElem? (i := 61) rfl)) (by decide) (own_at_hi l Z a0 hw r (3 : Int32) pa pb sf (12 : Int32) kr [(.int (own_ob pa pb (0 : Int32))), (.int (own_ob pa pb (1 : Int32))), (.int (own_ob pa pb (2 : Int32)))] h0 n0 X.sz Ar (show ¬ (12 : Int32) < (3 : Int32) by decide)) (fun _ _ q => Nat.le_of_eq (congrArg Array.size q.1.symm)) rfl own_pd11 rfl rfl rfl (by decide) (Nat.le_of_ble_eq_true rfl) (by decide) (by decide) ?_
  rintro v188 T h_ X ⟨eh_, rfl⟩
  rw [eh_] at X
  show own_Ends p e below _ (T.setTop (mkF m 191 #[.val (.ref r), .val (.int (3 : Int32)), .val (.int pa), .val (.int pb), .val (.ref sf)] [(.int (1 : Int32))]))
  refine own_ifN X 194 own_d7_191 rfl (XT.i0_eq_f (by decide)) ?_
  refine own_iconst X 195 (1 : Int32) own_d7_194 rfl rfl ?_
  refine own_goto X 199 own_d7_195 (by decide) (by decide) ?_
  exact own_retN X .boolean own_d7_199 rfl (by simp) (by decide) (by decide) (⟨rfl, rfl⟩)
set_option maxRecDepth 65536 in
set_option maxHeartbeats 40000000 in
theorem own_mt3_6 (l : Launch) (Z : State) (a0 : Array Value) (hw : ∀ d ∈ tables_1, d.before a0 Z = true) (r : Addr) (nn : Int32) (pa : Int32) (pb : Int32) (sf : Addr) (kr : ClassId) (cs : Int32) (sv : Addr) (ks : ClassId) (fo : Value) (h0 : Heap) (n0 : Nat) (hs0 : n0 ≤ h0.size) (Ar : own_A Z h0 r kr .byte [(.int (own_ob pa pb (0 : Int32))), (.int (own_ob pa pb (1 : Int32))), (.int (own_ob pa pb (2 : Int32))), (.int 58), (.int 104), (.int 111), (.int 108), (.int 100), (.int 115)]) (OL : Old Z n0 h0) (z_cs : Sta Z Z.heap "java/lang/String" "COMPACT_STRINGS" "Z" (.int cs)) (hcs : ¬ cs = 0) (z_fo : Sta Z Z.heap "jdk/internal/util/Preconditions" "SIOOBE_FORMATTER" "Ljava/util/function/BiFunction;" fo) (hfo : fo.isRef = true) (Ea : Exa Z h0 sf "java/lang/String") (Fc : Fld Z h0 sf "java/lang/String" "coder" "B" (.int 0)) (Fv : Fld Z h0 sf "java/lang/String" "value" "[B" (.ref sv)) (As : own_A Z h0 sv ks .byte [(.int 58), (.int 104), (.int 111), (.int 108), (.int 100), (.int 115)]) (hn : nn = 3) :
    own_Met l (⟨"com/example/latchkey/latchkey/LockKeysHolderFieldsPinLaw", "matches", "([BIIILjava/lang/String;)Z"⟩ : MethodName) method_6_code 5 (some .boolean) ({ frames := 5, cells := 0, slots := 0, locals := 71 } : Room) Z #[(.ref r), (.int nn), (.int pa), (.int pb), (.ref sf)] h0 n0 (fun v h' => h' = h0 ∧ v = some (.int (1 : Int32))) := by
  refine own_met (Ls := #[.val (.ref r), .val (.int nn), .val (.int pa), .val (.int pb), .val (.ref sf)]) own_pn7 hs0 (fun m => by first  | (simp [entryFrame, mkF, argsToLocals, Value.category]; done) | rfl) ?_
  intro p e s m below meth c T X
  have hi_r : h0.size > r := Ar.lt
  have hi_sv : h0.size > sv := As.lt
  have hi_sf : h0.size > sf := Ea.lt
  subst hn
  refine own_aloadN X 1 (.ref r) own_d7_0 rfl rfl rfl ?_
  refine own_nullN X 4 own_d7_1 rfl ?_
  refine own_aloadN X 5 (.ref r) own_d7_4 rfl rfl rfl ?_
  refine own_len X 6 (9 : Int32) own_d7_5 rfl Ar rfl ?_
  refine own_iloadN X 7 (3 : Int32) own_d7_6 rfl rfl ?_
  refine own_aload X 9 (.ref sf) own_d7_7 rfl rfl rfl ?_
  refine own_callV X 12 [] [(.int (3 : Int32)), (.int (9 : Int32))] own_d7_9 rfl (hw _ (List.mem_of_getElem? (i := 46) rfl)) (hw _ (List.mem_of_getElem? (i := 47) rfl)) (own_nf X.2.2.2.2.1 (hw _ (List.mem_of_getElem? (i := 49) rfl))) (hw _ (List.mem_of_getElem? (i := 49) rfl)) (hw _ (List.mem_of_getElem? (i := 48) rfl)) (hw _ (List.mem_of_getElem? (i := 37) rfl)) (hw _ (List.mem_of_getElem? (i := 50) rfl)) (by decide) Ea (own_sl6 l Z a0 hw sf cs sv ks h0 n0 X.sz OL z_cs hcs Ea Fc Fv As) (fun _ _ q => Nat.le_of_eq (congrArg Array.size q.1.symm)) rfl own_pd10 rfl rfl rfl (by decide) (Nat.le_of_ble_eq_true rfl) (by decide) (by decide) ?_
  rintro v9 T h_ X ⟨eh_, rfl⟩
  rw [eh_] at X
  show own_Ends p e below _ (T.setTop (mkF m 12 #[.val (.ref r), .val (.int (3 : Int32)), .val (.int pa), .val (.int pb), .val (.ref sf)] [(.int (6 : Int32)), (.int (3 : Int32)), (.int (9 : Int32))]))
  refine own_iadd X 13 own_d7_12 rfl ?_
  refine own_icY X 18 own_d7_13 (by decide) (by decide) (XT.ii_eq_t (by decide)) ?_
  refine own_aloadN X 19 (.ref r) own_d7_18 rfl rfl rfl ?_
  refine own_iloadN X 20 (3 : Int32) own_d7_19 rfl rfl ?_
  refine own_iloadN X 21 pa own_d7_20 rfl rfl ?_
  refine own_iloadN X 22 pb own_d7_21 rfl rfl ?_
  refine own_aload X 24 (.ref sf) own_d7_22 rfl rfl rfl ?_
  refine own_iconst X 25 (0 : Int32) own_d7_24 rfl rfl ?_
  refine own_callS X 28 [(.ref r), (.int (3 : Int32)), (.int pa), (.int pb), (.ref sf), (.int (0 : Int32))] [] own_d7_25 rfl (hw _ (List.mem_of_getElem? (i := 59) rfl)) (hw _ (List.mem_of_getElem? (i := 60) rfl)) (hw _ (List.mem_of_getElem? (i := 3) rfl)) (hw _ (List.mem_of_getElem? (i := 61) rfl)) (by decide) (own_at_ob l Z a0 hw r (3 : Int32) pa pb sf (0 : Int32) kr [(.int (own_ob pa pb (0 : Int32))), (.int (own_ob pa pb (1 : Int32))), (.int (own_ob pa pb (2 : Int32))), (.int 58), (.int 104), (.int 111), (.int 108), (.int 100), (.int 115)] 0 h0 n0 X.sz Ar (show (0 : Int32) < (9 : Int32) by decide) (by decide) (by decide) (by decide) rfl) (fun _ _ q => Nat.le_of_eq (congrArg Array.size q.1.symm)) rfl own_pd11 rfl rfl rfl (by decide) (Nat.le_of_ble_eq_true rfl) (by decide) (by decide) ?_
  rintro v25 T h_ X ⟨eh_, rfl⟩
  rw [eh_] at X
  show own_Ends p e below _ (T.setTop (mkF m 28 #[.val (.ref r), .val (.int (3 : Int32)), .val (.int pa), .val (.int pb), .val (.ref sf)] [(.int (1 : Int32))]))
  refine own_ifN X 31 own_d7_28 rfl (XT.i0_eq_f (by decide)) ?_
  refine own_aloadN X 32 (.ref r) own_d7_31 rfl rfl rfl ?_
  refine own_iloadN X 33 (3 : Int32) own_d7_32 rfl rfl ?_
  refine own_iloadN X 34 pa own_d7_33 rfl rfl ?_
  refine own_iloadN X 35 pb own_d7_34 rfl rfl ?_
  refine own_aload X 37 (.ref sf) own_d7_35 rfl rfl rfl ?_
  refine own_iconst X 38 (1 : Int32) own_d7_37 rfl rfl ?_
  refine own_callS X 41 [(.ref r), (.int (3 : Int32)), (.int pa), (.int pb), (.ref sf), (.int (1 : Int32))] [] own_d7_38 rfl (hw _ (List.mem_of_getElem? (i := 59) rfl)) (hw _ (List.mem_of_getElem? (i := 60) rfl)) (hw _ (List.mem_of_getElem? (i := 3) rfl)) (hw _ (List.mem_of_getElem? (i := 61) rfl)) (by decide) (own_at_ob l Z a0 hw r (3 : Int32) pa pb sf (1 : Int32) kr [(.int (own_ob pa pb (0 : Int32))), (.int (own_ob pa pb (1 : Int32))), (.int (own_ob pa pb (2 : Int32))), (.int 58), (.int 104), (.int 111), (.int 108), (.int 100), (.int 115)] 1 h0 n0 X.sz Ar (show (1 : Int32) < (9 : Int32) by decide) (by decide) (by decide) (by decide) rfl) (fun _ _ q => Nat.le_of_eq (congrArg Array.size q.1.symm)) rfl own_pd11 rfl rfl rfl (by decide) (Nat.le_of_ble_eq_true rfl) (by decide) (by decide) ?_
  rintro v38 T h_ X ⟨eh_, rfl⟩
  rw [eh_] at X
  show own_Ends p e below _ (T.setTop (mkF m 41 #[.val (.ref r), .val (.int (3 : Int32)), .val (.int pa), .val (.int pb), .val (.ref sf)] [(.int (1 : Int32))]))
  refine own_ifN X 44 own_d7_41 rfl (XT.i0_eq_f (by decide)) ?_
  refine own_aloadN X 45 (.ref r) own_d7_44 rfl rfl rfl ?_
  refine own_iloadN X 46 (3 : Int32) own_d7_45 rfl rfl ?_
  refine own_iloadN X 47 pa own_d7_46 rfl rfl ?_
  refine own_iloadN X 48 pb own_d7_47 rfl rfl ?_
  refine own_aload X 50 (.ref sf) own_d7_48 rfl rfl rfl ?_
  refine own_iconst X 51 (2 : Int32) own_d7_50 rfl rfl ?_
  refine own_callS X 54 [(.ref r), (.int (3 : Int32)), (.int pa), (.int pb), (.ref sf), (.int (2 : Int32))] [] own_d7_51 rfl (hw _ (List.mem_of_getElem? (i := 59) rfl)) (hw _ (List.mem_of_getElem? (i := 60) rfl)) (hw _ (List.mem_of_getElem? (i := 3) rfl)) (hw _ (List.mem_of_getElem? (i := 61) rfl)) (by decide) (own_at_ob l Z a0 hw r (3 : Int32) pa pb sf (2 : Int32) kr [(.int (own_ob pa pb (0 : Int32))), (.int (own_ob pa pb (1 : Int32))), (.int (own_ob pa pb (2 : Int32))), (.int 58), (.int 104), (.int 111), (.int 108), (.int 100), (.int 115)] 2 h0 n0 X.sz Ar (show (2 : Int32) < (9 : Int32) by decide) (by decide) (by decide) (by decide) rfl) (fun _ _ q => Nat.le_of_eq (congrArg Array.size q.1.symm)) rfl own_pd11 rfl rfl rfl (by decide) (Nat.le_of_ble_eq_true rfl) (by decide) (by decide) ?_
  rintro v51 T h_ X ⟨eh_, rfl⟩
  rw [eh_] at X
  show own_Ends p e below _ (T.setTop (mkF m 54 #[.val (.ref r), .val (.int (3 : Int32)), .val (.int pa), .val (.int pb), .val (.ref sf)] [(.int (1 : Int32))]))
  refine own_ifN X 57 own_d7_54 rfl (XT.i0_eq_f (by decide)) ?_
  refine own_aloadN X 58 (.ref r) own_d7_57 rfl rfl rfl ?_
  refine own_iloadN X 59 (3 : Int32) own_d7_58 rfl rfl ?_
  refine own_iloadN X 60 pa own_d7_59 rfl rfl ?_
  refine own_iloadN X 61 pb own_d7_60 rfl rfl ?_
  refine own_aload X 63 (.ref sf) own_d7_61 rfl rfl rfl ?_
  refine own_iconst X 64 (3 : Int32) own_d7_63 rfl rfl ?_
  refine own_callS X 67 [(.ref r), (.int (3 : Int32)), (.int pa), (.int pb), (.ref sf), (.int (3 : Int32))] [] own_d7_64 rfl (hw _ (List.mem_of_getElem? (i := 59) rfl)) (hw _ (List.mem_of_getElem? (i := 60) rfl)) (hw _ (List.mem_of_getElem? (i := 3) rfl)) (hw _ (List.mem_of_getElem? (i := 61) rfl)) (by decide) (own_at_sf l Z a0 hw r (3 : Int32) pa pb sf (3 : Int32) kr [(.int (own_ob pa pb (0 : Int32))), (.int (own_ob pa pb (1 : Int32))), (.int (own_ob pa pb (2 : Int32))), (.int 58), (.int 104), (.int 111), (.int 108), (.int 100), (.int 115)] 3 58 cs sv ks [(.int 58), (.int 104), (.int 111), (.int 108), (.int 100), (.int 115)] 0 58 fo h0 n0 X.sz Ar (show (3 : Int32) < (9 : Int32) by decide) (by decide) (by decide) (by decide) rfl OL z_cs hcs z_fo hfo Ea Fc Fv As (by decide) (by decide) (show (3 : Int32) - (3 : Int32) < (6 : Int32) by decide) rfl (by decide)) (fun _ _ q => Nat.le_of_eq (congrArg Array.size q.1.symm)) rfl own_pd11 rfl rfl rfl (by decide) (Nat.le_of_ble_eq_true rfl) (by decide) (by decide) ?_
  rintro v64 T h_ X ⟨eh_, rfl⟩
  rw [eh_] at X
  show own_Ends p e below _ (T.setTop (mkF m 67 #[.val (.ref r), .val (.int (3 : Int32)), .val (.int pa), .val (.int pb), .val (.ref sf)] [(.int (1 : Int32))]))
  refine own_ifN X 70 own_d7_67 rfl (XT.i0_eq_f (by decide)) ?_
  refine own_aloadN X 71 (.ref r) own_d7_70 rfl rfl rfl ?_
  refine own_iloadN X 72 (3 : Int32) own_d7_71 rfl rfl ?_
  refine own_iloadN X 73 pa own_d7_72 rfl rfl ?_
  refine own_iloadN X 74 pb own_d7_73 rfl rfl ?_
  refine own_aload X 76 (.ref sf) own_d7_74 rfl rfl rfl ?_
  refine own_iconst X 77 (4 : Int32) own_d7_76 rfl rfl ?_
  refine own_callS X 80 [(.ref r), (.int (3 : Int32)), (.int pa), (.int pb), (.ref sf), (.int (4 : Int32))] [] own_d7_77 rfl (hw _ (List.mem_of_getElem? (i := 59) rfl)) (hw _ (List.mem_of_getElem? (i := 60) rfl)) (hw _ (List.mem_of_getElem? (i := 3) rfl)) (hw _ (List.mem_of_getElem? (i := 61) rfl)) (by decide) (own_at_sf l Z a0 hw r (3 : Int32) pa pb sf (4 : Int32) kr [(.int (own_ob pa pb (0 : Int32))), (.int (own_ob pa pb (1 : Int32))), (.int (own_ob pa pb (2 : Int32))), (.int 58), (.int 104), (.int 111), (.int 108), (.int 100), (.int 115)] 4 104 cs sv ks [(.int 58), (.int 104), (.int 111), (.int 108), (.int 100), (.int 115)] 1 104 fo h0 n0 X.sz Ar (show (4 : Int32) < (9 : Int32) by decide) (by decide) (by decide) (by decide) rfl OL z_cs hcs z_fo hfo Ea Fc Fv As (by decide) (by decide) (show (4 : Int32) - (3 : Int32) < (6 : Int32) by decide) rfl (by decide)) (fun _ _ q => Nat.le_of_eq (congrArg Array.size q.1.symm)) rfl own_pd11 rfl rfl rfl (by decide) (Nat.le_of_ble_eq_true rfl) (by decide) (by decide) ?_
  rintro v77 T h_ X ⟨eh_, rfl⟩
  rw [eh_] at X
  show own_Ends p e below _ (T.setTop (mkF m 80 #[.val (.ref r), .val (.int (3 : Int32)), .val (.int pa), .val (.int pb), .val (.ref sf)] [(.int (1 : Int32))]))
  refine own_ifN X 83 own_d7_80 rfl (XT.i0_eq_f (by decide)) ?_
  refine own_aloadN X 84 (.ref r) own_d7_83 rfl rfl rfl ?_
  refine own_iloadN X 85 (3 : Int32) own_d7_84 rfl rfl ?_
  refine own_iloadN X 86 pa own_d7_85 rfl rfl ?_
  refine own_iloadN X 87 pb own_d7_86 rfl rfl ?_
  refine own_aload X 89 (.ref sf) own_d7_87 rfl rfl rfl ?_
  refine own_iconst X 90 (5 : Int32) own_d7_89 rfl rfl ?_
  refine own_callS X 93 [(.ref r), (.int (3 : Int32)), (.int pa), (.int pb), (.ref sf), (.int (5 : Int32))] [] own_d7_90 rfl (hw _ (List.mem_of_getElem? (i := 59) rfl)) (hw _ (List.mem_of_getElem? (i := 60) rfl)) (hw _ (List.mem_of_getElem? (i := 3) rfl)) (hw _ (List.mem_of_getElem? (i := 61) rfl)) (by decide) (own_at_sf l Z a0 hw r (3 : Int32) pa pb sf (5 : Int32) kr [(.int (own_ob pa pb (0 : Int32))), (.int (own_ob pa pb (1 : Int32))), (.int (own_ob pa pb (2 : Int32))), (.int 58), (.int 104), (.int 111), (.int 108), (.int 100), (.int 115)] 5 111 cs sv ks [(.int 58), (.int 104), (.int 111), (.int 108), (.int 100), (.int 115)] 2 111 fo h0 n0 X.sz Ar (show (5 : Int32) < (9 : Int32) by decide) (by decide) (by decide) (by decide) rfl OL z_cs hcs z_fo hfo Ea Fc Fv As (by decide) (by decide) (show (5 : Int32) - (3 : Int32) < (6 : Int32) by decide) rfl (by decide)) (fun _ _ q => Nat.le_of_eq (congrArg Array.size q.1.symm)) rfl own_pd11 rfl rfl rfl (by decide) (Nat.le_of_ble_eq_true rfl) (by decide) (by decide) ?_
  rintro v90 T h_ X ⟨eh_, rfl⟩
  rw [eh_] at X
  show own_Ends p e below _ (T.setTop (mkF m 93 #[.val (.ref r), .val (.int (3 : Int32)), .val (.int pa), .val (.int pb), .val (.ref sf)] [(.int (1 : Int32))]))
  refine own_ifN X 96 own_d7_93 rfl (XT.i0_eq_f (by decide)) ?_
  refine own_aloadN X 97 (.ref r) own_d7_96 rfl rfl rfl ?_
  refine own_iloadN X 98 (3 : Int32) own_d7_97 rfl rfl ?_
  refine own_iloadN X 99 pa own_d7_98 rfl rfl ?_
  refine own_iloadN X 100 pb own_d7_99 rfl rfl ?_
  refine own_aload X 102 (.ref sf) own_d7_100 rfl rfl rfl ?_
  refine own_bipush X 104 (6 : Int32) own_d7_102 rfl (by decide) ?_
  refine own_callS X 107 [(.ref r), (.int (3 : Int32)), (.int pa), (.int pb), (.ref sf), (.int (6 : Int32))] [] own_d7_104 rfl (hw _ (List.mem_of_getElem? (i := 59) rfl)) (hw _ (List.mem_of_getElem? (i := 60) rfl)) (hw _ (List.mem_of_getElem? (i := 3) rfl)) (hw _ (List.mem_of_getElem? (i := 61) rfl)) (by decide) (own_at_sf l Z a0 hw r (3 : Int32) pa pb sf (6 : Int32) kr [(.int (own_ob pa pb (0 : Int32))), (.int (own_ob pa pb (1 : Int32))), (.int (own_ob pa pb (2 : Int32))), (.int 58), (.int 104), (.int 111), (.int 108), (.int 100), (.int 115)] 6 108 cs sv ks [(.int 58), (.int 104), (.int 111), (.int 108), (.int 100), (.int 115)] 3 108 fo h0 n0 X.sz Ar (show (6 : Int32) < (9 : Int32) by decide) (by decide) (by decide) (by decide) rfl OL z_cs hcs z_fo hfo Ea Fc Fv As (by decide) (by decide) (show (6 : Int32) - (3 : Int32) < (6 : Int32) by decide) rfl (by decide)) (fun _ _ q => Nat.le_of_eq (congrArg Array.size q.1.symm)) rfl own_pd11 rfl rfl rfl (by decide) (Nat.le_of_ble_eq_true rfl) (by decide) (by decide) ?_
  rintro v104 T h_ X ⟨eh_, rfl⟩
  rw [eh_] at X
  show own_Ends p e below _ (T.setTop (mkF m 107 #[.val (.ref r), .val (.int (3 : Int32)), .val (.int pa), .val (.int pb), .val (.ref sf)] [(.int (1 : Int32))]))
  refine own_ifN X 110 own_d7_107 rfl (XT.i0_eq_f (by decide)) ?_
  refine own_aloadN X 111 (.ref r) own_d7_110 rfl rfl rfl ?_
  refine own_iloadN X 112 (3 : Int32) own_d7_111 rfl rfl ?_
  refine own_iloadN X 113 pa own_d7_112 rfl rfl ?_
  refine own_iloadN X 114 pb own_d7_113 rfl rfl ?_
  refine own_aload X 116 (.ref sf) own_d7_114 rfl rfl rfl ?_
  refine own_bipush X 118 (7 : Int32) own_d7_116 rfl (by decide) ?_
  refine own_callS X 121 [(.ref r), (.int (3 : Int32)), (.int pa), (.int pb), (.ref sf), (.int (7 : Int32))] [] own_d7_118 rfl (hw _ (List.mem_of_getElem? (i := 59) rfl)) (hw _ (List.mem_of_getElem? (i := 60) rfl)) (hw _ (List.mem_of_getElem? (i := 3) rfl)) (hw _ (List.mem_of_getElem? (i := 61) rfl)) (by decide) (own_at_sf l Z a0 hw r (3 : Int32) pa pb sf (7 : Int32) kr [(.int (own_ob pa pb (0 : Int32))), (.int (own_ob pa pb (1 : Int32))), (.int (own_ob pa pb (2 : Int32))), (.int 58), (.int 104), (.int 111), (.int 108), (.int 100), (.int 115)] 7 100 cs sv ks [(.int 58), (.int 104), (.int 111), (.int 108), (.int 100), (.int 115)] 4 100 fo h0 n0 X.sz Ar (show (7 : Int32) < (9 : Int32) by decide) (by decide) (by decide) (by decide) rfl OL z_cs hcs z_fo hfo Ea Fc Fv As (by decide) (by decide) (show (7 : Int32) - (3 : Int32) < (6 : Int32) by decide) rfl (by decide)) (fun _ _ q => Nat.le_of_eq (congrArg Array.size q.1.symm)) rfl own_pd11 rfl rfl rfl (by decide) (Nat.le_of_ble_eq_true rfl) (by decide) (by decide) ?_
  rintro v118 T h_ X ⟨eh_, rfl⟩
  rw [eh_] at X
  show own_Ends p e below _ (T.setTop (mkF m 121 #[.val (.ref r), .val (.int (3 : Int32)), .val (.int pa), .val (.int pb), .val (.ref sf)] [(.int (1 : Int32))]))
  refine own_ifN X 124 own_d7_121 rfl (XT.i0_eq_f (by decide)) ?_
  refine own_aloadN X 125 (.ref r) own_d7_124 rfl rfl rfl ?_
  refine own_iloadN X 126 (3 : Int32) own_d7_125 rfl rfl ?_
  refine own_iloadN X 127 pa own_d7_126 rfl rfl ?_
  refine own_iloadN X 128 pb own_d7_127 rfl rfl ?_
  refine own_aload X 130 (.ref sf) own_d7_128 rfl rfl rfl ?_
  refine own_bipush X 132 (8 : Int32) own_d7_130 rfl (by decide) ?_
  refine own_callS X 135 [(.ref r), (.int (3 : Int32)), (.int pa), (.int pb), (.ref sf), (.int (8 : Int32))] [] own_d7_132 rfl (hw _ (List.mem_of_getElem? (i := 59) rfl)) (hw _ (List.mem_of_getElem? (i := 60) rfl)) (hw _ (List.mem_of_getElem? (i := 3) rfl)) (hw _ (List.mem_of_getElem? (i := 61) rfl)) (by decide) (own_at_sf l Z a0 hw r (3 : Int32) pa pb sf (8 : Int32) kr [(.int (own_ob pa pb (0 : Int32))), (.int (own_ob pa pb (1 : Int32))), (.int (own_ob pa pb (2 : Int32))), (.int 58), (.int 104), (.int 111), (.int 108), (.int 100), (.int 115)] 8 115 cs sv ks [(.int 58), (.int 104), (.int 111), (.int 108), (.int 100), (.int 115)] 5 115 fo h0 n0 X.sz Ar (show (8 : Int32) < (9 : Int32) by decide) (by decide) (by decide) (by decide) rfl OL z_cs hcs z_fo hfo Ea Fc Fv As (by decide) (by decide) (show (8 : Int32) - (3 : Int32) < (6 : Int32) by decide) rfl (by decide)) (fun _ _ q => Nat.le_of_eq (congrArg Array.size q.1.symm)) rfl own_pd11 rfl rfl rfl (by decide) (Nat.le_of_ble_eq_true rfl) (by decide) (by decide) ?_
  rintro v132 T h_ X ⟨eh_, rfl⟩
  rw [eh_] at X
  show own_Ends p e below _ (T.setTop (mkF m 135 #[.val (.ref r), .val (.int (3 : Int32)), .val (.int pa), .val (.int pb), .val (.ref sf)] [(.int (1 : Int32))]))
  refine own_ifN X 138 own_d7_135 rfl (XT.i0_eq_f (by decide)) ?_
  refine own_aloadN X 139 (.ref r) own_d7_138 rfl rfl rfl ?_
  refine own_iloadN X 140 (3 : Int32) own_d7_139 rfl rfl ?_
  refine own_iloadN X 141 pa own_d7_140 rfl rfl ?_
  refine own_iloadN X 142 pb own_d7_141 rfl rfl ?_
  refine own_aload X 144 (.ref sf) own_d7_142 rfl rfl rfl ?_
  refine own_bipush X 146 (9 : Int32) own_d7_144 rfl (by decide) ?_
  refine own_callS X 149 [(.ref r), (.int (3 : Int32)), (.int pa), (.int pb), (.ref sf), (.int (9 : Int32))] [] own_d7_146 rfl (hw _ (List.mem_of_getElem? (i := 59) rfl)) (hw _ (List.mem_of_getElem? (i := 60) rfl)) (hw _ (List.mem_of_getElem? (i := 3) rfl)) (hw _ (List.mem_of_getElem? (i := 61) rfl)) (by decide) (own_at_hi l Z a0 hw r (3 : Int32) pa pb sf (9 : Int32) kr [(.int (own_ob pa pb (0 : Int32))), (.int (own_ob pa pb (1 : Int32))), (.int (own_ob pa pb (2 : Int32))), (.int 58), (.int 104), (.int 111), (.int 108), (.int 100), (.int 115)] h0 n0 X.sz Ar (show ¬ (9 : Int32) < (9 : Int32) by decide)) (fun _ _ q => Nat.le_of_eq (congrArg Array.size q.1.symm)) rfl own_pd11 rfl rfl rfl (by decide) (Nat.le_of_ble_eq_true rfl) (by decide) (by decide) ?_
  rintro v146 T h_ X ⟨eh_, rfl⟩
  rw [eh_] at X
  show own_Ends p e below _ (T.setTop (mkF m 149 #[.val (.ref r), .val (.int (3 : Int32)), .val (.int pa), .val (.int pb), .val (.ref sf)] [(.int (1 : Int32))]))
  refine own_ifN X 152 own_d7_149 rfl (XT.i0_eq_f (by decide)) ?_
  refine own_aloadN X 153 (.ref r) own_d7_152 rfl rfl rfl ?_
  refine own_iloadN X 154 (3 : Int32) own_d7_153 rfl rfl ?_
  refine own_iloadN X 155 pa own_d7_154 rfl rfl ?_
  refine own_iloadN X 156 pb own_d7_155 rfl rfl ?_
  refine own_aload X 158 (.ref sf) own_d7_156 rfl rfl rfl ?_
  refine own_bipush X 160 (10 : Int32) own_d7_158 rfl (by decide) ?_
  refine own_callS X 163 [(.ref r), (.int (3 : Int32)), (.int pa), (.int pb), (.ref sf), (.int (10 : Int32))] [] own_d7_160 rfl (hw _ (List.mem_of_getElem? (i := 59) rfl)) (hw _ (List.mem_of_getElem? (i := 60) rfl)) (hw _ (List.mem_of_getElem? (i := 3) rfl)) (hw _ (List.mem_of_getElem? (i := 61) rfl)) (by decide) (own_at_hi l Z a0 hw r (3 : Int32) pa pb sf (10 : Int32) kr [(.int (own_ob pa pb (0 : Int32))), (.int (own_ob pa pb (1 : Int32))), (.int (own_ob pa pb (2 : Int32))), (.int 58), (.int 104), (.int 111), (.int 108), (.int 100), (.int 115)] h0 n0 X.sz Ar (show ¬ (10 : Int32) < (9 : Int32) by decide)) (fun _ _ q => Nat.le_of_eq (congrArg Array.size q.1.symm)) rfl own_pd11 rfl rfl rfl (by decide) (Nat.le_of_ble_eq_true rfl) (by decide) (by decide) ?_
  rintro v160 T h_ X ⟨eh_, rfl⟩
  rw [eh_] at X
  show own_Ends p e below _ (T.setTop (mkF m 163 #[.val (.ref r), .val (.int (3 : Int32)), .val (.int pa), .val (.int pb), .val (.ref sf)] [(.int (1 : Int32))]))
  refine own_ifN X 166 own_d7_163 rfl (XT.i0_eq_f (by decide)) ?_
  refine own_aloadN X 167 (.ref r) own_d7_166 rfl rfl rfl ?_
  refine own_iloadN X 168 (3 : Int32) own_d7_167 rfl rfl ?_
  refine own_iloadN X 169 pa own_d7_168 rfl rfl ?_
  refine own_iloadN X 170 pb own_d7_169 rfl rfl ?_
  refine own_aload X 172 (.ref sf) own_d7_170 rfl rfl rfl ?_
  refine own_bipush X 174 (11 : Int32) own_d7_172 rfl (by decide) ?_
  refine own_callS X 177 [(.ref r), (.int (3 : Int32)), (.int pa), (.int pb), (.ref sf), (.int (11 : Int32))] [] own_d7_174 rfl (hw _ (List.mem_of_getElem? (i := 59) rfl)) (hw _ (List.mem_of_getElem? (i := 60) rfl)) (hw _ (List.mem_of_getElem? (i := 3) rfl)) (hw _ (List.mem_of_getElem? (i := 61) rfl)) (by decide) (own_at_hi l Z a0 hw r (3 : Int32) pa pb sf (11 : Int32) kr [(.int (own_ob pa pb (0 : Int32))), (.int (own_ob pa pb (1 : Int32))), (.int (own_ob pa pb (2 : Int32))), (.int 58), (.int 104), (.int 111), (.int 108), (.int 100), (.int 115)] h0 n0 X.sz Ar (show ¬ (11 : Int32) < (9 : Int32) by decide)) (fun _ _ q => Nat.le_of_eq (congrArg Array.size q.1.symm)) rfl own_pd11 rfl rfl rfl (by decide) (Nat.le_of_ble_eq_true rfl) (by decide) (by decide) ?_
  rintro v174 T h_ X ⟨eh_, rfl⟩
  rw [eh_] at X
  show own_Ends p e below _ (T.setTop (mkF m 177 #[.val (.ref r), .val (.int (3 : Int32)), .val (.int pa), .val (.int pb), .val (.ref sf)] [(.int (1 : Int32))]))
  refine own_ifN X 180 own_d7_177 rfl (XT.i0_eq_f (by decide)) ?_
  refine own_aloadN X 181 (.ref r) own_d7_180 rfl rfl rfl ?_
  refine own_iloadN X 182 (3 : Int32) own_d7_181 rfl rfl ?_
  refine own_iloadN X 183 pa own_d7_182 rfl rfl ?_
  refine own_iloadN X 184 pb own_d7_183 rfl rfl ?_
  refine own_aload X 186 (.ref sf) own_d7_184 rfl rfl rfl ?_
  refine own_bipush X 188 (12 : Int32) own_d7_186 rfl (by decide) ?_
  refine own_callS X 191 [(.ref r), (.int (3 : Int32)), (.int pa), (.int pb), (.ref sf), (.int (12 : Int32))] [] own_d7_188 rfl (hw _ (List.mem_of_getElem? (i := 59) rfl)) (hw _ (List.mem_of_getElem? (i := 60) rfl)) (hw _ (List.mem_of_getElem? (i := 3) rfl)) (hw _ (List.mem_of_getElem? (i := 61) rfl)) (by decide) (own_at_hi l Z a0 hw r (3 : Int32) pa pb sf (12 : Int32) kr [(.int (own_ob pa pb (0 : Int32))), (.int (own_ob pa pb (1 : Int32))), (.int (own_ob pa pb (2 : Int32))), (.int 58), (.int 104), (.int 111), (.int 108), (.int 100), (.int 115)] h0 n0 X.sz Ar (show ¬ (12 : Int32) < (9 : Int32) by decide)) (fun _ _ q => Nat.le_of_eq (congrArg Array.size q.1.symm)) rfl own_pd11 rfl rfl rfl (by decide) (Nat.le_of_ble_eq_true rfl) (by decide) (by decide) ?_
  rintro v188 T h_ X ⟨eh_, rfl⟩
  rw [eh_] at X
  show own_Ends p e below _ (T.setTop (mkF m 191 #[.val (.ref r), .val (.int (3 : Int32)), .val (.int pa), .val (.int pb), .val (.ref sf)] [(.int (1 : Int32))]))
  refine own_ifN X 194 own_d7_191 rfl (XT.i0_eq_f (by decide)) ?_
  refine own_iconst X 195 (1 : Int32) own_d7_194 rfl rfl ?_
  refine own_goto X 199 own_d7_195 (by decide) (by decide) ?_
  exact own_retN X .boolean own_d7_199 rfl (by simp) (by decide) (by decide) (⟨rfl, rfl⟩)
set_option maxRecDepth 65536 in
set_option maxHeartbeats 40000000 in
theorem own_mt3_8 (l : Launch) (Z : State) (a0 : Array Value) (hw : ∀ d ∈ tables_1, d.before a0 Z = true) (r : Addr) (nn : Int32) (pa : Int32) (pb : Int32) (sf : Addr) (kr : ClassId) (cs : Int32) (sv : Addr) (ks : ClassId) (fo : Value) (h0 : Heap) (n0 : Nat) (hs0 : n0 ≤ h0.size) (Ar : own_A Z h0 r kr .byte [(.int (own_ob pa pb (0 : Int32))), (.int (own_ob pa pb (1 : Int32))), (.int (own_ob pa pb (2 : Int32))), (.int 58), (.int 119), (.int 97), (.int 105), (.int 116), (.int 105), (.int 110), (.int 103)]) (OL : Old Z n0 h0) (z_cs : Sta Z Z.heap "java/lang/String" "COMPACT_STRINGS" "Z" (.int cs)) (hcs : ¬ cs = 0) (z_fo : Sta Z Z.heap "jdk/internal/util/Preconditions" "SIOOBE_FORMATTER" "Ljava/util/function/BiFunction;" fo) (hfo : fo.isRef = true) (Ea : Exa Z h0 sf "java/lang/String") (Fc : Fld Z h0 sf "java/lang/String" "coder" "B" (.int 0)) (Fv : Fld Z h0 sf "java/lang/String" "value" "[B" (.ref sv)) (As : own_A Z h0 sv ks .byte [(.int 58), (.int 119), (.int 97), (.int 105), (.int 116), (.int 105), (.int 110), (.int 103)]) (hn : nn = 3) :
    own_Met l (⟨"com/example/latchkey/latchkey/LockKeysHolderFieldsPinLaw", "matches", "([BIIILjava/lang/String;)Z"⟩ : MethodName) method_6_code 5 (some .boolean) ({ frames := 5, cells := 0, slots := 0, locals := 71 } : Room) Z #[(.ref r), (.int nn), (.int pa), (.int pb), (.ref sf)] h0 n0 (fun v h' => h' = h0 ∧ v = some (.int (1 : Int32))) := by
  refine own_met (Ls := #[.val (.ref r), .val (.int nn), .val (.int pa), .val (.int pb), .val (.ref sf)]) own_pn7 hs0 (fun m => by first  | (simp [entryFrame, mkF, argsToLocals, Value.category]; done) | rfl) ?_
  intro p e s m below meth c T X
  have hi_r : h0.size > r := Ar.lt
  have hi_sv : h0.size > sv := As.lt
  have hi_sf : h0.size > sf := Ea.lt
  subst hn
  refine own_aloadN X 1 (.ref r) own_d7_0 rfl rfl rfl ?_
  refine own_nullN X 4 own_d7_1 rfl ?_
  refine own_aloadN X 5 (.ref r) own_d7_4 rfl rfl rfl ?_
  refine own_len X 6 (11 : Int32) own_d7_5 rfl Ar rfl ?_
  refine own_iloadN X 7 (3 : Int32) own_d7_6 rfl rfl ?_
  refine own_aload X 9 (.ref sf) own_d7_7 rfl rfl rfl ?_
  refine own_callV X 12 [] [(.int (3 : Int32)), (.int (11 : Int32))] own_d7_9 rfl (hw _ (List.mem_of_getElem? (i := 46) rfl)) (hw _ (List.mem_of_getElem? (i := 47) rfl)) (own_nf X.2.2.2.2.1 (hw _ (List.mem_of_getElem? (i := 49) rfl))) (hw _ (List.mem_of_getElem? (i := 49) rfl)) (hw _ (List.mem_of_getElem? (i := 48) rfl)) (hw _ (List.mem_of_getElem? (i := 37) rfl)) (hw _ (List.mem_of_getElem? (i := 50) rfl)) (by decide) Ea (own_sl8 l Z a0 hw sf cs sv ks h0 n0 X.sz OL z_cs hcs Ea Fc Fv As) (fun _ _ q => Nat.le_of_eq (congrArg Array.size q.1.symm)) rfl own_pd10 rfl rfl rfl (by decide) (Nat.le_of_ble_eq_true rfl) (by decide) (by decide) ?_
  rintro v9 T h_ X ⟨eh_, rfl⟩
  rw [eh_] at X
  show own_Ends p e below _ (T.setTop (mkF m 12 #[.val (.ref r), .val (.int (3 : Int32)), .val (.int pa), .val (.int pb), .val (.ref sf)] [(.int (8 : Int32)), (.int (3 : Int32)), (.int (11 : Int32))]))
  refine own_iadd X 13 own_d7_12 rfl ?_
  refine own_icY X 18 own_d7_13 (by decide) (by decide) (XT.ii_eq_t (by decide)) ?_
  refine own_aloadN X 19 (.ref r) own_d7_18 rfl rfl rfl ?_
  refine own_iloadN X 20 (3 : Int32) own_d7_19 rfl rfl ?_
  refine own_iloadN X 21 pa own_d7_20 rfl rfl ?_
  refine own_iloadN X 22 pb own_d7_21 rfl rfl ?_
  refine own_aload X 24 (.ref sf) own_d7_22 rfl rfl rfl ?_
  refine own_iconst X 25 (0 : Int32) own_d7_24 rfl rfl ?_
  refine own_callS X 28 [(.ref r), (.int (3 : Int32)), (.int pa), (.int pb), (.ref sf), (.int (0 : Int32))] [] own_d7_25 rfl (hw _ (List.mem_of_getElem? (i := 59) rfl)) (hw _ (List.mem_of_getElem? (i := 60) rfl)) (hw _ (List.mem_of_getElem? (i := 3) rfl)) (hw _ (List.mem_of_getElem? (i := 61) rfl)) (by decide) (own_at_ob l Z a0 hw r (3 : Int32) pa pb sf (0 : Int32) kr [(.int (own_ob pa pb (0 : Int32))), (.int (own_ob pa pb (1 : Int32))), (.int (own_ob pa pb (2 : Int32))), (.int 58), (.int 119), (.int 97), (.int 105), (.int 116), (.int 105), (.int 110), (.int 103)] 0 h0 n0 X.sz Ar (show (0 : Int32) < (11 : Int32) by decide) (by decide) (by decide) (by decide) rfl) (fun _ _ q => Nat.le_of_eq (congrArg Array.size q.1.symm)) rfl own_pd11 rfl rfl rfl (by decide) (Nat.le_of_ble_eq_true rfl) (by decide) (by decide) ?_
  rintro v25 T h_ X ⟨eh_, rfl⟩
  rw [eh_] at X
  show own_Ends p e below _ (T.setTop (mkF m 28 #[.val (.ref r), .val (.int (3 : Int32)), .val (.int pa), .val (.int pb), .val (.ref sf)] [(.int (1 : Int32))]))
  refine own_ifN X 31 own_d7_28 rfl (XT.i0_eq_f (by decide)) ?_
  refine own_aloadN X 32 (.ref r) own_d7_31 rfl rfl rfl ?_
  refine own_iloadN X 33 (3 : Int32) own_d7_32 rfl rfl ?_
  refine own_iloadN X 34 pa own_d7_33 rfl rfl ?_
  refine own_iloadN X 35 pb own_d7_34 rfl rfl ?_
  refine own_aload X 37 (.ref sf) own_d7_35 rfl rfl rfl ?_
  refine own_iconst X 38 (1 : Int32) own_d7_37 rfl rfl ?_
  refine own_callS X 41 [(.ref r), (.int (3 : Int32)), (.int pa), (.int pb), (.ref sf), (.int (1 : Int32))] [] own_d7_38 rfl (hw _ (List.mem_of_getElem? (i := 59) rfl)) (hw _ (List.mem_of_getElem? (i := 60) rfl)) (hw _ (List.mem_of_getElem? (i := 3) rfl)) (hw _ (List.mem_of_getElem? (i := 61) rfl)) (by decide) (own_at_ob l Z a0 hw r (3 : Int32) pa pb sf (1 : Int32) kr [(.int (own_ob pa pb (0 : Int32))), (.int (own_ob pa pb (1 : Int32))), (.int (own_ob pa pb (2 : Int32))), (.int 58), (.int 119), (.int 97), (.int 105), (.int 116), (.int 105), (.int 110), (.int 103)] 1 h0 n0 X.sz Ar (show (1 : Int32) < (11 : Int32) by decide) (by decide) (by decide) (by decide) rfl) (fun _ _ q => Nat.le_of_eq (congrArg Array.size q.1.symm)) rfl own_pd11 rfl rfl rfl (by decide) (Nat.le_of_ble_eq_true rfl) (by decide) (by decide) ?_
  rintro v38 T h_ X ⟨eh_, rfl⟩
  rw [eh_] at X
  show own_Ends p e below _ (T.setTop (mkF m 41 #[.val (.ref r), .val (.int (3 : Int32)), .val (.int pa), .val (.int pb), .val (.ref sf)] [(.int (1 : Int32))]))
  refine own_ifN X 44 own_d7_41 rfl (XT.i0_eq_f (by decide)) ?_
  refine own_aloadN X 45 (.ref r) own_d7_44 rfl rfl rfl ?_
  refine own_iloadN X 46 (3 : Int32) own_d7_45 rfl rfl ?_
  refine own_iloadN X 47 pa own_d7_46 rfl rfl ?_
  refine own_iloadN X 48 pb own_d7_47 rfl rfl ?_
  refine own_aload X 50 (.ref sf) own_d7_48 rfl rfl rfl ?_
  refine own_iconst X 51 (2 : Int32) own_d7_50 rfl rfl ?_
  refine own_callS X 54 [(.ref r), (.int (3 : Int32)), (.int pa), (.int pb), (.ref sf), (.int (2 : Int32))] [] own_d7_51 rfl (hw _ (List.mem_of_getElem? (i := 59) rfl)) (hw _ (List.mem_of_getElem? (i := 60) rfl)) (hw _ (List.mem_of_getElem? (i := 3) rfl)) (hw _ (List.mem_of_getElem? (i := 61) rfl)) (by decide) (own_at_ob l Z a0 hw r (3 : Int32) pa pb sf (2 : Int32) kr [(.int (own_ob pa pb (0 : Int32))), (.int (own_ob pa pb (1 : Int32))), (.int (own_ob pa pb (2 : Int32))), (.int 58), (.int 119), (.int 97), (.int 105), (.int 116), (.int 105), (.int 110), (.int 103)] 2 h0 n0 X.sz Ar (show (2 : Int32) < (11 : Int32) by decide) (by decide) (by decide) (by decide) rfl) (fun _ _ q => Nat.le_of_eq (congrArg Array.size q.1.symm)) rfl own_pd11 rfl rfl rfl (by decide) (Nat.le_of_ble_eq_true rfl) (by decide) (by decide) ?_
  rintro v51 T h_ X ⟨eh_, rfl⟩
  rw [eh_] at X
  show own_Ends p e below _ (T.setTop (mkF m 54 #[.val (.ref r), .val (.int (3 : Int32)), .val (.int pa), .val (.int pb), .val (.ref sf)] [(.int (1 : Int32))]))
  refine own_ifN X 57 own_d7_54 rfl (XT.i0_eq_f (by decide)) ?_
  refine own_aloadN X 58 (.ref r) own_d7_57 rfl rfl rfl ?_
  refine own_iloadN X 59 (3 : Int32) own_d7_58 rfl rfl ?_
  refine own_iloadN X 60 pa own_d7_59 rfl rfl ?_
  refine own_iloadN X 61 pb own_d7_60 rfl rfl ?_
  refine own_aload X 63 (.ref sf) own_d7_61 rfl rfl rfl ?_
  refine own_iconst X 64 (3 : Int32) own_d7_63 rfl rfl ?_
  refine own_callS X 67 [(.ref r), (.int (3 : Int32)), (.int pa), (.int pb), (.ref sf), (.int (3 : Int32))] [] own_d7_64 rfl (hw _ (List.mem_of_getElem? (i := 59) rfl)) (hw _ (List.mem_of_getElem? (i := 60) rfl)) (hw _ (List.mem_of_getElem? (i := 3) rfl)) (hw _ (List.mem_of_getElem? (i := 61) rfl)) (by decide) (own_at_sf l Z a0 hw r (3 : Int32) pa pb sf (3 : Int32) kr [(.int (own_ob pa pb (0 : Int32))), (.int (own_ob pa pb (1 : Int32))), (.int (own_ob pa pb (2 : Int32))), (.int 58), (.int 119), (.int 97), (.int 105), (.int 116), (.int 105), (.int 110), (.int 103)] 3 58 cs sv ks [(.int 58), (.int 119), (.int 97), (.int 105), (.int 116), (.int 105), (.int 110), (.int 103)] 0 58 fo h0 n0 X.sz Ar (show (3 : Int32) < (11 : Int32) by decide) (by decide) (by decide) (by decide) rfl OL z_cs hcs z_fo hfo Ea Fc Fv As (by decide) (by decide) (show (3 : Int32) - (3 : Int32) < (8 : Int32) by decide) rfl (by decide)) (fun _ _ q => Nat.le_of_eq (congrArg Array.size q.1.symm)) rfl own_pd11 rfl rfl rfl (by decide) (Nat.le_of_ble_eq_true rfl) (by decide) (by decide) ?_
  rintro v64 T h_ X ⟨eh_, rfl⟩
  rw [eh_] at X
  show own_Ends p e below _ (T.setTop (mkF m 67 #[.val (.ref r), .val (.int (3 : Int32)), .val (.int pa), .val (.int pb), .val (.ref sf)] [(.int (1 : Int32))]))
  refine own_ifN X 70 own_d7_67 rfl (XT.i0_eq_f (by decide)) ?_
  refine own_aloadN X 71 (.ref r) own_d7_70 rfl rfl rfl ?_
  refine own_iloadN X 72 (3 : Int32) own_d7_71 rfl rfl ?_
  refine own_iloadN X 73 pa own_d7_72 rfl rfl ?_
  refine own_iloadN X 74 pb own_d7_73 rfl rfl ?_
  refine own_aload X 76 (.ref sf) own_d7_74 rfl rfl rfl ?_
  refine own_iconst X 77 (4 : Int32) own_d7_76 rfl rfl ?_
  refine own_callS X 80 [(.ref r), (.int (3 : Int32)), (.int pa), (.int pb), (.ref sf), (.int (4 : Int32))] [] own_d7_77 rfl (hw _ (List.mem_of_getElem? (i := 59) rfl)) (hw _ (List.mem_of_getElem? (i := 60) rfl)) (hw _ (List.mem_of_getElem? (i := 3) rfl)) (hw _ (List.mem_of_getElem? (i := 61) rfl)) (by decide) (own_at_sf l Z a0 hw r (3 : Int32) pa pb sf (4 : Int32) kr [(.int (own_ob pa pb (0 : Int32))), (.int (own_ob pa pb (1 : Int32))), (.int (own_ob pa pb (2 : Int32))), (.int 58), (.int 119), (.int 97), (.int 105), (.int 116), (.int 105), (.int 110), (.int 103)] 4 119 cs sv ks [(.int 58), (.int 119), (.int 97), (.int 105), (.int 116), (.int 105), (.int 110), (.int 103)] 1 119 fo h0 n0 X.sz Ar (show (4 : Int32) < (11 : Int32) by decide) (by decide) (by decide) (by decide) rfl OL z_cs hcs z_fo hfo Ea Fc Fv As (by decide) (by decide) (show (4 : Int32) - (3 : Int32) < (8 : Int32) by decide) rfl (by decide)) (fun _ _ q => Nat.le_of_eq (congrArg Array.size q.1.symm)) rfl own_pd11 rfl rfl rfl (by decide) (Nat.le_of_ble_eq_true rfl) (by decide) (by decide) ?_
  rintro v77 T h_ X ⟨eh_, rfl⟩
  rw [eh_] at X
  show own_Ends p e below _ (T.setTop (mkF m 80 #[.val (.ref r), .val (.int (3 : Int32)), .val (.int pa), .val (.int pb), .val (.ref sf)] [(.int (1 : Int32))]))
  refine own_ifN X 83 own_d7_80 rfl (XT.i0_eq_f (by decide)) ?_
  refine own_aloadN X 84 (.ref r) own_d7_83 rfl rfl rfl ?_
  refine own_iloadN X 85 (3 : Int32) own_d7_84 rfl rfl ?_
  refine own_iloadN X 86 pa own_d7_85 rfl rfl ?_
  refine own_iloadN X 87 pb own_d7_86 rfl rfl ?_
  refine own_aload X 89 (.ref sf) own_d7_87 rfl rfl rfl ?_
  refine own_iconst X 90 (5 : Int32) own_d7_89 rfl rfl ?_
  refine own_callS X 93 [(.ref r), (.int (3 : Int32)), (.int pa), (.int pb), (.ref sf), (.int (5 : Int32))] [] own_d7_90 rfl (hw _ (List.mem_of_getElem? (i := 59) rfl)) (hw _ (List.mem_of_getElem? (i := 60) rfl)) (hw _ (List.mem_of_getElem? (i := 3) rfl)) (hw _ (List.mem_of_getElem? (i := 61) rfl)) (by decide) (own_at_sf l Z a0 hw r (3 : Int32) pa pb sf (5 : Int32) kr [(.int (own_ob pa pb (0 : Int32))), (.int (own_ob pa pb (1 : Int32))), (.int (own_ob pa pb (2 : Int32))), (.int 58), (.int 119), (.int 97), (.int 105), (.int 116), (.int 105), (.int 110), (.int 103)] 5 97 cs sv ks [(.int 58), (.int 119), (.int 97), (.int 105), (.int 116), (.int 105), (.int 110), (.int 103)] 2 97 fo h0 n0 X.sz Ar (show (5 : Int32) < (11 : Int32) by decide) (by decide) (by decide) (by decide) rfl OL z_cs hcs z_fo hfo Ea Fc Fv As (by decide) (by decide) (show (5 : Int32) - (3 : Int32) < (8 : Int32) by decide) rfl (by decide)) (fun _ _ q => Nat.le_of_eq (congrArg Array.size q.1.symm)) rfl own_pd11 rfl rfl rfl (by decide) (Nat.le_of_ble_eq_true rfl) (by decide) (by decide) ?_
  rintro v90 T h_ X ⟨eh_, rfl⟩
  rw [eh_] at X
  show own_Ends p e below _ (T.setTop (mkF m 93 #[.val (.ref r), .val (.int (3 : Int32)), .val (.int pa), .val (.int pb), .val (.ref sf)] [(.int (1 : Int32))]))
  refine own_ifN X 96 own_d7_93 rfl (XT.i0_eq_f (by decide)) ?_
  refine own_aloadN X 97 (.ref r) own_d7_96 rfl rfl rfl ?_
  refine own_iloadN X 98 (3 : Int32) own_d7_97 rfl rfl ?_
  refine own_iloadN X 99 pa own_d7_98 rfl rfl ?_
  refine own_iloadN X 100 pb own_d7_99 rfl rfl ?_
  refine own_aload X 102 (.ref sf) own_d7_100 rfl rfl rfl ?_
  refine own_bipush X 104 (6 : Int32) own_d7_102 rfl (by decide) ?_
  refine own_callS X 107 [(.ref r), (.int (3 : Int32)), (.int pa), (.int pb), (.ref sf), (.int (6 : Int32))] [] own_d7_104 rfl (hw _ (List.mem_of_getElem? (i := 59) rfl)) (hw _ (List.mem_of_getElem? (i := 60) rfl)) (hw _ (List.mem_of_getElem? (i := 3) rfl)) (hw _ (List.mem_of_getElem? (i := 61) rfl)) (by decide) (own_at_sf l Z a0 hw r (3 : Int32) pa pb sf (6 : Int32) kr [(.int (own_ob pa pb (0 : Int32))), (.int (own_ob pa pb (1 : Int32))), (.int (own_ob pa pb (2 : Int32))), (.int 58), (.int 119), (.int 97), (.int 105), (.int 116), (.int 105), (.int 110), (.int 103)] 6 105 cs sv ks [(.int 58), (.int 119), (.int 97), (.int 105), (.int 116), (.int 105), (.int 110), (.int 103)] 3 105 fo h0 n0 X.sz Ar (show (6 : Int32) < (11 : Int32) by decide) (by decide) (by decide) (by decide) rfl OL z_cs hcs z_fo hfo Ea Fc Fv As (by decide) (by decide) (show (6 : Int32) - (3 : Int32) < (8 : Int32) by decide) rfl (by decide)) (fun _ _ q => Nat.le_of_eq (congrArg Array.size q.1.symm)) rfl own_pd11 rfl rfl rfl (by decide) (Nat.le_of_ble_eq_true rfl) (by decide) (by decide) ?_
  rintro v104 T h_ X ⟨eh_, rfl⟩
  rw [eh_] at X
  show own_Ends p e below _ (T.setTop (mkF m 107 #[.val (.ref r), .val (.int (3 : Int32)), .val (.int pa), .val (.int pb), .val (.ref sf)] [(.int (1 : Int32))]))
  refine own_ifN X 110 own_d7_107 rfl (XT.i0_eq_f (by decide)) ?_
  refine own_aloadN X 111 (.ref r) own_d7_110 rfl rfl rfl ?_
  refine own_iloadN X 112 (3 : Int32) own_d7_111 rfl rfl ?_
  refine own_iloadN X 113 pa own_d7_112 rfl rfl ?_
  refine own_iloadN X 114 pb own_d7_113 rfl rfl ?_
  refine own_aload X 116 (.ref sf) own_d7_114 rfl rfl rfl ?_
  refine own_bipush X 118 (7 : Int32) own_d7_116 rfl (by decide) ?_
  refine own_callS X 121 [(.ref r), (.int (3 : Int32)), (.int pa), (.int pb), (.ref sf), (.int (7 : Int32))] [] own_d7_118 rfl (hw _ (List.mem_of_getElem? (i := 59) rfl)) (hw _ (List.mem_of_getElem? (i := 60) rfl)) (hw _ (List.mem_of_getElem? (i := 3) rfl)) (hw _ (List.mem_of_getElem? (i := 61) rfl)) (by decide) (own_at_sf l Z a0 hw r (3 : Int32) pa pb sf (7 : Int32) kr [(.int (own_ob pa pb (0 : Int32))), (.int (own_ob pa pb (1 : Int32))), (.int (own_ob pa pb (2 : Int32))), (.int 58), (.int 119), (.int 97), (.int 105), (.int 116), (.int 105), (.int 110), (.int 103)] 7 116 cs sv ks [(.int 58), (.int 119), (.int 97), (.int 105), (.int 116), (.int 105), (.int 110), (.int 103)] 4 116 fo h0 n0 X.sz Ar (show (7 : Int32) < (11 : Int32) by decide) (by decide) (by decide) (by decide) rfl OL z_cs hcs z_fo hfo Ea Fc Fv As (by decide) (by decide) (show (7 : Int32) - (3 : Int32) < (8 : Int32) by decide) rfl (by decide)) (fun _ _ q => Nat.le_of_eq (congrArg Array.size q.1.symm)) rfl own_pd11 rfl rfl rfl (by decide) (Nat.le_of_ble_eq_true rfl) (by decide) (by decide) ?_
  rintro v118 T h_ X ⟨eh_, rfl⟩
  rw [eh_] at X
  show own_Ends p e below _ (T.setTop (mkF m 121 #[.val (.ref r), .val (.int (3 : Int32)), .val (.int pa), .val (.int pb), .val (.ref sf)] [(.int (1 : Int32))]))
  refine own_ifN X 124 own_d7_121 rfl (XT.i0_eq_f (by decide)) ?_
  refine own_aloadN X 125 (.ref r) own_d7_124 rfl rfl rfl ?_
  refine own_iloadN X 126 (3 : Int32) own_d7_125 rfl rfl ?_
  refine own_iloadN X 127 pa own_d7_126 rfl rfl ?_
  refine own_iloadN X 128 pb own_d7_127 rfl rfl ?_
  refine own_aload X 130 (.ref sf) own_d7_128 rfl rfl rfl ?_
  refine own_bipush X 132 (8 : Int32) own_d7_130 rfl (by decide) ?_
  refine own_callS X 135 [(.ref r), (.int (3 : Int32)), (.int pa), (.int pb), (.ref sf), (.int (8 : Int32))] [] own_d7_132 rfl (hw _ (List.mem_of_getElem? (i := 59) rfl)) (hw _ (List.mem_of_getElem? (i := 60) rfl)) (hw _ (List.mem_of_getElem? (i := 3) rfl)) (hw _ (List.mem_of_getElem? (i := 61) rfl)) (by decide) (own_at_sf l Z a0 hw r (3 : Int32) pa pb sf (8 : Int32) kr [(.int (own_ob pa pb (0 : Int32))), (.int (own_ob pa pb (1 : Int32))), (.int (own_ob pa pb (2 : Int32))), (.int 58), (.int 119), (.int 97), (.int 105), (.int 116), (.int 105), (.int 110), (.int 103)] 8 105 cs sv ks [(.int 58), (.int 119), (.int 97), (.int 105), (.int 116), (.int 105), (.int 110), (.int 103)] 5 105 fo h0 n0 X.sz Ar (show (8 : Int32) < (11 : Int32) by decide) (by decide) (by decide) (by decide) rfl OL z_cs hcs z_fo hfo Ea Fc Fv As (by decide) (by decide) (show (8 : Int32) - (3 : Int32) < (8 : Int32) by decide) rfl (by decide)) (fun _ _ q => Nat.le_of_eq (congrArg Array.size q.1.symm)) rfl own_pd11 rfl rfl rfl (by decide) (Nat.le_of_ble_eq_true rfl) (by decide) (by decide) ?_
  rintro v132 T h_ X ⟨eh_, rfl⟩
  rw [eh_] at X
  show own_Ends p e below _ (T.setTop (mkF m 135 #[.val (.ref r), .val (.int (3 : Int32)), .val (.int pa), .val (.int pb), .val (.ref sf)] [(.int (1 : Int32))]))
  refine own_ifN X 138 own_d7_135 rfl (XT.i0_eq_f (by decide)) ?_
  refine own_aloadN X 139 (.ref r) own_d7_138 rfl rfl rfl ?_
  refine own_iloadN X 140 (3 : Int32) own_d7_139 rfl rfl ?_
  refine own_iloadN X 141 pa own_d7_140 rfl rfl ?_
  refine own_iloadN X 142 pb own_d7_141 rfl rfl ?_
  refine own_aload X 144 (.ref sf) own_d7_142 rfl rfl rfl ?_
  refine own_bipush X 146 (9 : Int32) own_d7_144 rfl (by decide) ?_
  refine own_callS X 149 [(.ref r), (.int (3 : Int32)), (.int pa), (.int pb), (.ref sf), (.int (9 : Int32))] [] own_d7_146 rfl (hw _ (List.mem_of_getElem? (i := 59) rfl)) (hw _ (List.mem_of_getElem? (i := 60) rfl)) (hw _ (List.mem_of_getElem? (i := 3) rfl)) (hw _ (List.mem_of_getElem? (i := 61) rfl)) (by decide) (own_at_sf l Z a0 hw r (3 : Int32) pa pb sf (9 : Int32) kr [(.int (own_ob pa pb (0 : Int32))), (.int (own_ob pa pb (1 : Int32))), (.int (own_ob pa pb (2 : Int32))), (.int 58), (.int 119), (.int 97), (.int 105), (.int 116), (.int 105), (.int 110), (.int 103)] 9 110 cs sv ks [(.int 58), (.int 119), (.int 97), (.int 105), (.int 116), (.int 105), (.int 110), (.int 103)] 6 110 fo h0 n0 X.sz Ar (show (9 : Int32) < (11 : Int32) by decide) (by decide) (by decide) (by decide) rfl OL z_cs hcs z_fo hfo Ea Fc Fv As (by decide) (by decide) (show (9 : Int32) - (3 : Int32) < (8 : Int32) by decide) rfl (by decide)) (fun _ _ q => Nat.le_of_eq (congrArg Array.size q.1.symm)) rfl own_pd11 rfl rfl rfl (by decide) (Nat.le_of_ble_eq_true rfl) (by decide) (by decide) ?_
  rintro v146 T h_ X ⟨eh_, rfl⟩
  rw [eh_] at X
  show own_Ends p e below _ (T.setTop (mkF m 149 #[.val (.ref r), .val (.int (3 : Int32)), .val (.int pa), .val (.int pb), .val (.ref sf)] [(.int (1 : Int32))]))
  refine own_ifN X 152 own_d7_149 rfl (XT.i0_eq_f (by decide)) ?_
  refine own_aloadN X 153 (.ref r) own_d7_152 rfl rfl rfl ?_
  refine own_iloadN X 154 (3 : Int32) own_d7_153 rfl rfl ?_
  refine own_iloadN X 155 pa own_d7_154 rfl rfl ?_
  refine own_iloadN X 156 pb own_d7_155 rfl rfl ?_
  refine own_aload X 158 (.ref sf) own_d7_156 rfl rfl rfl ?_
  refine own_bipush X 160 (10 : Int32) own_d7_158 rfl (by decide) ?_
  refine own_callS X 163 [(.ref r), (.int (3 : Int32)), (.int pa), (.int pb), (.ref sf), (.int (10 : Int32))] [] own_d7_160 rfl (hw _ (List.mem_of_getElem? (i := 59) rfl)) (hw _ (List.mem_of_getElem? (i := 60) rfl)) (hw _ (List.mem_of_getElem? (i := 3) rfl)) (hw _ (List.mem_of_getElem? (i := 61) rfl)) (by decide) (own_at_sf l Z a0 hw r (3 : Int32) pa pb sf (10 : Int32) kr [(.int (own_ob pa pb (0 : Int32))), (.int (own_ob pa pb (1 : Int32))), (.int (own_ob pa pb (2 : Int32))), (.int 58), (.int 119), (.int 97), (.int 105), (.int 116), (.int 105), (.int 110), (.int 103)] 10 103 cs sv ks [(.int 58), (.int 119), (.int 97), (.int 105), (.int 116), (.int 105), (.int 110), (.int 103)] 7 103 fo h0 n0 X.sz Ar (show (10 : Int32) < (11 : Int32) by decide) (by decide) (by decide) (by decide) rfl OL z_cs hcs z_fo hfo Ea Fc Fv As (by decide) (by decide) (show (10 : Int32) - (3 : Int32) < (8 : Int32) by decide) rfl (by decide)) (fun _ _ q => Nat.le_of_eq (congrArg Array.size q.1.symm)) rfl own_pd11 rfl rfl rfl (by decide) (Nat.le_of_ble_eq_true rfl) (by decide) (by decide) ?_
  rintro v160 T h_ X ⟨eh_, rfl⟩
  rw [eh_] at X
  show own_Ends p e below _ (T.setTop (mkF m 163 #[.val (.ref r), .val (.int (3 : Int32)), .val (.int pa), .val (.int pb), .val (.ref sf)] [(.int (1 : Int32))]))
  refine own_ifN X 166 own_d7_163 rfl (XT.i0_eq_f (by decide)) ?_
  refine own_aloadN X 167 (.ref r) own_d7_166 rfl rfl rfl ?_
  refine own_iloadN X 168 (3 : Int32) own_d7_167 rfl rfl ?_
  refine own_iloadN X 169 pa own_d7_168 rfl rfl ?_
  refine own_iloadN X 170 pb own_d7_169 rfl rfl ?_
  refine own_aload X 172 (.ref sf) own_d7_170 rfl rfl rfl ?_
  refine own_bipush X 174 (11 : Int32) own_d7_172 rfl (by decide) ?_
  refine own_callS X 177 [(.ref r), (.int (3 : Int32)), (.int pa), (.int pb), (.ref sf), (.int (11 : Int32))] [] own_d7_174 rfl (hw _ (List.mem_of_getElem? (i := 59) rfl)) (hw _ (List.mem_of_getElem? (i := 60) rfl)) (hw _ (List.mem_of_getElem? (i := 3) rfl)) (hw _ (List.mem_of_getElem? (i := 61) rfl)) (by decide) (own_at_hi l Z a0 hw r (3 : Int32) pa pb sf (11 : Int32) kr [(.int (own_ob pa pb (0 : Int32))), (.int (own_ob pa pb (1 : Int32))), (.int (own_ob pa pb (2 : Int32))), (.int 58), (.int 119), (.int 97), (.int 105), (.int 116), (.int 105), (.int 110), (.int 103)] h0 n0 X.sz Ar (show ¬ (11 : Int32) < (11 : Int32) by decide)) (fun _ _ q => Nat.le_of_eq (congrArg Array.size q.1.symm)) rfl own_pd11 rfl rfl rfl (by decide) (Nat.le_of_ble_eq_true rfl) (by decide) (by decide) ?_
  rintro v174 T h_ X ⟨eh_, rfl⟩
  rw [eh_] at X
  show own_Ends p e below _ (T.setTop (mkF m 177 #[.val (.ref r), .val (.int (3 : Int32)), .val (.int pa), .val (.int pb), .val (.ref sf)] [(.int (1 : Int32))]))
  refine own_ifN X 180 own_d7_177 rfl (XT.i0_eq_f (by decide)) ?_
  refine own_aloadN X 181 (.ref r) own_d7_180 rfl rfl rfl ?_
  refine own_iloadN X 182 (3 : Int32) own_d7_181 rfl rfl ?_
  refine own_iloadN X 183 pa own_d7_182 rfl rfl ?_
  refine own_iloadN X 184 pb own_d7_183 rfl rfl ?_
  refine own_aload X 186 (.ref sf) own_d7_184 rfl rfl rfl ?_
  refine own_bipush X 188 (12 : Int32) own_d7_186 rfl (by decide) ?_
  refine own_callS X 191 [(.ref r), (.int (3 : Int32)), (.int pa), (.int pb), (.ref sf), (.int (12 : Int32))] [] own_d7_188 rfl (hw _ (List.mem_of_getElem? (i := 59) rfl)) (hw _ (List.mem_of_getElem? (i := 60) rfl)) (hw _ (List.mem_of_getElem? (i := 3) rfl)) (hw _ (List.mem_of_getElem? (i := 61) rfl)) (by decide) (own_at_hi l Z a0 hw r (3 : Int32) pa pb sf (12 : Int32) kr [(.int (own_ob pa pb (0 : Int32))), (.int (own_ob pa pb (1 : Int32))), (.int (own_ob pa pb (2 : Int32))), (.int 58), (.int 119), (.int 97), (.int 105), (.int 116), (.int 105), (.int 110), (.int 103)] h0 n0 X.sz Ar (show ¬ (12 : Int32) < (11 : Int32) by decide)) (fun _ _ q => Nat.le_of_eq (congrArg Array.size q.1.symm)) rfl own_pd11 rfl rfl rfl (by decide) (Nat.le_of_ble_eq_true rfl) (by decide) (by decide) ?_
  rintro v188 T h_ X ⟨eh_, rfl⟩
  rw [eh_] at X
  show own_Ends p e below _ (T.setTop (mkF m 191 #[.val (.ref r), .val (.int (3 : Int32)), .val (.int pa), .val (.int pb), .val (.ref sf)] [(.int (1 : Int32))]))
  refine own_ifN X 194 own_d7_191 rfl (XT.i0_eq_f (by decide)) ?_
  refine own_iconst X 195 (1 : Int32) own_d7_194 rfl rfl ?_
  refine own_goto X 199 own_d7_195 (by decide) (by decide) ?_
  exact own_retN X .boolean own_d7_199 rfl (by simp) (by decide) (by decide) (⟨rfl, rfl⟩)
set_option maxRecDepth 65536 in
set_option maxHeartbeats 40000000 in
theorem own_mt4_0 (l : Launch) (Z : State) (a0 : Array Value) (hw : ∀ d ∈ tables_1, d.before a0 Z = true) (r : Addr) (nn : Int32) (pa : Int32) (pb : Int32) (sf : Addr) (kr : ClassId) (cs : Int32) (sv : Addr) (ks : ClassId) (fo : Value) (h0 : Heap) (n0 : Nat) (hs0 : n0 ≤ h0.size) (Ar : own_A Z h0 r kr .byte [(.int (own_ob pa pb (0 : Int32))), (.int (own_ob pa pb (1 : Int32))), (.int (own_ob pa pb (2 : Int32))), (.int (own_ob pa pb (3 : Int32)))]) (OL : Old Z n0 h0) (z_cs : Sta Z Z.heap "java/lang/String" "COMPACT_STRINGS" "Z" (.int cs)) (hcs : ¬ cs = 0) (z_fo : Sta Z Z.heap "jdk/internal/util/Preconditions" "SIOOBE_FORMATTER" "Ljava/util/function/BiFunction;" fo) (hfo : fo.isRef = true) (Ea : Exa Z h0 sf "java/lang/String") (Fc : Fld Z h0 sf "java/lang/String" "coder" "B" (.int 0)) (Fv : Fld Z h0 sf "java/lang/String" "value" "[B" (.ref sv)) (As : own_A Z h0 sv ks .byte []) (hn : nn = 4) :
    own_Met l (⟨"com/example/latchkey/latchkey/LockKeysHolderFieldsPinLaw", "matches", "([BIIILjava/lang/String;)Z"⟩ : MethodName) method_6_code 5 (some .boolean) ({ frames := 2, cells := 0, slots := 0, locals := 32 } : Room) Z #[(.ref r), (.int nn), (.int pa), (.int pb), (.ref sf)] h0 n0 (fun v h' => h' = h0 ∧ v = some (.int (1 : Int32))) := by
  refine own_met (Ls := #[.val (.ref r), .val (.int nn), .val (.int pa), .val (.int pb), .val (.ref sf)]) own_pn7 hs0 (fun m => by first  | (simp [entryFrame, mkF, argsToLocals, Value.category]; done) | rfl) ?_
  intro p e s m below meth c T X
  have hi_r : h0.size > r := Ar.lt
  have hi_sv : h0.size > sv := As.lt
  have hi_sf : h0.size > sf := Ea.lt
  subst hn
  refine own_aloadN X 1 (.ref r) own_d7_0 rfl rfl rfl ?_
  refine own_nullN X 4 own_d7_1 rfl ?_
  refine own_aloadN X 5 (.ref r) own_d7_4 rfl rfl rfl ?_
  refine own_len X 6 (4 : Int32) own_d7_5 rfl Ar rfl ?_
  refine own_iloadN X 7 (4 : Int32) own_d7_6 rfl rfl ?_
  refine own_aload X 9 (.ref sf) own_d7_7 rfl rfl rfl ?_
  refine own_callV X 12 [] [(.int (4 : Int32)), (.int (4 : Int32))] own_d7_9 rfl (hw _ (List.mem_of_getElem? (i := 46) rfl)) (hw _ (List.mem_of_getElem? (i := 47) rfl)) (own_nf X.2.2.2.2.1 (hw _ (List.mem_of_getElem? (i := 49) rfl))) (hw _ (List.mem_of_getElem? (i := 49) rfl)) (hw _ (List.mem_of_getElem? (i := 48) rfl)) (hw _ (List.mem_of_getElem? (i := 37) rfl)) (hw _ (List.mem_of_getElem? (i := 50) rfl)) (by decide) Ea (own_sl0 l Z a0 hw sf cs sv ks h0 n0 X.sz OL z_cs hcs Ea Fc Fv As) (fun _ _ q => Nat.le_of_eq (congrArg Array.size q.1.symm)) rfl own_pd10 rfl rfl rfl (by decide) (Nat.le_of_ble_eq_true rfl) (by decide) (by decide) ?_
  rintro v9 T h_ X ⟨eh_, rfl⟩
  rw [eh_] at X
  show own_Ends p e below _ (T.setTop (mkF m 12 #[.val (.ref r), .val (.int (4 : Int32)), .val (.int pa), .val (.int pb), .val (.ref sf)] [(.int (0 : Int32)), (.int (4 : Int32)), (.int (4 : Int32))]))
  refine own_iadd X 13 own_d7_12 rfl ?_
  refine own_icY X 18 own_d7_13 (by decide) (by decide) (XT.ii_eq_t (by decide)) ?_
  refine own_aloadN X 19 (.ref r) own_d7_18 rfl rfl rfl ?_
  refine own_iloadN X 20 (4 : Int32) own_d7_19 rfl rfl ?_
  refine own_iloadN X 21 pa own_d7_20 rfl rfl ?_
  refine own_iloadN X 22 pb own_d7_21 rfl rfl ?_
  refine own_aload X 24 (.ref sf) own_d7_22 rfl rfl rfl ?_
  refine own_iconst X 25 (0 : Int32) own_d7_24 rfl rfl ?_
  refine own_callS X 28 [(.ref r), (.int (4 : Int32)), (.int pa), (.int pb), (.ref sf), (.int (0 : Int32))] [] own_d7_25 rfl (hw _ (List.mem_of_getElem? (i := 59) rfl)) (hw _ (List.mem_of_getElem? (i := 60) rfl)) (hw _ (List.mem_of_getElem? (i := 3) rfl)) (hw _ (List.mem_of_getElem? (i := 61) rfl)) (by decide) (own_at_ob l Z a0 hw r (4 : Int32) pa pb sf (0 : Int32) kr [(.int (own_ob pa pb (0 : Int32))), (.int (own_ob pa pb (1 : Int32))), (.int (own_ob pa pb (2 : Int32))), (.int (own_ob pa pb (3 : Int32)))] 0 h0 n0 X.sz Ar (show (0 : Int32) < (4 : Int32) by decide) (by decide) (by decide) (by decide) rfl) (fun _ _ q => Nat.le_of_eq (congrArg Array.size q.1.symm)) rfl own_pd11 rfl rfl rfl (by decide) (Nat.le_of_ble_eq_true rfl) (by decide) (by decide) ?_
  rintro v25 T h_ X ⟨eh_, rfl⟩
  rw [eh_] at X
  show own_Ends p e below _ (T.setTop (mkF m 28 #[.val (.ref r), .val (.int (4 : Int32)), .val (.int pa), .val (.int pb), .val (.ref sf)] [(.int (1 : Int32))]))
  refine own_ifN X 31 own_d7_28 rfl (XT.i0_eq_f (by decide)) ?_
  refine own_aloadN X 32 (.ref r) own_d7_31 rfl rfl rfl ?_
  refine own_iloadN X 33 (4 : Int32) own_d7_32 rfl rfl ?_
  refine own_iloadN X 34 pa own_d7_33 rfl rfl ?_
  refine own_iloadN X 35 pb own_d7_34 rfl rfl ?_
  refine own_aload X 37 (.ref sf) own_d7_35 rfl rfl rfl ?_
  refine own_iconst X 38 (1 : Int32) own_d7_37 rfl rfl ?_
  refine own_callS X 41 [(.ref r), (.int (4 : Int32)), (.int pa), (.int pb), (.ref sf), (.int (1 : Int32))] [] own_d7_38 rfl (hw _ (List.mem_of_getElem? (i := 59) rfl)) (hw _ (List.mem_of_getElem? (i := 60) rfl)) (hw _ (List.mem_of_getElem? (i := 3) rfl)) (hw _ (List.mem_of_getElem? (i := 61) rfl)) (by decide) (own_at_ob l Z a0 hw r (4 : Int32) pa pb sf (1 : Int32) kr [(.int (own_ob pa pb (0 : Int32))), (.int (own_ob pa pb (1 : Int32))), (.int (own_ob pa pb (2 : Int32))), (.int (own_ob pa pb (3 : Int32)))] 1 h0 n0 X.sz Ar (show (1 : Int32) < (4 : Int32) by decide) (by decide) (by decide) (by decide) rfl) (fun _ _ q => Nat.le_of_eq (congrArg Array.size q.1.symm)) rfl own_pd11 rfl rfl rfl (by decide) (Nat.le_of_ble_eq_true rfl) (by decide) (by decide) ?_
  rintro v38 T h_ X ⟨eh_, rfl⟩
  rw [eh_] at X
  show own_Ends p e below _ (T.setTop (mkF m 41 #[.val (.ref r), .val (.int (4 : Int32)), .val (.int pa), .val (.int pb), .val (.ref sf)] [(.int (1 : Int32))]))
  refine own_ifN X 44 own_d7_41 rfl (XT.i0_eq_f (by decide)) ?_
  refine own_aloadN X 45 (.ref r) own_d7_44 rfl rfl rfl ?_
  refine own_iloadN X 46 (4 : Int32) own_d7_45 rfl rfl ?_
  refine own_iloadN X 47 pa own_d7_46 rfl rfl ?_
  refine own_iloadN X 48 pb own_d7_47 rfl rfl ?_
  refine own_aload X 50 (.ref sf) own_d7_48 rfl rfl rfl ?_
  refine own_iconst X 51 (2 : Int32) own_d7_50 rfl rfl ?_
  refine own_callS X 54 [(.ref r), (.int (4 : Int32)), (.int pa), (.int pb), (.ref sf), (.int (2 : Int32))] [] own_d7_51 rfl (hw _ (List.mem_of_getElem? (i := 59) rfl)) (hw _ (List.mem_of_getElem? (i := 60) rfl)) (hw _ (List.mem_of_getElem? (i := 3) rfl)) (hw _ (List.mem_of_getElem? (i := 61) rfl)) (by decide) (own_at_ob l Z a0 hw r (4 : Int32) pa pb sf (2 : Int32) kr [(.int (own_ob pa pb (0 : Int32))), (.int (own_ob pa pb (1 : Int32))), (.int (own_ob pa pb (2 : Int32))), (.int (own_ob pa pb (3 : Int32)))] 2 h0 n0 X.sz Ar (show (2 : Int32) < (4 : Int32) by decide) (by decide) (by decide) (by decide) rfl) (fun _ _ q => Nat.le_of_eq (congrArg Array.size q.1.symm)) rfl own_pd11 rfl rfl rfl (by decide) (Nat.le_of_ble_eq_true rfl) (by decide) (by decide) ?_
  rintro v51 T h_ X ⟨eh_, rfl⟩
  rw [eh_] at X
  show own_Ends p e below _ (T.setTop (mkF m 54 #[.val (.ref r), .val (.int (4 : Int32)), .val (.int pa), .val (.int pb), .val (.ref sf)] [(.int (1 : Int32))]))
  refine own_ifN X 57 own_d7_54 rfl (XT.i0_eq_f (by decide)) ?_
  refine own_aloadN X 58 (.ref r) own_d7_57 rfl rfl rfl ?_
  refine own_iloadN X 59 (4 : Int32) own_d7_58 rfl rfl ?_
  refine own_iloadN X 60 pa own_d7_59 rfl rfl ?_
  refine own_iloadN X 61 pb own_d7_60 rfl rfl ?_
  refine own_aload X 63 (.ref sf) own_d7_61 rfl rfl rfl ?_
  refine own_iconst X 64 (3 : Int32) own_d7_63 rfl rfl ?_
  refine own_callS X 67 [(.ref r), (.int (4 : Int32)), (.int pa), (.int pb), (.ref sf), (.int (3 : Int32))] [] own_d7_64 rfl (hw _ (List.mem_of_getElem? (i := 59) rfl)) (hw _ (List.mem_of_getElem? (i := 60) rfl)) (hw _ (List.mem_of_getElem? (i := 3) rfl)) (hw _ (List.mem_of_getElem? (i := 61) rfl)) (by decide) (own_at_ob l Z a0 hw r (4 : Int32) pa pb sf (3 : Int32) kr [(.int (own_ob pa pb (0 : Int32))), (.int (own_ob pa pb (1 : Int32))), (.int (own_ob pa pb (2 : Int32))), (.int (own_ob pa pb (3 : Int32)))] 3 h0 n0 X.sz Ar (show (3 : Int32) < (4 : Int32) by decide) (by decide) (by decide) (by decide) rfl) (fun _ _ q => Nat.le_of_eq (congrArg Array.size q.1.symm)) rfl own_pd11 rfl rfl rfl (by decide) (Nat.le_of_ble_eq_true rfl) (by decide) (by decide) ?_
  rintro v64 T h_ X ⟨eh_, rfl⟩
  rw [eh_] at X
  show own_Ends p e below _ (T.setTop (mkF m 67 #[.val (.ref r), .val (.int (4 : Int32)), .val (.int pa), .val (.int pb), .val (.ref sf)] [(.int (1 : Int32))]))
  refine own_ifN X 70 own_d7_67 rfl (XT.i0_eq_f (by decide)) ?_
  refine own_aloadN X 71 (.ref r) own_d7_70 rfl rfl rfl ?_
  refine own_iloadN X 72 (4 : Int32) own_d7_71 rfl rfl ?_
  refine own_iloadN X 73 pa own_d7_72 rfl rfl ?_
  refine own_iloadN X 74 pb own_d7_73 rfl rfl ?_
  refine own_aload X 76 (.ref sf) own_d7_74 rfl rfl rfl ?_
  refine own_iconst X 77 (4 : Int32) own_d7_76 rfl rfl ?_
  refine own_callS X 80 [(.ref r), (.int (4 : Int32)), (.int pa), (.int pb), (.ref sf), (.int (4 : Int32))] [] own_d7_77 rfl (hw _ (List.mem_of_getElem? (i := 59) rfl)) (hw _ (List.mem_of_getElem? (i := 60) rfl)) (hw _ (List.mem_of_getElem? (i := 3) rfl)) (hw _ (List.mem_of_getElem? (i := 61) rfl)) (by decide) (own_at_hi l Z a0 hw r (4 : Int32) pa pb sf (4 : Int32) kr [(.int (own_ob pa pb (0 : Int32))), (.int (own_ob pa pb (1 : Int32))), (.int (own_ob pa pb (2 : Int32))), (.int (own_ob pa pb (3 : Int32)))] h0 n0 X.sz Ar (show ¬ (4 : Int32) < (4 : Int32) by decide)) (fun _ _ q => Nat.le_of_eq (congrArg Array.size q.1.symm)) rfl own_pd11 rfl rfl rfl (by decide) (Nat.le_of_ble_eq_true rfl) (by decide) (by decide) ?_
  rintro v77 T h_ X ⟨eh_, rfl⟩
  rw [eh_] at X
  show own_Ends p e below _ (T.setTop (mkF m 80 #[.val (.ref r), .val (.int (4 : Int32)), .val (.int pa), .val (.int pb), .val (.ref sf)] [(.int (1 : Int32))]))
  refine own_ifN X 83 own_d7_80 rfl (XT.i0_eq_f (by decide)) ?_
  refine own_aloadN X 84 (.ref r) own_d7_83 rfl rfl rfl ?_
  refine own_iloadN X 85 (4 : Int32) own_d7_84 rfl rfl ?_
  refine own_iloadN X 86 pa own_d7_85 rfl rfl ?_
  refine own_iloadN X 87 pb own_d7_86 rfl rfl ?_
  refine own_aload X 89 (.ref sf) own_d7_87 rfl rfl rfl ?_
  refine own_iconst X 90 (5 : Int32) own_d7_89 rfl rfl ?_
  refine own_callS X 93 [(.ref r), (.int (4 : Int32)), (.int pa), (.int pb), (.ref sf), (.int (5 : Int32))] [] own_d7_90 rfl (hw _ (List.mem_of_getElem? (i := 59) rfl)) (hw _ (List.mem_of_getElem? (i := 60) rfl)) (hw _ (List.mem_of_getElem? (i := 3) rfl)) (hw _ (List.mem_of_getElem? (i := 61) rfl)) (by decide) (own_at_hi l Z a0 hw r (4 : Int32) pa pb sf (5 : Int32) kr [(.int (own_ob pa pb (0 : Int32))), (.int (own_ob pa pb (1 : Int32))), (.int (own_ob pa pb (2 : Int32))), (.int (own_ob pa pb (3 : Int32)))] h0 n0 X.sz Ar (show ¬ (5 : Int32) < (4 : Int32) by decide)) (fun _ _ q => Nat.le_of_eq (congrArg Array.size q.1.symm)) rfl own_pd11 rfl rfl rfl (by decide) (Nat.le_of_ble_eq_true rfl) (by decide) (by decide) ?_
  rintro v90 T h_ X ⟨eh_, rfl⟩
  rw [eh_] at X
  show own_Ends p e below _ (T.setTop (mkF m 93 #[.val (.ref r), .val (.int (4 : Int32)), .val (.int pa), .val (.int pb), .val (.ref sf)] [(.int (1 : Int32))]))
  refine own_ifN X 96 own_d7_93 rfl (XT.i0_eq_f (by decide)) ?_
  refine own_aloadN X 97 (.ref r) own_d7_96 rfl rfl rfl ?_
  refine own_iloadN X 98 (4 : Int32) own_d7_97 rfl rfl ?_
  refine own_iloadN X 99 pa own_d7_98 rfl rfl ?_
  refine own_iloadN X 100 pb own_d7_99 rfl rfl ?_
  refine own_aload X 102 (.ref sf) own_d7_100 rfl rfl rfl ?_
  refine own_bipush X 104 (6 : Int32) own_d7_102 rfl (by decide) ?_
  refine own_callS X 107 [(.ref r), (.int (4 : Int32)), (.int pa), (.int pb), (.ref sf), (.int (6 : Int32))] [] own_d7_104 rfl (hw _ (List.mem_of_getElem? (i := 59) rfl)) (hw _ (List.mem_of_getElem? (i := 60) rfl)) (hw _ (List.mem_of_getElem? (i := 3) rfl)) (hw _ (List.mem_of_getElem? (i := 61) rfl)) (by decide) (own_at_hi l Z a0 hw r (4 : Int32) pa pb sf (6 : Int32) kr [(.int (own_ob pa pb (0 : Int32))), (.int (own_ob pa pb (1 : Int32))), (.int (own_ob pa pb (2 : Int32))), (.int (own_ob pa pb (3 : Int32)))] h0 n0 X.sz Ar (show ¬ (6 : Int32) < (4 : Int32) by decide)) (fun _ _ q => Nat.le_of_eq (congrArg Array.size q.1.symm)) rfl own_pd11 rfl rfl rfl (by decide) (Nat.le_of_ble_eq_true rfl) (by decide) (by decide) ?_
  rintro v104 T h_ X ⟨eh_, rfl⟩
  rw [eh_] at X
  show own_Ends p e below _ (T.setTop (mkF m 107 #[.val (.ref r), .val (.int (4 : Int32)), .val (.int pa), .val (.int pb), .val (.ref sf)] [(.int (1 : Int32))]))
  refine own_ifN X 110 own_d7_107 rfl (XT.i0_eq_f (by decide)) ?_
  refine own_aloadN X 111 (.ref r) own_d7_110 rfl rfl rfl ?_
  refine own_iloadN X 112 (4 : Int32) own_d7_111 rfl rfl ?_
  refine own_iloadN X 113 pa own_d7_112 rfl rfl ?_
  refine own_iloadN X 114 pb own_d7_113 rfl rfl ?_
  refine own_aload X 116 (.ref sf) own_d7_114 rfl rfl rfl ?_
  refine own_bipush X 118 (7 : Int32) own_d7_116 rfl (by decide) ?_
  refine own_callS X 121 [(.ref r), (.int (4 : Int32)), (.int pa), (.int pb), (.ref sf), (.int (7 : Int32))] [] own_d7_118 rfl (hw _ (List.mem_of_getElem? (i := 59) rfl)) (hw _ (List.mem_of_getElem? (i := 60) rfl)) (hw _ (List.mem_of_getElem? (i := 3) rfl)) (hw _ (List.mem_of_getElem? (i := 61) rfl)) (by decide) (own_at_hi l Z a0 hw r (4 : Int32) pa pb sf (7 : Int32) kr [(.int (own_ob pa pb (0 : Int32))), (.int (own_ob pa pb (1 : Int32))), (.int (own_ob pa pb (2 : Int32))), (.int (own_ob pa pb (3 : Int32)))] h0 n0 X.sz Ar (show ¬ (7 : Int32) < (4 : Int32) by decide)) (fun _ _ q => Nat.le_of_eq (congrArg Array.size q.1.symm)) rfl own_pd11 rfl rfl rfl (by decide) (Nat.le_of_ble_eq_true rfl) (by decide) (by decide) ?_
  rintro v118 T h_ X ⟨eh_, rfl⟩
  rw [eh_] at X
  show own_Ends p e below _ (T.setTop (mkF m 121 #[.val (.ref r), .val (.int (4 : Int32)), .val (.int pa), .val (.int pb), .val (.ref sf)] [(.int (1 : Int32))]))
  refine own_ifN X 124 own_d7_121 rfl (XT.i0_eq_f (by decide)) ?_
  refine own_aloadN X 125 (.ref r) own_d7_124 rfl rfl rfl ?_
  refine own_iloadN X 126 (4 : Int32) own_d7_125 rfl rfl ?_
  refine own_iloadN X 127 pa own_d7_126 rfl rfl ?_
  refine own_iloadN X 128 pb own_d7_127 rfl rfl ?_
  refine own_aload X 130 (.ref sf) own_d7_128 rfl rfl rfl ?_
  refine own_bipush X 132 (8 : Int32) own_d7_130 rfl (by decide) ?_
  refine own_callS X 135 [(.ref r), (.int (4 : Int32)), (.int pa), (.int pb), (.ref sf), (.int (8 : Int32))] [] own_d7_132 rfl (hw _ (List.mem_of_getElem? (i := 59) rfl)) (hw _ (List.mem_of_getElem? (i := 60) rfl)) (hw _ (List.mem_of_getElem? (i := 3) rfl)) (hw _ (List.mem_of_getElem? (i := 61) rfl)) (by decide) (own_at_hi l Z a0 hw r (4 : Int32) pa pb sf (8 : Int32) kr [(.int (own_ob pa pb (0 : Int32))), (.int (own_ob pa pb (1 : Int32))), (.int (own_ob pa pb (2 : Int32))), (.int (own_ob pa pb (3 : Int32)))] h0 n0 X.sz Ar (show ¬ (8 : Int32) < (4 : Int32) by decide)) (fun _ _ q => Nat.le_of_eq (congrArg Array.size q.1.symm)) rfl own_pd11 rfl rfl rfl (by decide) (Nat.le_of_ble_eq_true rfl) (by decide) (by decide) ?_
  rintro v132 T h_ X ⟨eh_, rfl⟩
  rw [eh_] at X
  show own_Ends p e below _ (T.setTop (mkF m 135 #[.val (.ref r), .val (.int (4 : Int32)), .val (.int pa), .val (.int pb), .val (.ref sf)] [(.int (1 : Int32))]))
  refine own_ifN X 138 own_d7_135 rfl (XT.i0_eq_f (by decide)) ?_
  refine own_aloadN X 139 (.ref r) own_d7_138 rfl rfl rfl ?_
  refine own_iloadN X 140 (4 : Int32) own_d7_139 rfl rfl ?_
  refine own_iloadN X 141 pa own_d7_140 rfl rfl ?_
  refine own_iloadN X 142 pb own_d7_141 rfl rfl ?_
  refine own_aload X 144 (.ref sf) own_d7_142 rfl rfl rfl ?_
  refine own_bipush X 146 (9 : Int32) own_d7_144 rfl (by decide) ?_
  refine own_callS X 149 [(.ref r), (.int (4 : Int32)), (.int pa), (.int pb), (.ref sf), (.int (9 : Int32))] [] own_d7_146 rfl (hw _ (List.mem_of_getElem? (i := 59) rfl)) (hw _ (List.mem_of_getElem? (i := 60) rfl)) (hw _ (List.mem_of_getElem? (i := 3) rfl)) (hw _ (List.mem_of_getElem? (i := 61) rfl)) (by decide) (own_at_hi l Z a0 hw r (4 : Int32) pa pb sf (9 : Int32) kr [(.int (own_ob pa pb (0 : Int32))), (.int (own_ob pa pb (1 : Int32))), (.int (own_ob pa pb (2 : Int32))), (.int (own_ob pa pb (3 : Int32)))] h0 n0 X.sz Ar (show ¬ (9 : Int32) < (4 : Int32) by decide)) (fun _ _ q => Nat.le_of_eq (congrArg Array.size q.1.symm)) rfl own_pd11 rfl rfl rfl (by decide) (Nat.le_of_ble_eq_true rfl) (by decide) (by decide) ?_
  rintro v146 T h_ X ⟨eh_, rfl⟩
  rw [eh_] at X
  show own_Ends p e below _ (T.setTop (mkF m 149 #[.val (.ref r), .val (.int (4 : Int32)), .val (.int pa), .val (.int pb), .val (.ref sf)] [(.int (1 : Int32))]))
  refine own_ifN X 152 own_d7_149 rfl (XT.i0_eq_f (by decide)) ?_
  refine own_aloadN X 153 (.ref r) own_d7_152 rfl rfl rfl ?_
  refine own_iloadN X 154 (4 : Int32) own_d7_153 rfl rfl ?_
  refine own_iloadN X 155 pa own_d7_154 rfl rfl ?_
  refine own_iloadN X 156 pb own_d7_155 rfl rfl ?_
  refine own_aload X 158 (.ref sf) own_d7_156 rfl rfl rfl ?_
  refine own_bipush X 160 (10 : Int32) own_d7_158 rfl (by decide) ?_
  refine own_callS X 163 [(.ref r), (.int (4 : Int32)), (.int pa), (.int pb), (.ref sf), (.int (10 : Int32))] [] own_d7_160 rfl (hw _ (List.mem_of_getElem? (i := 59) rfl)) (hw _ (List.mem_of_getElem? (i := 60) rfl)) (hw _ (List.mem_of_getElem? (i := 3) rfl)) (hw _ (List.mem_of_getElem? (i := 61) rfl)) (by decide) (own_at_hi l Z a0 hw r (4 : Int32) pa pb sf (10 : Int32) kr [(.int (own_ob pa pb (0 : Int32))), (.int (own_ob pa pb (1 : Int32))), (.int (own_ob pa pb (2 : Int32))), (.int (own_ob pa pb (3 : Int32)))] h0 n0 X.sz Ar (show ¬ (10 : Int32) < (4 : Int32) by decide)) (fun _ _ q => Nat.le_of_eq (congrArg Array.size q.1.symm)) rfl own_pd11 rfl rfl rfl (by decide) (Nat.le_of_ble_eq_true rfl) (by decide) (by decide) ?_
  rintro v160 T h_ X ⟨eh_, rfl⟩
  rw [eh_] at X
  show own_Ends p e below _ (T.setTop (mkF m 163 #[.val (.ref r), .val (.int (4 : Int32)), .val (.int pa), .val (.int pb), .val (.ref sf)] [(.int (1 : Int32))]))
  refine own_ifN X 166 own_d7_163 rfl (XT.i0_eq_f (by decide)) ?_
  refine own_aloadN X 167 (.ref r) own_d7_166 rfl rfl rfl ?_
  refine own_iloadN X 168 (4 : Int32) own_d7_167 rfl rfl ?_
  refine own_iloadN X 169 pa own_d7_168 rfl rfl ?_
  refine own_iloadN X 170 pb own_d7_169 rfl rfl ?_
  refine own_aload X 172 (.ref sf) own_d7_170 rfl rfl rfl ?_
  refine own_bipush X 174 (11 : Int32) own_d7_172 rfl (by decide) ?_
  refine own_callS X 177 [(.ref r), (.int (4 : Int32)), (.int pa), (.int pb), (.ref sf), (.int (11 : Int32))] [] own_d7_174 rfl (hw _ (List.mem_of_getElem? (i := 59) rfl)) (hw _ (List.mem_of_getElem? (i := 60) rfl)) (hw _ (List.mem_of_getElem? (i := 3) rfl)) (hw _ (List.mem_of_getElem? (i := 61) rfl)) (by decide) (own_at_hi l Z a0 hw r (4 : Int32) pa pb sf (11 : Int32) kr [(.int (own_ob pa pb (0 : Int32))), (.int (own_ob pa pb (1 : Int32))), (.int (own_ob pa pb (2 : Int32))), (.int (own_ob pa pb (3 : Int32)))] h0 n0 X.sz Ar (show ¬ (11 : Int32) < (4 : Int32) by decide)) (fun _ _ q => Nat.le_of_eq (congrArg Array.size q.1.symm)) rfl own_pd11 rfl rfl rfl (by decide) (Nat.le_of_ble_eq_true rfl) (by decide) (by decide) ?_
  rintro v174 T h_ X ⟨eh_, rfl⟩
  rw [eh_] at X
  show own_Ends p e below _ (T.setTop (mkF m 177 #[.val (.ref r), .val (.int (4 : Int32)), .val (.int pa), .val (.int pb), .val (.ref sf)] [(.int (1 : Int32))]))
  refine own_ifN X 180 own_d7_177 rfl (XT.i0_eq_f (by decide)) ?_
  refine own_aloadN X 181 (.ref r) own_d7_180 rfl rfl rfl ?_
  refine own_iloadN X 182 (4 : Int32) own_d7_181 rfl rfl ?_
  refine own_iloadN X 183 pa own_d7_182 rfl rfl ?_
  refine own_iloadN X 184 pb own_d7_183 rfl rfl ?_
  refine own_aload X 186 (.ref sf) own_d7_184 rfl rfl rfl ?_
  refine own_bipush X 188 (12 : Int32) own_d7_186 rfl (by decide) ?_
  refine own_callS X 191 [(.ref r), (.int (4 : Int32)), (.int pa), (.int pb), (.ref sf), (.int (12 : Int32))] [] own_d7_188 rfl (hw _ (List.mem_of_getElem? (i := 59) rfl)) (hw _ (List.mem_of_getElem? (i := 60) rfl)) (hw _ (List.mem_of_getElem? (i := 3) rfl)) (hw _ (List.mem_of_getElem? (i := 61) rfl)) (by decide) (own_at_hi l Z a0 hw r (4 : Int32) pa pb sf (12 : Int32) kr [(.int (own_ob pa pb (0 : Int32))), (.int (own_ob pa pb (1 : Int32))), (.int (own_ob pa pb (2 : Int32))), (.int (own_ob pa pb (3 : Int32)))] h0 n0 X.sz Ar (show ¬ (12 : Int32) < (4 : Int32) by decide)) (fun _ _ q => Nat.le_of_eq (congrArg Array.size q.1.symm)) rfl own_pd11 rfl rfl rfl (by decide) (Nat.le_of_ble_eq_true rfl) (by decide) (by decide) ?_
  rintro v188 T h_ X ⟨eh_, rfl⟩
  rw [eh_] at X
  show own_Ends p e below _ (T.setTop (mkF m 191 #[.val (.ref r), .val (.int (4 : Int32)), .val (.int pa), .val (.int pb), .val (.ref sf)] [(.int (1 : Int32))]))
  refine own_ifN X 194 own_d7_191 rfl (XT.i0_eq_f (by decide)) ?_
  refine own_iconst X 195 (1 : Int32) own_d7_194 rfl rfl ?_
  refine own_goto X 199 own_d7_195 (by decide) (by decide) ?_
  exact own_retN X .boolean own_d7_199 rfl (by simp) (by decide) (by decide) (⟨rfl, rfl⟩)
set_option maxRecDepth 65536 in
set_option maxHeartbeats 40000000 in
theorem own_mt4_6 (l : Launch) (Z : State) (a0 : Array Value) (hw : ∀ d ∈ tables_1, d.before a0 Z = true) (r : Addr) (nn : Int32) (pa : Int32) (pb : Int32) (sf : Addr) (kr : ClassId) (cs : Int32) (sv : Addr) (ks : ClassId) (fo : Value) (h0 : Heap) (n0 : Nat) (hs0 : n0 ≤ h0.size) (Ar : own_A Z h0 r kr .byte [(.int (own_ob pa pb (0 : Int32))), (.int (own_ob pa pb (1 : Int32))), (.int (own_ob pa pb (2 : Int32))), (.int (own_ob pa pb (3 : Int32))), (.int 58), (.int 104), (.int 111), (.int 108), (.int 100), (.int 115)]) (OL : Old Z n0 h0) (z_cs : Sta Z Z.heap "java/lang/String" "COMPACT_STRINGS" "Z" (.int cs)) (hcs : ¬ cs = 0) (z_fo : Sta Z Z.heap "jdk/internal/util/Preconditions" "SIOOBE_FORMATTER" "Ljava/util/function/BiFunction;" fo) (hfo : fo.isRef = true) (Ea : Exa Z h0 sf "java/lang/String") (Fc : Fld Z h0 sf "java/lang/String" "coder" "B" (.int 0)) (Fv : Fld Z h0 sf "java/lang/String" "value" "[B" (.ref sv)) (As : own_A Z h0 sv ks .byte [(.int 58), (.int 104), (.int 111), (.int 108), (.int 100), (.int 115)]) (hn : nn = 4) :
    own_Met l (⟨"com/example/latchkey/latchkey/LockKeysHolderFieldsPinLaw", "matches", "([BIIILjava/lang/String;)Z"⟩ : MethodName) method_6_code 5 (some .boolean) ({ frames := 5, cells := 0, slots := 0, locals := 71 } : Room) Z #[(.ref r), (.int nn), (.int pa), (.int pb), (.ref sf)] h0 n0 (fun v h' => h' = h0 ∧ v = some (.int (1 : Int32))) := by
  refine own_met (Ls := #[.val (.ref r), .val (.int nn), .val (.int pa), .val (.int pb), .val (.ref sf)]) own_pn7 hs0 (fun m => by first  | (simp [entryFrame, mkF, argsToLocals, Value.category]; done) | rfl) ?_
  intro p e s m below meth c T X
  have hi_r : h0.size > r := Ar.lt
  have hi_sv : h0.size > sv := As.lt
  have hi_sf : h0.size > sf := Ea.lt
  subst hn
  refine own_aloadN X 1 (.ref r) own_d7_0 rfl rfl rfl ?_
  refine own_nullN X 4 own_d7_1 rfl ?_
  refine own_aloadN X 5 (.ref r) own_d7_4 rfl rfl rfl ?_
  refine own_len X 6 (10 : Int32) own_d7_5 rfl Ar rfl ?_
  refine own_iloadN X 7 (4 : Int32) own_d7_6 rfl rfl ?_
  refine own_aload X 9 (.ref sf) own_d7_7 rfl rfl rfl ?_
  refine own_callV X 12 [] [(.int (4 : Int32)), (.int (10 : Int32))] own_d7_9 rfl (hw _ (List.mem_of_getElem? (i := 46) rfl)) (hw _ (List.mem_of_getElem? (i := 47) rfl)) (own_nf X.2.2.2.2.1 (hw _ (List.mem_of_getElem? (i := 49) rfl))) (hw _ (List.mem_of_getElem? (i := 49) rfl)) (hw _ (List.mem_of_getElem? (i := 48) rfl)) (hw _ (List.mem_of_getElem? (i := 37) rfl)) (hw _ (List.mem_of_getElem? (i := 50) rfl)) (by decide) Ea (own_sl6 l Z a0 hw sf cs sv ks h0 n0 X.sz OL z_cs hcs Ea Fc Fv As) (fun _ _ q => Nat.le_of_eq (congrArg Array.size q.1.symm)) rfl own_pd10 rfl rfl rfl (by decide) (Nat.le_of_ble_eq_true rfl) (by decide) (by decide) ?_
  rintro v9 T h_ X ⟨eh_, rfl⟩
  rw [eh_] at X
  show own_Ends p e below _ (T.setTop (mkF m 12 #[.val (.ref r), .val (.int (4 : Int32)), .val (.int pa), .val (.int pb), .val (.ref sf)] [(.int (6 : Int32)), (.int (4 : Int32)), (.int (10 : Int32))]))
  refine own_iadd X 13 own_d7_12 rfl ?_
  refine own_icY X 18 own_d7_13 (by decide) (by decide) (XT.ii_eq_t (by decide)) ?_
  refine own_aloadN X 19 (.ref r) own_d7_18 rfl rfl rfl ?_
  refine own_iloadN X 20 (4 : Int32) own_d7_19 rfl rfl ?_
  refine own_iloadN X 21 pa own_d7_20 rfl rfl ?_
  refine own_iloadN X 22 pb own_d7_21 rfl rfl ?_
  refine own_aload X 24 (.ref sf) own_d7_22 rfl rfl rfl ?_
  refine own_iconst X 25 (0 : Int32) own_d7_24 rfl rfl ?_
  refine own_callS X 28 [(.ref r), (.int (4 : Int32)), (.int pa), (.int pb), (.ref sf), (.int (0 : Int32))] [] own_d7_25 rfl (hw _ (List.mem_of_getElem? (i := 59) rfl)) (hw _ (List.mem_of_getElem? (i := 60) rfl)) (hw _ (List.mem_of_getElem? (i := 3) rfl)) (hw _ (List.mem_of_getElem? (i := 61) rfl)) (by decide) (own_at_ob l Z a0 hw r (4 : Int32) pa pb sf (0 : Int32) kr [(.int (own_ob pa pb (0 : Int32))), (.int (own_ob pa pb (1 : Int32))), (.int (own_ob pa pb (2 : Int32))), (.int (own_ob pa pb (3 : Int32))), (.int 58), (.int 104), (.int 111), (.int 108), (.int 100), (.int 115)] 0 h0 n0 X.sz Ar (show (0 : Int32) < (10 : Int32) by decide) (by decide) (by decide) (by decide) rfl) (fun _ _ q => Nat.le_of_eq (congrArg Array.size q.1.symm)) rfl own_pd11 rfl rfl rfl (by decide) (Nat.le_of_ble_eq_true rfl) (by decide) (by decide) ?_
  rintro v25 T h_ X ⟨eh_, rfl⟩
  rw [eh_] at X
  show own_Ends p e below _ (T.setTop (mkF m 28 #[.val (.ref r), .val (.int (4 : Int32)), .val (.int pa), .val (.int pb), .val (.ref sf)] [(.int (1 : Int32))]))
  refine own_ifN X 31 own_d7_28 rfl (XT.i0_eq_f (by decide)) ?_
  refine own_aloadN X 32 (.ref r) own_d7_31 rfl rfl rfl ?_
  refine own_iloadN X 33 (4 : Int32) own_d7_32 rfl rfl ?_
  refine own_iloadN X 34 pa own_d7_33 rfl rfl ?_
  refine own_iloadN X 35 pb own_d7_34 rfl rfl ?_
  refine own_aload X 37 (.ref sf) own_d7_35 rfl rfl rfl ?_
  refine own_iconst X 38 (1 : Int32) own_d7_37 rfl rfl ?_
  refine own_callS X 41 [(.ref r), (.int (4 : Int32)), (.int pa), (.int pb), (.ref sf), (.int (1 : Int32))] [] own_d7_38 rfl (hw _ (List.mem_of_getElem? (i := 59) rfl)) (hw _ (List.mem_of_getElem? (i := 60) rfl)) (hw _ (List.mem_of_getElem? (i := 3) rfl)) (hw _ (List.mem_of_getElem? (i := 61) rfl)) (by decide) (own_at_ob l Z a0 hw r (4 : Int32) pa pb sf (1 : Int32) kr [(.int (own_ob pa pb (0 : Int32))), (.int (own_ob pa pb (1 : Int32))), (.int (own_ob pa pb (2 : Int32))), (.int (own_ob pa pb (3 : Int32))), (.int 58), (.int 104), (.int 111), (.int 108), (.int 100), (.int 115)] 1 h0 n0 X.sz Ar (show (1 : Int32) < (10 : Int32) by decide) (by decide) (by decide) (by decide) rfl) (fun _ _ q => Nat.le_of_eq (congrArg Array.size q.1.symm)) rfl own_pd11 rfl rfl rfl (by decide) (Nat.le_of_ble_eq_true rfl) (by decide) (by decide) ?_
  rintro v38 T h_ X ⟨eh_, rfl⟩
  rw [eh_] at X
  show own_Ends p e below _ (T.setTop (mkF m 41 #[.val (.ref r), .val (.int (4 : Int32)), .val (.int pa), .val (.int pb), .val (.ref sf)] [(.int (1 : Int32))]))
  refine own_ifN X 44 own_d7_41 rfl (XT.i0_eq_f (by decide)) ?_
  refine own_aloadN X 45 (.ref r) own_d7_44 rfl rfl rfl ?_
  refine own_iloadN X 46 (4 : Int32) own_d7_45 rfl rfl ?_
  refine own_iloadN X 47 pa own_d7_46 rfl rfl ?_
  refine own_iloadN X 48 pb own_d7_47 rfl rfl ?_
  refine own_aload X 50 (.ref sf) own_d7_48 rfl rfl rfl ?_
  refine own_iconst X 51 (2 : Int32) own_d7_50 rfl rfl ?_
  refine own_callS X 54 [(.ref r), (.int (4 : Int32)), (.int pa), (.int pb), (.ref sf), (.int (2 : Int32))] [] own_d7_51 rfl (hw _ (List.mem_of_getElem? (i := 59) rfl)) (hw _ (List.mem_of_getElem? (i := 60) rfl)) (hw _ (List.mem_of_getElem? (i := 3) rfl)) (hw _ (List.mem_of_getElem? (i := 61) rfl)) (by decide) (own_at_ob l Z a0 hw r (4 : Int32) pa pb sf (2 : Int32) kr [(.int (own_ob pa pb (0 : Int32))), (.int (own_ob pa pb (1 : Int32))), (.int (own_ob pa pb (2 : Int32))), (.int (own_ob pa pb (3 : Int32))), (.int 58), (.int 104), (.int 111), (.int 108), (.int 100), (.int 115)] 2 h0 n0 X.sz Ar (show (2 : Int32) < (10 : Int32) by decide) (by decide) (by decide) (by decide) rfl) (fun _ _ q => Nat.le_of_eq (congrArg Array.size q.1.symm)) rfl own_pd11 rfl rfl rfl (by decide) (Nat.le_of_ble_eq_true rfl) (by decide) (by decide) ?_
  rintro v51 T h_ X ⟨eh_, rfl⟩
  rw [eh_] at X
  show own_Ends p e below _ (T.setTop (mkF m 54 #[.val (.ref r), .val (.int (4 : Int32)), .val (.int pa), .val (.int pb), .val (.ref sf)] [(.int (1 : Int32))]))
  refine own_ifN X 57 own_d7_54 rfl (XT.i0_eq_f (by decide)) ?_
  refine own_aloadN X 58 (.ref r) own_d7_57 rfl rfl rfl ?_
  refine own_iloadN X 59 (4 : Int32) own_d7_58 rfl rfl ?_
  refine own_iloadN X 60 pa own_d7_59 rfl rfl ?_
  refine own_iloadN X 61 pb own_d7_60 rfl rfl ?_
  refine own_aload X 63 (.ref sf) own_d7_61 rfl rfl rfl ?_
  refine own_iconst X 64 (3 : Int32) own_d7_63 rfl rfl ?_
  refine own_callS X 67 [(.ref r), (.int (4 : Int32)), (.int pa), (.int pb), (.ref sf), (.int (3 : Int32))] [] own_d7_64 rfl (hw _ (List.mem_of_getElem? (i := 59) rfl)) (hw _ (List.mem_of_getElem? (i := 60) rfl)) (hw _ (List.mem_of_getElem? (i := 3) rfl)) (hw _ (List.mem_of_getElem? (i := 61) rfl)) (by decide) (own_at_ob l Z a0 hw r (4 : Int32) pa pb sf (3 : Int32) kr [(.int (own_ob pa pb (0 : Int32))), (.int (own_ob pa pb (1 : Int32))), (.int (own_ob pa pb (2 : Int32))), (.int (own_ob pa pb (3 : Int32))), (.int 58), (.int 104), (.int 111), (.int 108), (.int 100), (.int 115)] 3 h0 n0 X.sz Ar (show (3 : Int32) < (10 : Int32) by decide) (by decide) (by decide) (by decide) rfl) (fun _ _ q => Nat.le_of_eq (congrArg Array.size q.1.symm)) rfl own_pd11 rfl rfl rfl (by decide) (Nat.le_of_ble_eq_true rfl) (by decide) (by decide) ?_
  rintro v64 T h_ X ⟨eh_, rfl⟩
  rw [eh_] at X
  show own_Ends p e below _ (T.setTop (mkF m 67 #[.val (.ref r), .val (.int (4 : Int32)), .val (.int pa), .val (.int pb), .val (.ref sf)] [(.int (1 : Int32))]))
  refine own_ifN X 70 own_d7_67 rfl (XT.i0_eq_f (by decide)) ?_
  refine own_aloadN X 71 (.ref r) own_d7_70 rfl rfl rfl ?_
  refine own_iloadN X 72 (4 : Int32) own_d7_71 rfl rfl ?_
  refine own_iloadN X 73 pa own_d7_72 rfl rfl ?_
  refine own_iloadN X 74 pb own_d7_73 rfl rfl ?_
  refine own_aload X 76 (.ref sf) own_d7_74 rfl rfl rfl ?_
  refine own_iconst X 77 (4 : Int32) own_d7_76 rfl rfl ?_
  refine own_callS X 80 [(.ref r), (.int (4 : Int32)), (.int pa), (.int pb), (.ref sf), (.int (4 : Int32))] [] own_d7_77 rfl (hw _ (List.mem_of_getElem? (i := 59) rfl)) (hw _ (List.mem_of_getElem? (i := 60) rfl)) (hw _ (List.mem_of_getElem? (i := 3) rfl)) (hw _ (List.mem_of_getElem? (i := 61) rfl)) (by decide) (own_at_sf l Z a0 hw r (4 : Int32) pa pb sf (4 : Int32) kr [(.int (own_ob pa pb (0 : Int32))), (.int (own_ob pa pb (1 : Int32))), (.int (own_ob pa pb (2 : Int32))), (.int (own_ob pa pb (3 : Int32))), (.int 58), (.int 104), (.int 111), (.int 108), (.int 100), (.int 115)] 4 58 cs sv ks [(.int 58), (.int 104), (.int 111), (.int 108), (.int 100), (.int 115)] 0 58 fo h0 n0 X.sz Ar (show (4 : Int32) < (10 : Int32) by decide) (by decide) (by decide) (by decide) rfl OL z_cs hcs z_fo hfo Ea Fc Fv As (by decide) (by decide) (show (4 : Int32) - (4 : Int32) < (6 : Int32) by decide) rfl (by decide)) (fun _ _ q => Nat.le_of_eq (congrArg Array.size q.1.symm)) rfl own_pd11 rfl rfl rfl (by decide) (Nat.le_of_ble_eq_true rfl) (by decide) (by decide) ?_
  rintro v77 T h_ X ⟨eh_, rfl⟩
  rw [eh_] at X
  show own_Ends p e below _ (T.setTop (mkF m 80 #[.val (.ref r), .val (.int (4 : Int32)), .val (.int pa), .val (.int pb), .val (.ref sf)] [(.int (1 : Int32))]))
  refine own_ifN X 83 own_d7_80 rfl (XT.i0_eq_f (by decide)) ?_
  refine own_aloadN X 84 (.ref r) own_d7_83 rfl rfl rfl ?_
  refine own_iloadN X 85 (4 : Int32) own_d7_84 rfl rfl ?_
  refine own_iloadN X 86 pa own_d7_85 rfl rfl ?_
  refine own_iloadN X 87 pb own_d7_86 rfl rfl ?_
  refine own_aload X 89 (.ref sf) own_d7_87 rfl rfl rfl ?_
  refine own_iconst X 90 (5 : Int32) own_d7_89 rfl rfl ?_
  refine own_callS X 93 [(.ref r), (.int (4 : Int32)), (.int pa), (.int pb), (.ref sf), (.int (5 : Int32))] [] own_d7_90 rfl (hw _ (List.mem_of_getElem? (i := 59) rfl)) (hw _ (List.mem_of_getElem? (i := 60) rfl)) (hw _ (List.mem_of_getElem? (i := 3) rfl)) (hw _ (List.mem_of_getElem? (i := 61) rfl)) (by decide) (own_at_sf l Z a0 hw r (4 : Int32) pa pb sf (5 : Int32) kr [(.int (own_ob pa pb (0 : Int32))), (.int (own_ob pa pb (1 : Int32))), (.int (own_ob pa pb (2 : Int32))), (.int (own_ob pa pb (3 : Int32))), (.int 58), (.int 104), (.int 111), (.int 108), (.int 100), (.int 115)] 5 104 cs sv ks [(.int 58), (.int 104), (.int 111), (.int 108), (.int 100), (.int 115)] 1 104 fo h0 n0 X.sz Ar (show (5 : Int32) < (10 : Int32) by decide) (by decide) (by decide) (by decide) rfl OL z_cs hcs z_fo hfo Ea Fc Fv As (by decide) (by decide) (show (5 : Int32) - (4 : Int32) < (6 : Int32) by decide) rfl (by decide)) (fun _ _ q => Nat.le_of_eq (congrArg Array.size q.1.symm)) rfl own_pd11 rfl rfl rfl (by decide) (Nat.le_of_ble_eq_true rfl) (by decide) (by decide) ?_
  rintro v90 T h_ X ⟨eh_, rfl⟩
  rw [eh_] at X
  show own_Ends p e below _ (T.setTop (mkF m 93 #[.val (.ref r), .val (.int (4 : Int32)), .val (.int pa), .val (.int pb), .val (.ref sf)] [(.int (1 : Int32))]))
  refine own_ifN X 96 own_d7_93 rfl (XT.i0_eq_f (by decide)) ?_
  refine own_aloadN X 97 (.ref r) own_d7_96 rfl rfl rfl ?_
  refine own_iloadN X 98 (4 : Int32) own_d7_97 rfl rfl ?_
  refine own_iloadN X 99 pa own_d7_98 rfl rfl ?_
  refine own_iloadN X 100 pb own_d7_99 rfl rfl ?_
  refine own_aload X 102 (.ref sf) own_d7_100 rfl rfl rfl ?_
  refine own_bipush X 104 (6 : Int32) own_d7_102 rfl (by decide) ?_
  refine own_callS X 107 [(.ref r), (.int (4 : Int32)), (.int pa), (.int pb), (.ref sf), (.int (6 : Int32))] [] own_d7_104 rfl (hw _ (List.mem_of_getElem? (i := 59) rfl)) (hw _ (List.mem_of_getElem? (i := 60) rfl)) (hw _ (List.mem_of_getElem? (i := 3) rfl)) (hw _ (List.mem_of_getElem? (i := 61) rfl)) (by decide) (own_at_sf l Z a0 hw r (4 : Int32) pa pb sf (6 : Int32) kr [(.int (own_ob pa pb (0 : Int32))), (.int (own_ob pa pb (1 : Int32))), (.int (own_ob pa pb (2 : Int32))), (.int (own_ob pa pb (3 : Int32))), (.int 58), (.int 104), (.int 111), (.int 108), (.int 100), (.int 115)] 6 111 cs sv ks [(.int 58), (.int 104), (.int 111), (.int 108), (.int 100), (.int 115)] 2 111 fo h0 n0 X.sz Ar (show (6 : Int32) < (10 : Int32) by decide) (by decide) (by decide) (by decide) rfl OL z_cs hcs z_fo hfo Ea Fc Fv As (by decide) (by decide) (show (6 : Int32) - (4 : Int32) < (6 : Int32) by decide) rfl (by decide)) (fun _ _ q => Nat.le_of_eq (congrArg Array.size q.1.symm)) rfl own_pd11 rfl rfl rfl (by decide) (Nat.le_of_ble_eq_true rfl) (by decide) (by decide) ?_
  rintro v104 T h_ X ⟨eh_, rfl⟩
  rw [eh_] at X
  show own_Ends p e below _ (T.setTop (mkF m 107 #[.val (.ref r), .val (.int (4 : Int32)), .val (.int pa), .val (.int pb), .val (.ref sf)] [(.int (1 : Int32))]))
  refine own_ifN X 110 own_d7_107 rfl (XT.i0_eq_f (by decide)) ?_
  refine own_aloadN X 111 (.ref r) own_d7_110 rfl rfl rfl ?_
  refine own_iloadN X 112 (4 : Int32) own_d7_111 rfl rfl ?_
  refine own_iloadN X 113 pa own_d7_112 rfl rfl ?_
  refine own_iloadN X 114 pb own_d7_113 rfl rfl ?_
  refine own_aload X 116 (.ref sf) own_d7_114 rfl rfl rfl ?_
  refine own_bipush X 118 (7 : Int32) own_d7_116 rfl (by decide) ?_
  refine own_callS X 121 [(.ref r), (.int (4 : Int32)), (.int pa), (.int pb), (.ref sf), (.int (7 : Int32))] [] own_d7_118 rfl (hw _ (List.mem_of_getElem? (i := 59) rfl)) (hw _ (List.mem_of_getElem? (i := 60) rfl)) (hw _ (List.mem_of_getElem? (i := 3) rfl)) (hw _ (List.mem_of_getElem? (i := 61) rfl)) (by decide) (own_at_sf l Z a0 hw r (4 : Int32) pa pb sf (7 : Int32) kr [(.int (own_ob pa pb (0 : Int32))), (.int (own_ob pa pb (1 : Int32))), (.int (own_ob pa pb (2 : Int32))), (.int (own_ob pa pb (3 : Int32))), (.int 58), (.int 104), (.int 111), (.int 108), (.int 100), (.int 115)] 7 108 cs sv ks [(.int 58), (.int 104), (.int 111), (.int 108), (.int 100), (.int 115)] 3 108 fo h0 n0 X.sz Ar (show (7 : Int32) < (10 : Int32) by decide) (by decide) (by decide) (by decide) rfl OL z_cs hcs z_fo hfo Ea Fc Fv As (by decide) (by decide) (show (7 : Int32) - (4 : Int32) < (6 : Int32) by decide) rfl (by decide)) (fun _ _ q => Nat.le_of_eq (congrArg Array.size q.1.symm)) rfl own_pd11 rfl rfl rfl (by decide) (Nat.le_of_ble_eq_true rfl) (by decide) (by decide) ?_
  rintro v118 T h_ X ⟨eh_, rfl⟩
  rw [eh_] at X
  show own_Ends p e below _ (T.setTop (mkF m 121 #[.val (.ref r), .val (.int (4 : Int32)), .val (.int pa), .val (.int pb), .val (.ref sf)] [(.int (1 : Int32))]))
  refine own_ifN X 124 own_d7_121 rfl (XT.i0_eq_f (by decide)) ?_
  refine own_aloadN X 125 (.ref r) own_d7_124 rfl rfl rfl ?_
  refine own_iloadN X 126 (4 : Int32) own_d7_125 rfl rfl ?_
  refine own_iloadN X 127 pa own_d7_126 rfl rfl ?_
  refine own_iloadN X 128 pb own_d7_127 rfl rfl ?_
  refine own_aload X 130 (.ref sf) own_d7_128 rfl rfl rfl ?_
  refine own_bipush X 132 (8 : Int32) own_d7_130 rfl (by decide) ?_
  refine own_callS X 135 [(.ref r), (.int (4 : Int32)), (.int pa), (.int pb), (.ref sf), (.int (8 : Int32))] [] own_d7_132 rfl (hw _ (List.mem_of_getElem? (i := 59) rfl)) (hw _ (List.mem_of_getElem? (i := 60) rfl)) (hw _ (List.mem_of_getElem? (i := 3) rfl)) (hw _ (List.mem_of_getElem? (i := 61) rfl)) (by decide) (own_at_sf l Z a0 hw r (4 : Int32) pa pb sf (8 : Int32) kr [(.int (own_ob pa pb (0 : Int32))), (.int (own_ob pa pb (1 : Int32))), (.int (own_ob pa pb (2 : Int32))), (.int (own_ob pa pb (3 : Int32))), (.int 58), (.int 104), (.int 111), (.int 108), (.int 100), (.int 115)] 8 100 cs sv ks [(.int 58), (.int 104), (.int 111), (.int 108), (.int 100), (.int 115)] 4 100 fo h0 n0 X.sz Ar (show (8 : Int32) < (10 : Int32) by decide) (by decide) (by decide) (by decide) rfl OL z_cs hcs z_fo hfo Ea Fc Fv As (by decide) (by decide) (show (8 : Int32) - (4 : Int32) < (6 : Int32) by decide) rfl (by decide)) (fun _ _ q => Nat.le_of_eq (congrArg Array.size q.1.symm)) rfl own_pd11 rfl rfl rfl (by decide) (Nat.le_of_ble_eq_true rfl) (by decide) (by decide) ?_
  rintro v132 T h_ X ⟨eh_, rfl⟩
  rw [eh_] at X
  show own_Ends p e below _ (T.setTop (mkF m 135 #[.val (.ref r), .val (.int (4 : Int32)), .val (.int pa), .val (.int pb), .val (.ref sf)] [(.int (1 : Int32))]))
  refine own_ifN X 138 own_d7_135 rfl (XT.i0_eq_f (by decide)) ?_
  refine own_aloadN X 139 (.ref r) own_d7_138 rfl rfl rfl ?_
  refine own_iloadN X 140 (4 : Int32) own_d7_139 rfl rfl ?_
  refine own_iloadN X 141 pa own_d7_140 rfl rfl ?_
  refine own_iloadN X 142 pb own_d7_141 rfl rfl ?_
  refine own_aload X 144 (.ref sf) own_d7_142 rfl rfl rfl ?_
  refine own_bipush X 146 (9 : Int32) own_d7_144 rfl (by decide) ?_
  refine own_callS X 149 [(.ref r), (.int (4 : Int32)), (.int pa), (.int pb), (.ref sf), (.int (9 : Int32))] [] own_d7_146 rfl (hw _ (List.mem_of_getElem? (i := 59) rfl)) (hw _ (List.mem_of_getElem? (i := 60) rfl)) (hw _ (List.mem_of_getElem? (i := 3) rfl)) (hw _ (List.mem_of_getElem? (i := 61) rfl)) (by decide) (own_at_sf l Z a0 hw r (4 : Int32) pa pb sf (9 : Int32) kr [(.int (own_ob pa pb (0 : Int32))), (.int (own_ob pa pb (1 : Int32))), (.int (own_ob pa pb (2 : Int32))), (.int (own_ob pa pb (3 : Int32))), (.int 58), (.int 104), (.int 111), (.int 108), (.int 100), (.int 115)] 9 115 cs sv ks [(.int 58), (.int 104), (.int 111), (.int 108), (.int 100), (.int 115)] 5 115 fo h0 n0 X.sz Ar (show (9 : Int32) < (10 : Int32) by decide) (by decide) (by decide) (by decide) rfl OL z_cs hcs z_fo hfo Ea Fc Fv As (by decide) (by decide) (show (9 : Int32) - (4 : Int32) < (6 : Int32) by decide) rfl (by decide)) (fun _ _ q => Nat.le_of_eq (congrArg Array.size q.1.symm)) rfl own_pd11 rfl rfl rfl (by decide) (Nat.le_of_ble_eq_true rfl) (by decide) (by decide) ?_
  rintro v146 T h_ X ⟨eh_, rfl⟩
  rw [eh_] at X
  show own_Ends p e below _ (T.setTop (mkF m 149 #[.val (.ref r), .val (.int (4 : Int32)), .val (.int pa), .val (.int pb), .val (.ref sf)] [(.int (1 : Int32))]))
  refine own_ifN X 152 own_d7_149 rfl (XT.i0_eq_f (by decide)) ?_
  refine own_aloadN X 153 (.ref r) own_d7_152 rfl rfl rfl ?_
  refine own_iloadN X 154 (4 : Int32) own_d7_153 rfl rfl ?_
  refine own_iloadN X 155 pa own_d7_154 rfl rfl ?_
  refine own_iloadN X 156 pb own_d7_155 rfl rfl ?_
  refine own_aload X 158 (.ref sf) own_d7_156 rfl rfl rfl ?_
  refine own_bipush X 160 (10 : Int32) own_d7_158 rfl (by decide) ?_
  refine own_callS X 163 [(.ref r), (.int (4 : Int32)), (.int pa), (.int pb), (.ref sf), (.int (10 : Int32))] [] own_d7_160 rfl (hw _ (List.mem_of_getElem? (i := 59) rfl)) (hw _ (List.mem_of_getElem? (i := 60) rfl)) (hw _ (List.mem_of_getElem? (i := 3) rfl)) (hw _ (List.mem_of_getElem? (i := 61) rfl)) (by decide) (own_at_hi l Z a0 hw r (4 : Int32) pa pb sf (10 : Int32) kr [(.int (own_ob pa pb (0 : Int32))), (.int (own_ob pa pb (1 : Int32))), (.int (own_ob pa pb (2 : Int32))), (.int (own_ob pa pb (3 : Int32))), (.int 58), (.int 104), (.int 111), (.int 108), (.int 100), (.int 115)] h0 n0 X.sz Ar (show ¬ (10 : Int32) < (10 : Int32) by decide)) (fun _ _ q => Nat.le_of_eq (congrArg Array.size q.1.symm)) rfl own_pd11 rfl rfl rfl (by decide) (Nat.le_of_ble_eq_true rfl) (by decide) (by decide) ?_
  rintro v160 T h_ X ⟨eh_, rfl⟩
  rw [eh_] at X
  show own_Ends p e below _ (T.setTop (mkF m 163 #[.val (.ref r), .val (.int (4 : Int32)), .val (.int pa), .val (.int pb), .val (.ref sf)] [(.int (1 : Int32))]))
  refine own_ifN X 166 own_d7_163 rfl (XT.i0_eq_f (by decide)) ?_
  refine own_aloadN X 167 (.ref r) own_d7_166 rfl rfl rfl ?_
  refine own_iloadN X 168 (4 : Int32) own_d7_167 rfl rfl ?_
  refine own_iloadN X 169 pa own_d7_168 rfl rfl ?_
  refine own_iloadN X 170 pb own_d7_169 rfl rfl ?_
  refine own_aload X 172 (.ref sf) own_d7_170 rfl rfl rfl ?_
  refine own_bipush X 174 (11 : Int32) own_d7_172 rfl (by decide) ?_
  refine own_callS X 177 [(.ref r), (.int (4 : Int32)), (.int pa), (.int pb), (.ref sf), (.int (11 : Int32))] [] own_d7_174 rfl (hw _ (List.mem_of_getElem? (i := 59) rfl)) (hw _ (List.mem_of_getElem? (i := 60) rfl)) (hw _ (List.mem_of_getElem? (i := 3) rfl)) (hw _ (List.mem_of_getElem? (i := 61) rfl)) (by decide) (own_at_hi l Z a0 hw r (4 : Int32) pa pb sf (11 : Int32) kr [(.int (own_ob pa pb (0 : Int32))), (.int (own_ob pa pb (1 : Int32))), (.int (own_ob pa pb (2 : Int32))), (.int (own_ob pa pb (3 : Int32))), (.int 58), (.int 104), (.int 111), (.int 108), (.int 100), (.int 115)] h0 n0 X.sz Ar (show ¬ (11 : Int32) < (10 : Int32) by decide)) (fun _ _ q => Nat.le_of_eq (congrArg Array.size q.1.symm)) rfl own_pd11 rfl rfl rfl (by decide) (Nat.le_of_ble_eq_true rfl) (by decide) (by decide) ?_
  rintro v174 T h_ X ⟨eh_, rfl⟩
  rw [eh_] at X
  show own_Ends p e below _ (T.setTop (mkF m 177 #[.val (.ref r), .val (.int (4 : Int32)), .val (.int pa), .val (.int pb), .val (.ref sf)] [(.int (1 : Int32))]))
  refine own_ifN X 180 own_d7_177 rfl (XT.i0_eq_f (by decide)) ?_
  refine own_aloadN X 181 (.ref r) own_d7_180 rfl rfl rfl ?_
  refine own_iloadN X 182 (4 : Int32) own_d7_181 rfl rfl ?_
  refine own_iloadN X 183 pa own_d7_182 rfl rfl ?_
  refine own_iloadN X 184 pb own_d7_183 rfl rfl ?_
  refine own_aload X 186 (.ref sf) own_d7_184 rfl rfl rfl ?_
  refine own_bipush X 188 (12 : Int32) own_d7_186 rfl (by decide) ?_
  refine own_callS X 191 [(.ref r), (.int (4 : Int32)), (.int pa), (.int pb), (.ref sf), (.int (12 : Int32))] [] own_d7_188 rfl (hw _ (List.mem_of_getElem? (i := 59) rfl)) (hw _ (List.mem_of_getElem? (i := 60) rfl)) (hw _ (List.mem_of_getElem? (i := 3) rfl)) (hw _ (List.mem_of_getElem? (i := 61) rfl)) (by decide) (own_at_hi l Z a0 hw r (4 : Int32) pa pb sf (12 : Int32) kr [(.int (own_ob pa pb (0 : Int32))), (.int (own_ob pa pb (1 : Int32))), (.int (own_ob pa pb (2 : Int32))), (.int (own_ob pa pb (3 : Int32))), (.int 58), (.int 104), (.int 111), (.int 108), (.int 100), (.int 115)] h0 n0 X.sz Ar (show ¬ (12 : Int32) < (10 : Int32) by decide)) (fun _ _ q => Nat.le_of_eq (congrArg Array.size q.1.symm)) rfl own_pd11 rfl rfl rfl (by decide) (Nat.le_of_ble_eq_true rfl) (by decide) (by decide) ?_
  rintro v188 T h_ X ⟨eh_, rfl⟩
  rw [eh_] at X
  show own_Ends p e below _ (T.setTop (mkF m 191 #[.val (.ref r), .val (.int (4 : Int32)), .val (.int pa), .val (.int pb), .val (.ref sf)] [(.int (1 : Int32))]))
  refine own_ifN X 194 own_d7_191 rfl (XT.i0_eq_f (by decide)) ?_
  refine own_iconst X 195 (1 : Int32) own_d7_194 rfl rfl ?_
  refine own_goto X 199 own_d7_195 (by decide) (by decide) ?_
  exact own_retN X .boolean own_d7_199 rfl (by simp) (by decide) (by decide) (⟨rfl, rfl⟩)
set_option maxRecDepth 65536 in
set_option maxHeartbeats 40000000 in
theorem own_mt4_8 (l : Launch) (Z : State) (a0 : Array Value) (hw : ∀ d ∈ tables_1, d.before a0 Z = true) (r : Addr) (nn : Int32) (pa : Int32) (pb : Int32) (sf : Addr) (kr : ClassId) (cs : Int32) (sv : Addr) (ks : ClassId) (fo : Value) (h0 : Heap) (n0 : Nat) (hs0 : n0 ≤ h0.size) (Ar : own_A Z h0 r kr .byte [(.int (own_ob pa pb (0 : Int32))), (.int (own_ob pa pb (1 : Int32))), (.int (own_ob pa pb (2 : Int32))), (.int (own_ob pa pb (3 : Int32))), (.int 58), (.int 119), (.int 97), (.int 105), (.int 116), (.int 105), (.int 110), (.int 103)]) (OL : Old Z n0 h0) (z_cs : Sta Z Z.heap "java/lang/String" "COMPACT_STRINGS" "Z" (.int cs)) (hcs : ¬ cs = 0) (z_fo : Sta Z Z.heap "jdk/internal/util/Preconditions" "SIOOBE_FORMATTER" "Ljava/util/function/BiFunction;" fo) (hfo : fo.isRef = true) (Ea : Exa Z h0 sf "java/lang/String") (Fc : Fld Z h0 sf "java/lang/String" "coder" "B" (.int 0)) (Fv : Fld Z h0 sf "java/lang/String" "value" "[B" (.ref sv)) (As : own_A Z h0 sv ks .byte [(.int 58), (.int 119), (.int 97), (.int 105), (.int 116), (.int 105), (.int 110), (.int 103)]) (hn : nn = 4) :
    own_Met l (⟨"com/example/latchkey/latchkey/LockKeysHolderFieldsPinLaw", "matches", "([BIIILjava/lang/String;)Z"⟩ : MethodName) method_6_code 5 (some .boolean) ({ frames := 5, cells := 0, slots := 0, locals := 71 } : Room) Z #[(.ref r), (.int nn), (.int pa), (.int pb), (.ref sf)] h0 n0 (fun v h' => h' = h0 ∧ v = some (.int (1 : Int32))) := by
  refine own_met (Ls := #[.val (.ref r), .val (.int nn), .val (.int pa), .val (.int pb), .val (.ref sf)]) own_pn7 hs0 (fun m => by first  | (simp [entryFrame, mkF, argsToLocals, Value.category]; done) | rfl) ?_
  intro p e s m below meth c T X
  have hi_r : h0.size > r := Ar.lt
  have hi_sv : h0.size > sv := As.lt
  have hi_sf : h0.size > sf := Ea.lt
  subst hn
  refine own_aloadN X 1 (.ref r) own_d7_0 rfl rfl rfl ?_
  refine own_nullN X 4 own_d7_1 rfl ?_
  refine own_aloadN X 5 (.ref r) own_d7_4 rfl rfl rfl ?_
  refine own_len X 6 (12 : Int32) own_d7_5 rfl Ar rfl ?_
  refine own_iloadN X 7 (4 : Int32) own_d7_6 rfl rfl ?_
  refine own_aload X 9 (.ref sf) own_d7_7 rfl rfl rfl ?_
  refine own_callV X 12 [] [(.int (4 : Int32)), (.int (12 : Int32))] own_d7_9 rfl (hw _ (List.mem_of_getElem? (i := 46) rfl)) (hw _ (List.mem_of_getElem? (i := 47) rfl)) (own_nf X.2.2.2.2.1 (hw _ (List.mem_of_getElem? (i := 49) rfl))) (hw _ (List.mem_of_getElem? (i := 49) rfl)) (hw _ (List.mem_of_getElem? (i := 48) rfl)) (hw _ (List.mem_of_getElem? (i := 37) rfl)) (hw _ (List.mem_of_getElem? (i := 50) rfl)) (by decide) Ea (own_sl8 l Z a0 hw sf cs sv ks h0 n0 X.sz OL z_cs hcs Ea Fc Fv As) (fun _ _ q => Nat.le_of_eq (congrArg Array.size q.1.symm)) rfl own_pd10 rfl rfl rfl (by decide) (Nat.le_of_ble_eq_true rfl) (by decide) (by decide) ?_
  rintro v9 T h_ X ⟨eh_, rfl⟩
  rw [eh_] at X
  show own_Ends p e below _ (T.setTop (mkF m 12 #[.val (.ref r), .val (.int (4 : Int32)), .val (.int pa), .val (.int pb), .val (.ref sf)] [(.int (8 : Int32)), (.int (4 : Int32)), (.int (12 : Int32))]))
  refine own_iadd X 13 own_d7_12 rfl ?_
  refine own_icY X 18 own_d7_13 (by decide) (by decide) (XT.ii_eq_t (by decide)) ?_
  refine own_aloadN X 19 (.ref r) own_d7_18 rfl rfl rfl ?_
  refine own_iloadN X 20 (4 : Int32) own_d7_19 rfl rfl ?_
  refine own_iloadN X 21 pa own_d7_20 rfl rfl ?_
  refine own_iloadN X 22 pb own_d7_21 rfl rfl ?_
  refine own_aload X 24 (.ref sf) own_d7_22 rfl rfl rfl ?_
  refine own_iconst X 25 (0 : Int32) own_d7_24 rfl rfl ?_
  refine own_callS X 28 [(.ref r), (.int (4 : Int32)), (.int pa), (.int pb), (.ref sf), (.int (0 : Int32))] [] own_d7_25 rfl (hw _ (List.mem_of_getElem? (i := 59) rfl)) (hw _ (List.mem_of_getElem? (i := 60) rfl)) (hw _ (List.mem_of_getElem? (i := 3) rfl)) (hw _ (List.mem_of_getElem? (i := 61) rfl)) (by decide) (own_at_ob l Z a0 hw r (4 : Int32) pa pb sf (0 : Int32) kr [(.int (own_ob pa pb (0 : Int32))), (.int (own_ob pa pb (1 : Int32))), (.int (own_ob pa pb (2 : Int32))), (.int (own_ob pa pb (3 : Int32))), (.int 58), (.int 119), (.int 97), (.int 105), (.int 116), (.int 105), (.int 110), (.int 103)] 0 h0 n0 X.sz Ar (show (0 : Int32) < (12 : Int32) by decide) (by decide) (by decide) (by decide) rfl) (fun _ _ q => Nat.le_of_eq (congrArg Array.size q.1.symm)) rfl own_pd11 rfl rfl rfl (by decide) (Nat.le_of_ble_eq_true rfl) (by decide) (by decide) ?_
  rintro v25 T h_ X ⟨eh_, rfl⟩
  rw [eh_] at X
  show own_Ends p e below _ (T.setTop (mkF m 28 #[.val (.ref r), .val (.int (4 : Int32)), .val (.int pa), .val (.int pb), .val (.ref sf)] [(.int (1 : Int32))]))
  refine own_ifN X 31 own_d7_28 rfl (XT.i0_eq_f (by decide)) ?_
  refine own_aloadN X 32 (.ref r) own_d7_31 rfl rfl rfl ?_
  refine own_iloadN X 33 (4 : Int32) own_d7_32 rfl rfl ?_
  refine own_iloadN X 34 pa own_d7_33 rfl rfl ?_
  refine own_iloadN X 35 pb own_d7_34 rfl rfl ?_
  refine own_aload X 37 (.ref sf) own_d7_35 rfl rfl rfl ?_
  refine own_iconst X 38 (1 : Int32) own_d7_37 rfl rfl ?_
  refine own_callS X 41 [(.ref r), (.int (4 : Int32)), (.int pa), (.int pb), (.ref sf), (.int (1 : Int32))] [] own_d7_38 rfl (hw _ (List.mem_of_getElem? (i := 59) rfl)) (hw _ (List.mem_of_getElem? (i := 60) rfl)) (hw _ (List.mem_of_getElem? (i := 3) rfl)) (hw _ (List.mem_of_getElem? (i := 61) rfl)) (by decide) (own_at_ob l Z a0 hw r (4 : Int32) pa pb sf (1 : Int32) kr [(.int (own_ob pa pb (0 : Int32))), (.int (own_ob pa pb (1 : Int32))), (.int (own_ob pa pb (2 : Int32))), (.int (own_ob pa pb (3 : Int32))), (.int 58), (.int 119), (.int 97), (.int 105), (.int 116), (.int 105), (.int 110), (.int 103)] 1 h0 n0 X.sz Ar (show (1 : Int32) < (12 : Int32) by decide) (by decide) (by decide) (by decide) rfl) (fun _ _ q => Nat.le_of_eq (congrArg Array.size q.1.symm)) rfl own_pd11 rfl rfl rfl (by decide) (Nat.le_of_ble_eq_true rfl) (by decide) (by decide) ?_
  rintro v38 T h_ X ⟨eh_, rfl⟩
  rw [eh_] at X
  show own_Ends p e below _ (T.setTop (mkF m 41 #[.val (.ref r), .val (.int (4 : Int32)), .val (.int pa), .val (.int pb), .val (.ref sf)] [(.int (1 : Int32))]))
  refine own_ifN X 44 own_d7_41 rfl (XT.i0_eq_f (by decide)) ?_
  refine own_aloadN X 45 (.ref r) own_d7_44 rfl rfl rfl ?_
  refine own_iloadN X 46 (4 : Int32) own_d7_45 rfl rfl ?_
  refine own_iloadN X 47 pa own_d7_46 rfl rfl ?_
  refine own_iloadN X 48 pb own_d7_47 rfl rfl ?_
  refine own_aload X 50 (.ref sf) own_d7_48 rfl rfl rfl ?_
  refine own_iconst X 51 (2 : Int32) own_d7_50 rfl rfl ?_
  refine own_callS X 54 [(.ref r), (.int (4 : Int32)), (.int pa), (.int pb), (.ref sf), (.int (2 : Int32))] [] own_d7_51 rfl (hw _ (List.mem_of_getElem? (i := 59) rfl)) (hw _ (List.mem_of_getElem? (i := 60) rfl)) (hw _ (List.mem_of_getElem? (i := 3) rfl)) (hw _ (List.mem_of_getElem? (i := 61) rfl)) (by decide) (own_at_ob l Z a0 hw r (4 : Int32) pa pb sf (2 : Int32) kr [(.int (own_ob pa pb (0 : Int32))), (.int (own_ob pa pb (1 : Int32))), (.int (own_ob pa pb (2 : Int32))), (.int (own_ob pa pb (3 : Int32))), (.int 58), (.int 119), (.int 97), (.int 105), (.int 116), (.int 105), (.int 110), (.int 103)] 2 h0 n0 X.sz Ar (show (2 : Int32) < (12 : Int32) by decide) (by decide) (by decide) (by decide) rfl) (fun _ _ q => Nat.le_of_eq (congrArg Array.size q.1.symm)) rfl own_pd11 rfl rfl rfl (by decide) (Nat.le_of_ble_eq_true rfl) (by decide) (by decide) ?_
  rintro v51 T h_ X ⟨eh_, rfl⟩
  rw [eh_] at X
  show own_Ends p e below _ (T.setTop (mkF m 54 #[.val (.ref r), .val (.int (4 : Int32)), .val (.int pa), .val (.int pb), .val (.ref sf)] [(.int (1 : Int32))]))
  refine own_ifN X 57 own_d7_54 rfl (XT.i0_eq_f (by decide)) ?_
  refine own_aloadN X 58 (.ref r) own_d7_57 rfl rfl rfl ?_
  refine own_iloadN X 59 (4 : Int32) own_d7_58 rfl rfl ?_
  refine own_iloadN X 60 pa own_d7_59 rfl rfl ?_
  refine own_iloadN X 61 pb own_d7_60 rfl rfl ?_
  refine own_aload X 63 (.ref sf) own_d7_61 rfl rfl rfl ?_
  refine own_iconst X 64 (3 : Int32) own_d7_63 rfl rfl ?_
  refine own_callS X 67 [(.ref r), (.int (4 : Int32)), (.int pa), (.int pb), (.ref sf), (.int (3 : Int32))] [] own_d7_64 rfl (hw _ (List.mem_of_getElem? (i := 59) rfl)) (hw _ (List.mem_of_getElem? (i := 60) rfl)) (hw _ (List.mem_of_getElem? (i := 3) rfl)) (hw _ (List.mem_of_getElem? (i := 61) rfl)) (by decide) (own_at_ob l Z a0 hw r (4 : Int32) pa pb sf (3 : Int32) kr [(.int (own_ob pa pb (0 : Int32))), (.int (own_ob pa pb (1 : Int32))), (.int (own_ob pa pb (2 : Int32))), (.int (own_ob pa pb (3 : Int32))), (.int 58), (.int 119), (.int 97), (.int 105), (.int 116), (.int 105), (.int 110), (.int 103)] 3 h0 n0 X.sz Ar (show (3 : Int32) < (12 : Int32) by decide) (by decide) (by decide) (by decide) rfl) (fun _ _ q => Nat.le_of_eq (congrArg Array.size q.1.symm)) rfl own_pd11 rfl rfl rfl (by decide) (Nat.le_of_ble_eq_true rfl) (by decide) (by decide) ?_
  rintro v64 T h_ X ⟨eh_, rfl⟩
  rw [eh_] at X
  show own_Ends p e below _ (T.setTop (mkF m 67 #[.val (.ref r), .val (.int (4 : Int32)), .val (.int pa), .val (.int pb), .val (.ref sf)] [(.int (1 : Int32))]))
  refine own_ifN X 70 own_d7_67 rfl (XT.i0_eq_f (by decide)) ?_
  refine own_aloadN X 71 (.ref r) own_d7_70 rfl rfl rfl ?_
  refine own_iloadN X 72 (4 : Int32) own_d7_71 rfl rfl ?_
  refine own_iloadN X 73 pa own_d7_72 rfl rfl ?_
  refine own_iloadN X 74 pb own_d7_73 rfl rfl ?_
  refine own_aload X 76 (.ref sf) own_d7_74 rfl rfl rfl ?_
  refine own_iconst X 77 (4 : Int32) own_d7_76 rfl rfl ?_
  refine own_callS X 80 [(.ref r), (.int (4 : Int32)), (.int pa), (.int pb), (.ref sf), (.int (4 : Int32))] [] own_d7_77 rfl (hw _ (List.mem_of_getElem? (i := 59) rfl)) (hw _ (List.mem_of_getElem? (i := 60) rfl)) (hw _ (List.mem_of_getElem? (i := 3) rfl)) (hw _ (List.mem_of_getElem? (i := 61) rfl)) (by decide) (own_at_sf l Z a0 hw r (4 : Int32) pa pb sf (4 : Int32) kr [(.int (own_ob pa pb (0 : Int32))), (.int (own_ob pa pb (1 : Int32))), (.int (own_ob pa pb (2 : Int32))), (.int (own_ob pa pb (3 : Int32))), (.int 58), (.int 119), (.int 97), (.int 105), (.int 116), (.int 105), (.int 110), (.int 103)] 4 58 cs sv ks [(.int 58), (.int 119), (.int 97), (.int 105), (.int 116), (.int 105), (.int 110), (.int 103)] 0 58 fo h0 n0 X.sz Ar (show (4 : Int32) < (12 : Int32) by decide) (by decide) (by decide) (by decide) rfl OL z_cs hcs z_fo hfo Ea Fc Fv As (by decide) (by decide) (show (4 : Int32) - (4 : Int32) < (8 : Int32) by decide) rfl (by decide)) (fun _ _ q => Nat.le_of_eq (congrArg Array.size q.1.symm)) rfl own_pd11 rfl rfl rfl (by decide) (Nat.le_of_ble_eq_true rfl) (by decide) (by decide) ?_
  rintro v77 T h_ X ⟨eh_, rfl⟩
  rw [eh_] at X
  show own_Ends p e below _ (T.setTop (mkF m 80 #[.val (.ref r), .val (.int (4 : Int32)), .val (.int pa), .val (.int pb), .val (.ref sf)] [(.int (1 : Int32))]))
  refine own_ifN X 83 own_d7_80 rfl (XT.i0_eq_f (by decide)) ?_
  refine own_aloadN X 84 (.ref r) own_d7_83 rfl rfl rfl ?_
  refine own_iloadN X 85 (4 : Int32) own_d7_84 rfl rfl ?_
  refine own_iloadN X 86 pa own_d7_85 rfl rfl ?_
  refine own_iloadN X 87 pb own_d7_86 rfl rfl ?_
  refine own_aload X 89 (.ref sf) own_d7_87 rfl rfl rfl ?_
  refine own_iconst X 90 (5 : Int32) own_d7_89 rfl rfl ?_
  refine own_callS X 93 [(.ref r), (.int (4 : Int32)), (.int pa), (.int pb), (.ref sf), (.int (5 : Int32))] [] own_d7_90 rfl (hw _ (List.mem_of_getElem? (i := 59) rfl)) (hw _ (List.mem_of_getElem? (i := 60) rfl)) (hw _ (List.mem_of_getElem? (i := 3) rfl)) (hw _ (List.mem_of_getElem? (i := 61) rfl)) (by decide) (own_at_sf l Z a0 hw r (4 : Int32) pa pb sf (5 : Int32) kr [(.int (own_ob pa pb (0 : Int32))), (.int (own_ob pa pb (1 : Int32))), (.int (own_ob pa pb (2 : Int32))), (.int (own_ob pa pb (3 : Int32))), (.int 58), (.int 119), (.int 97), (.int 105), (.int 116), (.int 105), (.int 110), (.int 103)] 5 119 cs sv ks [(.int 58), (.int 119), (.int 97), (.int 105), (.int 116), (.int 105), (.int 110), (.int 103)] 1 119 fo h0 n0 X.sz Ar (show (5 : Int32) < (12 : Int32) by decide) (by decide) (by decide) (by decide) rfl OL z_cs hcs z_fo hfo Ea Fc Fv As (by decide) (by decide) (show (5 : Int32) - (4 : Int32) < (8 : Int32) by decide) rfl (by decide)) (fun _ _ q => Nat.le_of_eq (congrArg Array.size q.1.symm)) rfl own_pd11 rfl rfl rfl (by decide) (Nat.le_of_ble_eq_true rfl) (by decide) (by decide) ?_
  rintro v90 T h_ X ⟨eh_, rfl⟩
  rw [eh_] at X
  show own_Ends p e below _ (T.setTop (mkF m 93 #[.val (.ref r), .val (.int (4 : Int32)), .val (.int pa), .val (.int pb), .val (.ref sf)] [(.int (1 : Int32))]))
  refine own_ifN X 96 own_d7_93 rfl (XT.i0_eq_f (by decide)) ?_
  refine own_aloadN X 97 (.ref r) own_d7_96 rfl rfl rfl ?_
  refine own_iloadN X 98 (4 : Int32) own_d7_97 rfl rfl ?_
  refine own_iloadN X 99 pa own_d7_98 rfl rfl ?_
  refine own_iloadN X 100 pb own_d7_99 rfl rfl ?_
  refine own_aload X 102 (.ref sf) own_d7_100 rfl rfl rfl ?_
  refine own_bipush X 104 (6 : Int32) own_d7_102 rfl (by decide) ?_
  refine own_callS X 107 [(.ref r), (.int (4 : Int32)), (.int pa), (.int pb), (.ref sf), (.int (6 : Int32))] [] own_d7_104 rfl (hw _ (List.mem_of_getElem? (i := 59) rfl)) (hw _ (List.mem_of_getElem? (i := 60) rfl)) (hw _ (List.mem_of_getElem? (i := 3) rfl)) (hw _ (List.mem_of_getElem? (i := 61) rfl)) (by decide) (own_at_sf l Z a0 hw r (4 : Int32) pa pb sf (6 : Int32) kr [(.int (own_ob pa pb (0 : Int32))), (.int (own_ob pa pb (1 : Int32))), (.int (own_ob pa pb (2 : Int32))), (.int (own_ob pa pb (3 : Int32))), (.int 58), (.int 119), (.int 97), (.int 105), (.int 116), (.int 105), (.int 110), (.int 103)] 6 97 cs sv ks [(.int 58), (.int 119), (.int 97), (.int 105), (.int 116), (.int 105), (.int 110), (.int 103)] 2 97 fo h0 n0 X.sz Ar (show (6 : Int32) < (12 : Int32) by decide) (by decide) (by decide) (by decide) rfl OL z_cs hcs z_fo hfo Ea Fc Fv As (by decide) (by decide) (show (6 : Int32) - (4 : Int32) < (8 : Int32) by decide) rfl (by decide)) (fun _ _ q => Nat.le_of_eq (congrArg Array.size q.1.symm)) rfl own_pd11 rfl rfl rfl (by decide) (Nat.le_of_ble_eq_true rfl) (by decide) (by decide) ?_
  rintro v104 T h_ X ⟨eh_, rfl⟩
  rw [eh_] at X
  show own_Ends p e below _ (T.setTop (mkF m 107 #[.val (.ref r), .val (.int (4 : Int32)), .val (.int pa), .val (.int pb), .val (.ref sf)] [(.int (1 : Int32))]))
  refine own_ifN X 110 own_d7_107 rfl (XT.i0_eq_f (by decide)) ?_
  refine own_aloadN X 111 (.ref r) own_d7_110 rfl rfl rfl ?_
  refine own_iloadN X 112 (4 : Int32) own_d7_111 rfl rfl ?_
  refine own_iloadN X 113 pa own_d7_112 rfl rfl ?_
  refine own_iloadN X 114 pb own_d7_113 rfl rfl ?_
  refine own_aload X 116 (.ref sf) own_d7_114 rfl rfl rfl ?_
  refine own_bipush X 118 (7 : Int32) own_d7_116 rfl (by decide) ?_
  refine own_callS X 121 [(.ref r), (.int (4 : Int32)), (.int pa), (.int pb), (.ref sf), (.int (7 : Int32))] [] own_d7_118 rfl (hw _ (List.mem_of_getElem? (i := 59) rfl)) (hw _ (List.mem_of_getElem? (i := 60) rfl)) (hw _ (List.mem_of_getElem? (i := 3) rfl)) (hw _ (List.mem_of_getElem? (i := 61) rfl)) (by decide) (own_at_sf l Z a0 hw r (4 : Int32) pa pb sf (7 : Int32) kr [(.int (own_ob pa pb (0 : Int32))), (.int (own_ob pa pb (1 : Int32))), (.int (own_ob pa pb (2 : Int32))), (.int (own_ob pa pb (3 : Int32))), (.int 58), (.int 119), (.int 97), (.int 105), (.int 116), (.int 105), (.int 110), (.int 103)] 7 105 cs sv ks [(.int 58), (.int 119), (.int 97), (.int 105), (.int 116), (.int 105), (.int 110), (.int 103)] 3 105 fo h0 n0 X.sz Ar (show (7 : Int32) < (12 : Int32) by decide) (by decide) (by decide) (by decide) rfl OL z_cs hcs z_fo hfo Ea Fc Fv As (by decide) (by decide) (show (7 : Int32) - (4 : Int32) < (8 : Int32) by decide) rfl (by decide)) (fun _ _ q => Nat.le_of_eq (congrArg Array.size q.1.symm)) rfl own_pd11 rfl rfl rfl (by decide) (Nat.le_of_ble_eq_true rfl) (by decide) (by decide) ?_
  rintro v118 T h_ X ⟨eh_, rfl⟩
  rw [eh_] at X
  show own_Ends p e below _ (T.setTop (mkF m 121 #[.val (.ref r), .val (.int (4 : Int32)), .val (.int pa), .val (.int pb), .val (.ref sf)] [(.int (1 : Int32))]))
  refine own_ifN X 124 own_d7_121 rfl (XT.i0_eq_f (by decide)) ?_
  refine own_aloadN X 125 (.ref r) own_d7_124 rfl rfl rfl ?_
  refine own_iloadN X 126 (4 : Int32) own_d7_125 rfl rfl ?_
  refine own_iloadN X 127 pa own_d7_126 rfl rfl ?_
  refine own_iloadN X 128 pb own_d7_127 rfl rfl ?_
  refine own_aload X 130 (.ref sf) own_d7_128 rfl rfl rfl ?_
  refine own_bipush X 132 (8 : Int32) own_d7_130 rfl (by decide) ?_
  refine own_callS X 135 [(.ref r), (.int (4 : Int32)), (.int pa), (.int pb), (.ref sf), (.int (8 : Int32))] [] own_d7_132 rfl (hw _ (List.mem_of_getElem? (i := 59) rfl)) (hw _ (List.mem_of_getElem? (i := 60) rfl)) (hw _ (List.mem_of_getElem? (i := 3) rfl)) (hw _ (List.mem_of_getElem? (i := 61) rfl)) (by decide) (own_at_sf l Z a0 hw r (4 : Int32) pa pb sf (8 : Int32) kr [(.int (own_ob pa pb (0 : Int32))), (.int (own_ob pa pb (1 : Int32))), (.int (own_ob pa pb (2 : Int32))), (.int (own_ob pa pb (3 : Int32))), (.int 58), (.int 119), (.int 97), (.int 105), (.int 116), (.int 105), (.int 110), (.int 103)] 8 116 cs sv ks [(.int 58), (.int 119), (.int 97), (.int 105), (.int 116), (.int 105), (.int 110), (.int 103)] 4 116 fo h0 n0 X.sz Ar (show (8 : Int32) < (12 : Int32) by decide) (by decide) (by decide) (by decide) rfl OL z_cs hcs z_fo hfo Ea Fc Fv As (by decide) (by decide) (show (8 : Int32) - (4 : Int32) < (8 : Int32) by decide) rfl (by decide)) (fun _ _ q => Nat.le_of_eq (congrArg Array.size q.1.symm)) rfl own_pd11 rfl rfl rfl (by decide) (Nat.le_of_ble_eq_true rfl) (by decide) (by decide) ?_
  rintro v132 T h_ X ⟨eh_, rfl⟩
  rw [eh_] at X
  show own_Ends p e below _ (T.setTop (mkF m 135 #[.val (.ref r), .val (.int (4 : Int32)), .val (.int pa), .val (.int pb), .val (.ref sf)] [(.int (1 : Int32))]))
  refine own_ifN X 138 own_d7_135 rfl (XT.i0_eq_f (by decide)) ?_
  refine own_aloadN X 139 (.ref r) own_d7_138 rfl rfl rfl ?_
  refine own_iloadN X 140 (4 : Int32) own_d7_139 rfl rfl ?_
  refine own_iloadN X 141 pa own_d7_140 rfl rfl ?_
  refine own_iloadN X 142 pb own_d7_141 rfl rfl ?_
  refine own_aload X 144 (.ref sf) own_d7_142 rfl rfl rfl ?_
  refine own_bipush X 146 (9 : Int32) own_d7_144 rfl (by decide) ?_
  refine own_callS X 149 [(.ref r), (.int (4 : Int32)), (.int pa), (.int pb), (.ref sf), (.int (9 : Int32))] [] own_d7_146 rfl (hw _ (List.mem_of_getElem? (i := 59) rfl)) (hw _ (List.mem_of_getElem? (i := 60) rfl)) (hw _ (List.mem_of_getElem? (i := 3) rfl)) (hw _ (List.mem_of_getElem? (i := 61) rfl)) (by decide) (own_at_sf l Z a0 hw r (4 : Int32) pa pb sf (9 : Int32) kr [(.int (own_ob pa pb (0 : Int32))), (.int (own_ob pa pb (1 : Int32))), (.int (own_ob pa pb (2 : Int32))), (.int (own_ob pa pb (3 : Int32))), (.int 58), (.int 119), (.int 97), (.int 105), (.int 116), (.int 105), (.int 110), (.int 103)] 9 105 cs sv ks [(.int 58), (.int 119), (.int 97), (.int 105), (.int 116), (.int 105), (.int 110), (.int 103)] 5 105 fo h0 n0 X.sz Ar (show (9 : Int32) < (12 : Int32) by decide) (by decide) (by decide) (by decide) rfl OL z_cs hcs z_fo hfo Ea Fc Fv As (by decide) (by decide) (show (9 : Int32) - (4 : Int32) < (8 : Int32) by decide) rfl (by decide)) (fun _ _ q => Nat.le_of_eq (congrArg Array.size q.1.symm)) rfl own_pd11 rfl rfl rfl (by decide) (Nat.le_of_ble_eq_true rfl) (by decide) (by decide) ?_
  rintro v146 T h_ X ⟨eh_, rfl⟩
  rw [eh_] at X
  show own_Ends p e below _ (T.setTop (mkF m 149 #[.val (.ref r), .val (.int (4 : Int32)), .val (.int pa), .val (.int pb), .val (.ref sf)] [(.int (1 : Int32))]))
  refine own_ifN X 152 own_d7_149 rfl (XT.i0_eq_f (by decide)) ?_
  refine own_aloadN X 153 (.ref r) own_d7_152 rfl rfl rfl ?_
  refine own_iloadN X 154 (4 : Int32) own_d7_153 rfl rfl ?_
  refine own_iloadN X 155 pa own_d7_154 rfl rfl ?_
  refine own_iloadN X 156 pb own_d7_155 rfl rfl ?_
  refine own_aload X 158 (.ref sf) own_d7_156 rfl rfl rfl ?_
  refine own_bipush X 160 (10 : Int32) own_d7_158 rfl (by decide) ?_
  refine own_callS X 163 [(.ref r), (.int (4 : Int32)), (.int pa), (.int pb), (.ref sf), (.int (10 : Int32))] [] own_d7_160 rfl (hw _ (List.mem_of_getElem? (i := 59) rfl)) (hw _ (List.mem_of_getElem? (i := 60) rfl)) (hw _ (List.mem_of_getElem? (i := 3) rfl)) (hw _ (List.mem_of_getElem? (i := 61) rfl)) (by decide) (own_at_sf l Z a0 hw r (4 : Int32) pa pb sf (10 : Int32) kr [(.int (own_ob pa pb (0 : Int32))), (.int (own_ob pa pb (1 : Int32))), (.int (own_ob pa pb (2 : Int32))), (.int (own_ob pa pb (3 : Int32))), (.int 58), (.int 119), (.int 97), (.int 105), (.int 116), (.int 105), (.int 110), (.int 103)] 10 110 cs sv ks [(.int 58), (.int 119), (.int 97), (.int 105), (.int 116), (.int 105), (.int 110), (.int 103)] 6 110 fo h0 n0 X.sz Ar (show (10 : Int32) < (12 : Int32) by decide) (by decide) (by decide) (by decide) rfl OL z_cs hcs z_fo hfo Ea Fc Fv As (by decide) (by decide) (show (10 : Int32) - (4 : Int32) < (8 : Int32) by decide) rfl (by decide)) (fun _ _ q => Nat.le_of_eq (congrArg Array.size q.1.symm)) rfl own_pd11 rfl rfl rfl (by decide) (Nat.le_of_ble_eq_true rfl) (by decide) (by decide) ?_
  rintro v160 T h_ X ⟨eh_, rfl⟩
  rw [eh_] at X
  show own_Ends p e below _ (T.setTop (mkF m 163 #[.val (.ref r), .val (.int (4 : Int32)), .val (.int pa), .val (.int pb), .val (.ref sf)] [(.int (1 : Int32))]))
  refine own_ifN X 166 own_d7_163 rfl (XT.i0_eq_f (by decide)) ?_
  refine own_aloadN X 167 (.ref r) own_d7_166 rfl rfl rfl ?_
  refine own_iloadN X 168 (4 : Int32) own_d7_167 rfl rfl ?_
  refine own_iloadN X 169 pa own_d7_168 rfl rfl ?_
  refine own_iloadN X 170 pb own_d7_169 rfl rfl ?_
  refine own_aload X 172 (.ref sf) own_d7_170 rfl rfl rfl ?_
  refine own_bipush X 174 (11 : Int32) own_d7_172 rfl (by decide) ?_
  refine own_callS X 177 [(.ref r), (.int (4 : Int32)), (.int pa), (.int pb), (.ref sf), (.int (11 : Int32))] [] own_d7_174 rfl (hw _ (List.mem_of_getElem? (i := 59) rfl)) (hw _ (List.mem_of_getElem? (i := 60) rfl)) (hw _ (List.mem_of_getElem? (i := 3) rfl)) (hw _ (List.mem_of_getElem? (i := 61) rfl)) (by decide) (own_at_sf l Z a0 hw r (4 : Int32) pa pb sf (11 : Int32) kr [(.int (own_ob pa pb (0 : Int32))), (.int (own_ob pa pb (1 : Int32))), (.int (own_ob pa pb (2 : Int32))), (.int (own_ob pa pb (3 : Int32))), (.int 58), (.int 119), (.int 97), (.int 105), (.int 116), (.int 105), (.int 110), (.int 103)] 11 103 cs sv ks [(.int 58), (.int 119), (.int 97), (.int 105), (.int 116), (.int 105), (.int 110), (.int 103)] 7 103 fo h0 n0 X.sz Ar (show (11 : Int32) < (12 : Int32) by decide) (by decide) (by decide) (by decide) rfl OL z_cs hcs z_fo hfo Ea Fc Fv As (by decide) (by decide) (show (11 : Int32) - (4 : Int32) < (8 : Int32) by decide) rfl (by decide)) (fun _ _ q => Nat.le_of_eq (congrArg Array.size q.1.symm)) rfl own_pd11 rfl rfl rfl (by decide) (Nat.le_of_ble_eq_true rfl) (by decide) (by decide) ?_
  rintro v174 T h_ X ⟨eh_, rfl⟩
  rw [eh_] at X
  show own_Ends p e below _ (T.setTop (mkF m 177 #[.val (.ref r), .val (.int (4 : Int32)), .val (.int pa), .val (.int pb), .val (.ref sf)] [(.int (1 : Int32))]))
  refine own_ifN X 180 own_d7_177 rfl (XT.i0_eq_f (by decide)) ?_
  refine own_aloadN X 181 (.ref r) own_d7_180 rfl rfl rfl ?_
  refine own_iloadN X 182 (4 : Int32) own_d7_181 rfl rfl ?_
  refine own_iloadN X 183 pa own_d7_182 rfl rfl ?_
  refine own_iloadN X 184 pb own_d7_183 rfl rfl ?_
  refine own_aload X 186 (.ref sf) own_d7_184 rfl rfl rfl ?_
  refine own_bipush X 188 (12 : Int32) own_d7_186 rfl (by decide) ?_
  refine own_callS X 191 [(.ref r), (.int (4 : Int32)), (.int pa), (.int pb), (.ref sf), (.int (12 : Int32))] [] own_d7_188 rfl (hw _ (List.mem_of_getElem? (i := 59) rfl)) (hw _ (List.mem_of_getElem? (i := 60) rfl)) (hw _ (List.mem_of_getElem? (i := 3) rfl)) (hw _ (List.mem_of_getElem? (i := 61) rfl)) (by decide) (own_at_hi l Z a0 hw r (4 : Int32) pa pb sf (12 : Int32) kr [(.int (own_ob pa pb (0 : Int32))), (.int (own_ob pa pb (1 : Int32))), (.int (own_ob pa pb (2 : Int32))), (.int (own_ob pa pb (3 : Int32))), (.int 58), (.int 119), (.int 97), (.int 105), (.int 116), (.int 105), (.int 110), (.int 103)] h0 n0 X.sz Ar (show ¬ (12 : Int32) < (12 : Int32) by decide)) (fun _ _ q => Nat.le_of_eq (congrArg Array.size q.1.symm)) rfl own_pd11 rfl rfl rfl (by decide) (Nat.le_of_ble_eq_true rfl) (by decide) (by decide) ?_
  rintro v188 T h_ X ⟨eh_, rfl⟩
  rw [eh_] at X
  show own_Ends p e below _ (T.setTop (mkF m 191 #[.val (.ref r), .val (.int (4 : Int32)), .val (.int pa), .val (.int pb), .val (.ref sf)] [(.int (1 : Int32))]))
  refine own_ifN X 194 own_d7_191 rfl (XT.i0_eq_f (by decide)) ?_
  refine own_iconst X 195 (1 : Int32) own_d7_194 rfl rfl ?_
  refine own_goto X 199 own_d7_195 (by decide) (by decide) ?_
  exact own_retN X .boolean own_d7_199 rfl (by simp) (by decide) (by decide) (⟨rfl, rfl⟩)
set_option maxRecDepth 65536 in
set_option maxHeartbeats 40000000 in
theorem own_mt5_0 (l : Launch) (Z : State) (a0 : Array Value) (hw : ∀ d ∈ tables_1, d.before a0 Z = true) (r : Addr) (nn : Int32) (pa : Int32) (pb : Int32) (sf : Addr) (kr : ClassId) (cs : Int32) (sv : Addr) (ks : ClassId) (fo : Value) (h0 : Heap) (n0 : Nat) (hs0 : n0 ≤ h0.size) (Ar : own_A Z h0 r kr .byte [(.int (own_ob pa pb (0 : Int32))), (.int (own_ob pa pb (1 : Int32))), (.int (own_ob pa pb (2 : Int32))), (.int (own_ob pa pb (3 : Int32))), (.int (own_ob pa pb (4 : Int32)))]) (OL : Old Z n0 h0) (z_cs : Sta Z Z.heap "java/lang/String" "COMPACT_STRINGS" "Z" (.int cs)) (hcs : ¬ cs = 0) (z_fo : Sta Z Z.heap "jdk/internal/util/Preconditions" "SIOOBE_FORMATTER" "Ljava/util/function/BiFunction;" fo) (hfo : fo.isRef = true) (Ea : Exa Z h0 sf "java/lang/String") (Fc : Fld Z h0 sf "java/lang/String" "coder" "B" (.int 0)) (Fv : Fld Z h0 sf "java/lang/String" "value" "[B" (.ref sv)) (As : own_A Z h0 sv ks .byte []) (hn : nn = 5) :
    own_Met l (⟨"com/example/latchkey/latchkey/LockKeysHolderFieldsPinLaw", "matches", "([BIIILjava/lang/String;)Z"⟩ : MethodName) method_6_code 5 (some .boolean) ({ frames := 2, cells := 0, slots := 0, locals := 32 } : Room) Z #[(.ref r), (.int nn), (.int pa), (.int pb), (.ref sf)] h0 n0 (fun v h' => h' = h0 ∧ v = some (.int (1 : Int32))) := by
  refine own_met (Ls := #[.val (.ref r), .val (.int nn), .val (.int pa), .val (.int pb), .val (.ref sf)]) own_pn7 hs0 (fun m => by first  | (simp [entryFrame, mkF, argsToLocals, Value.category]; done) | rfl) ?_
  intro p e s m below meth c T X
  have hi_r : h0.size > r := Ar.lt
  have hi_sv : h0.size > sv := As.lt
  have hi_sf : h0.size > sf := Ea.lt
  subst hn
  refine own_aloadN X 1 (.ref r) own_d7_0 rfl rfl rfl ?_
  refine own_nullN X 4 own_d7_1 rfl ?_
  refine own_aloadN X 5 (.ref r) own_d7_4 rfl rfl rfl ?_
  refine own_len X 6 (5 : Int32) own_d7_5 rfl Ar rfl ?_
  refine own_iloadN X 7 (5 : Int32) own_d7_6 rfl rfl ?_
  refine own_aload X 9 (.ref sf) own_d7_7 rfl rfl rfl ?_
  refine own_callV X 12 [] [(.int (5 : Int32)), (.int (5 : Int32))] own_d7_9 rfl (hw _ (List.mem_of_getElem? (i := 46) rfl)) (hw _ (List.mem_of_getElem? (i := 47) rfl)) (own_nf X.2.2.2.2.1 (hw _ (List.mem_of_getElem? (i := 49) rfl))) (hw _ (List.mem_of_getElem? (i := 49) rfl)) (hw _ (List.mem_of_getElem? (i := 48) rfl)) (hw _ (List.mem_of_getElem? (i := 37) rfl)) (hw _ (List.mem_of_getElem? (i := 50) rfl)) (by decide) Ea (own_sl0 l Z a0 hw sf cs sv ks h0 n0 X.sz OL z_cs hcs Ea Fc Fv As) (fun _ _ q => Nat.le_of_eq (congrArg Array.size q.1.symm)) rfl own_pd10 rfl rfl rfl (by decide) (Nat.le_of_ble_eq_true rfl) (by decide) (by decide) ?_
  rintro v9 T h_ X ⟨eh_, rfl⟩
  rw [eh_] at X
  show own_Ends p e below _ (T.setTop (mkF m 12 #[.val (.ref r), .val (.int (5 : Int32)), .val (.int pa), .val (.int pb), .val (.ref sf)] [(.int (0 : Int32)), (.int (5 : Int32)), (.int (5 : Int32))]))
  refine own_iadd X 13 own_d7_12 rfl ?_
  refine own_icY X 18 own_d7_13 (by decide) (by decide) (XT.ii_eq_t (by decide)) ?_
  refine own_aloadN X 19 (.ref r) own_d7_18 rfl rfl rfl ?_
  refine own_iloadN X 20 (5 : Int32) own_d7_19 rfl rfl ?_
  refine own_iloadN X 21 pa own_d7_20 rfl rfl ?_
  refine own_iloadN X 22 pb own_d7_21 rfl rfl ?_
  refine own_aload X 24 (.ref sf) own_d7_22 rfl rfl rfl ?_
  refine own_iconst X 25 (0 : Int32) own_d7_24 rfl rfl ?_
  refine own_callS X 28 [(.ref r), (.int (5 : Int32)), (.int pa), (.int pb), (.ref sf), (.int (0 : Int32))] [] own_d7_25 rfl (hw _ (List.mem_of_getElem? (i := 59) rfl)) (hw _ (List.mem_of_getElem? (i := 60) rfl)) (hw _ (List.mem_of_getElem? (i := 3) rfl)) (hw _ (List.mem_of_getElem? (i := 61) rfl)) (by decide) (own_at_ob l Z a0 hw r (5 : Int32) pa pb sf (0 : Int32) kr [(.int (own_ob pa pb (0 : Int32))), (.int (own_ob pa pb (1 : Int32))), (.int (own_ob pa pb (2 : Int32))), (.int (own_ob pa pb (3 : Int32))), (.int (own_ob pa pb (4 : Int32)))] 0 h0 n0 X.sz Ar (show (0 : Int32) < (5 : Int32) by decide) (by decide) (by decide) (by decide) rfl) (fun _ _ q => Nat.le_of_eq (congrArg Array.size q.1.symm)) rfl own_pd11 rfl rfl rfl (by decide) (Nat.le_of_ble_eq_true rfl) (by decide) (by decide) ?_
  rintro v25 T h_ X ⟨eh_, rfl⟩
  rw [eh_] at X
  show own_Ends p e below _ (T.setTop (mkF m 28 #[.val (.ref r), .val (.int (5 : Int32)), .val (.int pa), .val (.int pb), .val (.ref sf)] [(.int (1 : Int32))]))
  refine own_ifN X 31 own_d7_28 rfl (XT.i0_eq_f (by decide)) ?_
  refine own_aloadN X 32 (.ref r) own_d7_31 rfl rfl rfl ?_
  refine own_iloadN X 33 (5 : Int32) own_d7_32 rfl rfl ?_
  refine own_iloadN X 34 pa own_d7_33 rfl rfl ?_
  refine own_iloadN X 35 pb own_d7_34 rfl rfl ?_
  refine own_aload X 37 (.ref sf) own_d7_35 rfl rfl rfl ?_
  refine own_iconst X 38 (1 : Int32) own_d7_37 rfl rfl ?_
  refine own_callS X 41 [(.ref r), (.int (5 : Int32)), (.int pa), (.int pb), (.ref sf), (.int (1 : Int32))] [] own_d7_38 rfl (hw _ (List.mem_of_getElem? (i := 59) rfl)) (hw _ (List.mem_of_getElem? (i := 60) rfl)) (hw _ (List.mem_of_getElem? (i := 3) rfl)) (hw _ (List.mem_of_getElem? (i := 61) rfl)) (by decide) (own_at_ob l Z a0 hw r (5 : Int32) pa pb sf (1 : Int32) kr [(.int (own_ob pa pb (0 : Int32))), (.int (own_ob pa pb (1 : Int32))), (.int (own_ob pa pb (2 : Int32))), (.int (own_ob pa pb (3 : Int32))), (.int (own_ob pa pb (4 : Int32)))] 1 h0 n0 X.sz Ar (show (1 : Int32) < (5 : Int32) by decide) (by decide) (by decide) (by decide) rfl) (fun _ _ q => Nat.le_of_eq (congrArg Array.size q.1.symm)) rfl own_pd11 rfl rfl rfl (by decide) (Nat.le_of_ble_eq_true rfl) (by decide) (by decide) ?_
  rintro v38 T h_ X ⟨eh_, rfl⟩
  rw [eh_] at X
  show own_Ends p e below _ (T.setTop (mkF m 41 #[.val (.ref r), .val (.int (5 : Int32)), .val (.int pa), .val (.int pb), .val (.ref sf)] [(.int (1 : Int32))]))
  refine own_ifN X 44 own_d7_41 rfl (XT.i0_eq_f (by decide)) ?_
  refine own_aloadN X 45 (.ref r) own_d7_44 rfl rfl rfl ?_
  refine own_iloadN X 46 (5 : Int32) own_d7_45 rfl rfl ?_
  refine own_iloadN X 47 pa own_d7_46 rfl rfl ?_
  refine own_iloadN X 48 pb own_d7_47 rfl rfl ?_
  refine own_aload X 50 (.ref sf) own_d7_48 rfl rfl rfl ?_
  refine own_iconst X 51 (2 : Int32) own_d7_50 rfl rfl ?_
  refine own_callS X 54 [(.ref r), (.int (5 : Int32)), (.int pa), (.int pb), (.ref sf), (.int (2 : Int32))] [] own_d7_51 rfl (hw _ (List.mem_of_getElem? (i := 59) rfl)) (hw _ (List.mem_of_getElem? (i := 60) rfl)) (hw _ (List.mem_of_getElem? (i := 3) rfl)) (hw _ (List.mem_of_getElem? (i := 61) rfl)) (by decide) (own_at_ob l Z a0 hw r (5 : Int32) pa pb sf (2 : Int32) kr [(.int (own_ob pa pb (0 : Int32))), (.int (own_ob pa pb (1 : Int32))), (.int (own_ob pa pb (2 : Int32))), (.int (own_ob pa pb (3 : Int32))), (.int (own_ob pa pb (4 : Int32)))] 2 h0 n0 X.sz Ar (show (2 : Int32) < (5 : Int32) by decide) (by decide) (by decide) (by decide) rfl) (fun _ _ q => Nat.le_of_eq (congrArg Array.size q.1.symm)) rfl own_pd11 rfl rfl rfl (by decide) (Nat.le_of_ble_eq_true rfl) (by decide) (by decide) ?_
  rintro v51 T h_ X ⟨eh_, rfl⟩
  rw [eh_] at X
  show own_Ends p e below _ (T.setTop (mkF m 54 #[.val (.ref r), .val (.int (5 : Int32)), .val (.int pa), .val (.int pb), .val (.ref sf)] [(.int (1 : Int32))]))
  refine own_ifN X 57 own_d7_54 rfl (XT.i0_eq_f (by decide)) ?_
  refine own_aloadN X 58 (.ref r) own_d7_57 rfl rfl rfl ?_
  refine own_iloadN X 59 (5 : Int32) own_d7_58 rfl rfl ?_
  refine own_iloadN X 60 pa own_d7_59 rfl rfl ?_
  refine own_iloadN X 61 pb own_d7_60 rfl rfl ?_
  refine own_aload X 63 (.ref sf) own_d7_61 rfl rfl rfl ?_
  refine own_iconst X 64 (3 : Int32) own_d7_63 rfl rfl ?_
  refine own_callS X 67 [(.ref r), (.int (5 : Int32)), (.int pa), (.int pb), (.ref sf), (.int (3 : Int32))] [] own_d7_64 rfl (hw _ (List.mem_of_getElem? (i := 59) rfl)) (hw _ (List.mem_of_getElem? (i := 60) rfl)) (hw _ (List.mem_of_getElem? (i := 3) rfl)) (hw _ (List.mem_of_getElem? (i := 61) rfl)) (by decide) (own_at_ob l Z a0 hw r (5 : Int32) pa pb sf (3 : Int32) kr [(.int (own_ob pa pb (0 : Int32))), (.int (own_ob pa pb (1 : Int32))), (.int (own_ob pa pb (2 : Int32))), (.int (own_ob pa pb (3 : Int32))), (.int (own_ob pa pb (4 : Int32)))] 3 h0 n0 X.sz Ar (show (3 : Int32) < (5 : Int32) by decide) (by decide) (by decide) (by decide) rfl) (fun _ _ q => Nat.le_of_eq (congrArg Array.size q.1.symm)) rfl own_pd11 rfl rfl rfl (by decide) (Nat.le_of_ble_eq_true rfl) (by decide) (by decide) ?_
  rintro v64 T h_ X ⟨eh_, rfl⟩
  rw [eh_] at X
  show own_Ends p e below _ (T.setTop (mkF m 67 #[.val (.ref r), .val (.int (5 : Int32)), .val (.int pa), .val (.int pb), .val (.ref sf)] [(.int (1 : Int32))]))
  refine own_ifN X 70 own_d7_67 rfl (XT.i0_eq_f (by decide)) ?_
  refine own_aloadN X 71 (.ref r) own_d7_70 rfl rfl rfl ?_
  refine own_iloadN X 72 (5 : Int32) own_d7_71 rfl rfl ?_
  refine own_iloadN X 73 pa own_d7_72 rfl rfl ?_
  refine own_iloadN X 74 pb own_d7_73 rfl rfl ?_
  refine own_aload X 76 (.ref sf) own_d7_74 rfl rfl rfl ?_
  refine own_iconst X 77 (4 : Int32) own_d7_76 rfl rfl ?_
  refine own_callS X 80 [(.ref r), (.int (5 : Int32)), (.int pa), (.int pb), (.ref sf), (.int (4 : Int32))] [] own_d7_77 rfl (hw _ (List.mem_of_getElem? (i := 59) rfl)) (hw _ (List.mem_of_getElem? (i := 60) rfl)) (hw _ (List.mem_of_getElem? (i := 3) rfl)) (hw _ (List.mem_of_getElem? (i := 61) rfl)) (by decide) (own_at_ob l Z a0 hw r (5 : Int32) pa pb sf (4 : Int32) kr [(.int (own_ob pa pb (0 : Int32))), (.int (own_ob pa pb (1 : Int32))), (.int (own_ob pa pb (2 : Int32))), (.int (own_ob pa pb (3 : Int32))), (.int (own_ob pa pb (4 : Int32)))] 4 h0 n0 X.sz Ar (show (4 : Int32) < (5 : Int32) by decide) (by decide) (by decide) (by decide) rfl) (fun _ _ q => Nat.le_of_eq (congrArg Array.size q.1.symm)) rfl own_pd11 rfl rfl rfl (by decide) (Nat.le_of_ble_eq_true rfl) (by decide) (by decide) ?_
  rintro v77 T h_ X ⟨eh_, rfl⟩
  rw [eh_] at X
  show own_Ends p e below _ (T.setTop (mkF m 80 #[.val (.ref r), .val (.int (5 : Int32)), .val (.int pa), .val (.int pb), .val (.ref sf)] [(.int (1 : Int32))]))
  refine own_ifN X 83 own_d7_80 rfl (XT.i0_eq_f (by decide)) ?_
  refine own_aloadN X 84 (.ref r) own_d7_83 rfl rfl rfl ?_
  refine own_iloadN X 85 (5 : Int32) own_d7_84 rfl rfl ?_
  refine own_iloadN X 86 pa own_d7_85 rfl rfl ?_
  refine own_iloadN X 87 pb own_d7_86 rfl rfl ?_
  refine own_aload X 89 (.ref sf) own_d7_87 rfl rfl rfl ?_
  refine own_iconst X 90 (5 : Int32) own_d7_89 rfl rfl ?_
  refine own_callS X 93 [(.ref r), (.int (5 : Int32)), (.int pa), (.int pb), (.ref sf), (.int (5 : Int32))] [] own_d7_90 rfl (hw _ (List.mem_of_getElem? (i := 59) rfl)) (hw _ (List.mem_of_getElem? (i := 60) rfl)) (hw _ (List.mem_of_getElem? (i := 3) rfl)) (hw _ (List.mem_of_getElem? (i := 61) rfl)) (by decide) (own_at_hi l Z a0 hw r (5 : Int32) pa pb sf (5 : Int32) kr [(.int (own_ob pa pb (0 : Int32))), (.int (own_ob pa pb (1 : Int32))), (.int (own_ob pa pb (2 : Int32))), (.int (own_ob pa pb (3 : Int32))), (.int (own_ob pa pb (4 : Int32)))] h0 n0 X.sz Ar (show ¬ (5 : Int32) < (5 : Int32) by decide)) (fun _ _ q => Nat.le_of_eq (congrArg Array.size q.1.symm)) rfl own_pd11 rfl rfl rfl (by decide) (Nat.le_of_ble_eq_true rfl) (by decide) (by decide) ?_
  rintro v90 T h_ X ⟨eh_, rfl⟩
  rw [eh_] at X
  show own_Ends p e below _ (T.setTop (mkF m 93 #[.val (.ref r), .val (.int (5 : Int32)), .val (.int pa), .val (.int pb), .val (.ref sf)] [(.int (1 : Int32))]))
  refine own_ifN X 96 own_d7_93 rfl (XT.i0_eq_f (by decide)) ?_
  refine own_aloadN X 97 (.ref r) own_d7_96 rfl rfl rfl ?_
  refine own_iloadN X 98 (5 : Int32) own_d7_97 rfl rfl ?_
  refine own_iloadN X 99 pa own_d7_98 rfl rfl ?_
  refine own_iloadN X 100 pb own_d7_99 rfl rfl ?_
  refine own_aload X 102 (.ref sf) own_d7_100 rfl rfl rfl ?_
  refine own_bipush X 104 (6 : Int32) own_d7_102 rfl (by decide) ?_
  refine own_callS X 107 [(.ref r), (.int (5 : Int32)), (.int pa), (.int pb), (.ref sf), (.int (6 : Int32))] [] own_d7_104 rfl (hw _ (List.mem_of_getElem? (i := 59) rfl)) (hw _ (List.mem_of_getElem? (i := 60) rfl)) (hw _ (List.mem_of_getElem? (i := 3) rfl)) (hw _ (List.mem_of_getElem? (i := 61) rfl)) (by decide) (own_at_hi l Z a0 hw r (5 : Int32) pa pb sf (6 : Int32) kr [(.int (own_ob pa pb (0 : Int32))), (.int (own_ob pa pb (1 : Int32))), (.int (own_ob pa pb (2 : Int32))), (.int (own_ob pa pb (3 : Int32))), (.int (own_ob pa pb (4 : Int32)))] h0 n0 X.sz Ar (show ¬ (6 : Int32) < (5 : Int32) by decide)) (fun _ _ q => Nat.le_of_eq (congrArg Array.size q.1.symm)) rfl own_pd11 rfl rfl rfl (by decide) (Nat.le_of_ble_eq_true rfl) (by decide) (by decide) ?_
  rintro v104 T h_ X ⟨eh_, rfl⟩
  rw [eh_] at X
  show own_Ends p e below _ (T.setTop (mkF m 107 #[.val (.ref r), .val (.int (5 : Int32)), .val (.int pa), .val (.int pb), .val (.ref sf)] [(.int (1 : Int32))]))
  refine own_ifN X 110 own_d7_107 rfl (XT.i0_eq_f (by decide)) ?_
  refine own_aloadN X 111 (.ref r) own_d7_110 rfl rfl rfl ?_
  refine own_iloadN X 112 (5 : Int32) own_d7_111 rfl rfl ?_
  refine own_iloadN X 113 pa own_d7_112 rfl rfl ?_
  refine own_iloadN X 114 pb own_d7_113 rfl rfl ?_
  refine own_aload X 116 (.ref sf) own_d7_114 rfl rfl rfl ?_
  refine own_bipush X 118 (7 : Int32) own_d7_116 rfl (by decide) ?_
  refine own_callS X 121 [(.ref r), (.int (5 : Int32)), (.int pa), (.int pb), (.ref sf), (.int (7 : Int32))] [] own_d7_118 rfl (hw _ (List.mem_of_getElem? (i := 59) rfl)) (hw _ (List.mem_of_getElem? (i := 60) rfl)) (hw _ (List.mem_of_getElem? (i := 3) rfl)) (hw _ (List.mem_of_getElem? (i := 61) rfl)) (by decide) (own_at_hi l Z a0 hw r (5 : Int32) pa pb sf (7 : Int32) kr [(.int (own_ob pa pb (0 : Int32))), (.int (own_ob pa pb (1 : Int32))), (.int (own_ob pa pb (2 : Int32))), (.int (own_ob pa pb (3 : Int32))), (.int (own_ob pa pb (4 : Int32)))] h0 n0 X.sz Ar (show ¬ (7 : Int32) < (5 : Int32) by decide)) (fun _ _ q => Nat.le_of_eq (congrArg Array.size q.1.symm)) rfl own_pd11 rfl rfl rfl (by decide) (Nat.le_of_ble_eq_true rfl) (by decide) (by decide) ?_
  rintro v118 T h_ X ⟨eh_, rfl⟩
  rw [eh_] at X
  show own_Ends p e below _ (T.setTop (mkF m 121 #[.val (.ref r), .val (.int (5 : Int32)), .val (.int pa), .val (.int pb), .val (.ref sf)] [(.int (1 : Int32))]))
  refine own_ifN X 124 own_d7_121 rfl (XT.i0_eq_f (by decide)) ?_
  refine own_aloadN X 125 (.ref r) own_d7_124 rfl rfl rfl ?_
  refine own_iloadN X 126 (5 : Int32) own_d7_125 rfl rfl ?_
  refine own_iloadN X 127 pa own_d7_126 rfl rfl ?_
  refine own_iloadN X 128 pb own_d7_127 rfl rfl ?_
  refine own_aload X 130 (.ref sf) own_d7_128 rfl rfl rfl ?_
  refine own_bipush X 132 (8 : Int32) own_d7_130 rfl (by decide) ?_
  refine own_callS X 135 [(.ref r), (.int (5 : Int32)), (.int pa), (.int pb), (.ref sf), (.int (8 : Int32))] [] own_d7_132 rfl (hw _ (List.mem_of_getElem? (i := 59) rfl)) (hw _ (List.mem_of_getElem? (i := 60) rfl)) (hw _ (List.mem_of_getElem? (i := 3) rfl)) (hw _ (List.mem_of_getElem? (i := 61) rfl)) (by decide) (own_at_hi l Z a0 hw r (5 : Int32) pa pb sf (8 : Int32) kr [(.int (own_ob pa pb (0 : Int32))), (.int (own_ob pa pb (1 : Int32))), (.int (own_ob pa pb (2 : Int32))), (.int (own_ob pa pb (3 : Int32))), (.int (own_ob pa pb (4 : Int32)))] h0 n0 X.sz Ar (show ¬ (8 : Int32) < (5 : Int32) by decide)) (fun _ _ q => Nat.le_of_eq (congrArg Array.size q.1.symm)) rfl own_pd11 rfl rfl rfl (by decide) (Nat.le_of_ble_eq_true rfl) (by decide) (by decide) ?_
  rintro v132 T h_ X ⟨eh_, rfl⟩
  rw [eh_] at X
  show own_Ends p e below _ (T.setTop (mkF m 135 #[.val (.ref r), .val (.int (5 : Int32)), .val (.int pa), .val (.int pb), .val (.ref sf)] [(.int (1 : Int32))]))
  refine own_ifN X 138 own_d7_135 rfl (XT.i0_eq_f (by decide)) ?_
  refine own_aloadN X 139 (.ref r) own_d7_138 rfl rfl rfl ?_
  refine own_iloadN X 140 (5 : Int32) own_d7_139 rfl rfl ?_
  refine own_iloadN X 141 pa own_d7_140 rfl rfl ?_
  refine own_iloadN X 142 pb own_d7_141 rfl rfl ?_
  refine own_aload X 144 (.ref sf) own_d7_142 rfl rfl rfl ?_
  refine own_bipush X 146 (9 : Int32) own_d7_144 rfl (by decide) ?_
  refine own_callS X 149 [(.ref r), (.int (5 : Int32)), (.int pa), (.int pb), (.ref sf), (.int (9 : Int32))] [] own_d7_146 rfl (hw _ (List.mem_of_getElem? (i := 59) rfl)) (hw _ (List.mem_of_getElem? (i := 60) rfl)) (hw _ (List.mem_of_getElem? (i := 3) rfl)) (hw _ (List.mem_of_getElem? (i := 61) rfl)) (by decide) (own_at_hi l Z a0 hw r (5 : Int32) pa pb sf (9 : Int32) kr [(.int (own_ob pa pb (0 : Int32))), (.int (own_ob pa pb (1 : Int32))), (.int (own_ob pa pb (2 : Int32))), (.int (own_ob pa pb (3 : Int32))), (.int (own_ob pa pb (4 : Int32)))] h0 n0 X.sz Ar (show ¬ (9 : Int32) < (5 : Int32) by decide)) (fun _ _ q => Nat.le_of_eq (congrArg Array.size q.1.symm)) rfl own_pd11 rfl rfl rfl (by decide) (Nat.le_of_ble_eq_true rfl) (by decide) (by decide) ?_
  rintro v146 T h_ X ⟨eh_, rfl⟩
  rw [eh_] at X
  show own_Ends p e below _ (T.setTop (mkF m 149 #[.val (.ref r), .val (.int (5 : Int32)), .val (.int pa), .val (.int pb), .val (.ref sf)] [(.int (1 : Int32))]))
  refine own_ifN X 152 own_d7_149 rfl (XT.i0_eq_f (by decide)) ?_
  refine own_aloadN X 153 (.ref r) own_d7_152 rfl rfl rfl ?_
  refine own_iloadN X 154 (5 : Int32) own_d7_153 rfl rfl ?_
  refine own_iloadN X 155 pa own_d7_154 rfl rfl ?_
  refine own_iloadN X 156 pb own_d7_155 rfl rfl ?_
  refine own_aload X 158 (.ref sf) own_d7_156 rfl rfl rfl ?_
  refine own_bipush X 160 (10 : Int32) own_d7_158 rfl (by decide) ?_
  refine own_callS X 163 [(.ref r), (.int (5 : Int32)), (.int pa), (.int pb), (.ref sf), (.int (10 : Int32))] [] own_d7_160 rfl (hw _ (List.mem_of_getElem? (i := 59) rfl)) (hw _ (List.mem_of_getElem? (i := 60) rfl)) (hw _ (List.mem_of_getElem? (i := 3) rfl)) (hw _ (List.mem_of_getElem? (i := 61) rfl)) (by decide) (own_at_hi l Z a0 hw r (5 : Int32) pa pb sf (10 : Int32) kr [(.int (own_ob pa pb (0 : Int32))), (.int (own_ob pa pb (1 : Int32))), (.int (own_ob pa pb (2 : Int32))), (.int (own_ob pa pb (3 : Int32))), (.int (own_ob pa pb (4 : Int32)))] h0 n0 X.sz Ar (show ¬ (10 : Int32) < (5 : Int32) by decide)) (fun _ _ q => Nat.le_of_eq (congrArg Array.size q.1.symm)) rfl own_pd11 rfl rfl rfl (by decide) (Nat.le_of_ble_eq_true rfl) (by decide) (by decide) ?_
  rintro v160 T h_ X ⟨eh_, rfl⟩
  rw [eh_] at X
  show own_Ends p e below _ (T.setTop (mkF m 163 #[.val (.ref r), .val (.int (5 : Int32)), .val (.int pa), .val (.int pb), .val (.ref sf)] [(.int (1 : Int32))]))
  refine own_ifN X 166 own_d7_163 rfl (XT.i0_eq_f (by decide)) ?_
  refine own_aloadN X 167 (.ref r) own_d7_166 rfl rfl rfl ?_
  refine own_iloadN X 168 (5 : Int32) own_d7_167 rfl rfl ?_
  refine own_iloadN X 169 pa own_d7_168 rfl rfl ?_
  refine own_iloadN X 170 pb own_d7_169 rfl rfl ?_
  refine own_aload X 172 (.ref sf) own_d7_170 rfl rfl rfl ?_
  refine own_bipush X 174 (11 : Int32) own_d7_172 rfl (by decide) ?_
  refine own_callS X 177 [(.ref r), (.int (5 : Int32)), (.int pa), (.int pb), (.ref sf), (.int (11 : Int32))] [] own_d7_174 rfl (hw _ (List.mem_of_getElem? (i := 59) rfl)) (hw _ (List.mem_of_getElem? (i := 60) rfl)) (hw _ (List.mem_of_getElem? (i := 3) rfl)) (hw _ (List.mem_of_getElem? (i := 61) rfl)) (by decide) (own_at_hi l Z a0 hw r (5 : Int32) pa pb sf (11 : Int32) kr [(.int (own_ob pa pb (0 : Int32))), (.int (own_ob pa pb (1 : Int32))), (.int (own_ob pa pb (2 : Int32))), (.int (own_ob pa pb (3 : Int32))), (.int (own_ob pa pb (4 : Int32)))] h0 n0 X.sz Ar (show ¬ (11 : Int32) < (5 : Int32) by decide)) (fun _ _ q => Nat.le_of_eq (congrArg Array.size q.1.symm)) rfl own_pd11 rfl rfl rfl (by decide) (Nat.le_of_ble_eq_true rfl) (by decide) (by decide) ?_
  rintro v174 T h_ X ⟨eh_, rfl⟩
  rw [eh_] at X
  show own_Ends p e below _ (T.setTop (mkF m 177 #[.val (.ref r), .val (.int (5 : Int32)), .val (.int pa), .val (.int pb), .val (.ref sf)] [(.int (1 : Int32))]))
  refine own_ifN X 180 own_d7_177 rfl (XT.i0_eq_f (by decide)) ?_
  refine own_aloadN X 181 (.ref r) own_d7_180 rfl rfl rfl ?_
  refine own_iloadN X 182 (5 : Int32) own_d7_181 rfl rfl ?_
  refine own_iloadN X 183 pa own_d7_182 rfl rfl ?_
  refine own_iloadN X 184 pb own_d7_183 rfl rfl ?_
  refine own_aload X 186 (.ref sf) own_d7_184 rfl rfl rfl ?_
  refine own_bipush X 188 (12 : Int32) own_d7_186 rfl (by decide) ?_
  refine own_callS X 191 [(.ref r), (.int (5 : Int32)), (.int pa), (.int pb), (.ref sf), (.int (12 : Int32))] [] own_d7_188 rfl (hw _ (List.mem_of_getElem? (i := 59) rfl)) (hw _ (List.mem_of_getElem? (i := 60) rfl)) (hw _ (List.mem_of_getElem? (i := 3) rfl)) (hw _ (List.mem_of_getElem? (i := 61) rfl)) (by decide) (own_at_hi l Z a0 hw r (5 : Int32) pa pb sf (12 : Int32) kr [(.int (own_ob pa pb (0 : Int32))), (.int (own_ob pa pb (1 : Int32))), (.int (own_ob pa pb (2 : Int32))), (.int (own_ob pa pb (3 : Int32))), (.int (own_ob pa pb (4 : Int32)))] h0 n0 X.sz Ar (show ¬ (12 : Int32) < (5 : Int32) by decide)) (fun _ _ q => Nat.le_of_eq (congrArg Array.size q.1.symm)) rfl own_pd11 rfl rfl rfl (by decide) (Nat.le_of_ble_eq_true rfl) (by decide) (by decide) ?_
  rintro v188 T h_ X ⟨eh_, rfl⟩
  rw [eh_] at X
  show own_Ends p e below _ (T.setTop (mkF m 191 #[.val (.ref r), .val (.int (5 : Int32)), .val (.int pa), .val (.int pb), .val (.ref sf)] [(.int (1 : Int32))]))
  refine own_ifN X 194 own_d7_191 rfl (XT.i0_eq_f (by decide)) ?_
  refine own_iconst X 195 (1 : Int32) own_d7_194 rfl rfl ?_
  refine own_goto X 199 own_d7_195 (by decide) (by decide) ?_
  exact own_retN X .boolean own_d7_199 rfl (by simp) (by decide) (by decide) (⟨rfl, rfl⟩)
set_option maxRecDepth 65536 in
set_option maxHeartbeats 40000000 in
theorem own_mt5_6 (l : Launch) (Z : State) (a0 : Array Value) (hw : ∀ d ∈ tables_1, d.before a0 Z = true) (r : Addr) (nn : Int32) (pa : Int32) (pb : Int32) (sf : Addr) (kr : ClassId) (cs : Int32) (sv : Addr) (ks : ClassId) (fo : Value) (h0 : Heap) (n0 : Nat) (hs0 : n0 ≤ h0.size) (Ar : own_A Z h0 r kr .byte [(.int (own_ob pa pb (0 : Int32))), (.int (own_ob pa pb (1 : Int32))), (.int (own_ob pa pb (2 : Int32))), (.int (own_ob pa pb (3 : Int32))), (.int (own_ob pa pb (4 : Int32))), (.int 58), (.int 104), (.int 111), (.int 108), (.int 100), (.int 115)]) (OL : Old Z n0 h0) (z_cs : Sta Z Z.heap "java/lang/String" "COMPACT_STRINGS" "Z" (.int cs)) (hcs : ¬ cs = 0) (z_fo : Sta Z Z.heap "jdk/internal/util/Preconditions" "SIOOBE_FORMATTER" "Ljava/util/function/BiFunction;" fo) (hfo : fo.isRef = true) (Ea : Exa Z h0 sf "java/lang/String") (Fc : Fld Z h0 sf "java/lang/String" "coder" "B" (.int 0)) (Fv : Fld Z h0 sf "java/lang/String" "value" "[B" (.ref sv)) (As : own_A Z h0 sv ks .byte [(.int 58), (.int 104), (.int 111), (.int 108), (.int 100), (.int 115)]) (hn : nn = 5) :
    own_Met l (⟨"com/example/latchkey/latchkey/LockKeysHolderFieldsPinLaw", "matches", "([BIIILjava/lang/String;)Z"⟩ : MethodName) method_6_code 5 (some .boolean) ({ frames := 5, cells := 0, slots := 0, locals := 71 } : Room) Z #[(.ref r), (.int nn), (.int pa), (.int pb), (.ref sf)] h0 n0 (fun v h' => h' = h0 ∧ v = some (.int (1 : Int32))) := by
  refine own_met (Ls := #[.val (.ref r), .val (.int nn), .val (.int pa), .val (.int pb), .val (.ref sf)]) own_pn7 hs0 (fun m => by first  | (simp [entryFrame, mkF, argsToLocals, Value.category]; done) | rfl) ?_
  intro p e s m below meth c T X
  have hi_r : h0.size > r := Ar.lt
  have hi_sv : h0.size > sv := As.lt
  have hi_sf : h0.size > sf := Ea.lt
  subst hn
  refine own_aloadN X 1 (.ref r) own_d7_0 rfl rfl rfl ?_
  refine own_nullN X 4 own_d7_1 rfl ?_
  refine own_aloadN X 5 (.ref r) own_d7_4 rfl rfl rfl ?_
  refine own_len X 6 (11 : Int32) own_d7_5 rfl Ar rfl ?_
  refine own_iloadN X 7 (5 : Int32) own_d7_6 rfl rfl ?_
  refine own_aload X 9 (.ref sf) own_d7_7 rfl rfl rfl ?_
  refine own_callV X 12 [] [(.int (5 : Int32)), (.int (11 : Int32))] own_d7_9 rfl (hw _ (List.mem_of_getElem? (i := 46) rfl)) (hw _ (List.mem_of_getElem? (i := 47) rfl)) (own_nf X.2.2.2.2.1 (hw _ (List.mem_of_getElem? (i := 49) rfl))) (hw _ (List.mem_of_getElem? (i := 49) rfl)) (hw _ (List.mem_of_getElem? (i := 48) rfl)) (hw _ (List.mem_of_getElem? (i := 37) rfl)) (hw _ (List.mem_of_getElem? (i := 50) rfl)) (by decide) Ea (own_sl6 l Z a0 hw sf cs sv ks h0 n0 X.sz OL z_cs hcs Ea Fc Fv As) (fun _ _ q => Nat.le_of_eq (congrArg Array.size q.1.symm)) rfl own_pd10 rfl rfl rfl (by decide) (Nat.le_of_ble_eq_true rfl) (by decide) (by decide) ?_
  rintro v9 T h_ X ⟨eh_, rfl⟩
  rw [eh_] at X
  show own_Ends p e below _ (T.setTop (mkF m 12 #[.val (.ref r), .val (.int (5 : Int32)), .val (.int pa), .val (.int pb), .val (.ref sf)] [(.int (6 : Int32)), (.int (5 : Int32)), (.int (11 : Int32))]))
  refine own_iadd X 13 own_d7_12 rfl ?_
  refine own_icY X 18 own_d7_13 (by decide) (by decide) (XT.ii_eq_t (by decide)) ?_
  refine own_aloadN X 19 (.ref r) own_d7_18 rfl rfl rfl ?_
  refine own_iloadN X 20 (5 : Int32) own_d7_19 rfl rfl ?_
  refine own_iloadN X 21 pa own_d7_20 rfl rfl ?_
  refine own_iloadN X 22 pb own_d7_21 rfl rfl ?_
  refine own_aload X 24 (.ref sf) own_d7_22 rfl rfl rfl ?_
  refine own_iconst X 25 (0 : Int32) own_d7_24 rfl rfl ?_
  refine own_callS X 28 [(.ref r), (.int (5 : Int32)), (.int pa), (.int pb), (.ref sf), (.int (0 : Int32))] [] own_d7_25 rfl (hw _ (List.mem_of_getElem? (i := 59) rfl)) (hw _ (List.mem_of_getElem? (i := 60) rfl)) (hw _ (List.mem_of_getElem? (i := 3) rfl)) (hw _ (List.mem_of_getElem? (i := 61) rfl)) (by decide) (own_at_ob l Z a0 hw r (5 : Int32) pa pb sf (0 : Int32) kr [(.int (own_ob pa pb (0 : Int32))), (.int (own_ob pa pb (1 : Int32))), (.int (own_ob pa pb (2 : Int32))), (.int (own_ob pa pb (3 : Int32))), (.int (own_ob pa pb (4 : Int32))), (.int 58), (.int 104), (.int 111), (.int 108), (.int 100), (.int 115)] 0 h0 n0 X.sz Ar (show (0 : Int32) < (11 : Int32) by decide) (by decide) (by decide) (by decide) rfl) (fun _ _ q => Nat.le_of_eq (congrArg Array.size q.1.symm)) rfl own_pd11 rfl rfl rfl (by decide) (Nat.le_of_ble_eq_true rfl) (by decide) (by decide) ?_
  rintro v25 T h_ X ⟨eh_, rfl⟩
  rw [eh_] at X
  show own_Ends p e below _ (T.setTop (mkF m 28 #[.val (.ref r), .val (.int (5 : Int32)), .val (.int pa), .val (.int pb), .val (.ref sf)] [(.int (1 : Int32))]))
  refine own_ifN X 31 own_d7_28 rfl (XT.i0_eq_f (by decide)) ?_
  refine own_aloadN X 32 (.ref r) own_d7_31 rfl rfl rfl ?_
  refine own_iloadN X 33 (5 : Int32) own_d7_32 rfl rfl ?_
  refine own_iloadN X 34 pa own_d7_33 rfl rfl ?_
  refine own_iloadN X 35 pb own_d7_34 rfl rfl ?_
  refine own_aload X 37 (.ref sf) own_d7_35 rfl rfl rfl ?_
  refine own_iconst X 38 (1 : Int32) own_d7_37 rfl rfl ?_
  refine own_callS X 41 [(.ref r), (.int (5 : Int32)), (.int pa), (.int pb), (.ref sf), (.int (1 : Int32))] [] own_d7_38 rfl (hw _ (List.mem_of_getElem? (i := 59) rfl)) (hw _ (List.mem_of_getElem? (i := 60) rfl)) (hw _ (List.mem_of_getElem? (i := 3) rfl)) (hw _ (List.mem_of_getElem? (i := 61) rfl)) (by decide) (own_at_ob l Z a0 hw r (5 : Int32) pa pb sf (1 : Int32) kr [(.int (own_ob pa pb (0 : Int32))), (.int (own_ob pa pb (1 : Int32))), (.int (own_ob pa pb (2 : Int32))), (.int (own_ob pa pb (3 : Int32))), (.int (own_ob pa pb (4 : Int32))), (.int 58), (.int 104), (.int 111), (.int 108), (.int 100), (.int 115)] 1 h0 n0 X.sz Ar (show (1 : Int32) < (11 : Int32) by decide) (by decide) (by decide) (by decide) rfl) (fun _ _ q => Nat.le_of_eq (congrArg Array.size q.1.symm)) rfl own_pd11 rfl rfl rfl (by decide) (Nat.le_of_ble_eq_true rfl) (by decide) (by decide) ?_
  rintro v38 T h_ X ⟨eh_, rfl⟩
  rw [eh_] at X
  show own_Ends p e below _ (T.setTop (mkF m 41 #[.val (.ref r), .val (.int (5 : Int32)), .val (.int pa), .val (.int pb), .val (.ref sf)] [(.int (1 : Int32))]))
  refine own_ifN X 44 own_d7_41 rfl (XT.i0_eq_f (by decide)) ?_
  refine own_aloadN X 45 (.ref r) own_d7_44 rfl rfl rfl ?_
  refine own_iloadN X 46 (5 : Int32) own_d7_45 rfl rfl ?_
  refine own_iloadN X 47 pa own_d7_46 rfl rfl ?_
  refine own_iloadN X 48 pb own_d7_47 rfl rfl ?_
  refine own_aload X 50 (.ref sf) own_d7_48 rfl rfl rfl ?_
  refine own_iconst X 51 (2 : Int32) own_d7_50 rfl rfl ?_
  refine own_callS X 54 [(.ref r), (.int (5 : Int32)), (.int pa), (.int pb), (.ref sf), (.int (2 : Int32))] [] own_d7_51 rfl (hw _ (List.mem_of_getElem? (i := 59) rfl)) (hw _ (List.mem_of_getElem? (i := 60) rfl)) (hw _ (List.mem_of_getElem? (i := 3) rfl)) (hw _ (List.mem_of_getElem? (i := 61) rfl)) (by decide) (own_at_ob l Z a0 hw r (5 : Int32) pa pb sf (2 : Int32) kr [(.int (own_ob pa pb (0 : Int32))), (.int (own_ob pa pb (1 : Int32))), (.int (own_ob pa pb (2 : Int32))), (.int (own_ob pa pb (3 : Int32))), (.int (own_ob pa pb (4 : Int32))), (.int 58), (.int 104), (.int 111), (.int 108), (.int 100), (.int 115)] 2 h0 n0 X.sz Ar (show (2 : Int32) < (11 : Int32) by decide) (by decide) (by decide) (by decide) rfl) (fun _ _ q => Nat.le_of_eq (congrArg Array.size q.1.symm)) rfl own_pd11 rfl rfl rfl (by decide) (Nat.le_of_ble_eq_true rfl) (by decide) (by decide) ?_
  rintro v51 T h_ X ⟨eh_, rfl⟩
  rw [eh_] at X
  show own_Ends p e below _ (T.setTop (mkF m 54 #[.val (.ref r), .val (.int (5 : Int32)), .val (.int pa), .val (.int pb), .val (.ref sf)] [(.int (1 : Int32))]))
  refine own_ifN X 57 own_d7_54 rfl (XT.i0_eq_f (by decide)) ?_
  refine own_aloadN X 58 (.ref r) own_d7_57 rfl rfl rfl ?_
  refine own_iloadN X 59 (5 : Int32) own_d7_58 rfl rfl ?_
  refine own_iloadN X 60 pa own_d7_59 rfl rfl ?_
  refine own_iloadN X 61 pb own_d7_60 rfl rfl ?_
  refine own_aload X 63 (.ref sf) own_d7_61 rfl rfl rfl ?_
  refine own_iconst X 64 (3 : Int32) own_d7_63 rfl rfl ?_
  refine own_callS X 67 [(.ref r), (.int (5 : Int32)), (.int pa), (.int pb), (.ref sf), (.int (3 : Int32))] [] own_d7_64 rfl (hw _ (List.mem_of_getElem? (i := 59) rfl)) (hw _ (List.mem_of_getElem? (i := 60) rfl)) (hw _ (List.mem_of_getElem? (i := 3) rfl)) (hw _ (List.mem_of_getElem? (i := 61) rfl)) (by decide) (own_at_ob l Z a0 hw r (5 : Int32) pa pb sf (3 : Int32) kr [(.int (own_ob pa pb (0 : Int32))), (.int (own_ob pa pb (1 : Int32))), (.int (own_ob pa pb (2 : Int32))), (.int (own_ob pa pb (3 : Int32))), (.int (own_ob pa pb (4 : Int32))), (.int 58), (.int 104), (.int 111), (.int 108), (.int 100), (.int 115)] 3 h0 n0 X.sz Ar (show (3 : Int32) < (11 : Int32) by decide) (by decide) (by decide) (by decide) rfl) (fun _ _ q => Nat.le_of_eq (congrArg Array.size q.1.symm)) rfl own_pd11 rfl rfl rfl (by decide) (Nat.le_of_ble_eq_true rfl) (by decide) (by decide) ?_
  rintro v64 T h_ X ⟨eh_, rfl⟩
  rw [eh_] at X
  show own_Ends p e below _ (T.setTop (mkF m 67 #[.val (.ref r), .val (.int (5 : Int32)), .val (.int pa), .val (.int pb), .val (.ref sf)] [(.int (1 : Int32))]))
  refine own_ifN X 70 own_d7_67 rfl (XT.i0_eq_f (by decide)) ?_
  refine own_aloadN X 71 (.ref r) own_d7_70 rfl rfl rfl ?_
  refine own_iloadN X 72 (5 : Int32) own_d7_71 rfl rfl ?_
  refine own_iloadN X 73 pa own_d7_72 rfl rfl ?_
  refine own_iloadN X 74 pb own_d7_73 rfl rfl ?_
  refine own_aload X 76 (.ref sf) own_d7_74 rfl rfl rfl ?_
  refine own_iconst X 77 (4 : Int32) own_d7_76 rfl rfl ?_
  refine own_callS X 80 [(.ref r), (.int (5 : Int32)), (.int pa), (.int pb), (.ref sf), (.int (4 : Int32))] [] own_d7_77 rfl (hw _ (List.mem_of_getElem? (i := 59) rfl)) (hw _ (List.mem_of_getElem? (i := 60) rfl)) (hw _ (List.mem_of_getElem? (i := 3) rfl)) (hw _ (List.mem_of_getElem? (i := 61) rfl)) (by decide) (own_at_ob l Z a0 hw r (5 : Int32) pa pb sf (4 : Int32) kr [(.int (own_ob pa pb (0 : Int32))), (.int (own_ob pa pb (1 : Int32))), (.int (own_ob pa pb (2 : Int32))), (.int (own_ob pa pb (3 : Int32))), (.int (own_ob pa pb (4 : Int32))), (.int 58), (.int 104), (.int 111), (.int 108), (.int 100), (.int 115)] 4 h0 n0 X.sz Ar (show (4 : Int32) < (11 : Int32) by decide) (by decide) (by decide) (by decide) rfl) (fun _ _ q => Nat.le_of_eq (congrArg Array.size q.1.symm)) rfl own_pd11 rfl rfl rfl (by decide) (Nat.le_of_ble_eq_true rfl) (by decide) (by decide) ?_
  rintro v77 T h_ X ⟨eh_, rfl⟩
  rw [eh_] at X
  show own_Ends p e below _ (T.setTop (mkF m 80 #[.val (.ref r), .val (.int (5 : Int32)), .val (.int pa), .val (.int pb), .val (.ref sf)] [(.int (1 : Int32))]))
  refine own_ifN X 83 own_d7_80 rfl (XT.i0_eq_f (by decide)) ?_
  refine own_aloadN X 84 (.ref r) own_d7_83 rfl rfl rfl ?_
  refine own_iloadN X 85 (5 : Int32) own_d7_84 rfl rfl ?_
  refine own_iloadN X 86 pa own_d7_85 rfl rfl ?_
  refine own_iloadN X 87 pb own_d7_86 rfl rfl ?_
  refine own_aload X 89 (.ref sf) own_d7_87 rfl rfl rfl ?_
  refine own_iconst X 90 (5 : Int32) own_d7_89 rfl rfl ?_
  refine own_callS X 93 [(.ref r), (.int (5 : Int32)), (.int pa), (.int pb), (.ref sf), (.int (5 : Int32))] [] own_d7_90 rfl (hw _ (List.mem_of_getElem? (i := 59) rfl)) (hw _ (List.mem_of_getElem? (i := 60) rfl)) (hw _ (List.mem_of_getElem? (i := 3) rfl)) (hw _ (List.mem_of_getElem? (i := 61) rfl)) (by decide) (own_at_sf l Z a0 hw r (5 : Int32) pa pb sf (5 : Int32) kr [(.int (own_ob pa pb (0 : Int32))), (.int (own_ob pa pb (1 : Int32))), (.int (own_ob pa pb (2 : Int32))), (.int (own_ob pa pb (3 : Int32))), (.int (own_ob pa pb (4 : Int32))), (.int 58), (.int 104), (.int 111), (.int 108), (.int 100), (.int 115)] 5 58 cs sv ks [(.int 58), (.int 104), (.int 111), (.int 108), (.int 100), (.int 115)] 0 58 fo h0 n0 X.sz Ar (show (5 : Int32) < (11 : Int32) by decide) (by decide) (by decide) (by decide) rfl OL z_cs hcs z_fo hfo Ea Fc Fv As (by decide) (by decide) (show (5 : Int32) - (5 : Int32) < (6 : Int32) by decide) rfl (by decide)) (fun _ _ q => Nat.le_of_eq (congrArg Array.size q.1.symm)) rfl own_pd11 rfl rfl rfl (by decide) (Nat.le_of_ble_eq_true rfl) (by decide) (by decide) ?_
  rintro v90 T h_ X ⟨eh_, rfl⟩
  rw [eh_] at X
  show own_Ends p e below _ (T.setTop (mkF m 93 #[.val (.ref r), .val (.int (5 : Int32)), .val (.int pa), .val (.int pb), .val (.ref sf)] [(.int (1 : Int32))]))
  refine own_ifN X 96 own_d7_93 rfl (XT.i0_eq_f (by decide)) ?_
  refine own_aloadN X 97 (.ref r) own_d7_96 rfl rfl rfl ?_
  refine own_iloadN X 98 (5 : Int32) own_d7_97 rfl rfl ?_
  refine own_iloadN X 99 pa own_d7_98 rfl rfl ?_
  refine own_iloadN X 100 pb own_d7_99 rfl rfl ?_
  refine own_aload X 102 (.ref sf) own_d7_100 rfl rfl rfl ?_
  refine own_bipush X 104 (6 : Int32) own_d7_102 rfl (by decide) ?_
  refine own_callS X 107 [(.ref r), (.int (5 : Int32)), (.int pa), (.int pb), (.ref sf), (.int (6 : Int32))] [] own_d7_104 rfl (hw _ (List.mem_of_getElem? (i := 59) rfl)) (hw _ (List.mem_of_getElem? (i := 60) rfl)) (hw _ (List.mem_of_getElem? (i := 3) rfl)) (hw _ (List.mem_of_getElem? (i := 61) rfl)) (by decide) (own_at_sf l Z a0 hw r (5 : Int32) pa pb sf (6 : Int32) kr [(.int (own_ob pa pb (0 : Int32))), (.int (own_ob pa pb (1 : Int32))), (.int (own_ob pa pb (2 : Int32))), (.int (own_ob pa pb (3 : Int32))), (.int (own_ob pa pb (4 : Int32))), (.int 58), (.int 104), (.int 111), (.int 108), (.int 100), (.int 115)] 6 104 cs sv ks [(.int 58), (.int 104), (.int 111), (.int 108), (.int 100), (.int 115)] 1 104 fo h0 n0 X.sz Ar (show (6 : Int32) < (11 : Int32) by decide) (by decide) (by decide) (by decide) rfl OL z_cs hcs z_fo hfo Ea Fc Fv As (by decide) (by decide) (show (6 : Int32) - (5 : Int32) < (6 : Int32) by decide) rfl (by decide)) (fun _ _ q => Nat.le_of_eq (congrArg Array.size q.1.symm)) rfl own_pd11 rfl rfl rfl (by decide) (Nat.le_of_ble_eq_true rfl) (by decide) (by decide) ?_
  rintro v104 T h_ X ⟨eh_, rfl⟩
  rw [eh_] at X
  show own_Ends p e below _ (T.setTop (mkF m 107 #[.val (.ref r), .val (.int (5 : Int32)), .val (.int pa), .val (.int pb), .val (.ref sf)] [(.int (1 : Int32))]))
  refine own_ifN X 110 own_d7_107 rfl (XT.i0_eq_f (by decide)) ?_
  refine own_aloadN X 111 (.ref r) own_d7_110 rfl rfl rfl ?_
  refine own_iloadN X 112 (5 : Int32) own_d7_111 rfl rfl ?_
  refine own_iloadN X 113 pa own_d7_112 rfl rfl ?_
  refine own_iloadN X 114 pb own_d7_113 rfl rfl ?_
  refine own_aload X 116 (.ref sf) own_d7_114 rfl rfl rfl ?_
  refine own_bipush X 118 (7 : Int32) own_d7_116 rfl (by decide) ?_
  refine own_callS X 121 [(.ref r), (.int (5 : Int32)), (.int pa), (.int pb), (.ref sf), (.int (7 : Int32))] [] own_d7_118 rfl (hw _ (List.mem_of_getElem? (i := 59) rfl)) (hw _ (List.mem_of_getElem? (i := 60) rfl)) (hw _ (List.mem_of_getElem? (i := 3) rfl)) (hw _ (List.mem_of_getElem? (i := 61) rfl)) (by decide) (own_at_sf l Z a0 hw r (5 : Int32) pa pb sf (7 : Int32) kr [(.int (own_ob pa pb (0 : Int32))), (.int (own_ob pa pb (1 : Int32))), (.int (own_ob pa pb (2 : Int32))), (.int (own_ob pa pb (3 : Int32))), (.int (own_ob pa pb (4 : Int32))), (.int 58), (.int 104), (.int 111), (.int 108), (.int 100), (.int 115)] 7 111 cs sv ks [(.int 58), (.int 104), (.int 111), (.int 108), (.int 100), (.int 115)] 2 111 fo h0 n0 X.sz Ar (show (7 : Int32) < (11 : Int32) by decide) (by decide) (by decide) (by decide) rfl OL z_cs hcs z_fo hfo Ea Fc Fv As (by decide) (by decide) (show (7 : Int32) - (5 : Int32) < (6 : Int32) by decide) rfl (by decide)) (fun _ _ q => Nat.le_of_eq (congrArg Array.size q.1.symm)) rfl own_pd11 rfl rfl rfl (by decide) (Nat.le_of_ble_eq_true rfl) (by decide) (by decide) ?_
  rintro v118 T h_ X ⟨eh_, rfl⟩
  rw [eh_] at X
  show own_Ends p e below _ (T.setTop (mkF m 121 #[.val (.ref r), .val (.int (5 : Int32)), .val (.int pa), .val (.int pb), .val (.ref sf)] [(.int (1 : Int32))]))
  refine own_ifN X 124 own_d7_121 rfl (XT.i0_eq_f (by decide)) ?_
  refine own_aloadN X 125 (.ref r) own_d7_124 rfl rfl rfl ?_
  refine own_iloadN X 126 (5 : Int32) own_d7_125 rfl rfl ?_
  refine own_iloadN X 127 pa own_d7_126 rfl rfl ?_
  refine own_iloadN X 128 pb own_d7_127 rfl rfl ?_
  refine own_aload X 130 (.ref sf) own_d7_128 rfl rfl rfl ?_
  refine own_bipush X 132 (8 : Int32) own_d7_130 rfl (by decide) ?_
  refine own_callS X 135 [(.ref r), (.int (5 : Int32)), (.int pa), (.int pb), (.ref sf), (.int (8 : Int32))] [] own_d7_132 rfl (hw _ (List.mem_of_getElem? (i := 59) rfl)) (hw _ (List.mem_of_getElem? (i := 60) rfl)) (hw _ (List.mem_of_getElem? (i := 3) rfl)) (hw _ (List.mem_of_getElem? (i := 61) rfl)) (by decide) (own_at_sf l Z a0 hw r (5 : Int32) pa pb sf (8 : Int32) kr [(.int (own_ob pa pb (0 : Int32))), (.int (own_ob pa pb (1 : Int32))), (.int (own_ob pa pb (2 : Int32))), (.int (own_ob pa pb (3 : Int32))), (.int (own_ob pa pb (4 : Int32))), (.int 58), (.int 104), (.int 111), (.int 108), (.int 100), (.int 115)] 8 108 cs sv ks [(.int 58), (.int 104), (.int 111), (.int 108), (.int 100), (.int 115)] 3 108 fo h0 n0 X.sz Ar (show (8 : Int32) < (11 : Int32) by decide) (by decide) (by decide) (by decide) rfl OL z_cs hcs z_fo hfo Ea Fc Fv As (by decide) (by decide) (show (8 : Int32) - (5 : Int32) < (6 : Int32) by decide) rfl (by decide)) (fun _ _ q => Nat.le_of_eq (congrArg Array.size q.1.symm)) rfl own_pd11 rfl rfl rfl (by decide) (Nat.le_of_ble_eq_true rfl) (by decide) (by decide) ?_
  rintro v132 T h_ X ⟨eh_, rfl⟩
  rw [eh_] at X
  show own_Ends p e below _ (T.setTop (mkF m 135 #[.val (.ref r), .val (.int (5 : Int32)), .val (.int pa), .val (.int pb), .val (.ref sf)] [(.int (1 : Int32))]))
  refine own_ifN X 138 own_d7_135 rfl (XT.i0_eq_f (by decide)) ?_
  refine own_aloadN X 139 (.ref r) own_d7_138 rfl rfl rfl ?_
  refine own_iloadN X 140 (5 : Int32) own_d7_139 rfl rfl ?_
  refine own_iloadN X 141 pa own_d7_140 rfl rfl ?_
  refine own_iloadN X 142 pb own_d7_141 rfl rfl ?_
  refine own_aload X 144 (.ref sf) own_d7_142 rfl rfl rfl ?_
  refine own_bipush X 146 (9 : Int32) own_d7_144 rfl (by decide) ?_
  refine own_callS X 149 [(.ref r), (.int (5 : Int32)), (.int pa), (.int pb), (.ref sf), (.int (9 : Int32))] [] own_d7_146 rfl (hw _ (List.mem_of_getElem? (i := 59) rfl)) (hw _ (List.mem_of_getElem? (i := 60) rfl)) (hw _ (List.mem_of_getElem? (i := 3) rfl)) (hw _ (List.mem_of_getElem? (i := 61) rfl)) (by decide) (own_at_sf l Z a0 hw r (5 : Int32) pa pb sf (9 : Int32) kr [(.int (own_ob pa pb (0 : Int32))), (.int (own_ob pa pb (1 : Int32))), (.int (own_ob pa pb (2 : Int32))), (.int (own_ob pa pb (3 : Int32))), (.int (own_ob pa pb (4 : Int32))), (.int 58), (.int 104), (.int 111), (.int 108), (.int 100), (.int 115)] 9 100 cs sv ks [(.int 58), (.int 104), (.int 111), (.int 108), (.int 100), (.int 115)] 4 100 fo h0 n0 X.sz Ar (show (9 : Int32) < (11 : Int32) by decide) (by decide) (by decide) (by decide) rfl OL z_cs hcs z_fo hfo Ea Fc Fv As (by decide) (by decide) (show (9 : Int32) - (5 : Int32) < (6 : Int32) by decide) rfl (by decide)) (fun _ _ q => Nat.le_of_eq (congrArg Array.size q.1.symm)) rfl own_pd11 rfl rfl rfl (by decide) (Nat.le_of_ble_eq_true rfl) (by decide) (by decide) ?_
  rintro v146 T h_ X ⟨eh_, rfl⟩
  rw [eh_] at X
  show own_Ends p e below _ (T.setTop (mkF m 149 #[.val (.ref r), .val (.int (5 : Int32)), .val (.int pa), .val (.int pb), .val (.ref sf)] [(.int (1 : Int32))]))
  refine own_ifN X 152 own_d7_149 rfl (XT.i0_eq_f (by decide)) ?_
  refine own_aloadN X 153 (.ref r) own_d7_152 rfl rfl rfl ?_
  refine own_iloadN X 154 (5 : Int32) own_d7_153 rfl rfl ?_
  refine own_iloadN X 155 pa own_d7_154 rfl rfl ?_
  refine own_iloadN X 156 pb own_d7_155 rfl rfl ?_
  refine own_aload X 158 (.ref sf) own_d7_156 rfl rfl rfl ?_
  refine own_bipush X 160 (10 : Int32) own_d7_158 rfl (by decide) ?_
  refine own_callS X 163 [(.ref r), (.int (5 : Int32)), (.int pa), (.int pb), (.ref sf), (.int (10 : Int32))] [] own_d7_160 rfl (hw _ (List.mem_of_getElem? (i := 59) rfl)) (hw _ (List.mem_of_getElem? (i := 60) rfl)) (hw _ (List.mem_of_getElem? (i := 3) rfl)) (hw _ (List.mem_of_getElem? (i := 61) rfl)) (by decide) (own_at_sf l Z a0 hw r (5 : Int32) pa pb sf (10 : Int32) kr [(.int (own_ob pa pb (0 : Int32))), (.int (own_ob pa pb (1 : Int32))), (.int (own_ob pa pb (2 : Int32))), (.int (own_ob pa pb (3 : Int32))), (.int (own_ob pa pb (4 : Int32))), (.int 58), (.int 104), (.int 111), (.int 108), (.int 100), (.int 115)] 10 115 cs sv ks [(.int 58), (.int 104), (.int 111), (.int 108), (.int 100), (.int 115)] 5 115 fo h0 n0 X.sz Ar (show (10 : Int32) < (11 : Int32) by decide) (by decide) (by decide) (by decide) rfl OL z_cs hcs z_fo hfo Ea Fc Fv As (by decide) (by decide) (show (10 : Int32) - (5 : Int32) < (6 : Int32) by decide) rfl (by decide)) (fun _ _ q => Nat.le_of_eq (congrArg Array.size q.1.symm)) rfl own_pd11 rfl rfl rfl (by decide) (Nat.le_of_ble_eq_true rfl) (by decide) (by decide) ?_
  rintro v160 T h_ X ⟨eh_, rfl⟩
  rw [eh_] at X
  show own_Ends p e below _ (T.setTop (mkF m 163 #[.val (.ref r), .val (.int (5 : Int32)), .val (.int pa), .val (.int pb), .val (.ref sf)] [(.int (1 : Int32))]))
  refine own_ifN X 166 own_d7_163 rfl (XT.i0_eq_f (by decide)) ?_
  refine own_aloadN X 167 (.ref r) own_d7_166 rfl rfl rfl ?_
  refine own_iloadN X 168 (5 : Int32) own_d7_167 rfl rfl ?_
  refine own_iloadN X 169 pa own_d7_168 rfl rfl ?_
  refine own_iloadN X 170 pb own_d7_169 rfl rfl ?_
  refine own_aload X 172 (.ref sf) own_d7_170 rfl rfl rfl ?_
  refine own_bipush X 174 (11 : Int32) own_d7_172 rfl (by decide) ?_
  refine own_callS X 177 [(.ref r), (.int (5 : Int32)), (.int pa), (.int pb), (.ref sf), (.int (11 : Int32))] [] own_d7_174 rfl (hw _ (List.mem_of_getElem? (i := 59) rfl)) (hw _ (List.mem_of_getElem? (i := 60) rfl)) (hw _ (List.mem_of_getElem? (i := 3) rfl)) (hw _ (List.mem_of_getElem? (i := 61) rfl)) (by decide) (own_at_hi l Z a0 hw r (5 : Int32) pa pb sf (11 : Int32) kr [(.int (own_ob pa pb (0 : Int32))), (.int (own_ob pa pb (1 : Int32))), (.int (own_ob pa pb (2 : Int32))), (.int (own_ob pa pb (3 : Int32))), (.int (own_ob pa pb (4 : Int32))), (.int 58), (.int 104), (.int 111), (.int 108), (.int 100), (.int 115)] h0 n0 X.sz Ar (show ¬ (11 : Int32) < (11 : Int32) by decide)) (fun _ _ q => Nat.le_of_eq (congrArg Array.size q.1.symm)) rfl own_pd11 rfl rfl rfl (by decide) (Nat.le_of_ble_eq_true rfl) (by decide) (by decide) ?_
  rintro v174 T h_ X ⟨eh_, rfl⟩
  rw [eh_] at X
  show own_Ends p e below _ (T.setTop (mkF m 177 #[.val (.ref r), .val (.int (5 : Int32)), .val (.int pa), .val (.int pb), .val (.ref sf)] [(.int (1 : Int32))]))
  refine own_ifN X 180 own_d7_177 rfl (XT.i0_eq_f (by decide)) ?_
  refine own_aloadN X 181 (.ref r) own_d7_180 rfl rfl rfl ?_
  refine own_iloadN X 182 (5 : Int32) own_d7_181 rfl rfl ?_
  refine own_iloadN X 183 pa own_d7_182 rfl rfl ?_
  refine own_iloadN X 184 pb own_d7_183 rfl rfl ?_
  refine own_aload X 186 (.ref sf) own_d7_184 rfl rfl rfl ?_
  refine own_bipush X 188 (12 : Int32) own_d7_186 rfl (by decide) ?_
  refine own_callS X 191 [(.ref r), (.int (5 : Int32)), (.int pa), (.int pb), (.ref sf), (.int (12 : Int32))] [] own_d7_188 rfl (hw _ (List.mem_of_getElem? (i := 59) rfl)) (hw _ (List.mem_of_getElem? (i := 60) rfl)) (hw _ (List.mem_of_getElem? (i := 3) rfl)) (hw _ (List.mem_of_getElem? (i := 61) rfl)) (by decide) (own_at_hi l Z a0 hw r (5 : Int32) pa pb sf (12 : Int32) kr [(.int (own_ob pa pb (0 : Int32))), (.int (own_ob pa pb (1 : Int32))), (.int (own_ob pa pb (2 : Int32))), (.int (own_ob pa pb (3 : Int32))), (.int (own_ob pa pb (4 : Int32))), (.int 58), (.int 104), (.int 111), (.int 108), (.int 100), (.int 115)] h0 n0 X.sz Ar (show ¬ (12 : Int32) < (11 : Int32) by decide)) (fun _ _ q => Nat.le_of_eq (congrArg Array.size q.1.symm)) rfl own_pd11 rfl rfl rfl (by decide) (Nat.le_of_ble_eq_true rfl) (by decide) (by decide) ?_
  rintro v188 T h_ X ⟨eh_, rfl⟩
  rw [eh_] at X
  show own_Ends p e below _ (T.setTop (mkF m 191 #[.val (.ref r), .val (.int (5 : Int32)), .val (.int pa), .val (.int pb), .val (.ref sf)] [(.int (1 : Int32))]))
  refine own_ifN X 194 own_d7_191 rfl (XT.i0_eq_f (by decide)) ?_
  refine own_iconst X 195 (1 : Int32) own_d7_194 rfl rfl ?_
  refine own_goto X 199 own_d7_195 (by decide) (by decide) ?_
  exact own_retN X .boolean own_d7_199 rfl (by simp) (by decide) (by decide) (⟨rfl, rfl⟩)
set_option maxRecDepth 65536 in
set_option maxHeartbeats 40000000 in
theorem own_mt5_8 (l : Launch) (Z : State) (a0 : Array Value) (hw : ∀ d ∈ tables_1, d.before a0 Z = true) (r : Addr) (nn : Int32) (pa : Int32) (pb : Int32) (sf : Addr) (kr : ClassId) (cs : Int32) (sv : Addr) (ks : ClassId) (fo : Value) (h0 : Heap) (n0 : Nat) (hs0 : n0 ≤ h0.size) (Ar : own_A Z h0 r kr .byte [(.int (own_ob pa pb (0 : Int32))), (.int (own_ob pa pb (1 : Int32))), (.int (own_ob pa pb (2 : Int32))), (.int (own_ob pa pb (3 : Int32))), (.int (own_ob pa pb (4 : Int32))), (.int 58), (.int 119), (.int 97), (.int 105), (.int 116), (.int 105), (.int 110), (.int 103)]) (OL : Old Z n0 h0) (z_cs : Sta Z Z.heap "java/lang/String" "COMPACT_STRINGS" "Z" (.int cs)) (hcs : ¬ cs = 0) (z_fo : Sta Z Z.heap "jdk/internal/util/Preconditions" "SIOOBE_FORMATTER" "Ljava/util/function/BiFunction;" fo) (hfo : fo.isRef = true) (Ea : Exa Z h0 sf "java/lang/String") (Fc : Fld Z h0 sf "java/lang/String" "coder" "B" (.int 0)) (Fv : Fld Z h0 sf "java/lang/String" "value" "[B" (.ref sv)) (As : own_A Z h0 sv ks .byte [(.int 58), (.int 119), (.int 97), (.int 105), (.int 116), (.int 105), (.int 110), (.int 103)]) (hn : nn = 5) :
    own_Met l (⟨"com/example/latchkey/latchkey/LockKeysHolderFieldsPinLaw", "matches", "([BIIILjava/lang/String;)Z"⟩ : MethodName) method_6_code 5 (some .boolean) ({ frames := 5, cells := 0, slots := 0, locals := 71 } : Room) Z #[(.ref r), (.int nn), (.int pa), (.int pb), (.ref sf)] h0 n0 (fun v h' => h' = h0 ∧ v = some (.int (1 : Int32))) := by
  refine own_met (Ls := #[.val (.ref r), .val (.int nn), .val (.int pa), .val (.int pb), .val (.ref sf)]) own_pn7 hs0 (fun m => by first  | (simp [entryFrame, mkF, argsToLocals, Value.category]; done) | rfl) ?_
  intro p e s m below meth c T X
  have hi_r : h0.size > r := Ar.lt
  have hi_sv : h0.size > sv := As.lt
  have hi_sf : h0.size > sf := Ea.lt
  subst hn
  refine own_aloadN X 1 (.ref r) own_d7_0 rfl rfl rfl ?_
  refine own_nullN X 4 own_d7_1 rfl ?_
  refine own_aloadN X 5 (.ref r) own_d7_4 rfl rfl rfl ?_
  refine own_len X 6 (13 : Int32) own_d7_5 rfl Ar rfl ?_
  refine own_iloadN X 7 (5 : Int32) own_d7_6 rfl rfl ?_
  refine own_aload X 9 (.ref sf) own_d7_7 rfl rfl rfl ?_
  refine own_callV X 12 [] [(.int (5 : Int32)), (.int (13 : Int32))] own_d7_9 rfl (hw _ (List.mem_of_getElem? (i := 46) rfl)) (hw _ (List.mem_of_getElem? (i := 47) rfl)) (own_nf X.2.2.2.2.1 (hw _ (List.mem_of_getElem? (i := 49) rfl))) (hw _ (List.mem_of_getElem? (i := 49) rfl)) (hw _ (List.mem_of_getElem? (i := 48) rfl)) (hw _ (List.mem_of_getElem? (i := 37) rfl)) (hw _ (List.mem_of_getElem? (i := 50) rfl)) (by decide) Ea (own_sl8 l Z a0 hw sf cs sv ks h0 n0 X.sz OL z_cs hcs Ea Fc Fv As) (fun _ _ q => Nat.le_of_eq (congrArg Array.size q.1.symm)) rfl own_pd10 rfl rfl rfl (by decide) (Nat.le_of_ble_eq_true rfl) (by decide) (by decide) ?_
  rintro v9 T h_ X ⟨eh_, rfl⟩
  rw [eh_] at X
  show own_Ends p e below _ (T.setTop (mkF m 12 #[.val (.ref r), .val (.int (5 : Int32)), .val (.int pa), .val (.int pb), .val (.ref sf)] [(.int (8 : Int32)), (.int (5 : Int32)), (.int (13 : Int32))]))
  refine own_iadd X 13 own_d7_12 rfl ?_
  refine own_icY X 18 own_d7_13 (by decide) (by decide) (XT.ii_eq_t (by decide)) ?_
  refine own_aloadN X 19 (.ref r) own_d7_18 rfl rfl rfl ?_
  refine own_iloadN X 20 (5 : Int32) own_d7_19 rfl rfl ?_
  refine own_iloadN X 21 pa own_d7_20 rfl rfl ?_
  refine own_iloadN X 22 pb own_d7_21 rfl rfl ?_
  refine own_aload X 24 (.ref sf) own_d7_22 rfl rfl rfl ?_
  refine own_iconst X 25 (0 : Int32) own_d7_24 rfl rfl ?_
  refine own_callS X 28 [(.ref r), (.int (5 : Int32)), (.int pa), (.int pb), (.ref sf), (.int (0 : Int32))] [] own_d7_25 rfl (hw _ (List.mem_of_getElem? (i := 59) rfl)) (hw _ (List.mem_of_getElem? (i := 60) rfl)) (hw _ (List.mem_of_getElem? (i := 3) rfl)) (hw _ (List.mem_of_getElem? (i := 61) rfl)) (by decide) (own_at_ob l Z a0 hw r (5 : Int32) pa pb sf (0 : Int32) kr [(.int (own_ob pa pb (0 : Int32))), (.int (own_ob pa pb (1 : Int32))), (.int (own_ob pa pb (2 : Int32))), (.int (own_ob pa pb (3 : Int32))), (.int (own_ob pa pb (4 : Int32))), (.int 58), (.int 119), (.int 97), (.int 105), (.int 116), (.int 105), (.int 110), (.int 103)] 0 h0 n0 X.sz Ar (show (0 : Int32) < (13 : Int32) by decide) (by decide) (by decide) (by decide) rfl) (fun _ _ q => Nat.le_of_eq (congrArg Array.size q.1.symm)) rfl own_pd11 rfl rfl rfl (by decide) (Nat.le_of_ble_eq_true rfl) (by decide) (by decide) ?_
  rintro v25 T h_ X ⟨eh_, rfl⟩
  rw [eh_] at X
  show own_Ends p e below _ (T.setTop (mkF m 28 #[.val (.ref r), .val (.int (5 : Int32)), .val (.int pa), .val (.int pb), .val (.ref sf)] [(.int (1 : Int32))]))
  refine own_ifN X 31 own_d7_28 rfl (XT.i0_eq_f (by decide)) ?_
  refine own_aloadN X 32 (.ref r) own_d7_31 rfl rfl rfl ?_
  refine own_iloadN X 33 (5 : Int32) own_d7_32 rfl rfl ?_
  refine own_iloadN X 34 pa own_d7_33 rfl rfl ?_
  refine own_iloadN X 35 pb own_d7_34 rfl rfl ?_
  refine own_aload X 37 (.ref sf) own_d7_35 rfl rfl rfl ?_
  refine own_iconst X 38 (1 : Int32) own_d7_37 rfl rfl ?_
  refine own_callS X 41 [(.ref r), (.int (5 : Int32)), (.int pa), (.int pb), (.ref sf), (.int (1 : Int32))] [] own_d7_38 rfl (hw _ (List.mem_of_getElem? (i := 59) rfl)) (hw _ (List.mem_of_getElem? (i := 60) rfl)) (hw _ (List.mem_of_getElem? (i := 3) rfl)) (hw _ (List.mem_of_getElem? (i := 61) rfl)) (by decide) (own_at_ob l Z a0 hw r (5 : Int32) pa pb sf (1 : Int32) kr [(.int (own_ob pa pb (0 : Int32))), (.int (own_ob pa pb (1 : Int32))), (.int (own_ob pa pb (2 : Int32))), (.int (own_ob pa pb (3 : Int32))), (.int (own_ob pa pb (4 : Int32))), (.int 58), (.int 119), (.int 97), (.int 105), (.int 116), (.int 105), (.int 110), (.int 103)] 1 h0 n0 X.sz Ar (show (1 : Int32) < (13 : Int32) by decide) (by decide) (by decide) (by decide) rfl) (fun _ _ q => Nat.le_of_eq (congrArg Array.size q.1.symm)) rfl own_pd11 rfl rfl rfl (by decide) (Nat.le_of_ble_eq_true rfl) (by decide) (by decide) ?_
  rintro v38 T h_ X ⟨eh_, rfl⟩
  rw [eh_] at X
  show own_Ends p e below _ (T.setTop (mkF m 41 #[.val (.ref r), .val (.int (5 : Int32)), .val (.int pa), .val (.int pb), .val (.ref sf)] [(.int (1 : Int32))]))
  refine own_ifN X 44 own_d7_41 rfl (XT.i0_eq_f (by decide)) ?_
  refine own_aloadN X 45 (.ref r) own_d7_44 rfl rfl rfl ?_
  refine own_iloadN X 46 (5 : Int32) own_d7_45 rfl rfl ?_
  refine own_iloadN X 47 pa own_d7_46 rfl rfl ?_
  refine own_iloadN X 48 pb own_d7_47 rfl rfl ?_
  refine own_aload X 50 (.ref sf) own_d7_48 rfl rfl rfl ?_
  refine own_iconst X 51 (2 : Int32) own_d7_50 rfl rfl ?_
  refine own_callS X 54 [(.ref r), (.int (5 : Int32)), (.int pa), (.int pb), (.ref sf), (.int (2 : Int32))] [] own_d7_51 rfl (hw _ (List.mem_of_getElem? (i := 59) rfl)) (hw _ (List.mem_of_getElem? (i := 60) rfl)) (hw _ (List.mem_of_getElem? (i := 3) rfl)) (hw _ (List.mem_of_getElem? (i := 61) rfl)) (by decide) (own_at_ob l Z a0 hw r (5 : Int32) pa pb sf (2 : Int32) kr [(.int (own_ob pa pb (0 : Int32))), (.int (own_ob pa pb (1 : Int32))), (.int (own_ob pa pb (2 : Int32))), (.int (own_ob pa pb (3 : Int32))), (.int (own_ob pa pb (4 : Int32))), (.int 58), (.int 119), (.int 97), (.int 105), (.int 116), (.int 105), (.int 110), (.int 103)] 2 h0 n0 X.sz Ar (show (2 : Int32) < (13 : Int32) by decide) (by decide) (by decide) (by decide) rfl) (fun _ _ q => Nat.le_of_eq (congrArg Array.size q.1.symm)) rfl own_pd11 rfl rfl rfl (by decide) (Nat.le_of_ble_eq_true rfl) (by decide) (by decide) ?_
  rintro v51 T h_ X ⟨eh_, rfl⟩
  rw [eh_] at X
  show own_Ends p e below _ (T.setTop (mkF m 54 #[.val (.ref r), .val (.int (5 : Int32)), .val (.int pa), .val (.int pb), .val (.ref sf)] [(.int (1 : Int32))]))
  refine own_ifN X 57 own_d7_54 rfl (XT.i0_eq_f (by decide)) ?_
  refine own_aloadN X 58 (.ref r) own_d7_57 rfl rfl rfl ?_
  refine own_iloadN X 59 (5 : Int32) own_d7_58 rfl rfl ?_
  refine own_iloadN X 60 pa own_d7_59 rfl rfl ?_
  refine own_iloadN X 61 pb own_d7_60 rfl rfl ?_
  refine own_aload X 63 (.ref sf) own_d7_61 rfl rfl rfl ?_
  refine own_iconst X 64 (3 : Int32) own_d7_63 rfl rfl ?_
  refine own_callS X 67 [(.ref r), (.int (5 : Int32)), (.int pa), (.int pb), (.ref sf), (.int (3 : Int32))] [] own_d7_64 rfl (hw _ (List.mem_of_getElem? (i := 59) rfl)) (hw _ (List.mem_of_getElem? (i := 60) rfl)) (hw _ (List.mem_of_getElem? (i := 3) rfl)) (hw _ (List.mem_of_getElem? (i := 61) rfl)) (by decide) (own_at_ob l Z a0 hw r (5 : Int32) pa pb sf (3 : Int32) kr [(.int (own_ob pa pb (0 : Int32))), (.int (own_ob pa pb (1 : Int32))), (.int (own_ob pa pb (2 : Int32))), (.int (own_ob pa pb (3 : Int32))), (.int (own_ob pa pb (4 : Int32))), (.int 58), (.int 119), (.int 97), (.int 105), (.int 116), (.int 105), (.int 110), (.int 103)] 3 h0 n0 X.sz Ar (show (3 : Int32) < (13 : Int32) by decide) (by decide) (by decide) (by decide) rfl) (fun _ _ q => Nat.le_of_eq (congrArg Array.size q.1.symm)) rfl own_pd11 rfl rfl rfl (by decide) (Nat.le_of_ble_eq_true rfl) (by decide) (by decide) ?_
  rintro v64 T h_ X ⟨eh_, rfl⟩
  rw [eh_] at X
  show own_Ends p e below _ (T.setTop (mkF m 67 #[.val (.ref r), .val (.int (5 : Int32)), .val (.int pa), .val (.int pb), .val (.ref sf)] [(.int (1 : Int32))]))
  refine own_ifN X 70 own_d7_67 rfl (XT.i0_eq_f (by decide)) ?_
  refine own_aloadN X 71 (.ref r) own_d7_70 rfl rfl rfl ?_
  refine own_iloadN X 72 (5 : Int32) own_d7_71 rfl rfl ?_
  refine own_iloadN X 73 pa own_d7_72 rfl rfl ?_
  refine own_iloadN X 74 pb own_d7_73 rfl rfl ?_
  refine own_aload X 76 (.ref sf) own_d7_74 rfl rfl rfl ?_
  refine own_iconst X 77 (4 : Int32) own_d7_76 rfl rfl ?_
  refine own_callS X 80 [(.ref r), (.int (5 : Int32)), (.int pa), (.int pb), (.ref sf), (.int (4 : Int32))] [] own_d7_77 rfl (hw _ (List.mem_of_getElem? (i := 59) rfl)) (hw _ (List.mem_of_getElem? (i := 60) rfl)) (hw _ (List.mem_of_getElem? (i := 3) rfl)) (hw _ (List.mem_of_getElem? (i := 61) rfl)) (by decide) (own_at_ob l Z a0 hw r (5 : Int32) pa pb sf (4 : Int32) kr [(.int (own_ob pa pb (0 : Int32))), (.int (own_ob pa pb (1 : Int32))), (.int (own_ob pa pb (2 : Int32))), (.int (own_ob pa pb (3 : Int32))), (.int (own_ob pa pb (4 : Int32))), (.int 58), (.int 119), (.int 97), (.int 105), (.int 116), (.int 105), (.int 110), (.int 103)] 4 h0 n0 X.sz Ar (show (4 : Int32) < (13 : Int32) by decide) (by decide) (by decide) (by decide) rfl) (fun _ _ q => Nat.le_of_eq (congrArg Array.size q.1.symm)) rfl own_pd11 rfl rfl rfl (by decide) (Nat.le_of_ble_eq_true rfl) (by decide) (by decide) ?_
  rintro v77 T h_ X ⟨eh_, rfl⟩
  rw [eh_] at X
  show own_Ends p e below _ (T.setTop (mkF m 80 #[.val (.ref r), .val (.int (5 : Int32)), .val (.int pa), .val (.int pb), .val (.ref sf)] [(.int (1 : Int32))]))
  refine own_ifN X 83 own_d7_80 rfl (XT.i0_eq_f (by decide)) ?_
  refine own_aloadN X 84 (.ref r) own_d7_83 rfl rfl rfl ?_
  refine own_iloadN X 85 (5 : Int32) own_d7_84 rfl rfl ?_
  refine own_iloadN X 86 pa own_d7_85 rfl rfl ?_
  refine own_iloadN X 87 pb own_d7_86 rfl rfl ?_
  refine own_aload X 89 (.ref sf) own_d7_87 rfl rfl rfl ?_
  refine own_iconst X 90 (5 : Int32) own_d7_89 rfl rfl ?_
  refine own_callS X 93 [(.ref r), (.int (5 : Int32)), (.int pa), (.int pb), (.ref sf), (.int (5 : Int32))] [] own_d7_90 rfl (hw _ (List.mem_of_getElem? (i := 59) rfl)) (hw _ (List.mem_of_getElem? (i := 60) rfl)) (hw _ (List.mem_of_getElem? (i := 3) rfl)) (hw _ (List.mem_of_getElem? (i := 61) rfl)) (by decide) (own_at_sf l Z a0 hw r (5 : Int32) pa pb sf (5 : Int32) kr [(.int (own_ob pa pb (0 : Int32))), (.int (own_ob pa pb (1 : Int32))), (.int (own_ob pa pb (2 : Int32))), (.int (own_ob pa pb (3 : Int32))), (.int (own_ob pa pb (4 : Int32))), (.int 58), (.int 119), (.int 97), (.int 105), (.int 116), (.int 105), (.int 110), (.int 103)] 5 58 cs sv ks [(.int 58), (.int 119), (.int 97), (.int 105), (.int 116), (.int 105), (.int 110), (.int 103)] 0 58 fo h0 n0 X.sz Ar (show (5 : Int32) < (13 : Int32) by decide) (by decide) (by decide) (by decide) rfl OL z_cs hcs z_fo hfo Ea Fc Fv As (by decide) (by decide) (show (5 : Int32) - (5 : Int32) < (8 : Int32) by decide) rfl (by decide)) (fun _ _ q => Nat.le_of_eq (congrArg Array.size q.1.symm)) rfl own_pd11 rfl rfl rfl (by decide) (Nat.le_of_ble_eq_true rfl) (by decide) (by decide) ?_
  rintro v90 T h_ X ⟨eh_, rfl⟩
  rw [eh_] at X
  show own_Ends p e below _ (T.setTop (mkF m 93 #[.val (.ref r), .val (.int (5 : Int32)), .val (.int pa), .val (.int pb), .val (.ref sf)] [(.int (1 : Int32))]))
  refine own_ifN X 96 own_d7_93 rfl (XT.i0_eq_f (by decide)) ?_
  refine own_aloadN X 97 (.ref r) own_d7_96 rfl rfl rfl ?_
  refine own_iloadN X 98 (5 : Int32) own_d7_97 rfl rfl ?_
  refine own_iloadN X 99 pa own_d7_98 rfl rfl ?_
  refine own_iloadN X 100 pb own_d7_99 rfl rfl ?_
  refine own_aload X 102 (.ref sf) own_d7_100 rfl rfl rfl ?_
  refine own_bipush X 104 (6 : Int32) own_d7_102 rfl (by decide) ?_
  refine own_callS X 107 [(.ref r), (.int (5 : Int32)), (.int pa), (.int pb), (.ref sf), (.int (6 : Int32))] [] own_d7_104 rfl (hw _ (List.mem_of_getElem? (i := 59) rfl)) (hw _ (List.mem_of_getElem? (i := 60) rfl)) (hw _ (List.mem_of_getElem? (i := 3) rfl)) (hw _ (List.mem_of_getElem? (i := 61) rfl)) (by decide) (own_at_sf l Z a0 hw r (5 : Int32) pa pb sf (6 : Int32) kr [(.int (own_ob pa pb (0 : Int32))), (.int (own_ob pa pb (1 : Int32))), (.int (own_ob pa pb (2 : Int32))), (.int (own_ob pa pb (3 : Int32))), (.int (own_ob pa pb (4 : Int32))), (.int 58), (.int 119), (.int 97), (.int 105), (.int 116), (.int 105), (.int 110), (.int 103)] 6 119 cs sv ks [(.int 58), (.int 119), (.int 97), (.int 105), (.int 116), (.int 105), (.int 110), (.int 103)] 1 119 fo h0 n0 X.sz Ar (show (6 : Int32) < (13 : Int32) by decide) (by decide) (by decide) (by decide) rfl OL z_cs hcs z_fo hfo Ea Fc Fv As (by decide) (by decide) (show (6 : Int32) - (5 : Int32) < (8 : Int32) by decide) rfl (by decide)) (fun _ _ q => Nat.le_of_eq (congrArg Array.size q.1.symm)) rfl own_pd11 rfl rfl rfl (by decide) (Nat.le_of_ble_eq_true rfl) (by decide) (by decide) ?_
  rintro v104 T h_ X ⟨eh_, rfl⟩
  rw [eh_] at X
  show own_Ends p e below _ (T.setTop (mkF m 107 #[.val (.ref r), .val (.int (5 : Int32)), .val (.int pa), .val (.int pb), .val (.ref sf)] [(.int (1 : Int32))]))
  refine own_ifN X 110 own_d7_107 rfl (XT.i0_eq_f (by decide)) ?_
  refine own_aloadN X 111 (.ref r) own_d7_110 rfl rfl rfl ?_
  refine own_iloadN X 112 (5 : Int32) own_d7_111 rfl rfl ?_
  refine own_iloadN X 113 pa own_d7_112 rfl rfl ?_
  refine own_iloadN X 114 pb own_d7_113 rfl rfl ?_
  refine own_aload X 116 (.ref sf) own_d7_114 rfl rfl rfl ?_
  refine own_bipush X 118 (7 : Int32) own_d7_116 rfl (by decide) ?_
  refine own_callS X 121 [(.ref r), (.int (5 : Int32)), (.int pa), (.int pb), (.ref sf), (.int (7 : Int32))] [] own_d7_118 rfl (hw _ (List.mem_of_getElem? (i := 59) rfl)) (hw _ (List.mem_of_getElem? (i := 60) rfl)) (hw _ (List.mem_of_getElem? (i := 3) rfl)) (hw _ (List.mem_of_getElem? (i := 61) rfl)) (by decide) (own_at_sf l Z a0 hw r (5 : Int32) pa pb sf (7 : Int32) kr [(.int (own_ob pa pb (0 : Int32))), (.int (own_ob pa pb (1 : Int32))), (.int (own_ob pa pb (2 : Int32))), (.int (own_ob pa pb (3 : Int32))), (.int (own_ob pa pb (4 : Int32))), (.int 58), (.int 119), (.int 97), (.int 105), (.int 116), (.int 105), (.int 110), (.int 103)] 7 97 cs sv ks [(.int 58), (.int 119), (.int 97), (.int 105), (.int 116), (.int 105), (.int 110), (.int 103)] 2 97 fo h0 n0 X.sz Ar (show (7 : Int32) < (13 : Int32) by decide) (by decide) (by decide) (by decide) rfl OL z_cs hcs z_fo hfo Ea Fc Fv As (by decide) (by decide) (show (7 : Int32) - (5 : Int32) < (8 : Int32) by decide) rfl (by decide)) (fun _ _ q => Nat.le_of_eq (congrArg Array.size q.1.symm)) rfl own_pd11 rfl rfl rfl (by decide) (Nat.le_of_ble_eq_true rfl) (by decide) (by decide) ?_
  rintro v118 T h_ X ⟨eh_, rfl⟩
  rw [eh_] at X
  show own_Ends p e below _ (T.setTop (mkF m 121 #[.val (.ref r), .val (.int (5 : Int32)), .val (.int pa), .val (.int pb), .val (.ref sf)] [(.int (1 : Int32))]))
  refine own_ifN X 124 own_d7_121 rfl (XT.i0_eq_f (by decide)) ?_
  refine own_aloadN X 125 (.ref r) own_d7_124 rfl rfl rfl ?_
  refine own_iloadN X 126 (5 : Int32) own_d7_125 rfl rfl ?_
  refine own_iloadN X 127 pa own_d7_126 rfl rfl ?_
  refine own_iloadN X 128 pb own_d7_127 rfl rfl ?_
  refine own_aload X 130 (.ref sf) own_d7_128 rfl rfl rfl ?_
  refine own_bipush X 132 (8 : Int32) own_d7_130 rfl (by decide) ?_
  refine own_callS X 135 [(.ref r), (.int (5 : Int32)), (.int pa), (.int pb), (.ref sf), (.int (8 : Int32))] [] own_d7_132 rfl (hw _ (List.mem_of_getElem? (i := 59) rfl)) (hw _ (List.mem_of_getElem? (i := 60) rfl)) (hw _ (List.mem_of_getElem? (i := 3) rfl)) (hw _ (List.mem_of_getElem? (i := 61) rfl)) (by decide) (own_at_sf l Z a0 hw r (5 : Int32) pa pb sf (8 : Int32) kr [(.int (own_ob pa pb (0 : Int32))), (.int (own_ob pa pb (1 : Int32))), (.int (own_ob pa pb (2 : Int32))), (.int (own_ob pa pb (3 : Int32))), (.int (own_ob pa pb (4 : Int32))), (.int 58), (.int 119), (.int 97), (.int 105), (.int 116), (.int 105), (.int 110), (.int 103)] 8 105 cs sv ks [(.int 58), (.int 119), (.int 97), (.int 105), (.int 116), (.int 105), (.int 110), (.int 103)] 3 105 fo h0 n0 X.sz Ar (show (8 : Int32) < (13 : Int32) by decide) (by decide) (by decide) (by decide) rfl OL z_cs hcs z_fo hfo Ea Fc Fv As (by decide) (by decide) (show (8 : Int32) - (5 : Int32) < (8 : Int32) by decide) rfl (by decide)) (fun _ _ q => Nat.le_of_eq (congrArg Array.size q.1.symm)) rfl own_pd11 rfl rfl rfl (by decide) (Nat.le_of_ble_eq_true rfl) (by decide) (by decide) ?_
  rintro v132 T h_ X ⟨eh_, rfl⟩
  rw [eh_] at X
  show own_Ends p e below _ (T.setTop (mkF m 135 #[.val (.ref r), .val (.int (5 : Int32)), .val (.int pa), .val (.int pb), .val (.ref sf)] [(.int (1 : Int32))]))
  refine own_ifN X 138 own_d7_135 rfl (XT.i0_eq_f (by decide)) ?_
  refine own_aloadN X 139 (.ref r) own_d7_138 rfl rfl rfl ?_
  refine own_iloadN X 140 (5 : Int32) own_d7_139 rfl rfl ?_
  refine own_iloadN X 141 pa own_d7_140 rfl rfl ?_
  refine own_iloadN X 142 pb own_d7_141 rfl rfl ?_
  refine own_aload X 144 (.ref sf) own_d7_142 rfl rfl rfl ?_
  refine own_bipush X 146 (9 : Int32) own_d7_144 rfl (by decide) ?_
  refine own_callS X 149 [(.ref r), (.int (5 : Int32)), (.int pa), (.int pb), (.ref sf), (.int (9 : Int32))] [] own_d7_146 rfl (hw _ (List.mem_of_getElem? (i := 59) rfl)) (hw _ (List.mem_of_getElem? (i := 60) rfl)) (hw _ (List.mem_of_getElem? (i := 3) rfl)) (hw _ (List.mem_of_getElem? (i := 61) rfl)) (by decide) (own_at_sf l Z a0 hw r (5 : Int32) pa pb sf (9 : Int32) kr [(.int (own_ob pa pb (0 : Int32))), (.int (own_ob pa pb (1 : Int32))), (.int (own_ob pa pb (2 : Int32))), (.int (own_ob pa pb (3 : Int32))), (.int (own_ob pa pb (4 : Int32))), (.int 58), (.int 119), (.int 97), (.int 105), (.int 116), (.int 105), (.int 110), (.int 103)] 9 116 cs sv ks [(.int 58), (.int 119), (.int 97), (.int 105), (.int 116), (.int 105), (.int 110), (.int 103)] 4 116 fo h0 n0 X.sz Ar (show (9 : Int32) < (13 : Int32) by decide) (by decide) (by decide) (by decide) rfl OL z_cs hcs z_fo hfo Ea Fc Fv As (by decide) (by decide) (show (9 : Int32) - (5 : Int32) < (8 : Int32) by decide) rfl (by decide)) (fun _ _ q => Nat.le_of_eq (congrArg Array.size q.1.symm)) rfl own_pd11 rfl rfl rfl (by decide) (Nat.le_of_ble_eq_true rfl) (by decide) (by decide) ?_
  rintro v146 T h_ X ⟨eh_, rfl⟩
  rw [eh_] at X
  show own_Ends p e below _ (T.setTop (mkF m 149 #[.val (.ref r), .val (.int (5 : Int32)), .val (.int pa), .val (.int pb), .val (.ref sf)] [(.int (1 : Int32))]))
  refine own_ifN X 152 own_d7_149 rfl (XT.i0_eq_f (by decide)) ?_
  refine own_aloadN X 153 (.ref r) own_d7_152 rfl rfl rfl ?_
  refine own_iloadN X 154 (5 : Int32) own_d7_153 rfl rfl ?_
  refine own_iloadN X 155 pa own_d7_154 rfl rfl ?_
  refine own_iloadN X 156 pb own_d7_155 rfl rfl ?_
  refine own_aload X 158 (.ref sf) own_d7_156 rfl rfl rfl ?_
  refine own_bipush X 160 (10 : Int32) own_d7_158 rfl (by decide) ?_
  refine own_callS X 163 [(.ref r), (.int (5 : Int32)), (.int pa), (.int pb), (.ref sf), (.int (10 : Int32))] [] own_d7_160 rfl (hw _ (List.mem_of_getElem? (i := 59) rfl)) (hw _ (List.mem_of_getElem? (i := 60) rfl)) (hw _ (List.mem_of_getElem? (i := 3) rfl)) (hw _ (List.mem_of_getElem? (i := 61) rfl)) (by decide) (own_at_sf l Z a0 hw r (5 : Int32) pa pb sf (10 : Int32) kr [(.int (own_ob pa pb (0 : Int32))), (.int (own_ob pa pb (1 : Int32))), (.int (own_ob pa pb (2 : Int32))), (.int (own_ob pa pb (3 : Int32))), (.int (own_ob pa pb (4 : Int32))), (.int 58), (.int 119), (.int 97), (.int 105), (.int 116), (.int 105), (.int 110), (.int 103)] 10 105 cs sv ks [(.int 58), (.int 119), (.int 97), (.int 105), (.int 116), (.int 105), (.int 110), (.int 103)] 5 105 fo h0 n0 X.sz Ar (show (10 : Int32) < (13 : Int32) by decide) (by decide) (by decide) (by decide) rfl OL z_cs hcs z_fo hfo Ea Fc Fv As (by decide) (by decide) (show (10 : Int32) - (5 : Int32) < (8 : Int32) by decide) rfl (by decide)) (fun _ _ q => Nat.le_of_eq (congrArg Array.size q.1.symm)) rfl own_pd11 rfl rfl rfl (by decide) (Nat.le_of_ble_eq_true rfl) (by decide) (by decide) ?_
  rintro v160 T h_ X ⟨eh_, rfl⟩
  rw [eh_] at X
  show own_Ends p e below _ (T.setTop (mkF m 163 #[.val (.ref r), .val (.int (5 : Int32)), .val (.int pa), .val (.int pb), .val (.ref sf)] [(.int (1 : Int32))]))
  refine own_ifN X 166 own_d7_163 rfl (XT.i0_eq_f (by decide)) ?_
  refine own_aloadN X 167 (.ref r) own_d7_166 rfl rfl rfl ?_
  refine own_iloadN X 168 (5 : Int32) own_d7_167 rfl rfl ?_
  refine own_iloadN X 169 pa own_d7_168 rfl rfl ?_
  refine own_iloadN X 170 pb own_d7_169 rfl rfl ?_
  refine own_aload X 172 (.ref sf) own_d7_170 rfl rfl rfl ?_
  refine own_bipush X 174 (11 : Int32) own_d7_172 rfl (by decide) ?_
  refine own_callS X 177 [(.ref r), (.int (5 : Int32)), (.int pa), (.int pb), (.ref sf), (.int (11 : Int32))] [] own_d7_174 rfl (hw _ (List.mem_of_getElem? (i := 59) rfl)) (hw _ (List.mem_of_getElem? (i := 60) rfl)) (hw _ (List.mem_of_getElem? (i := 3) rfl)) (hw _ (List.mem_of_getElem? (i := 61) rfl)) (by decide) (own_at_sf l Z a0 hw r (5 : Int32) pa pb sf (11 : Int32) kr [(.int (own_ob pa pb (0 : Int32))), (.int (own_ob pa pb (1 : Int32))), (.int (own_ob pa pb (2 : Int32))), (.int (own_ob pa pb (3 : Int32))), (.int (own_ob pa pb (4 : Int32))), (.int 58), (.int 119), (.int 97), (.int 105), (.int 116), (.int 105), (.int 110), (.int 103)] 11 110 cs sv ks [(.int 58), (.int 119), (.int 97), (.int 105), (.int 116), (.int 105), (.int 110), (.int 103)] 6 110 fo h0 n0 X.sz Ar (show (11 : Int32) < (13 : Int32) by decide) (by decide) (by decide) (by decide) rfl OL z_cs hcs z_fo hfo Ea Fc Fv As (by decide) (by decide) (show (11 : Int32) - (5 : Int32) < (8 : Int32) by decide) rfl (by decide)) (fun _ _ q => Nat.le_of_eq (congrArg Array.size q.1.symm)) rfl own_pd11 rfl rfl rfl (by decide) (Nat.le_of_ble_eq_true rfl) (by decide) (by decide) ?_
  rintro v174 T h_ X ⟨eh_, rfl⟩
  rw [eh_] at X
  show own_Ends p e below _ (T.setTop (mkF m 177 #[.val (.ref r), .val (.int (5 : Int32)), .val (.int pa), .val (.int pb), .val (.ref sf)] [(.int (1 : Int32))]))
  refine own_ifN X 180 own_d7_177 rfl (XT.i0_eq_f (by decide)) ?_
  refine own_aloadN X 181 (.ref r) own_d7_180 rfl rfl rfl ?_
  refine own_iloadN X 182 (5 : Int32) own_d7_181 rfl rfl ?_
  refine own_iloadN X 183 pa own_d7_182 rfl rfl ?_
  refine own_iloadN X 184 pb own_d7_183 rfl rfl ?_
  refine own_aload X 186 (.ref sf) own_d7_184 rfl rfl rfl ?_
  refine own_bipush X 188 (12 : Int32) own_d7_186 rfl (by decide) ?_
  refine own_callS X 191 [(.ref r), (.int (5 : Int32)), (.int pa), (.int pb), (.ref sf), (.int (12 : Int32))] [] own_d7_188 rfl (hw _ (List.mem_of_getElem? (i := 59) rfl)) (hw _ (List.mem_of_getElem? (i := 60) rfl)) (hw _ (List.mem_of_getElem? (i := 3) rfl)) (hw _ (List.mem_of_getElem? (i := 61) rfl)) (by decide) (own_at_sf l Z a0 hw r (5 : Int32) pa pb sf (12 : Int32) kr [(.int (own_ob pa pb (0 : Int32))), (.int (own_ob pa pb (1 : Int32))), (.int (own_ob pa pb (2 : Int32))), (.int (own_ob pa pb (3 : Int32))), (.int (own_ob pa pb (4 : Int32))), (.int 58), (.int 119), (.int 97), (.int 105), (.int 116), (.int 105), (.int 110), (.int 103)] 12 103 cs sv ks [(.int 58), (.int 119), (.int 97), (.int 105), (.int 116), (.int 105), (.int 110), (.int 103)] 7 103 fo h0 n0 X.sz Ar (show (12 : Int32) < (13 : Int32) by decide) (by decide) (by decide) (by decide) rfl OL z_cs hcs z_fo hfo Ea Fc Fv As (by decide) (by decide) (show (12 : Int32) - (5 : Int32) < (8 : Int32) by decide) rfl (by decide)) (fun _ _ q => Nat.le_of_eq (congrArg Array.size q.1.symm)) rfl own_pd11 rfl rfl rfl (by decide) (Nat.le_of_ble_eq_true rfl) (by decide) (by decide) ?_
  rintro v188 T h_ X ⟨eh_, rfl⟩
  rw [eh_] at X
  show own_Ends p e below _ (T.setTop (mkF m 191 #[.val (.ref r), .val (.int (5 : Int32)), .val (.int pa), .val (.int pb), .val (.ref sf)] [(.int (1 : Int32))]))
  refine own_ifN X 194 own_d7_191 rfl (XT.i0_eq_f (by decide)) ?_
  refine own_iconst X 195 (1 : Int32) own_d7_194 rfl rfl ?_
  refine own_goto X 199 own_d7_195 (by decide) (by decide) ?_
  exact own_retN X .boolean own_d7_199 rfl (by simp) (by decide) (by decide) (⟨rfl, rfl⟩)
theorem own_pd12 : parseMethodDescriptor "(I)[B" = some ⟨[.int], some (.array .byte)⟩ := by decide +kernel
theorem own_pd13 : parseMethodDescriptor "([B)[[B" = some ⟨[(.array .byte)], some (.array (.array .byte))⟩ := by decide +kernel
theorem own_strA : ∀ w ∈ Bundle.stringAtoms, w ∈ tables_1 := by decide +kernel
theorem own_pd14 : parseMethodDescriptor "([BIIILjava/lang/String;)Z" = some ⟨[(.array .byte), .int, .int, .int, (.object "java/lang/String")], some .boolean⟩ := by decide +kernel
theorem own_pn0 : plainFor x = true := plainFor_of_name (by first | (simp [plainName, overriddenIn]; done) | decide +kernel)
set_option maxRecDepth 65536 in
set_option maxHeartbeats 40000000 in
theorem own_m0 (l : Launch) (Z : State) (a0 : Array Value) (hw : ∀ d ∈ tables_1, d.before a0 Z = true) (pa : Int32) (pb : Int32) (pl : Int32) (cs : Int32) (fo : Value) (ho : Addr) (kh : ClassId) (wt : Addr) (kw : ClassId) (h0 : Heap) (n0 : Nat) (hs0 : n0 ≤ h0.size) (hH0 : h0 = Z.heap) (hN0 : n0 = Z.heap.size) (OL : Old Z n0 h0) (z_cs : Sta Z Z.heap "java/lang/String" "COMPACT_STRINGS" "Z" (.int cs)) (hcs : ¬ cs = 0) (z_fo : Sta Z Z.heap "jdk/internal/util/Preconditions" "SIOOBE_FORMATTER" "Ljava/util/function/BiFunction;" fo) (hfo : fo.isRef = true) (z_ho : Sta Z Z.heap "com/example/latchkey/latchkey/LockKeys" "HOLDS" "[B" (.ref ho)) (z_hA : own_A Z Z.heap ho kh .byte [(.int 58), (.int 104), (.int 111), (.int 108), (.int 100), (.int 115)]) (z_wt : Sta Z Z.heap "com/example/latchkey/latchkey/LockKeys" "WAITING" "[B" (.ref wt)) (z_wA : own_A Z Z.heap wt kw .byte [(.int 58), (.int 119), (.int 97), (.int 105), (.int 116), (.int 105), (.int 110), (.int 103)]) (hh24 : Jvm.Lit.constHeld Z x.cls 24) (hh30 : Jvm.Lit.constHeld Z x.cls 30) (hh32 : Jvm.Lit.constHeld Z x.cls 32) (hcw : Jvm.Lit.compactW.before a0 Z = true) :
    own_MetL l x code maxLocals ret room_1 Z #[(.int pa), (.int pb), (.int pl)] h0 n0 (fun v h' => v = some (.int 1)) := by
  refine own_metL (Ls := #[.val (.int pa), .val (.int pb), .val (.int pl), .unset, .unset, .unset]) own_pn0 hH0 hN0 (fun m => by first  | (simp [entryFrame, mkF, argsToLocals, Value.category, maxLocals]; done) | rfl) ?_
  intro p e s m below meth c T vm0 k0 X hS hk0 hhp hI
  have hi_ho : n0 > ho := (OL.1 ▸ z_hA.lt)
  have hi_wt : n0 > wt := (OL.1 ▸ z_wA.lt)
  refine own_iloadN X 1 pl at_0 rfl rfl ?_
  refine own_ldcI X 3 at_1 rfl (hw _ (List.mem_of_getElem? (i := 0) rfl)) ?_
  refine own_iand X 4 at_3 rfl ?_
  refine own_bipush X 6 (6 : Int32) at_4 rfl (by decide) ?_
  refine own_irem X 7 at_6 rfl (by decide) ?_
  rcases own_mod6 pl with hn_ | hn_ | hn_ | hn_ | hn_ | hn_
  · rw [hn_]
    refine own_istoreN X 8 #[.val (.int pa), .val (.int pb), .val (.int pl), .val (.int (0 : Int32)), .unset, .unset] at_7 rfl rfl ?_
    refine own_iloadN X 9 (0 : Int32) at_8 rfl rfl ?_
    refine own_callS X 12 [(.int (0 : Int32))] [] at_9 rfl (hw _ (List.mem_of_getElem? (i := 1) rfl)) (hw _ (List.mem_of_getElem? (i := 2) rfl)) (hw _ (List.mem_of_getElem? (i := 3) rfl)) (hw _ (List.mem_of_getElem? (i := 4) rfl)) (by decide) (own_make0 l Z a0 hw (0 : Int32) h0 n0 X.sz rfl) (fun _ _ q => q.1.1) rfl own_pd12 rfl rfl rfl (by decide) (Nat.le_of_ble_eq_true rfl) (by decide) (by decide) ?_
    rintro v9 T h2 X ⟨K_, b1, kb_b1, rfl, lo_b1, hi_b1, A_b1, C_b1⟩
    have zs_h2 : h0.size ≤ h2.size := K_.1
    have OL := OL.keep K_ all0
    show own_Ends p e below _ (T.setTop (mkF m 12 #[.val (.int pa), .val (.int pb), .val (.int pl), .val (.int (0 : Int32)), .unset, .unset] [(.ref b1)]))
    refine own_astore X 14 #[.val (.int pa), .val (.int pb), .val (.int pl), .val (.int (0 : Int32)), .val (.ref b1), .unset] at_12 rfl rfl rfl ?_
    refine own_iloadN X 15 (0 : Int32) at_14 rfl rfl ?_
    refine own_ifY X 28 at_15 (by decide) (by decide) (XT.i0_le_t (by decide)) ?_
    refine own_iloadN X 29 (0 : Int32) at_28 rfl rfl ?_
    refine own_iconst X 30 (1 : Int32) at_29 rfl rfl ?_
    refine own_icY X 43 at_30 (by decide) (by decide) (XT.ii_le_t (by decide)) ?_
    refine own_iloadN X 44 (0 : Int32) at_43 rfl rfl ?_
    refine own_iconst X 45 (2 : Int32) at_44 rfl rfl ?_
    refine own_icY X 58 at_45 (by decide) (by decide) (XT.ii_le_t (by decide)) ?_
    refine own_iloadN X 59 (0 : Int32) at_58 rfl rfl ?_
    refine own_iconst X 60 (3 : Int32) at_59 rfl rfl ?_
    refine own_icY X 73 at_60 (by decide) (by decide) (XT.ii_le_t (by decide)) ?_
    refine own_iloadN X 74 (0 : Int32) at_73 rfl rfl ?_
    refine own_iconst X 75 (4 : Int32) at_74 rfl rfl ?_
    refine own_icY X 88 at_75 (by decide) (by decide) (XT.ii_le_t (by decide)) ?_
    refine own_aload X 90 (.ref b1) at_88 rfl rfl rfl ?_
    refine own_callS X 93 [(.ref b1)] [] at_90 rfl (hw _ (List.mem_of_getElem? (i := 9) rfl)) (hw _ (List.mem_of_getElem? (i := 10) rfl)) (hw _ (List.mem_of_getElem? (i := 11) rfl)) (hw _ (List.mem_of_getElem? (i := 12) rfl)) (by decide) (own_hf0 l Z a0 hw b1 kb_b1 ho kh wt kw h2 n0 X.sz OL z_ho z_hA z_wt z_wA A_b1 C_b1) (fun _ _ q => q.1.1) rfl own_pd13 rfl rfl rfl (by decide) (Nat.le_of_ble_eq_true rfl) (by decide) (by decide) ?_
    rintro v90 T h4 X ⟨K_, b3, kx_b3, b1_b3, k1_b3, b2_b3, k2_b3, rfl, A_b3, A1_b3, A2_b3⟩
    have zs_h4 : h2.size ≤ h4.size := K_.1
    have OL := OL.keep K_ all0
    have A_b1 := A_b1.keep K_ nin0
    have C_b1 := C_b1.keep K_
    show own_Ends p e below _ (T.setTop (mkF m 93 #[.val (.int pa), .val (.int pb), .val (.int pl), .val (.int (0 : Int32)), .val (.ref b1), .unset] [(.ref b3)]))
    refine own_astore X 95 #[.val (.int pa), .val (.int pb), .val (.int pl), .val (.int (0 : Int32)), .val (.ref b1), .val (.ref b3)] at_93 rfl rfl rfl ?_
    refine own_aload X 97 (.ref b3) at_95 rfl rfl rfl ?_
    refine own_nullN X 100 at_97 rfl ?_
    refine own_aload X 102 (.ref b3) at_100 rfl rfl rfl ?_
    refine own_len X 103 (3 : Int32) at_102 rfl A_b3 rfl ?_
    refine own_iconst X 104 (3 : Int32) at_103 rfl rfl ?_
    refine own_icY X 109 at_104 (by decide) (by decide) (XT.ii_eq_t (by decide)) ?_
    refine own_aload X 111 (.ref b3) at_109 rfl rfl rfl ?_
    refine own_iconst X 112 (0 : Int32) at_111 rfl rfl ?_
    refine own_aaload X 113 0 (.ref b1) at_112 rfl A_b3 (by decide) (by decide) rfl rfl ?_
    refine own_iloadN X 114 (0 : Int32) at_113 rfl rfl ?_
    refine own_iloadN X 115 pa at_114 rfl rfl ?_
    refine own_iloadN X 116 pb at_115 rfl rfl ?_
    refine own_ldcSV X hS (by omega) 118 [] (0 : Int32) 0 at_116 rfl (hw _ (List.mem_of_getElem? (i := 36) rfl)) (fun a ha => hw a (own_strA a ha)) hhp hN0 hI (by decide) hh24 hcw own_tx_24 (by decide) (by decide) (by decide) (by decide) (by decide) (by decide) ?_
    intro b6 v_b6 kv_b6 T h5 vm0 k0 X E_h5 hS hk0 hW_ EE_b6 Fc_b6 Fv_b6 A_b6 hI Lit_24
    have zs_h5 : h4.size ≤ h5.size := E_h5.1
    have OL := OL.ext E_h5
    have A_b1 := A_b1.ext E_h5
    have C_b1 := Exa.ext E_h5 C_b1
    have A_b3 := A_b3.ext E_h5
    have A1_b3 := A1_b3.ext E_h5
    have A2_b3 := A2_b3.ext E_h5
    have hi_b6 : h5.size > b6 := EE_b6.lt
    have hi_v_b6 : h5.size > v_b6 := A_b6.lt
    refine own_callS X 121 [(.ref b1), (.int (0 : Int32)), (.int pa), (.int pb), (.ref b6)] [] at_118 rfl (hw _ (List.mem_of_getElem? (i := 43) rfl)) (hw _ (List.mem_of_getElem? (i := 44) rfl)) (hw _ (List.mem_of_getElem? (i := 3) rfl)) (hw _ (List.mem_of_getElem? (i := 45) rfl)) (by decide) (own_mt0_0 l Z a0 hw b1 (0 : Int32) pa pb b6 kb_b1 cs v_b6 kv_b6 fo h5 n0 X.sz A_b1 OL z_cs hcs z_fo hfo EE_b6 Fc_b6 Fv_b6 A_b6 rfl) (fun _ _ q => Nat.le_of_eq (congrArg Array.size q.1.symm)) rfl own_pd14 rfl rfl rfl (by decide) (Nat.le_of_ble_eq_true rfl) (by decide) (by decide) ?_
    rintro v118 T h_ X ⟨eh_, rfl⟩
    rw [eh_] at X
    show own_Ends p e below _ (T.setTop (mkF m 121 #[.val (.int pa), .val (.int pb), .val (.int pl), .val (.int (0 : Int32)), .val (.ref b1), .val (.ref b3)] [(.int (1 : Int32))]))
    refine own_ifN X 124 at_121 rfl (XT.i0_eq_f (by decide)) ?_
    refine own_aload X 126 (.ref b3) at_124 rfl rfl rfl ?_
    refine own_iconst X 127 (1 : Int32) at_126 rfl rfl ?_
    refine own_aaload X 128 1 (.ref b1_b3) at_127 rfl A_b3 (by decide) (by decide) rfl rfl ?_
    refine own_iloadN X 129 (0 : Int32) at_128 rfl rfl ?_
    refine own_iloadN X 130 pa at_129 rfl rfl ?_
    refine own_iloadN X 131 pb at_130 rfl rfl ?_
    refine own_ldcSV X hS (by omega) 133 [(.int 58), (.int 104), (.int 111), (.int 108), (.int 100), (.int 115)] (6 : Int32) 24 at_131 rfl (hw _ (List.mem_of_getElem? (i := 62) rfl)) (fun a ha => hw a (own_strA a ha)) hhp hN0 hI (by decide) hh30 hcw own_tx_30 (by decide) (by decide) (by decide) (by decide) (by decide) (by decide) ?_
    intro b8 v_b8 kv_b8 T h7 vm0 k0 X E_h7 hS hk0 hW_ EE_b8 Fc_b8 Fv_b8 A_b8 hI Lit_30
    have Lit_24 := Lit.stays Lit_24 hW_
    have zs_h7 : h5.size ≤ h7.size := E_h7.1
    have OL := OL.ext E_h7
    have A_b1 := A_b1.ext E_h7
    have C_b1 := Exa.ext E_h7 C_b1
    have A_b3 := A_b3.ext E_h7
    have A1_b3 := A1_b3.ext E_h7
    have A2_b3 := A2_b3.ext E_h7
    have EE_b6 := Exa.ext E_h7 EE_b6
    have Fc_b6 := Fld.ext E_h7 Fc_b6
    have Fv_b6 := Fld.ext E_h7 Fv_b6
    have A_b6 := A_b6.ext E_h7
    have hi_b8 : h7.size > b8 := EE_b8.lt
    have hi_v_b8 : h7.size > v_b8 := A_b8.lt
    refine own_callS X 136 [(.ref b1_b3), (.int (0 : Int32)), (.int pa), (.int pb), (.ref b8)] [] at_133 rfl (hw _ (List.mem_of_getElem? (i := 43) rfl)) (hw _ (List.mem_of_getElem? (i := 44) rfl)) (hw _ (List.mem_of_getElem? (i := 3) rfl)) (hw _ (List.mem_of_getElem? (i := 45) rfl)) (by decide) (own_mt0_6 l Z a0 hw b1_b3 (0 : Int32) pa pb b8 k1_b3 cs v_b8 kv_b8 fo h7 n0 X.sz A1_b3 OL z_cs hcs z_fo hfo EE_b8 Fc_b8 Fv_b8 A_b8 rfl) (fun _ _ q => Nat.le_of_eq (congrArg Array.size q.1.symm)) rfl own_pd14 rfl rfl rfl (by decide) (Nat.le_of_ble_eq_true rfl) (by decide) (by decide) ?_
    rintro v133 T h_ X ⟨eh_, rfl⟩
    rw [eh_] at X
    show own_Ends p e below _ (T.setTop (mkF m 136 #[.val (.int pa), .val (.int pb), .val (.int pl), .val (.int (0 : Int32)), .val (.ref b1), .val (.ref b3)] [(.int (1 : Int32))]))
    refine own_ifN X 139 at_136 rfl (XT.i0_eq_f (by decide)) ?_
    refine own_aload X 141 (.ref b3) at_139 rfl rfl rfl ?_
    refine own_iconst X 142 (2 : Int32) at_141 rfl rfl ?_
    refine own_aaload X 143 2 (.ref b2_b3) at_142 rfl A_b3 (by decide) (by decide) rfl rfl ?_
    refine own_iloadN X 144 (0 : Int32) at_143 rfl rfl ?_
    refine own_iloadN X 145 pa at_144 rfl rfl ?_
    refine own_iloadN X 146 pb at_145 rfl rfl ?_
    refine own_ldcSV X hS (by omega) 148 [(.int 58), (.int 119), (.int 97), (.int 105), (.int 116), (.int 105), (.int 110), (.int 103)] (8 : Int32) 32 at_146 rfl (hw _ (List.mem_of_getElem? (i := 85) rfl)) (fun a ha => hw a (own_strA a ha)) hhp hN0 hI (by decide) hh32 hcw own_tx_32 (by decide) (by decide) (by decide) (by decide) (by decide) (by decide) ?_
    intro b10 v_b10 kv_b10 T h9 vm0 k0 X E_h9 hS hk0 hW_ EE_b10 Fc_b10 Fv_b10 A_b10 hI Lit_32
    have Lit_24 := Lit.stays Lit_24 hW_
    have Lit_30 := Lit.stays Lit_30 hW_
    have zs_h9 : h7.size ≤ h9.size := E_h9.1
    have OL := OL.ext E_h9
    have A_b1 := A_b1.ext E_h9
    have C_b1 := Exa.ext E_h9 C_b1
    have A_b3 := A_b3.ext E_h9
    have A1_b3 := A1_b3.ext E_h9
    have A2_b3 := A2_b3.ext E_h9
    have EE_b6 := Exa.ext E_h9 EE_b6
    have Fc_b6 := Fld.ext E_h9 Fc_b6
    have Fv_b6 := Fld.ext E_h9 Fv_b6
    have A_b6 := A_b6.ext E_h9
    have EE_b8 := Exa.ext E_h9 EE_b8
    have Fc_b8 := Fld.ext E_h9 Fc_b8
    have Fv_b8 := Fld.ext E_h9 Fv_b8
    have A_b8 := A_b8.ext E_h9
    have hi_b10 : h9.size > b10 := EE_b10.lt
    have hi_v_b10 : h9.size > v_b10 := A_b10.lt
    refine own_callS X 151 [(.ref b2_b3), (.int (0 : Int32)), (.int pa), (.int pb), (.ref b10)] [] at_148 rfl (hw _ (List.mem_of_getElem? (i := 43) rfl)) (hw _ (List.mem_of_getElem? (i := 44) rfl)) (hw _ (List.mem_of_getElem? (i := 3) rfl)) (hw _ (List.mem_of_getElem? (i := 45) rfl)) (by decide) (own_mt0_8 l Z a0 hw b2_b3 (0 : Int32) pa pb b10 k2_b3 cs v_b10 kv_b10 fo h9 n0 X.sz A2_b3 OL z_cs hcs z_fo hfo EE_b10 Fc_b10 Fv_b10 A_b10 rfl) (fun _ _ q => Nat.le_of_eq (congrArg Array.size q.1.symm)) rfl own_pd14 rfl rfl rfl (by decide) (Nat.le_of_ble_eq_true rfl) (by decide) (by decide) ?_
    rintro v148 T h_ X ⟨eh_, rfl⟩
    rw [eh_] at X
    show own_Ends p e below _ (T.setTop (mkF m 151 #[.val (.int pa), .val (.int pb), .val (.int pl), .val (.int (0 : Int32)), .val (.ref b1), .val (.ref b3)] [(.int (1 : Int32))]))
    refine own_ifN X 154 at_151 rfl (XT.i0_eq_f (by decide)) ?_
    refine own_aload X 156 (.ref b1) at_154 rfl rfl rfl ?_
    refine own_iloadN X 157 (0 : Int32) at_156 rfl rfl ?_
    refine own_iloadN X 158 pa at_157 rfl rfl ?_
    refine own_iloadN X 159 pb at_158 rfl rfl ?_
    refine own_ldcAgain X 161 at_159 rfl (hw _ (List.mem_of_getElem? (i := 36) rfl)) Lit_24 ?_
    refine own_callS X 164 [(.ref b1), (.int (0 : Int32)), (.int pa), (.int pb), (.ref b6)] [] at_161 rfl (hw _ (List.mem_of_getElem? (i := 43) rfl)) (hw _ (List.mem_of_getElem? (i := 44) rfl)) (hw _ (List.mem_of_getElem? (i := 3) rfl)) (hw _ (List.mem_of_getElem? (i := 45) rfl)) (by decide) (own_mt0_0 l Z a0 hw b1 (0 : Int32) pa pb b6 kb_b1 cs v_b6 kv_b6 fo h9 n0 X.sz A_b1 OL z_cs hcs z_fo hfo EE_b6 Fc_b6 Fv_b6 A_b6 rfl) (fun _ _ q => Nat.le_of_eq (congrArg Array.size q.1.symm)) rfl own_pd14 rfl rfl rfl (by decide) (Nat.le_of_ble_eq_true rfl) (by decide) (by decide) ?_
    rintro v161 T h_ X ⟨eh_, rfl⟩
    rw [eh_] at X
    show own_Ends p e below _ (T.setTop (mkF m 164 #[.val (.int pa), .val (.int pb), .val (.int pl), .val (.int (0 : Int32)), .val (.ref b1), .val (.ref b3)] [(.int (1 : Int32))]))
    refine own_ifN X 167 at_164 rfl (XT.i0_eq_f (by decide)) ?_
    refine own_iconst X 168 (1 : Int32) at_167 rfl rfl ?_
    refine own_goto X 172 at_168 (by decide) (by decide) ?_
    exact own_retNW X hS (by omega) .boolean at_172 rfl (by simp) (by decide) (by decide) (by decide)
  · rw [hn_]
    refine own_istoreN X 8 #[.val (.int pa), .val (.int pb), .val (.int pl), .val (.int (1 : Int32)), .unset, .unset] at_7 rfl rfl ?_
    refine own_iloadN X 9 (1 : Int32) at_8 rfl rfl ?_
    refine own_callS X 12 [(.int (1 : Int32))] [] at_9 rfl (hw _ (List.mem_of_getElem? (i := 1) rfl)) (hw _ (List.mem_of_getElem? (i := 2) rfl)) (hw _ (List.mem_of_getElem? (i := 3) rfl)) (hw _ (List.mem_of_getElem? (i := 4) rfl)) (by decide) (own_make1 l Z a0 hw (1 : Int32) h0 n0 X.sz rfl) (fun _ _ q => q.1.1) rfl own_pd12 rfl rfl rfl (by decide) (Nat.le_of_ble_eq_true rfl) (by decide) (by decide) ?_
    rintro v9 T h12 X ⟨K_, b11, kb_b11, rfl, lo_b11, hi_b11, A_b11, C_b11⟩
    have zs_h12 : h0.size ≤ h12.size := K_.1
    have OL := OL.keep K_ all0
    show own_Ends p e below _ (T.setTop (mkF m 12 #[.val (.int pa), .val (.int pb), .val (.int pl), .val (.int (1 : Int32)), .unset, .unset] [(.ref b11)]))
    refine own_astore X 14 #[.val (.int pa), .val (.int pb), .val (.int pl), .val (.int (1 : Int32)), .val (.ref b11), .unset] at_12 rfl rfl rfl ?_
    refine own_iloadN X 15 (1 : Int32) at_14 rfl rfl ?_
    refine own_ifN X 18 at_15 rfl (XT.i0_le_f (by decide)) ?_
    refine own_aload X 20 (.ref b11) at_18 rfl rfl rfl ?_
    refine own_iconst X 21 (0 : Int32) at_20 rfl rfl ?_
    refine own_iloadN X 22 pa at_21 rfl rfl ?_
    refine own_iloadN X 23 pb at_22 rfl rfl ?_
    refine own_iconst X 24 (0 : Int32) at_23 rfl rfl ?_
    refine own_callS X 27 [(.int pa), (.int pb), (.int (0 : Int32))] [(.int (0 : Int32)), (.ref b11)] at_24 rfl (hw _ (List.mem_of_getElem? (i := 6) rfl)) (hw _ (List.mem_of_getElem? (i := 7) rfl)) (hw _ (List.mem_of_getElem? (i := 3) rfl)) (hw _ (List.mem_of_getElem? (i := 8) rfl)) (by decide) (own_obm l Z a0 hw pa pb (0 : Int32) h12 n0 X.sz) (fun _ _ q => Nat.le_of_eq (congrArg Array.size q.1.symm)) rfl own_pd8 rfl rfl rfl (by decide) (Nat.le_of_ble_eq_true rfl) (by decide) (by decide) ?_
    rintro v24 T h_ X ⟨eh_, rfl⟩
    rw [eh_] at X
    show own_Ends p e below _ (T.setTop (mkF m 27 #[.val (.int pa), .val (.int pb), .val (.int pl), .val (.int (1 : Int32)), .val (.ref b11), .unset] [(.int (own_ob pa pb (0 : Int32))), (.int (0 : Int32)), (.ref b11)]))
    refine own_bastore X 28 0 at_27 rfl A_b11 (by decide) (by decide) (Nat.le_of_ble_eq_true rfl) (by omega) ?_
    intro T h13 X W_h13
    rw [own_ob_nar] at W_h13
    have nw_h13 : own_A Z h13 b11 kb_b11 .byte [(.int (own_ob pa pb (0 : Int32)))] := A_b11.same W_h13 (fits_nar_byte _)
    have zs_h13 : h12.size ≤ h13.size := (Nat.le_of_eq W_h13.size.symm)
    have OL := OL.wr W_h13 (by omega)
    have C_b11 := Exa.wr W_h13 C_b11
    have A_b11 := nw_h13
    refine own_iloadN X 29 (1 : Int32) at_28 rfl rfl ?_
    refine own_iconst X 30 (1 : Int32) at_29 rfl rfl ?_
    refine own_icY X 43 at_30 (by decide) (by decide) (XT.ii_le_t (by decide)) ?_
    refine own_iloadN X 44 (1 : Int32) at_43 rfl rfl ?_
    refine own_iconst X 45 (2 : Int32) at_44 rfl rfl ?_
    refine own_icY X 58 at_45 (by decide) (by decide) (XT.ii_le_t (by decide)) ?_
    refine own_iloadN X 59 (1 : Int32) at_58 rfl rfl ?_
    refine own_iconst X 60 (3 : Int32) at_59 rfl rfl ?_
    refine own_icY X 73 at_60 (by decide) (by decide) (XT.ii_le_t (by decide)) ?_
    refine own_iloadN X 74 (1 : Int32) at_73 rfl rfl ?_
    refine own_iconst X 75 (4 : Int32) at_74 rfl rfl ?_
    refine own_icY X 88 at_75 (by decide) (by decide) (XT.ii_le_t (by decide)) ?_
    refine own_aload X 90 (.ref b11) at_88 rfl rfl rfl ?_
    refine own_callS X 93 [(.ref b11)] [] at_90 rfl (hw _ (List.mem_of_getElem? (i := 9) rfl)) (hw _ (List.mem_of_getElem? (i := 10) rfl)) (hw _ (List.mem_of_getElem? (i := 11) rfl)) (hw _ (List.mem_of_getElem? (i := 12) rfl)) (by decide) (own_hf1 l Z a0 hw b11 kb_b11 ho kh wt kw (own_ob pa pb (0 : Int32)) h13 n0 X.sz OL z_ho z_hA z_wt z_wA A_b11 C_b11) (fun _ _ q => q.1.1) rfl own_pd13 rfl rfl rfl (by decide) (Nat.le_of_ble_eq_true rfl) (by decide) (by decide) ?_
    rintro v90 T h15 X ⟨K_, b14, kx_b14, b1_b14, k1_b14, b2_b14, k2_b14, rfl, A_b14, A1_b14, A2_b14⟩
    have zs_h15 : h13.size ≤ h15.size := K_.1
    have OL := OL.keep K_ all0
    have C_b11 := C_b11.keep K_
    have A_b11 := A_b11.keep K_ nin0
    show own_Ends p e below _ (T.setTop (mkF m 93 #[.val (.int pa), .val (.int pb), .val (.int pl), .val (.int (1 : Int32)), .val (.ref b11), .unset] [(.ref b14)]))
    refine own_astore X 95 #[.val (.int pa), .val (.int pb), .val (.int pl), .val (.int (1 : Int32)), .val (.ref b11), .val (.ref b14)] at_93 rfl rfl rfl ?_
    refine own_aload X 97 (.ref b14) at_95 rfl rfl rfl ?_
    refine own_nullN X 100 at_97 rfl ?_
    refine own_aload X 102 (.ref b14) at_100 rfl rfl rfl ?_
    refine own_len X 103 (3 : Int32) at_102 rfl A_b14 rfl ?_
    refine own_iconst X 104 (3 : Int32) at_103 rfl rfl ?_
    refine own_icY X 109 at_104 (by decide) (by decide) (XT.ii_eq_t (by decide)) ?_
    refine own_aload X 111 (.ref b14) at_109 rfl rfl rfl ?_
    refine own_iconst X 112 (0 : Int32) at_111 rfl rfl ?_
    refine own_aaload X 113 0 (.ref b11) at_112 rfl A_b14 (by decide) (by decide) rfl rfl ?_
    refine own_iloadN X 114 (1 : Int32) at_113 rfl rfl ?_
    refine own_iloadN X 115 pa at_114 rfl rfl ?_
    refine own_iloadN X 116 pb at_115 rfl rfl ?_
    refine own_ldcSV X hS (by omega) 118 [] (0 : Int32) 0 at_116 rfl (hw _ (List.mem_of_getElem? (i := 36) rfl)) (fun a ha => hw a (own_strA a ha)) hhp hN0 hI (by decide) hh24 hcw own_tx_24 (by decide) (by decide) (by decide) (by decide) (by decide) (by decide) ?_
    intro b17 v_b17 kv_b17 T h16 vm0 k0 X E_h16 hS hk0 hW_ EE_b17 Fc_b17 Fv_b17 A_b17 hI Lit_24
    have zs_h16 : h15.size ≤ h16.size := E_h16.1
    have OL := OL.ext E_h16
    have C_b11 := Exa.ext E_h16 C_b11
    have A_b11 := A_b11.ext E_h16
    have A_b14 := A_b14.ext E_h16
    have A1_b14 := A1_b14.ext E_h16
    have A2_b14 := A2_b14.ext E_h16
    have hi_b17 : h16.size > b17 := EE_b17.lt
    have hi_v_b17 : h16.size > v_b17 := A_b17.lt
    refine own_callS X 121 [(.ref b11), (.int (1 : Int32)), (.int pa), (.int pb), (.ref b17)] [] at_118 rfl (hw _ (List.mem_of_getElem? (i := 43) rfl)) (hw _ (List.mem_of_getElem? (i := 44) rfl)) (hw _ (List.mem_of_getElem? (i := 3) rfl)) (hw _ (List.mem_of_getElem? (i := 45) rfl)) (by decide) (own_mt1_0 l Z a0 hw b11 (1 : Int32) pa pb b17 kb_b11 cs v_b17 kv_b17 fo h16 n0 X.sz A_b11 OL z_cs hcs z_fo hfo EE_b17 Fc_b17 Fv_b17 A_b17 rfl) (fun _ _ q => Nat.le_of_eq (congrArg Array.size q.1.symm)) rfl own_pd14 rfl rfl rfl (by decide) (Nat.le_of_ble_eq_true rfl) (by decide) (by decide) ?_
    rintro v118 T h_ X ⟨eh_, rfl⟩
    rw [eh_] at X
    show own_Ends p e below _ (T.setTop (mkF m 121 #[.val (.int pa), .val (.int pb), .val (.int pl), .val (.int (1 : Int32)), .val (.ref b11), .val (.ref b14)] [(.int (1 : Int32))]))
    refine own_ifN X 124 at_121 rfl (XT.i0_eq_f (by decide)) ?_
    refine own_aload X 126 (.ref b14) at_124 rfl rfl rfl ?_
    refine own_iconst X 127 (1 : Int32) at_126 rfl rfl ?_
    refine own_aaload X 128 1 (.ref b1_b14) at_127 rfl A_b14 (by decide) (by decide) rfl rfl ?_
    refine own_iloadN X 129 (1 : Int32) at_128 rfl rfl ?_
    refine own_iloadN X 130 pa at_129 rfl rfl ?_
    refine own_iloadN X 131 pb at_130 rfl rfl ?_
    refine own_ldcSV X hS (by omega) 133 [(.int 58), (.int 104), (.int 111), (.int 108), (.int 100), (.int 115)] (6 : Int32) 24 at_131 rfl (hw _ (List.mem_of_getElem? (i := 62) rfl)) (fun a ha => hw a (own_strA a ha)) hhp hN0 hI (by decide) hh30 hcw own_tx_30 (by decide) (by decide) (by decide) (by decide) (by decide) (by decide) ?_
    intro b19 v_b19 kv_b19 T h18 vm0 k0 X E_h18 hS hk0 hW_ EE_b19 Fc_b19 Fv_b19 A_b19 hI Lit_30
    have Lit_24 := Lit.stays Lit_24 hW_
    have zs_h18 : h16.size ≤ h18.size := E_h18.1
    have OL := OL.ext E_h18
    have C_b11 := Exa.ext E_h18 C_b11
    have A_b11 := A_b11.ext E_h18
    have A_b14 := A_b14.ext E_h18
    have A1_b14 := A1_b14.ext E_h18
    have A2_b14 := A2_b14.ext E_h18
    have EE_b17 := Exa.ext E_h18 EE_b17
    have Fc_b17 := Fld.ext E_h18 Fc_b17
    have Fv_b17 := Fld.ext E_h18 Fv_b17
    have A_b17 := A_b17.ext E_h18
    have hi_b19 : h18.size > b19 := EE_b19.lt
    have hi_v_b19 : h18.size > v_b19 := A_b19.lt
    refine own_callS X 136 [(.ref b1_b14), (.int (1 : Int32)), (.int pa), (.int pb), (.ref b19)] [] at_133 rfl (hw _ (List.mem_of_getElem? (i := 43) rfl)) (hw _ (List.mem_of_getElem? (i := 44) rfl)) (hw _ (List.mem_of_getElem? (i := 3) rfl)) (hw _ (List.mem_of_getElem? (i := 45) rfl)) (by decide) (own_mt1_6 l Z a0 hw b1_b14 (1 : Int32) pa pb b19 k1_b14 cs v_b19 kv_b19 fo h18 n0 X.sz A1_b14 OL z_cs hcs z_fo hfo EE_b19 Fc_b19 Fv_b19 A_b19 rfl) (fun _ _ q => Nat.le_of_eq (congrArg Array.size q.1.symm)) rfl own_pd14 rfl rfl rfl (by decide) (Nat.le_of_ble_eq_true rfl) (by decide) (by decide) ?_
    rintro v133 T h_ X ⟨eh_, rfl⟩
    rw [eh_] at X
    show own_Ends p e below _ (T.setTop (mkF m 136 #[.val (.int pa), .val (.int pb), .val (.int pl), .val (.int (1 : Int32)), .val (.ref b11), .val (.ref b14)] [(.int (1 : Int32))]))
    refine own_ifN X 139 at_136 rfl (XT.i0_eq_f (by decide)) ?_
    refine own_aload X 141 (.ref b14) at_139 rfl rfl rfl ?_
    refine own_iconst X 142 (2 : Int32) at_141 rfl rfl ?_
    refine own_aaload X 143 2 (.ref b2_b14) at_142 rfl A_b14 (by decide) (by decide) rfl rfl ?_
    refine own_iloadN X 144 (1 : Int32) at_143 rfl rfl ?_
    refine own_iloadN X 145 pa at_144 rfl rfl ?_
    refine own_iloadN X 146 pb at_145 rfl rfl ?_
    refine own_ldcSV X hS (by omega) 148 [(.int 58), (.int 119), (.int 97), (.int 105), (.int 116), (.int 105), (.int 110), (.int 103)] (8 : Int32) 32 at_146 rfl (hw _ (List.mem_of_getElem? (i := 85) rfl)) (fun a ha => hw a (own_strA a ha)) hhp hN0 hI (by decide) hh32 hcw own_tx_32 (by decide) (by decide) (by decide) (by decide) (by decide) (by decide) ?_
    intro b21 v_b21 kv_b21 T h20 vm0 k0 X E_h20 hS hk0 hW_ EE_b21 Fc_b21 Fv_b21 A_b21 hI Lit_32
    have Lit_24 := Lit.stays Lit_24 hW_
    have Lit_30 := Lit.stays Lit_30 hW_
    have zs_h20 : h18.size ≤ h20.size := E_h20.1
    have OL := OL.ext E_h20
    have C_b11 := Exa.ext E_h20 C_b11
    have A_b11 := A_b11.ext E_h20
    have A_b14 := A_b14.ext E_h20
    have A1_b14 := A1_b14.ext E_h20
    have A2_b14 := A2_b14.ext E_h20
    have EE_b17 := Exa.ext E_h20 EE_b17
    have Fc_b17 := Fld.ext E_h20 Fc_b17
    have Fv_b17 := Fld.ext E_h20 Fv_b17
    have A_b17 := A_b17.ext E_h20
    have EE_b19 := Exa.ext E_h20 EE_b19
    have Fc_b19 := Fld.ext E_h20 Fc_b19
    have Fv_b19 := Fld.ext E_h20 Fv_b19
    have A_b19 := A_b19.ext E_h20
    have hi_b21 : h20.size > b21 := EE_b21.lt
    have hi_v_b21 : h20.size > v_b21 := A_b21.lt
    refine own_callS X 151 [(.ref b2_b14), (.int (1 : Int32)), (.int pa), (.int pb), (.ref b21)] [] at_148 rfl (hw _ (List.mem_of_getElem? (i := 43) rfl)) (hw _ (List.mem_of_getElem? (i := 44) rfl)) (hw _ (List.mem_of_getElem? (i := 3) rfl)) (hw _ (List.mem_of_getElem? (i := 45) rfl)) (by decide) (own_mt1_8 l Z a0 hw b2_b14 (1 : Int32) pa pb b21 k2_b14 cs v_b21 kv_b21 fo h20 n0 X.sz A2_b14 OL z_cs hcs z_fo hfo EE_b21 Fc_b21 Fv_b21 A_b21 rfl) (fun _ _ q => Nat.le_of_eq (congrArg Array.size q.1.symm)) rfl own_pd14 rfl rfl rfl (by decide) (Nat.le_of_ble_eq_true rfl) (by decide) (by decide) ?_
    rintro v148 T h_ X ⟨eh_, rfl⟩
    rw [eh_] at X
    show own_Ends p e below _ (T.setTop (mkF m 151 #[.val (.int pa), .val (.int pb), .val (.int pl), .val (.int (1 : Int32)), .val (.ref b11), .val (.ref b14)] [(.int (1 : Int32))]))
    refine own_ifN X 154 at_151 rfl (XT.i0_eq_f (by decide)) ?_
    refine own_aload X 156 (.ref b11) at_154 rfl rfl rfl ?_
    refine own_iloadN X 157 (1 : Int32) at_156 rfl rfl ?_
    refine own_iloadN X 158 pa at_157 rfl rfl ?_
    refine own_iloadN X 159 pb at_158 rfl rfl ?_
    refine own_ldcAgain X 161 at_159 rfl (hw _ (List.mem_of_getElem? (i := 36) rfl)) Lit_24 ?_
    refine own_callS X 164 [(.ref b11), (.int (1 : Int32)), (.int pa), (.int pb), (.ref b17)] [] at_161 rfl (hw _ (List.mem_of_getElem? (i := 43) rfl)) (hw _ (List.mem_of_getElem? (i := 44) rfl)) (hw _ (List.mem_of_getElem? (i := 3) rfl)) (hw _ (List.mem_of_getElem? (i := 45) rfl)) (by decide) (own_mt1_0 l Z a0 hw b11 (1 : Int32) pa pb b17 kb_b11 cs v_b17 kv_b17 fo h20 n0 X.sz A_b11 OL z_cs hcs z_fo hfo EE_b17 Fc_b17 Fv_b17 A_b17 rfl) (fun _ _ q => Nat.le_of_eq (congrArg Array.size q.1.symm)) rfl own_pd14 rfl rfl rfl (by decide) (Nat.le_of_ble_eq_true rfl) (by decide) (by decide) ?_
    rintro v161 T h_ X ⟨eh_, rfl⟩
    rw [eh_] at X
    show own_Ends p e below _ (T.setTop (mkF m 164 #[.val (.int pa), .val (.int pb), .val (.int pl), .val (.int (1 : Int32)), .val (.ref b11), .val (.ref b14)] [(.int (1 : Int32))]))
    refine own_ifN X 167 at_164 rfl (XT.i0_eq_f (by decide)) ?_
    refine own_iconst X 168 (1 : Int32) at_167 rfl rfl ?_
    refine own_goto X 172 at_168 (by decide) (by decide) ?_
    exact own_retNW X hS (by omega) .boolean at_172 rfl (by simp) (by decide) (by decide) (by decide)
  · rw [hn_]
    refine own_istoreN X 8 #[.val (.int pa), .val (.int pb), .val (.int pl), .val (.int (2 : Int32)), .unset, .unset] at_7 rfl rfl ?_
    refine own_iloadN X 9 (2 : Int32) at_8 rfl rfl ?_
    refine own_callS X 12 [(.int (2 : Int32))] [] at_9 rfl (hw _ (List.mem_of_getElem? (i := 1) rfl)) (hw _ (List.mem_of_getElem? (i := 2) rfl)) (hw _ (List.mem_of_getElem? (i := 3) rfl)) (hw _ (List.mem_of_getElem? (i := 4) rfl)) (by decide) (own_make2 l Z a0 hw (2 : Int32) h0 n0 X.sz rfl) (fun _ _ q => q.1.1) rfl own_pd12 rfl rfl rfl (by decide) (Nat.le_of_ble_eq_true rfl) (by decide) (by decide) ?_
    rintro v9 T h23 X ⟨K_, b22, kb_b22, rfl, lo_b22, hi_b22, A_b22, C_b22⟩
    have zs_h23 : h0.size ≤ h23.size := K_.1
    have OL := OL.keep K_ all0
    show own_Ends p e below _ (T.setTop (mkF m 12 #[.val (.int pa), .val (.int pb), .val (.int pl), .val (.int (2 : Int32)), .unset, .unset] [(.ref b22)]))
    refine own_astore X 14 #[.val (.int pa), .val (.int pb), .val (.int pl), .val (.int (2 : Int32)), .val (.ref b22), .unset] at_12 rfl rfl rfl ?_
    refine own_iloadN X 15 (2 : Int32) at_14 rfl rfl ?_
    refine own_ifN X 18 at_15 rfl (XT.i0_le_f (by decide)) ?_
    refine own_aload X 20 (.ref b22) at_18 rfl rfl rfl ?_
    refine own_iconst X 21 (0 : Int32) at_20 rfl rfl ?_
    refine own_iloadN X 22 pa at_21 rfl rfl ?_
    refine own_iloadN X 23 pb at_22 rfl rfl ?_
    refine own_iconst X 24 (0 : Int32) at_23 rfl rfl ?_
    refine own_callS X 27 [(.int pa), (.int pb), (.int (0 : Int32))] [(.int (0 : Int32)), (.ref b22)] at_24 rfl (hw _ (List.mem_of_getElem? (i := 6) rfl)) (hw _ (List.mem_of_getElem? (i := 7) rfl)) (hw _ (List.mem_of_getElem? (i := 3) rfl)) (hw _ (List.mem_of_getElem? (i := 8) rfl)) (by decide) (own_obm l Z a0 hw pa pb (0 : Int32) h23 n0 X.sz) (fun _ _ q => Nat.le_of_eq (congrArg Array.size q.1.symm)) rfl own_pd8 rfl rfl rfl (by decide) (Nat.le_of_ble_eq_true rfl) (by decide) (by decide) ?_
    rintro v24 T h_ X ⟨eh_, rfl⟩
    rw [eh_] at X
    show own_Ends p e below _ (T.setTop (mkF m 27 #[.val (.int pa), .val (.int pb), .val (.int pl), .val (.int (2 : Int32)), .val (.ref b22), .unset] [(.int (own_ob pa pb (0 : Int32))), (.int (0 : Int32)), (.ref b22)]))
    refine own_bastore X 28 0 at_27 rfl A_b22 (by decide) (by decide) (Nat.le_of_ble_eq_true rfl) (by omega) ?_
    intro T h24 X W_h24
    rw [own_ob_nar] at W_h24
    have nw_h24 : own_A Z h24 b22 kb_b22 .byte [(.int (own_ob pa pb (0 : Int32))), (.int (0 : Int32))] := A_b22.same W_h24 (fits_nar_byte _)
    have zs_h24 : h23.size ≤ h24.size := (Nat.le_of_eq W_h24.size.symm)
    have OL := OL.wr W_h24 (by omega)
    have C_b22 := Exa.wr W_h24 C_b22
    have A_b22 := nw_h24
    refine own_iloadN X 29 (2 : Int32) at_28 rfl rfl ?_
    refine own_iconst X 30 (1 : Int32) at_29 rfl rfl ?_
    refine own_icN X 33 at_30 rfl (XT.ii_le_f (by decide)) ?_
    refine own_aload X 35 (.ref b22) at_33 rfl rfl rfl ?_
    refine own_iconst X 36 (1 : Int32) at_35 rfl rfl ?_
    refine own_iloadN X 37 pa at_36 rfl rfl ?_
    refine own_iloadN X 38 pb at_37 rfl rfl ?_
    refine own_iconst X 39 (1 : Int32) at_38 rfl rfl ?_
    refine own_callS X 42 [(.int pa), (.int pb), (.int (1 : Int32))] [(.int (1 : Int32)), (.ref b22)] at_39 rfl (hw _ (List.mem_of_getElem? (i := 6) rfl)) (hw _ (List.mem_of_getElem? (i := 7) rfl)) (hw _ (List.mem_of_getElem? (i := 3) rfl)) (hw _ (List.mem_of_getElem? (i := 8) rfl)) (by decide) (own_obm l Z a0 hw pa pb (1 : Int32) h24 n0 X.sz) (fun _ _ q => Nat.le_of_eq (congrArg Array.size q.1.symm)) rfl own_pd8 rfl rfl rfl (by decide) (Nat.le_of_ble_eq_true rfl) (by decide) (by decide) ?_
    rintro v39 T h_ X ⟨eh_, rfl⟩
    rw [eh_] at X
    show own_Ends p e below _ (T.setTop (mkF m 42 #[.val (.int pa), .val (.int pb), .val (.int pl), .val (.int (2 : Int32)), .val (.ref b22), .unset] [(.int (own_ob pa pb (1 : Int32))), (.int (1 : Int32)), (.ref b22)]))
    refine own_bastore X 43 1 at_42 rfl A_b22 (by decide) (by decide) (Nat.le_of_ble_eq_true rfl) (by omega) ?_
    intro T h25 X W_h25
    rw [own_ob_nar] at W_h25
    have nw_h25 : own_A Z h25 b22 kb_b22 .byte [(.int (own_ob pa pb (0 : Int32))), (.int (own_ob pa pb (1 : Int32)))] := A_b22.same W_h25 (fits_nar_byte _)
    have zs_h25 : h24.size ≤ h25.size := (Nat.le_of_eq W_h25.size.symm)
    have OL := OL.wr W_h25 (by omega)
    have C_b22 := Exa.wr W_h25 C_b22
    have A_b22 := nw_h25
    refine own_iloadN X 44 (2 : Int32) at_43 rfl rfl ?_
    refine own_iconst X 45 (2 : Int32) at_44 rfl rfl ?_
    refine own_icY X 58 at_45 (by decide) (by decide) (XT.ii_le_t (by decide)) ?_
    refine own_iloadN X 59 (2 : Int32) at_58 rfl rfl ?_
    refine own_iconst X 60 (3 : Int32) at_59 rfl rfl ?_
    refine own_icY X 73 at_60 (by decide) (by decide) (XT.ii_le_t (by decide)) ?_
    refine own_iloadN X 74 (2 : Int32) at_73 rfl rfl ?_
    refine own_iconst X 75 (4 : Int32) at_74 rfl rfl ?_
    refine own_icY X 88 at_75 (by decide) (by decide) (XT.ii_le_t (by decide)) ?_
    refine own_aload X 90 (.ref b22) at_88 rfl rfl rfl ?_
    refine own_callS X 93 [(.ref b22)] [] at_90 rfl (hw _ (List.mem_of_getElem? (i := 9) rfl)) (hw _ (List.mem_of_getElem? (i := 10) rfl)) (hw _ (List.mem_of_getElem? (i := 11) rfl)) (hw _ (List.mem_of_getElem? (i := 12) rfl)) (by decide) (own_hf2 l Z a0 hw b22 kb_b22 ho kh wt kw (own_ob pa pb (0 : Int32)) (own_ob pa pb (1 : Int32)) h25 n0 X.sz OL z_ho z_hA z_wt z_wA A_b22 C_b22) (fun _ _ q => q.1.1) rfl own_pd13 rfl rfl rfl (by decide) (Nat.le_of_ble_eq_true rfl) (by decide) (by decide) ?_
    rintro v90 T h27 X ⟨K_, b26, kx_b26, b1_b26, k1_b26, b2_b26, k2_b26, rfl, A_b26, A1_b26, A2_b26⟩
    have zs_h27 : h25.size ≤ h27.size := K_.1
    have OL := OL.keep K_ all0
    have C_b22 := C_b22.keep K_
    have A_b22 := A_b22.keep K_ nin0
    show own_Ends p e below _ (T.setTop (mkF m 93 #[.val (.int pa), .val (.int pb), .val (.int pl), .val (.int (2 : Int32)), .val (.ref b22), .unset] [(.ref b26)]))
    refine own_astore X 95 #[.val (.int pa), .val (.int pb), .val (.int pl), .val (.int (2 : Int32)), .val (.ref b22), .val (.ref b26)] at_93 rfl rfl rfl ?_
    refine own_aload X 97 (.ref b26) at_95 rfl rfl rfl ?_
    refine own_nullN X 100 at_97 rfl ?_
    refine own_aload X 102 (.ref b26) at_100 rfl rfl rfl ?_
    refine own_len X 103 (3 : Int32) at_102 rfl A_b26 rfl ?_
    refine own_iconst X 104 (3 : Int32) at_103 rfl rfl ?_
    refine own_icY X 109 at_104 (by decide) (by decide) (XT.ii_eq_t (by decide)) ?_
    refine own_aload X 111 (.ref b26) at_109 rfl rfl rfl ?_
    refine own_iconst X 112 (0 : Int32) at_111 rfl rfl ?_
    refine own_aaload X 113 0 (.ref b22) at_112 rfl A_b26 (by decide) (by decide) rfl rfl ?_
    refine own_iloadN X 114 (2 : Int32) at_113 rfl rfl ?_
    refine own_iloadN X 115 pa at_114 rfl rfl ?_
    refine own_iloadN X 116 pb at_115 rfl rfl ?_
    refine own_ldcSV X hS (by omega) 118 [] (0 : Int32) 0 at_116 rfl (hw _ (List.mem_of_getElem? (i := 36) rfl)) (fun a ha => hw a (own_strA a ha)) hhp hN0 hI (by decide) hh24 hcw own_tx_24 (by decide) (by decide) (by decide) (by decide) (by decide) (by decide) ?_
    intro b29 v_b29 kv_b29 T h28 vm0 k0 X E_h28 hS hk0 hW_ EE_b29 Fc_b29 Fv_b29 A_b29 hI Lit_24
    have zs_h28 : h27.size ≤ h28.size := E_h28.1
    have OL := OL.ext E_h28
    have C_b22 := Exa.ext E_h28 C_b22
    have A_b22 := A_b22.ext E_h28
    have A_b26 := A_b26.ext E_h28
    have A1_b26 := A1_b26.ext E_h28
    have A2_b26 := A2_b26.ext E_h28
    have hi_b29 : h28.size > b29 := EE_b29.lt
    have hi_v_b29 : h28.size > v_b29 := A_b29.lt
    refine own_callS X 121 [(.ref b22), (.int (2 : Int32)), (.int pa), (.int pb), (.ref b29)] [] at_118 rfl (hw _ (List.mem_of_getElem? (i := 43) rfl)) (hw _ (List.mem_of_getElem? (i := 44) rfl)) (hw _ (List.mem_of_getElem? (i := 3) rfl)) (hw _ (List.mem_of_getElem? (i := 45) rfl)) (by decide) (own_mt2_0 l Z a0 hw b22 (2 : Int32) pa pb b29 kb_b22 cs v_b29 kv_b29 fo h28 n0 X.sz A_b22 OL z_cs hcs z_fo hfo EE_b29 Fc_b29 Fv_b29 A_b29 rfl) (fun _ _ q => Nat.le_of_eq (congrArg Array.size q.1.symm)) rfl own_pd14 rfl rfl rfl (by decide) (Nat.le_of_ble_eq_true rfl) (by decide) (by decide) ?_
    rintro v118 T h_ X ⟨eh_, rfl⟩
    rw [eh_] at X
    show own_Ends p e below _ (T.setTop (mkF m 121 #[.val (.int pa), .val (.int pb), .val (.int pl), .val (.int (2 : Int32)), .val (.ref b22), .val (.ref b26)] [(.int (1 : Int32))]))
    refine own_ifN X 124 at_121 rfl (XT.i0_eq_f (by decide)) ?_
    refine own_aload X 126 (.ref b26) at_124 rfl rfl rfl ?_
    refine own_iconst X 127 (1 : Int32) at_126 rfl rfl ?_
    refine own_aaload X 128 1 (.ref b1_b26) at_127 rfl A_b26 (by decide) (by decide) rfl rfl ?_
    refine own_iloadN X 129 (2 : Int32) at_128 rfl rfl ?_
    refine own_iloadN X 130 pa at_129 rfl rfl ?_
    refine own_iloadN X 131 pb at_130 rfl rfl ?_
    refine own_ldcSV X hS (by omega) 133 [(.int 58), (.int 104), (.int 111), (.int 108), (.int 100), (.int 115)] (6 : Int32) 24 at_131 rfl (hw _ (List.mem_of_getElem? (i := 62) rfl)) (fun a ha => hw a (own_strA a ha)) hhp hN0 hI (by decide) hh30 hcw own_tx_30 (by decide) (by decide) (by decide) (by decide) (by decide) (by decide) ?_
    intro b31 v_b31 kv_b31 T h30 vm0 k0 X E_h30 hS hk0 hW_ EE_b31 Fc_b31 Fv_b31 A_b31 hI Lit_30
    have Lit_24 := Lit.stays Lit_24 hW_
    have zs_h30 : h28.size ≤ h30.size := E_h30.1
    have OL := OL.ext E_h30
    have C_b22 := Exa.ext E_h30 C_b22
    have A_b22 := A_b22.ext E_h30
    have A_b26 := A_b26.ext E_h30
    have A1_b26 := A1_b26.ext E_h30
    have A2_b26 := A2_b26.ext E_h30
    have EE_b29 := Exa.ext E_h30 EE_b29
    have Fc_b29 := Fld.ext E_h30 Fc_b29
    have Fv_b29 := Fld.ext E_h30 Fv_b29
    have A_b29 := A_b29.ext E_h30
    have hi_b31 : h30.size > b31 := EE_b31.lt
    have hi_v_b31 : h30.size > v_b31 := A_b31.lt
    refine own_callS X 136 [(.ref b1_b26), (.int (2 : Int32)), (.int pa), (.int pb), (.ref b31)] [] at_133 rfl (hw _ (List.mem_of_getElem? (i := 43) rfl)) (hw _ (List.mem_of_getElem? (i := 44) rfl)) (hw _ (List.mem_of_getElem? (i := 3) rfl)) (hw _ (List.mem_of_getElem? (i := 45) rfl)) (by decide) (own_mt2_6 l Z a0 hw b1_b26 (2 : Int32) pa pb b31 k1_b26 cs v_b31 kv_b31 fo h30 n0 X.sz A1_b26 OL z_cs hcs z_fo hfo EE_b31 Fc_b31 Fv_b31 A_b31 rfl) (fun _ _ q => Nat.le_of_eq (congrArg Array.size q.1.symm)) rfl own_pd14 rfl rfl rfl (by decide) (Nat.le_of_ble_eq_true rfl) (by decide) (by decide) ?_
    rintro v133 T h_ X ⟨eh_, rfl⟩
    rw [eh_] at X
    show own_Ends p e below _ (T.setTop (mkF m 136 #[.val (.int pa), .val (.int pb), .val (.int pl), .val (.int (2 : Int32)), .val (.ref b22), .val (.ref b26)] [(.int (1 : Int32))]))
    refine own_ifN X 139 at_136 rfl (XT.i0_eq_f (by decide)) ?_
    refine own_aload X 141 (.ref b26) at_139 rfl rfl rfl ?_
    refine own_iconst X 142 (2 : Int32) at_141 rfl rfl ?_
    refine own_aaload X 143 2 (.ref b2_b26) at_142 rfl A_b26 (by decide) (by decide) rfl rfl ?_
    refine own_iloadN X 144 (2 : Int32) at_143 rfl rfl ?_
    refine own_iloadN X 145 pa at_144 rfl rfl ?_
    refine own_iloadN X 146 pb at_145 rfl rfl ?_
    refine own_ldcSV X hS (by omega) 148 [(.int 58), (.int 119), (.int 97), (.int 105), (.int 116), (.int 105), (.int 110), (.int 103)] (8 : Int32) 32 at_146 rfl (hw _ (List.mem_of_getElem? (i := 85) rfl)) (fun a ha => hw a (own_strA a ha)) hhp hN0 hI (by decide) hh32 hcw own_tx_32 (by decide) (by decide) (by decide) (by decide) (by decide) (by decide) ?_
    intro b33 v_b33 kv_b33 T h32 vm0 k0 X E_h32 hS hk0 hW_ EE_b33 Fc_b33 Fv_b33 A_b33 hI Lit_32
    have Lit_24 := Lit.stays Lit_24 hW_
    have Lit_30 := Lit.stays Lit_30 hW_
    have zs_h32 : h30.size ≤ h32.size := E_h32.1
    have OL := OL.ext E_h32
    have C_b22 := Exa.ext E_h32 C_b22
    have A_b22 := A_b22.ext E_h32
    have A_b26 := A_b26.ext E_h32
    have A1_b26 := A1_b26.ext E_h32
    have A2_b26 := A2_b26.ext E_h32
    have EE_b29 := Exa.ext E_h32 EE_b29
    have Fc_b29 := Fld.ext E_h32 Fc_b29
    have Fv_b29 := Fld.ext E_h32 Fv_b29
    have A_b29 := A_b29.ext E_h32
    have EE_b31 := Exa.ext E_h32 EE_b31
    have Fc_b31 := Fld.ext E_h32 Fc_b31
    have Fv_b31 := Fld.ext E_h32 Fv_b31
    have A_b31 := A_b31.ext E_h32
    have hi_b33 : h32.size > b33 := EE_b33.lt
    have hi_v_b33 : h32.size > v_b33 := A_b33.lt
    refine own_callS X 151 [(.ref b2_b26), (.int (2 : Int32)), (.int pa), (.int pb), (.ref b33)] [] at_148 rfl (hw _ (List.mem_of_getElem? (i := 43) rfl)) (hw _ (List.mem_of_getElem? (i := 44) rfl)) (hw _ (List.mem_of_getElem? (i := 3) rfl)) (hw _ (List.mem_of_getElem? (i := 45) rfl)) (by decide) (own_mt2_8 l Z a0 hw b2_b26 (2 : Int32) pa pb b33 k2_b26 cs v_b33 kv_b33 fo h32 n0 X.sz A2_b26 OL z_cs hcs z_fo hfo EE_b33 Fc_b33 Fv_b33 A_b33 rfl) (fun _ _ q => Nat.le_of_eq (congrArg Array.size q.1.symm)) rfl own_pd14 rfl rfl rfl (by decide) (Nat.le_of_ble_eq_true rfl) (by decide) (by decide) ?_
    rintro v148 T h_ X ⟨eh_, rfl⟩
    rw [eh_] at X
    show own_Ends p e below _ (T.setTop (mkF m 151 #[.val (.int pa), .val (.int pb), .val (.int pl), .val (.int (2 : Int32)), .val (.ref b22), .val (.ref b26)] [(.int (1 : Int32))]))
    refine own_ifN X 154 at_151 rfl (XT.i0_eq_f (by decide)) ?_
    refine own_aload X 156 (.ref b22) at_154 rfl rfl rfl ?_
    refine own_iloadN X 157 (2 : Int32) at_156 rfl rfl ?_
    refine own_iloadN X 158 pa at_157 rfl rfl ?_
    refine own_iloadN X 159 pb at_158 rfl rfl ?_
    refine own_ldcAgain X 161 at_159 rfl (hw _ (List.mem_of_getElem? (i := 36) rfl)) Lit_24 ?_
    refine own_callS X 164 [(.ref b22), (.int (2 : Int32)), (.int pa), (.int pb), (.ref b29)] [] at_161 rfl (hw _ (List.mem_of_getElem? (i := 43) rfl)) (hw _ (List.mem_of_getElem? (i := 44) rfl)) (hw _ (List.mem_of_getElem? (i := 3) rfl)) (hw _ (List.mem_of_getElem? (i := 45) rfl)) (by decide) (own_mt2_0 l Z a0 hw b22 (2 : Int32) pa pb b29 kb_b22 cs v_b29 kv_b29 fo h32 n0 X.sz A_b22 OL z_cs hcs z_fo hfo EE_b29 Fc_b29 Fv_b29 A_b29 rfl) (fun _ _ q => Nat.le_of_eq (congrArg Array.size q.1.symm)) rfl own_pd14 rfl rfl rfl (by decide) (Nat.le_of_ble_eq_true rfl) (by decide) (by decide) ?_
    rintro v161 T h_ X ⟨eh_, rfl⟩
    rw [eh_] at X
    show own_Ends p e below _ (T.setTop (mkF m 164 #[.val (.int pa), .val (.int pb), .val (.int pl), .val (.int (2 : Int32)), .val (.ref b22), .val (.ref b26)] [(.int (1 : Int32))]))
    refine own_ifN X 167 at_164 rfl (XT.i0_eq_f (by decide)) ?_
    refine own_iconst X 168 (1 : Int32) at_167 rfl rfl ?_
    refine own_goto X 172 at_168 (by decide) (by decide) ?_
    exact own_retNW X hS (by omega) .boolean at_172 rfl (by simp) (by decide) (by decide) (by decide)
  · rw [hn_]
    refine own_istoreN X 8 #[.val (.int pa), .val (.int pb), .val (.int pl), .val (.int (3 : Int32)), .unset, .unset] at_7 rfl rfl ?_
    refine own_iloadN X 9 (3 : Int32) at_8 rfl rfl ?_
    refine own_callS X 12 [(.int (3 : Int32))] [] at_9 rfl (hw _ (List.mem_of_getElem? (i := 1) rfl)) (hw _ (List.mem_of_getElem? (i := 2) rfl)) (hw _ (List.mem_of_getElem? (i := 3) rfl)) (hw _ (List.mem_of_getElem? (i := 4) rfl)) (by decide) (own_make3 l Z a0 hw (3 : Int32) h0 n0 X.sz rfl) (fun _ _ q => q.1.1) rfl own_pd12 rfl rfl rfl (by decide) (Nat.le_of_ble_eq_true rfl) (by decide) (by decide) ?_
    rintro v9 T h35 X ⟨K_, b34, kb_b34, rfl, lo_b34, hi_b34, A_b34, C_b34⟩
    have zs_h35 : h0.size ≤ h35.size := K_.1
    have OL := OL.keep K_ all0
    show own_Ends p e below _ (T.setTop (mkF m 12 #[.val (.int pa), .val (.int pb), .val (.int pl), .val (.int (3 : Int32)), .unset, .unset] [(.ref b34)]))
    refine own_astore X 14 #[.val (.int pa), .val (.int pb), .val (.int pl), .val (.int (3 : Int32)), .val (.ref b34), .unset] at_12 rfl rfl rfl ?_
    refine own_iloadN X 15 (3 : Int32) at_14 rfl rfl ?_
    refine own_ifN X 18 at_15 rfl (XT.i0_le_f (by decide)) ?_
    refine own_aload X 20 (.ref b34) at_18 rfl rfl rfl ?_
    refine own_iconst X 21 (0 : Int32) at_20 rfl rfl ?_
    refine own_iloadN X 22 pa at_21 rfl rfl ?_
    refine own_iloadN X 23 pb at_22 rfl rfl ?_
    refine own_iconst X 24 (0 : Int32) at_23 rfl rfl ?_
    refine own_callS X 27 [(.int pa), (.int pb), (.int (0 : Int32))] [(.int (0 : Int32)), (.ref b34)] at_24 rfl (hw _ (List.mem_of_getElem? (i := 6) rfl)) (hw _ (List.mem_of_getElem? (i := 7) rfl)) (hw _ (List.mem_of_getElem? (i := 3) rfl)) (hw _ (List.mem_of_getElem? (i := 8) rfl)) (by decide) (own_obm l Z a0 hw pa pb (0 : Int32) h35 n0 X.sz) (fun _ _ q => Nat.le_of_eq (congrArg Array.size q.1.symm)) rfl own_pd8 rfl rfl rfl (by decide) (Nat.le_of_ble_eq_true rfl) (by decide) (by decide) ?_
    rintro v24 T h_ X ⟨eh_, rfl⟩
    rw [eh_] at X
    show own_Ends p e below _ (T.setTop (mkF m 27 #[.val (.int pa), .val (.int pb), .val (.int pl), .val (.int (3 : Int32)), .val (.ref b34), .unset] [(.int (own_ob pa pb (0 : Int32))), (.int (0 : Int32)), (.ref b34)]))
    refine own_bastore X 28 0 at_27 rfl A_b34 (by decide) (by decide) (Nat.le_of_ble_eq_true rfl) (by omega) ?_
    intro T h36 X W_h36
    rw [own_ob_nar] at W_h36
    have nw_h36 : own_A Z h36 b34 kb_b34 .byte [(.int (own_ob pa pb (0 : Int32))), (.int (0 : Int32)), (.int (0 : Int32))] := A_b34.same W_h36 (fits_nar_byte _)
    have zs_h36 : h35.size ≤ h36.size := (Nat.le_of_eq W_h36.size.symm)
    have OL := OL.wr W_h36 (by omega)
    have C_b34 := Exa.wr W_h36 C_b34
    have A_b34 := nw_h36
    refine own_iloadN X 29 (3 : Int32) at_28 rfl rfl ?_
    refine own_iconst X 30 (1 : Int32) at_29 rfl rfl ?_
    refine own_icN X 33 at_30 rfl (XT.ii_le_f (by decide)) ?_
    refine own_aload X 35 (.ref b34) at_33 rfl rfl rfl ?_
    refine own_iconst X 36 (1 : Int32) at_35 rfl rfl ?_
    refine own_iloadN X 37 pa at_36 rfl rfl ?_
    refine own_iloadN X 38 pb at_37 rfl rfl ?_
    refine own_iconst X 39 (1 : Int32) at_38 rfl rfl ?_
    refine own_callS X 42 [(.int pa), (.int pb), (.int (1 : Int32))] [(.int (1 : Int32)), (.ref b34)] at_39 rfl (hw _ (List.mem_of_getElem? (i := 6) rfl)) (hw _ (List.mem_of_getElem? (i := 7) rfl)) (hw _ (List.mem_of_getElem? (i := 3) rfl)) (hw _ (List.mem_of_getElem? (i := 8) rfl)) (by decide) (own_obm l Z a0 hw pa pb (1 : Int32) h36 n0 X.sz) (fun _ _ q => Nat.le_of_eq (congrArg Array.size q.1.symm)) rfl own_pd8 rfl rfl rfl (by decide) (Nat.le_of_ble_eq_true rfl) (by decide) (by decide) ?_
    rintro v39 T h_ X ⟨eh_, rfl⟩
    rw [eh_] at X
    show own_Ends p e below _ (T.setTop (mkF m 42 #[.val (.int pa), .val (.int pb), .val (.int pl), .val (.int (3 : Int32)), .val (.ref b34), .unset] [(.int (own_ob pa pb (1 : Int32))), (.int (1 : Int32)), (.ref b34)]))
    refine own_bastore X 43 1 at_42 rfl A_b34 (by decide) (by decide) (Nat.le_of_ble_eq_true rfl) (by omega) ?_
    intro T h37 X W_h37
    rw [own_ob_nar] at W_h37
    have nw_h37 : own_A Z h37 b34 kb_b34 .byte [(.int (own_ob pa pb (0 : Int32))), (.int (own_ob pa pb (1 : Int32))), (.int (0 : Int32))] := A_b34.same W_h37 (fits_nar_byte _)
    have zs_h37 : h36.size ≤ h37.size := (Nat.le_of_eq W_h37.size.symm)
    have OL := OL.wr W_h37 (by omega)
    have C_b34 := Exa.wr W_h37 C_b34
    have A_b34 := nw_h37
    refine own_iloadN X 44 (3 : Int32) at_43 rfl rfl ?_
    refine own_iconst X 45 (2 : Int32) at_44 rfl rfl ?_
    refine own_icN X 48 at_45 rfl (XT.ii_le_f (by decide)) ?_
    refine own_aload X 50 (.ref b34) at_48 rfl rfl rfl ?_
    refine own_iconst X 51 (2 : Int32) at_50 rfl rfl ?_
    refine own_iloadN X 52 pa at_51 rfl rfl ?_
    refine own_iloadN X 53 pb at_52 rfl rfl ?_
    refine own_iconst X 54 (2 : Int32) at_53 rfl rfl ?_
    refine own_callS X 57 [(.int pa), (.int pb), (.int (2 : Int32))] [(.int (2 : Int32)), (.ref b34)] at_54 rfl (hw _ (List.mem_of_getElem? (i := 6) rfl)) (hw _ (List.mem_of_getElem? (i := 7) rfl)) (hw _ (List.mem_of_getElem? (i := 3) rfl)) (hw _ (List.mem_of_getElem? (i := 8) rfl)) (by decide) (own_obm l Z a0 hw pa pb (2 : Int32) h37 n0 X.sz) (fun _ _ q => Nat.le_of_eq (congrArg Array.size q.1.symm)) rfl own_pd8 rfl rfl rfl (by decide) (Nat.le_of_ble_eq_true rfl) (by decide) (by decide) ?_
    rintro v54 T h_ X ⟨eh_, rfl⟩
    rw [eh_] at X
    show own_Ends p e below _ (T.setTop (mkF m 57 #[.val (.int pa), .val (.int pb), .val (.int pl), .val (.int (3 : Int32)), .val (.ref b34), .unset] [(.int (own_ob pa pb (2 : Int32))), (.int (2 : Int32)), (.ref b34)]))
    refine own_bastore X 58 2 at_57 rfl A_b34 (by decide) (by decide) (Nat.le_of_ble_eq_true rfl) (by omega) ?_
    intro T h38 X W_h38
    rw [own_ob_nar] at W_h38
    have nw_h38 : own_A Z h38 b34 kb_b34 .byte [(.int (own_ob pa pb (0 : Int32))), (.int (own_ob pa pb (1 : Int32))), (.int (own_ob pa pb (2 : Int32)))] := A_b34.same W_h38 (fits_nar_byte _)
    have zs_h38 : h37.size ≤ h38.size := (Nat.le_of_eq W_h38.size.symm)
    have OL := OL.wr W_h38 (by omega)
    have C_b34 := Exa.wr W_h38 C_b34
    have A_b34 := nw_h38
    refine own_iloadN X 59 (3 : Int32) at_58 rfl rfl ?_
    refine own_iconst X 60 (3 : Int32) at_59 rfl rfl ?_
    refine own_icY X 73 at_60 (by decide) (by decide) (XT.ii_le_t (by decide)) ?_
    refine own_iloadN X 74 (3 : Int32) at_73 rfl rfl ?_
    refine own_iconst X 75 (4 : Int32) at_74 rfl rfl ?_
    refine own_icY X 88 at_75 (by decide) (by decide) (XT.ii_le_t (by decide)) ?_
    refine own_aload X 90 (.ref b34) at_88 rfl rfl rfl ?_
    refine own_callS X 93 [(.ref b34)] [] at_90 rfl (hw _ (List.mem_of_getElem? (i := 9) rfl)) (hw _ (List.mem_of_getElem? (i := 10) rfl)) (hw _ (List.mem_of_getElem? (i := 11) rfl)) (hw _ (List.mem_of_getElem? (i := 12) rfl)) (by decide) (own_hf3 l Z a0 hw b34 kb_b34 ho kh wt kw (own_ob pa pb (0 : Int32)) (own_ob pa pb (1 : Int32)) (own_ob pa pb (2 : Int32)) h38 n0 X.sz OL z_ho z_hA z_wt z_wA A_b34 C_b34) (fun _ _ q => q.1.1) rfl own_pd13 rfl rfl rfl (by decide) (Nat.le_of_ble_eq_true rfl) (by decide) (by decide) ?_
    rintro v90 T h40 X ⟨K_, b39, kx_b39, b1_b39, k1_b39, b2_b39, k2_b39, rfl, A_b39, A1_b39, A2_b39⟩
    have zs_h40 : h38.size ≤ h40.size := K_.1
    have OL := OL.keep K_ all0
    have C_b34 := C_b34.keep K_
    have A_b34 := A_b34.keep K_ nin0
    show own_Ends p e below _ (T.setTop (mkF m 93 #[.val (.int pa), .val (.int pb), .val (.int pl), .val (.int (3 : Int32)), .val (.ref b34), .unset] [(.ref b39)]))
    refine own_astore X 95 #[.val (.int pa), .val (.int pb), .val (.int pl), .val (.int (3 : Int32)), .val (.ref b34), .val (.ref b39)] at_93 rfl rfl rfl ?_
    refine own_aload X 97 (.ref b39) at_95 rfl rfl rfl ?_
    refine own_nullN X 100 at_97 rfl ?_
    refine own_aload X 102 (.ref b39) at_100 rfl rfl rfl ?_
    refine own_len X 103 (3 : Int32) at_102 rfl A_b39 rfl ?_
    refine own_iconst X 104 (3 : Int32) at_103 rfl rfl ?_
    refine own_icY X 109 at_104 (by decide) (by decide) (XT.ii_eq_t (by decide)) ?_
    refine own_aload X 111 (.ref b39) at_109 rfl rfl rfl ?_
    refine own_iconst X 112 (0 : Int32) at_111 rfl rfl ?_
    refine own_aaload X 113 0 (.ref b34) at_112 rfl A_b39 (by decide) (by decide) rfl rfl ?_
    refine own_iloadN X 114 (3 : Int32) at_113 rfl rfl ?_
    refine own_iloadN X 115 pa at_114 rfl rfl ?_
    refine own_iloadN X 116 pb at_115 rfl rfl ?_
    refine own_ldcSV X hS (by omega) 118 [] (0 : Int32) 0 at_116 rfl (hw _ (List.mem_of_getElem? (i := 36) rfl)) (fun a ha => hw a (own_strA a ha)) hhp hN0 hI (by decide) hh24 hcw own_tx_24 (by decide) (by decide) (by decide) (by decide) (by decide) (by decide) ?_
    intro b42 v_b42 kv_b42 T h41 vm0 k0 X E_h41 hS hk0 hW_ EE_b42 Fc_b42 Fv_b42 A_b42 hI Lit_24
    have zs_h41 : h40.size ≤ h41.size := E_h41.1
    have OL := OL.ext E_h41
    have C_b34 := Exa.ext E_h41 C_b34
    have A_b34 := A_b34.ext E_h41
    have A_b39 := A_b39.ext E_h41
    have A1_b39 := A1_b39.ext E_h41
    have A2_b39 := A2_b39.ext E_h41
    have hi_b42 : h41.size > b42 := EE_b42.lt
    have hi_v_b42 : h41.size > v_b42 := A_b42.lt
    refine own_callS X 121 [(.ref b34), (.int (3 : Int32)), (.int pa), (.int pb), (.ref b42)] [] at_118 rfl (hw _ (List.mem_of_getElem? (i := 43) rfl)) (hw _ (List.mem_of_getElem? (i := 44) rfl)) (hw _ (List.mem_of_getElem? (i := 3) rfl)) (hw _ (List.mem_of_getElem? (i := 45) rfl)) (by decide) (own_mt3_0 l Z a0 hw b34 (3 : Int32) pa pb b42 kb_b34 cs v_b42 kv_b42 fo h41 n0 X.sz A_b34 OL z_cs hcs z_fo hfo EE_b42 Fc_b42 Fv_b42 A_b42 rfl) (fun _ _ q => Nat.le_of_eq (congrArg Array.size q.1.symm)) rfl own_pd14 rfl rfl rfl (by decide) (Nat.le_of_ble_eq_true rfl) (by decide) (by decide) ?_
    rintro v118 T h_ X ⟨eh_, rfl⟩
    rw [eh_] at X
    show own_Ends p e below _ (T.setTop (mkF m 121 #[.val (.int pa), .val (.int pb), .val (.int pl), .val (.int (3 : Int32)), .val (.ref b34), .val (.ref b39)] [(.int (1 : Int32))]))
    refine own_ifN X 124 at_121 rfl (XT.i0_eq_f (by decide)) ?_
    refine own_aload X 126 (.ref b39) at_124 rfl rfl rfl ?_
    refine own_iconst X 127 (1 : Int32) at_126 rfl rfl ?_
    refine own_aaload X 128 1 (.ref b1_b39) at_127 rfl A_b39 (by decide) (by decide) rfl rfl ?_
    refine own_iloadN X 129 (3 : Int32) at_128 rfl rfl ?_
    refine own_iloadN X 130 pa at_129 rfl rfl ?_
    refine own_iloadN X 131 pb at_130 rfl rfl ?_
    refine own_ldcSV X hS (by omega) 133 [(.int 58), (.int 104), (.int 111), (.int 108), (.int 100), (.int 115)] (6 : Int32) 24 at_131 rfl (hw _ (List.mem_of_getElem? (i := 62) rfl)) (fun a ha => hw a (own_strA a ha)) hhp hN0 hI (by decide) hh30 hcw own_tx_30 (by decide) (by decide) (by decide) (by decide) (by decide) (by decide) ?_
    intro b44 v_b44 kv_b44 T h43 vm0 k0 X E_h43 hS hk0 hW_ EE_b44 Fc_b44 Fv_b44 A_b44 hI Lit_30
    have Lit_24 := Lit.stays Lit_24 hW_
    have zs_h43 : h41.size ≤ h43.size := E_h43.1
    have OL := OL.ext E_h43
    have C_b34 := Exa.ext E_h43 C_b34
    have A_b34 := A_b34.ext E_h43
    have A_b39 := A_b39.ext E_h43
    have A1_b39 := A1_b39.ext E_h43
    have A2_b39 := A2_b39.ext E_h43
    have EE_b42 := Exa.ext E_h43 EE_b42
    have Fc_b42 := Fld.ext E_h43 Fc_b42
    have Fv_b42 := Fld.ext E_h43 Fv_b42
    have A_b42 := A_b42.ext E_h43
    have hi_b44 : h43.size > b44 := EE_b44.lt
    have hi_v_b44 : h43.size > v_b44 := A_b44.lt
    refine own_callS X 136 [(.ref b1_b39), (.int (3 : Int32)), (.int pa), (.int pb), (.ref b44)] [] at_133 rfl (hw _ (List.mem_of_getElem? (i := 43) rfl)) (hw _ (List.mem_of_getElem? (i := 44) rfl)) (hw _ (List.mem_of_getElem? (i := 3) rfl)) (hw _ (List.mem_of_getElem? (i := 45) rfl)) (by decide) (own_mt3_6 l Z a0 hw b1_b39 (3 : Int32) pa pb b44 k1_b39 cs v_b44 kv_b44 fo h43 n0 X.sz A1_b39 OL z_cs hcs z_fo hfo EE_b44 Fc_b44 Fv_b44 A_b44 rfl) (fun _ _ q => Nat.le_of_eq (congrArg Array.size q.1.symm)) rfl own_pd14 rfl rfl rfl (by decide) (Nat.le_of_ble_eq_true rfl) (by decide) (by decide) ?_
    rintro v133 T h_ X ⟨eh_, rfl⟩
    rw [eh_] at X
    show own_Ends p e below _ (T.setTop (mkF m 136 #[.val (.int pa), .val (.int pb), .val (.int pl), .val (.int (3 : Int32)), .val (.ref b34), .val (.ref b39)] [(.int (1 : Int32))]))
    refine own_ifN X 139 at_136 rfl (XT.i0_eq_f (by decide)) ?_
    refine own_aload X 141 (.ref b39) at_139 rfl rfl rfl ?_
    refine own_iconst X 142 (2 : Int32) at_141 rfl rfl ?_
    refine own_aaload X 143 2 (.ref b2_b39) at_142 rfl A_b39 (by decide) (by decide) rfl rfl ?_
    refine own_iloadN X 144 (3 : Int32) at_143 rfl rfl ?_
    refine own_iloadN X 145 pa at_144 rfl rfl ?_
    refine own_iloadN X 146 pb at_145 rfl rfl ?_
    refine own_ldcSV X hS (by omega) 148 [(.int 58), (.int 119), (.int 97), (.int 105), (.int 116), (.int 105), (.int 110), (.int 103)] (8 : Int32) 32 at_146 rfl (hw _ (List.mem_of_getElem? (i := 85) rfl)) (fun a ha => hw a (own_strA a ha)) hhp hN0 hI (by decide) hh32 hcw own_tx_32 (by decide) (by decide) (by decide) (by decide) (by decide) (by decide) ?_
    intro b46 v_b46 kv_b46 T h45 vm0 k0 X E_h45 hS hk0 hW_ EE_b46 Fc_b46 Fv_b46 A_b46 hI Lit_32
    have Lit_24 := Lit.stays Lit_24 hW_
    have Lit_30 := Lit.stays Lit_30 hW_
    have zs_h45 : h43.size ≤ h45.size := E_h45.1
    have OL := OL.ext E_h45
    have C_b34 := Exa.ext E_h45 C_b34
    have A_b34 := A_b34.ext E_h45
    have A_b39 := A_b39.ext E_h45
    have A1_b39 := A1_b39.ext E_h45
    have A2_b39 := A2_b39.ext E_h45
    have EE_b42 := Exa.ext E_h45 EE_b42
    have Fc_b42 := Fld.ext E_h45 Fc_b42
    have Fv_b42 := Fld.ext E_h45 Fv_b42
    have A_b42 := A_b42.ext E_h45
    have EE_b44 := Exa.ext E_h45 EE_b44
    have Fc_b44 := Fld.ext E_h45 Fc_b44
    have Fv_b44 := Fld.ext E_h45 Fv_b44
    have A_b44 := A_b44.ext E_h45
    have hi_b46 : h45.size > b46 := EE_b46.lt
    have hi_v_b46 : h45.size > v_b46 := A_b46.lt
    refine own_callS X 151 [(.ref b2_b39), (.int (3 : Int32)), (.int pa), (.int pb), (.ref b46)] [] at_148 rfl (hw _ (List.mem_of_getElem? (i := 43) rfl)) (hw _ (List.mem_of_getElem? (i := 44) rfl)) (hw _ (List.mem_of_getElem? (i := 3) rfl)) (hw _ (List.mem_of_getElem? (i := 45) rfl)) (by decide) (own_mt3_8 l Z a0 hw b2_b39 (3 : Int32) pa pb b46 k2_b39 cs v_b46 kv_b46 fo h45 n0 X.sz A2_b39 OL z_cs hcs z_fo hfo EE_b46 Fc_b46 Fv_b46 A_b46 rfl) (fun _ _ q => Nat.le_of_eq (congrArg Array.size q.1.symm)) rfl own_pd14 rfl rfl rfl (by decide) (Nat.le_of_ble_eq_true rfl) (by decide) (by decide) ?_
    rintro v148 T h_ X ⟨eh_, rfl⟩
    rw [eh_] at X
    show own_Ends p e below _ (T.setTop (mkF m 151 #[.val (.int pa), .val (.int pb), .val (.int pl), .val (.int (3 : Int32)), .val (.ref b34), .val (.ref b39)] [(.int (1 : Int32))]))
    refine own_ifN X 154 at_151 rfl (XT.i0_eq_f (by decide)) ?_
    refine own_aload X 156 (.ref b34) at_154 rfl rfl rfl ?_
    refine own_iloadN X 157 (3 : Int32) at_156 rfl rfl ?_
    refine own_iloadN X 158 pa at_157 rfl rfl ?_
    refine own_iloadN X 159 pb at_158 rfl rfl ?_
    refine own_ldcAgain X 161 at_159 rfl (hw _ (List.mem_of_getElem? (i := 36) rfl)) Lit_24 ?_
    refine own_callS X 164 [(.ref b34), (.int (3 : Int32)), (.int pa), (.int pb), (.ref b42)] [] at_161 rfl (hw _ (List.mem_of_getElem? (i := 43) rfl)) (hw _ (List.mem_of_getElem? (i := 44) rfl)) (hw _ (List.mem_of_getElem? (i := 3) rfl)) (hw _ (List.mem_of_getElem? (i := 45) rfl)) (by decide) (own_mt3_0 l Z a0 hw b34 (3 : Int32) pa pb b42 kb_b34 cs v_b42 kv_b42 fo h45 n0 X.sz A_b34 OL z_cs hcs z_fo hfo EE_b42 Fc_b42 Fv_b42 A_b42 rfl) (fun _ _ q => Nat.le_of_eq (congrArg Array.size q.1.symm)) rfl own_pd14 rfl rfl rfl (by decide) (Nat.le_of_ble_eq_true rfl) (by decide) (by decide) ?_
    rintro v161 T h_ X ⟨eh_, rfl⟩
    rw [eh_] at X
    show own_Ends p e below _ (T.setTop (mkF m 164 #[.val (.int pa), .val (.int pb), .val (.int pl), .val (.int (3 : Int32)), .val (.ref b34), .val (.ref b39)] [(.int (1 : Int32))]))
    refine own_ifN X 167 at_164 rfl (XT.i0_eq_f (by decide)) ?_
    refine own_iconst X 168 (1 : Int32) at_167 rfl rfl ?_
    refine own_goto X 172 at_168 (by decide) (by decide) ?_
    exact own_retNW X hS (by omega) .boolean at_172 rfl (by simp) (by decide) (by decide) (by decide)
  · rw [hn_]
    refine own_istoreN X 8 #[.val (.int pa), .val (.int pb), .val (.int pl), .val (.int (4 : Int32)), .unset, .unset] at_7 rfl rfl ?_
    refine own_iloadN X 9 (4 : Int32) at_8 rfl rfl ?_
    refine own_callS X 12 [(.int (4 : Int32))] [] at_9 rfl (hw _ (List.mem_of_getElem? (i := 1) rfl)) (hw _ (List.mem_of_getElem? (i := 2) rfl)) (hw _ (List.mem_of_getElem? (i := 3) rfl)) (hw _ (List.mem_of_getElem? (i := 4) rfl)) (by decide) (own_make4 l Z a0 hw (4 : Int32) h0 n0 X.sz rfl) (fun _ _ q => q.1.1) rfl own_pd12 rfl rfl rfl (by decide) (Nat.le_of_ble_eq_true rfl) (by decide) (by decide) ?_
    rintro v9 T h48 X ⟨K_, b47, kb_b47, rfl, lo_b47, hi_b47, A_b47, C_b47⟩
    have zs_h48 : h0.size ≤ h48.size := K_.1
    have OL := OL.keep K_ all0
    show own_Ends p e below _ (T.setTop (mkF m 12 #[.val (.int pa), .val (.int pb), .val (.int pl), .val (.int (4 : Int32)), .unset, .unset] [(.ref b47)]))
    refine own_astore X 14 #[.val (.int pa), .val (.int pb), .val (.int pl), .val (.int (4 : Int32)), .val (.ref b47), .unset] at_12 rfl rfl rfl ?_
    refine own_iloadN X 15 (4 : Int32) at_14 rfl rfl ?_
    refine own_ifN X 18 at_15 rfl (XT.i0_le_f (by decide)) ?_
    refine own_aload X 20 (.ref b47) at_18 rfl rfl rfl ?_
    refine own_iconst X 21 (0 : Int32) at_20 rfl rfl ?_
    refine own_iloadN X 22 pa at_21 rfl rfl ?_
    refine own_iloadN X 23 pb at_22 rfl rfl ?_
    refine own_iconst X 24 (0 : Int32) at_23 rfl rfl ?_
    refine own_callS X 27 [(.int pa), (.int pb), (.int (0 : Int32))] [(.int (0 : Int32)), (.ref b47)] at_24 rfl (hw _ (List.mem_of_getElem? (i := 6) rfl)) (hw _ (List.mem_of_getElem? (i := 7) rfl)) (hw _ (List.mem_of_getElem? (i := 3) rfl)) (hw _ (List.mem_of_getElem? (i := 8) rfl)) (by decide) (own_obm l Z a0 hw pa pb (0 : Int32) h48 n0 X.sz) (fun _ _ q => Nat.le_of_eq (congrArg Array.size q.1.symm)) rfl own_pd8 rfl rfl rfl (by decide) (Nat.le_of_ble_eq_true rfl) (by decide) (by decide) ?_
    rintro v24 T h_ X ⟨eh_, rfl⟩
    rw [eh_] at X
    show own_Ends p e below _ (T.setTop (mkF m 27 #[.val (.int pa), .val (.int pb), .val (.int pl), .val (.int (4 : Int32)), .val (.ref b47), .unset] [(.int (own_ob pa pb (0 : Int32))), (.int (0 : Int32)), (.ref b47)]))
    refine own_bastore X 28 0 at_27 rfl A_b47 (by decide) (by decide) (Nat.le_of_ble_eq_true rfl) (by omega) ?_
    intro T h49 X W_h49
    rw [own_ob_nar] at W_h49
    have nw_h49 : own_A Z h49 b47 kb_b47 .byte [(.int (own_ob pa pb (0 : Int32))), (.int (0 : Int32)), (.int (0 : Int32)), (.int (0 : Int32))] := A_b47.same W_h49 (fits_nar_byte _)
    have zs_h49 : h48.size ≤ h49.size := (Nat.le_of_eq W_h49.size.symm)
    have OL := OL.wr W_h49 (by omega)
    have C_b47 := Exa.wr W_h49 C_b47
    have A_b47 := nw_h49
    refine own_iloadN X 29 (4 : Int32) at_28 rfl rfl ?_
    refine own_iconst X 30 (1 : Int32) at_29 rfl rfl ?_
    refine own_icN X 33 at_30 rfl (XT.ii_le_f (by decide)) ?_
    refine own_aload X 35 (.ref b47) at_33 rfl rfl rfl ?_
    refine own_iconst X 36 (1 : Int32) at_35 rfl rfl ?_
    refine own_iloadN X 37 pa at_36 rfl rfl ?_
    refine own_iloadN X 38 pb at_37 rfl rfl ?_
    refine own_iconst X 39 (1 : Int32) at_38 rfl rfl ?_
    refine own_callS X 42 [(.int pa), (.int pb), (.int (1 : Int32))] [(.int (1 : Int32)), (.ref b47)] at_39 rfl (hw _ (List.mem_of_getElem? (i := 6) rfl)) (hw _ (List.mem_of_getElem? (i := 7) rfl)) (hw _ (List.mem_of_getElem? (i := 3) rfl)) (hw _ (List.mem_of_getElem? (i := 8) rfl)) (by decide) (own_obm l Z a0 hw pa pb (1 : Int32) h49 n0 X.sz) (fun _ _ q => Nat.le_of_eq (congrArg Array.size q.1.symm)) rfl own_pd8 rfl rfl rfl (by decide) (Nat.le_of_ble_eq_true rfl) (by decide) (by decide) ?_
    rintro v39 T h_ X ⟨eh_, rfl⟩
    rw [eh_] at X
    show own_Ends p e below _ (T.setTop (mkF m 42 #[.val (.int pa), .val (.int pb), .val (.int pl), .val (.int (4 : Int32)), .val (.ref b47), .unset] [(.int (own_ob pa pb (1 : Int32))), (.int (1 : Int32)), (.ref b47)]))
    refine own_bastore X 43 1 at_42 rfl A_b47 (by decide) (by decide) (Nat.le_of_ble_eq_true rfl) (by omega) ?_
    intro T h50 X W_h50
    rw [own_ob_nar] at W_h50
    have nw_h50 : own_A Z h50 b47 kb_b47 .byte [(.int (own_ob pa pb (0 : Int32))), (.int (own_ob pa pb (1 : Int32))), (.int (0 : Int32)), (.int (0 : Int32))] := A_b47.same W_h50 (fits_nar_byte _)
    have zs_h50 : h49.size ≤ h50.size := (Nat.le_of_eq W_h50.size.symm)
    have OL := OL.wr W_h50 (by omega)
    have C_b47 := Exa.wr W_h50 C_b47
    have A_b47 := nw_h50
    refine own_iloadN X 44 (4 : Int32) at_43 rfl rfl ?_
    refine own_iconst X 45 (2 : Int32) at_44 rfl rfl ?_
    refine own_icN X 48 at_45 rfl (XT.ii_le_f (by decide)) ?_
    refine own_aload X 50 (.ref b47) at_48 rfl rfl rfl ?_
    refine own_iconst X 51 (2 : Int32) at_50 rfl rfl ?_
    refine own_iloadN X 52 pa at_51 rfl rfl ?_
    refine own_iloadN X 53 pb at_52 rfl rfl ?_
    refine own_iconst X 54 (2 : Int32) at_53 rfl rfl ?_
    refine own_callS X 57 [(.int pa), (.int pb), (.int (2 : Int32))] [(.int (2 : Int32)), (.ref b47)] at_54 rfl (hw _ (List.mem_of_getElem? (i := 6) rfl)) (hw _ (List.mem_of_getElem? (i := 7) rfl)) (hw _ (List.mem_of_getElem? (i := 3) rfl)) (hw _ (List.mem_of_getElem? (i := 8) rfl)) (by decide) (own_obm l Z a0 hw pa pb (2 : Int32) h50 n0 X.sz) (fun _ _ q => Nat.le_of_eq (congrArg Array.size q.1.symm)) rfl own_pd8 rfl rfl rfl (by decide) (Nat.le_of_ble_eq_true rfl) (by decide) (by decide) ?_
    rintro v54 T h_ X ⟨eh_, rfl⟩
    rw [eh_] at X
    show own_Ends p e below _ (T.setTop (mkF m 57 #[.val (.int pa), .val (.int pb), .val (.int pl), .val (.int (4 : Int32)), .val (.ref b47), .unset] [(.int (own_ob pa pb (2 : Int32))), (.int (2 : Int32)), (.ref b47)]))
    refine own_bastore X 58 2 at_57 rfl A_b47 (by decide) (by decide) (Nat.le_of_ble_eq_true rfl) (by omega) ?_
    intro T h51 X W_h51
    rw [own_ob_nar] at W_h51
    have nw_h51 : own_A Z h51 b47 kb_b47 .byte [(.int (own_ob pa pb (0 : Int32))), (.int (own_ob pa pb (1 : Int32))), (.int (own_ob pa pb (2 : Int32))), (.int (0 : Int32))] := A_b47.same W_h51 (fits_nar_byte _)
    have zs_h51 : h50.size ≤ h51.size := (Nat.le_of_eq W_h51.size.symm)
    have OL := OL.wr W_h51 (by omega)
    have C_b47 := Exa.wr W_h51 C_b47
    have A_b47 := nw_h51
    refine own_iloadN X 59 (4 : Int32) at_58 rfl rfl ?_
    refine own_iconst X 60 (3 : Int32) at_59 rfl rfl ?_
    refine own_icN X 63 at_60 rfl (XT.ii_le_f (by decide)) ?_
    refine own_aload X 65 (.ref b47) at_63 rfl rfl rfl ?_
    refine own_iconst X 66 (3 : Int32) at_65 rfl rfl ?_
    refine own_iloadN X 67 pa at_66 rfl rfl ?_
    refine own_iloadN X 68 pb at_67 rfl rfl ?_
    refine own_iconst X 69 (3 : Int32) at_68 rfl rfl ?_
    refine own_callS X 72 [(.int pa), (.int pb), (.int (3 : Int32))] [(.int (3 : Int32)), (.ref b47)] at_69 rfl (hw _ (List.mem_of_getElem? (i := 6) rfl)) (hw _ (List.mem_of_getElem? (i := 7) rfl)) (hw _ (List.mem_of_getElem? (i := 3) rfl)) (hw _ (List.mem_of_getElem? (i := 8) rfl)) (by decide) (own_obm l Z a0 hw pa pb (3 : Int32) h51 n0 X.sz) (fun _ _ q => Nat.le_of_eq (congrArg Array.size q.1.symm)) rfl own_pd8 rfl rfl rfl (by decide) (Nat.le_of_ble_eq_true rfl) (by decide) (by decide) ?_
    rintro v69 T h_ X ⟨eh_, rfl⟩
    rw [eh_] at X
    show own_Ends p e below _ (T.setTop (mkF m 72 #[.val (.int pa), .val (.int pb), .val (.int pl), .val (.int (4 : Int32)), .val (.ref b47), .unset] [(.int (own_ob pa pb (3 : Int32))), (.int (3 : Int32)), (.ref b47)]))
    refine own_bastore X 73 3 at_72 rfl A_b47 (by decide) (by decide) (Nat.le_of_ble_eq_true rfl) (by omega) ?_
    intro T h52 X W_h52
    rw [own_ob_nar] at W_h52
    have nw_h52 : own_A Z h52 b47 kb_b47 .byte [(.int (own_ob pa pb (0 : Int32))), (.int (own_ob pa pb (1 : Int32))), (.int (own_ob pa pb (2 : Int32))), (.int (own_ob pa pb (3 : Int32)))] := A_b47.same W_h52 (fits_nar_byte _)
    have zs_h52 : h51.size ≤ h52.size := (Nat.le_of_eq W_h52.size.symm)
    have OL := OL.wr W_h52 (by omega)
    have C_b47 := Exa.wr W_h52 C_b47
    have A_b47 := nw_h52
    refine own_iloadN X 74 (4 : Int32) at_73 rfl rfl ?_
    refine own_iconst X 75 (4 : Int32) at_74 rfl rfl ?_
    refine own_icY X 88 at_75 (by decide) (by decide) (XT.ii_le_t (by decide)) ?_
    refine own_aload X 90 (.ref b47) at_88 rfl rfl rfl ?_
    refine own_callS X 93 [(.ref b47)] [] at_90 rfl (hw _ (List.mem_of_getElem? (i := 9) rfl)) (hw _ (List.mem_of_getElem? (i := 10) rfl)) (hw _ (List.mem_of_getElem? (i := 11) rfl)) (hw _ (List.mem_of_getElem? (i := 12) rfl)) (by decide) (own_hf4 l Z a0 hw b47 kb_b47 ho kh wt kw (own_ob pa pb (0 : Int32)) (own_ob pa pb (1 : Int32)) (own_ob pa pb (2 : Int32)) (own_ob pa pb (3 : Int32)) h52 n0 X.sz OL z_ho z_hA z_wt z_wA A_b47 C_b47) (fun _ _ q => q.1.1) rfl own_pd13 rfl rfl rfl (by decide) (Nat.le_of_ble_eq_true rfl) (by decide) (by decide) ?_
    rintro v90 T h54 X ⟨K_, b53, kx_b53, b1_b53, k1_b53, b2_b53, k2_b53, rfl, A_b53, A1_b53, A2_b53⟩
    have zs_h54 : h52.size ≤ h54.size := K_.1
    have OL := OL.keep K_ all0
    have C_b47 := C_b47.keep K_
    have A_b47 := A_b47.keep K_ nin0
    show own_Ends p e below _ (T.setTop (mkF m 93 #[.val (.int pa), .val (.int pb), .val (.int pl), .val (.int (4 : Int32)), .val (.ref b47), .unset] [(.ref b53)]))
    refine own_astore X 95 #[.val (.int pa), .val (.int pb), .val (.int pl), .val (.int (4 : Int32)), .val (.ref b47), .val (.ref b53)] at_93 rfl rfl rfl ?_
    refine own_aload X 97 (.ref b53) at_95 rfl rfl rfl ?_
    refine own_nullN X 100 at_97 rfl ?_
    refine own_aload X 102 (.ref b53) at_100 rfl rfl rfl ?_
    refine own_len X 103 (3 : Int32) at_102 rfl A_b53 rfl ?_
    refine own_iconst X 104 (3 : Int32) at_103 rfl rfl ?_
    refine own_icY X 109 at_104 (by decide) (by decide) (XT.ii_eq_t (by decide)) ?_
    refine own_aload X 111 (.ref b53) at_109 rfl rfl rfl ?_
    refine own_iconst X 112 (0 : Int32) at_111 rfl rfl ?_
    refine own_aaload X 113 0 (.ref b47) at_112 rfl A_b53 (by decide) (by decide) rfl rfl ?_
    refine own_iloadN X 114 (4 : Int32) at_113 rfl rfl ?_
    refine own_iloadN X 115 pa at_114 rfl rfl ?_
    refine own_iloadN X 116 pb at_115 rfl rfl ?_
    refine own_ldcSV X hS (by omega) 118 [] (0 : Int32) 0 at_116 rfl (hw _ (List.mem_of_getElem? (i := 36) rfl)) (fun a ha => hw a (own_strA a ha)) hhp hN0 hI (by decide) hh24 hcw own_tx_24 (by decide) (by decide) (by decide) (by decide) (by decide) (by decide) ?_
    intro b56 v_b56 kv_b56 T h55 vm0 k0 X E_h55 hS hk0 hW_ EE_b56 Fc_b56 Fv_b56 A_b56 hI Lit_24
    have zs_h55 : h54.size ≤ h55.size := E_h55.1
    have OL := OL.ext E_h55
    have C_b47 := Exa.ext E_h55 C_b47
    have A_b47 := A_b47.ext E_h55
    have A_b53 := A_b53.ext E_h55
    have A1_b53 := A1_b53.ext E_h55
    have A2_b53 := A2_b53.ext E_h55
    have hi_b56 : h55.size > b56 := EE_b56.lt
    have hi_v_b56 : h55.size > v_b56 := A_b56.lt
    refine own_callS X 121 [(.ref b47), (.int (4 : Int32)), (.int pa), (.int pb), (.ref b56)] [] at_118 rfl (hw _ (List.mem_of_getElem? (i := 43) rfl)) (hw _ (List.mem_of_getElem? (i := 44) rfl)) (hw _ (List.mem_of_getElem? (i := 3) rfl)) (hw _ (List.mem_of_getElem? (i := 45) rfl)) (by decide) (own_mt4_0 l Z a0 hw b47 (4 : Int32) pa pb b56 kb_b47 cs v_b56 kv_b56 fo h55 n0 X.sz A_b47 OL z_cs hcs z_fo hfo EE_b56 Fc_b56 Fv_b56 A_b56 rfl) (fun _ _ q => Nat.le_of_eq (congrArg Array.size q.1.symm)) rfl own_pd14 rfl rfl rfl (by decide) (Nat.le_of_ble_eq_true rfl) (by decide) (by decide) ?_
    rintro v118 T h_ X ⟨eh_, rfl⟩
    rw [eh_] at X
    show own_Ends p e below _ (T.setTop (mkF m 121 #[.val (.int pa), .val (.int pb), .val (.int pl), .val (.int (4 : Int32)), .val (.ref b47), .val (.ref b53)] [(.int (1 : Int32))]))
    refine own_ifN X 124 at_121 rfl (XT.i0_eq_f (by decide)) ?_
    refine own_aload X 126 (.ref b53) at_124 rfl rfl rfl ?_
    refine own_iconst X 127 (1 : Int32) at_126 rfl rfl ?_
    refine own_aaload X 128 1 (.ref b1_b53) at_127 rfl A_b53 (by decide) (by decide) rfl rfl ?_
    refine own_iloadN X 129 (4 : Int32) at_128 rfl rfl ?_
    refine own_iloadN X 130 pa at_129 rfl rfl ?_
    refine own_iloadN X 131 pb at_130 rfl rfl ?_
    refine own_ldcSV X hS (by omega) 133 [(.int 58), (.int 104), (.int 111), (.int 108), (.int 100), (.int 115)] (6 : Int32) 24 at_131 rfl (hw _ (List.mem_of_getElem? (i := 62) rfl)) (fun a ha => hw a (own_strA a ha)) hhp hN0 hI (by decide) hh30 hcw own_tx_30 (by decide) (by decide) (by decide) (by decide) (by decide) (by decide) ?_
    intro b58 v_b58 kv_b58 T h57 vm0 k0 X E_h57 hS hk0 hW_ EE_b58 Fc_b58 Fv_b58 A_b58 hI Lit_30
    have Lit_24 := Lit.stays Lit_24 hW_
    have zs_h57 : h55.size ≤ h57.size := E_h57.1
    have OL := OL.ext E_h57
    have C_b47 := Exa.ext E_h57 C_b47
    have A_b47 := A_b47.ext E_h57
    have A_b53 := A_b53.ext E_h57
    have A1_b53 := A1_b53.ext E_h57
    have A2_b53 := A2_b53.ext E_h57
    have EE_b56 := Exa.ext E_h57 EE_b56
    have Fc_b56 := Fld.ext E_h57 Fc_b56
    have Fv_b56 := Fld.ext E_h57 Fv_b56
    have A_b56 := A_b56.ext E_h57
    have hi_b58 : h57.size > b58 := EE_b58.lt
    have hi_v_b58 : h57.size > v_b58 := A_b58.lt
    refine own_callS X 136 [(.ref b1_b53), (.int (4 : Int32)), (.int pa), (.int pb), (.ref b58)] [] at_133 rfl (hw _ (List.mem_of_getElem? (i := 43) rfl)) (hw _ (List.mem_of_getElem? (i := 44) rfl)) (hw _ (List.mem_of_getElem? (i := 3) rfl)) (hw _ (List.mem_of_getElem? (i := 45) rfl)) (by decide) (own_mt4_6 l Z a0 hw b1_b53 (4 : Int32) pa pb b58 k1_b53 cs v_b58 kv_b58 fo h57 n0 X.sz A1_b53 OL z_cs hcs z_fo hfo EE_b58 Fc_b58 Fv_b58 A_b58 rfl) (fun _ _ q => Nat.le_of_eq (congrArg Array.size q.1.symm)) rfl own_pd14 rfl rfl rfl (by decide) (Nat.le_of_ble_eq_true rfl) (by decide) (by decide) ?_
    rintro v133 T h_ X ⟨eh_, rfl⟩
    rw [eh_] at X
    show own_Ends p e below _ (T.setTop (mkF m 136 #[.val (.int pa), .val (.int pb), .val (.int pl), .val (.int (4 : Int32)), .val (.ref b47), .val (.ref b53)] [(.int (1 : Int32))]))
    refine own_ifN X 139 at_136 rfl (XT.i0_eq_f (by decide)) ?_
    refine own_aload X 141 (.ref b53) at_139 rfl rfl rfl ?_
    refine own_iconst X 142 (2 : Int32) at_141 rfl rfl ?_
    refine own_aaload X 143 2 (.ref b2_b53) at_142 rfl A_b53 (by decide) (by decide) rfl rfl ?_
    refine own_iloadN X 144 (4 : Int32) at_143 rfl rfl ?_
    refine own_iloadN X 145 pa at_144 rfl rfl ?_
    refine own_iloadN X 146 pb at_145 rfl rfl ?_
    refine own_ldcSV X hS (by omega) 148 [(.int 58), (.int 119), (.int 97), (.int 105), (.int 116), (.int 105), (.int 110), (.int 103)] (8 : Int32) 32 at_146 rfl (hw _ (List.mem_of_getElem? (i := 85) rfl)) (fun a ha => hw a (own_strA a ha)) hhp hN0 hI (by decide) hh32 hcw own_tx_32 (by decide) (by decide) (by decide) (by decide) (by decide) (by decide) ?_
    intro b60 v_b60 kv_b60 T h59 vm0 k0 X E_h59 hS hk0 hW_ EE_b60 Fc_b60 Fv_b60 A_b60 hI Lit_32
    have Lit_24 := Lit.stays Lit_24 hW_
    have Lit_30 := Lit.stays Lit_30 hW_
    have zs_h59 : h57.size ≤ h59.size := E_h59.1
    have OL := OL.ext E_h59
    have C_b47 := Exa.ext E_h59 C_b47
    have A_b47 := A_b47.ext E_h59
    have A_b53 := A_b53.ext E_h59
    have A1_b53 := A1_b53.ext E_h59
    have A2_b53 := A2_b53.ext E_h59
    have EE_b56 := Exa.ext E_h59 EE_b56
    have Fc_b56 := Fld.ext E_h59 Fc_b56
    have Fv_b56 := Fld.ext E_h59 Fv_b56
    have A_b56 := A_b56.ext E_h59
    have EE_b58 := Exa.ext E_h59 EE_b58
    have Fc_b58 := Fld.ext E_h59 Fc_b58
    have Fv_b58 := Fld.ext E_h59 Fv_b58
    have A_b58 := A_b58.ext E_h59
    have hi_b60 : h59.size > b60 := EE_b60.lt
    have hi_v_b60 : h59.size > v_b60 := A_b60.lt
    refine own_callS X 151 [(.ref b2_b53), (.int (4 : Int32)), (.int pa), (.int pb), (.ref b60)] [] at_148 rfl (hw _ (List.mem_of_getElem? (i := 43) rfl)) (hw _ (List.mem_of_getElem? (i := 44) rfl)) (hw _ (List.mem_of_getElem? (i := 3) rfl)) (hw _ (List.mem_of_getElem? (i := 45) rfl)) (by decide) (own_mt4_8 l Z a0 hw b2_b53 (4 : Int32) pa pb b60 k2_b53 cs v_b60 kv_b60 fo h59 n0 X.sz A2_b53 OL z_cs hcs z_fo hfo EE_b60 Fc_b60 Fv_b60 A_b60 rfl) (fun _ _ q => Nat.le_of_eq (congrArg Array.size q.1.symm)) rfl own_pd14 rfl rfl rfl (by decide) (Nat.le_of_ble_eq_true rfl) (by decide) (by decide) ?_
    rintro v148 T h_ X ⟨eh_, rfl⟩
    rw [eh_] at X
    show own_Ends p e below _ (T.setTop (mkF m 151 #[.val (.int pa), .val (.int pb), .val (.int pl), .val (.int (4 : Int32)), .val (.ref b47), .val (.ref b53)] [(.int (1 : Int32))]))
    refine own_ifN X 154 at_151 rfl (XT.i0_eq_f (by decide)) ?_
    refine own_aload X 156 (.ref b47) at_154 rfl rfl rfl ?_
    refine own_iloadN X 157 (4 : Int32) at_156 rfl rfl ?_
    refine own_iloadN X 158 pa at_157 rfl rfl ?_
    refine own_iloadN X 159 pb at_158 rfl rfl ?_
    refine own_ldcAgain X 161 at_159 rfl (hw _ (List.mem_of_getElem? (i := 36) rfl)) Lit_24 ?_
    refine own_callS X 164 [(.ref b47), (.int (4 : Int32)), (.int pa), (.int pb), (.ref b56)] [] at_161 rfl (hw _ (List.mem_of_getElem? (i := 43) rfl)) (hw _ (List.mem_of_getElem? (i := 44) rfl)) (hw _ (List.mem_of_getElem? (i := 3) rfl)) (hw _ (List.mem_of_getElem? (i := 45) rfl)) (by decide) (own_mt4_0 l Z a0 hw b47 (4 : Int32) pa pb b56 kb_b47 cs v_b56 kv_b56 fo h59 n0 X.sz A_b47 OL z_cs hcs z_fo hfo EE_b56 Fc_b56 Fv_b56 A_b56 rfl) (fun _ _ q => Nat.le_of_eq (congrArg Array.size q.1.symm)) rfl own_pd14 rfl rfl rfl (by decide) (Nat.le_of_ble_eq_true rfl) (by decide) (by decide) ?_
    rintro v161 T h_ X ⟨eh_, rfl⟩
    rw [eh_] at X
    show own_Ends p e below _ (T.setTop (mkF m 164 #[.val (.int pa), .val (.int pb), .val (.int pl), .val (.int (4 : Int32)), .val (.ref b47), .val (.ref b53)] [(.int (1 : Int32))]))
    refine own_ifN X 167 at_164 rfl (XT.i0_eq_f (by decide)) ?_
    refine own_iconst X 168 (1 : Int32) at_167 rfl rfl ?_
    refine own_goto X 172 at_168 (by decide) (by decide) ?_
    exact own_retNW X hS (by omega) .boolean at_172 rfl (by simp) (by decide) (by decide) (by decide)
  · rw [hn_]
    refine own_istoreN X 8 #[.val (.int pa), .val (.int pb), .val (.int pl), .val (.int (5 : Int32)), .unset, .unset] at_7 rfl rfl ?_
    refine own_iloadN X 9 (5 : Int32) at_8 rfl rfl ?_
    refine own_callS X 12 [(.int (5 : Int32))] [] at_9 rfl (hw _ (List.mem_of_getElem? (i := 1) rfl)) (hw _ (List.mem_of_getElem? (i := 2) rfl)) (hw _ (List.mem_of_getElem? (i := 3) rfl)) (hw _ (List.mem_of_getElem? (i := 4) rfl)) (by decide) (own_make5 l Z a0 hw (5 : Int32) h0 n0 X.sz rfl) (fun _ _ q => q.1.1) rfl own_pd12 rfl rfl rfl (by decide) (Nat.le_of_ble_eq_true rfl) (by decide) (by decide) ?_
    rintro v9 T h62 X ⟨K_, b61, kb_b61, rfl, lo_b61, hi_b61, A_b61, C_b61⟩
    have zs_h62 : h0.size ≤ h62.size := K_.1
    have OL := OL.keep K_ all0
    show own_Ends p e below _ (T.setTop (mkF m 12 #[.val (.int pa), .val (.int pb), .val (.int pl), .val (.int (5 : Int32)), .unset, .unset] [(.ref b61)]))
    refine own_astore X 14 #[.val (.int pa), .val (.int pb), .val (.int pl), .val (.int (5 : Int32)), .val (.ref b61), .unset] at_12 rfl rfl rfl ?_
    refine own_iloadN X 15 (5 : Int32) at_14 rfl rfl ?_
    refine own_ifN X 18 at_15 rfl (XT.i0_le_f (by decide)) ?_
    refine own_aload X 20 (.ref b61) at_18 rfl rfl rfl ?_
    refine own_iconst X 21 (0 : Int32) at_20 rfl rfl ?_
    refine own_iloadN X 22 pa at_21 rfl rfl ?_
    refine own_iloadN X 23 pb at_22 rfl rfl ?_
    refine own_iconst X 24 (0 : Int32) at_23 rfl rfl ?_
    refine own_callS X 27 [(.int pa), (.int pb), (.int (0 : Int32))] [(.int (0 : Int32)), (.ref b61)] at_24 rfl (hw _ (List.mem_of_getElem? (i := 6) rfl)) (hw _ (List.mem_of_getElem? (i := 7) rfl)) (hw _ (List.mem_of_getElem? (i := 3) rfl)) (hw _ (List.mem_of_getElem? (i := 8) rfl)) (by decide) (own_obm l Z a0 hw pa pb (0 : Int32) h62 n0 X.sz) (fun _ _ q => Nat.le_of_eq (congrArg Array.size q.1.symm)) rfl own_pd8 rfl rfl rfl (by decide) (Nat.le_of_ble_eq_true rfl) (by decide) (by decide) ?_
    rintro v24 T h_ X ⟨eh_, rfl⟩
    rw [eh_] at X
    show own_Ends p e below _ (T.setTop (mkF m 27 #[.val (.int pa), .val (.int pb), .val (.int pl), .val (.int (5 : Int32)), .val (.ref b61), .unset] [(.int (own_ob pa pb (0 : Int32))), (.int (0 : Int32)), (.ref b61)]))
    refine own_bastore X 28 0 at_27 rfl A_b61 (by decide) (by decide) (Nat.le_of_ble_eq_true rfl) (by omega) ?_
    intro T h63 X W_h63
    rw [own_ob_nar] at W_h63
    have nw_h63 : own_A Z h63 b61 kb_b61 .byte [(.int (own_ob pa pb (0 : Int32))), (.int (0 : Int32)), (.int (0 : Int32)), (.int (0 : Int32)), (.int (0 : Int32))] := A_b61.same W_h63 (fits_nar_byte _)
    have zs_h63 : h62.size ≤ h63.size := (Nat.le_of_eq W_h63.size.symm)
    have OL := OL.wr W_h63 (by omega)
    have C_b61 := Exa.wr W_h63 C_b61
    have A_b61 := nw_h63
    refine own_iloadN X 29 (5 : Int32) at_28 rfl rfl ?_
    refine own_iconst X 30 (1 : Int32) at_29 rfl rfl ?_
    refine own_icN X 33 at_30 rfl (XT.ii_le_f (by decide)) ?_
    refine own_aload X 35 (.ref b61) at_33 rfl rfl rfl ?_
    refine own_iconst X 36 (1 : Int32) at_35 rfl rfl ?_
    refine own_iloadN X 37 pa at_36 rfl rfl ?_
    refine own_iloadN X 38 pb at_37 rfl rfl ?_
    refine own_iconst X 39 (1 : Int32) at_38 rfl rfl ?_
    refine own_callS X 42 [(.int pa), (.int pb), (.int (1 : Int32))] [(.int (1 : Int32)), (.ref b61)] at_39 rfl (hw _ (List.mem_of_getElem? (i := 6) rfl)) (hw _ (List.mem_of_getElem? (i := 7) rfl)) (hw _ (List.mem_of_getElem? (i := 3) rfl)) (hw _ (List.mem_of_getElem? (i := 8) rfl)) (by decide) (own_obm l Z a0 hw pa pb (1 : Int32) h63 n0 X.sz) (fun _ _ q => Nat.le_of_eq (congrArg Array.size q.1.symm)) rfl own_pd8 rfl rfl rfl (by decide) (Nat.le_of_ble_eq_true rfl) (by decide) (by decide) ?_
    rintro v39 T h_ X ⟨eh_, rfl⟩
    rw [eh_] at X
    show own_Ends p e below _ (T.setTop (mkF m 42 #[.val (.int pa), .val (.int pb), .val (.int pl), .val (.int (5 : Int32)), .val (.ref b61), .unset] [(.int (own_ob pa pb (1 : Int32))), (.int (1 : Int32)), (.ref b61)]))
    refine own_bastore X 43 1 at_42 rfl A_b61 (by decide) (by decide) (Nat.le_of_ble_eq_true rfl) (by omega) ?_
    intro T h64 X W_h64
    rw [own_ob_nar] at W_h64
    have nw_h64 : own_A Z h64 b61 kb_b61 .byte [(.int (own_ob pa pb (0 : Int32))), (.int (own_ob pa pb (1 : Int32))), (.int (0 : Int32)), (.int (0 : Int32)), (.int (0 : Int32))] := A_b61.same W_h64 (fits_nar_byte _)
    have zs_h64 : h63.size ≤ h64.size := (Nat.le_of_eq W_h64.size.symm)
    have OL := OL.wr W_h64 (by omega)
    have C_b61 := Exa.wr W_h64 C_b61
    have A_b61 := nw_h64
    refine own_iloadN X 44 (5 : Int32) at_43 rfl rfl ?_
    refine own_iconst X 45 (2 : Int32) at_44 rfl rfl ?_
    refine own_icN X 48 at_45 rfl (XT.ii_le_f (by decide)) ?_
    refine own_aload X 50 (.ref b61) at_48 rfl rfl rfl ?_
    refine own_iconst X 51 (2 : Int32) at_50 rfl rfl ?_
    refine own_iloadN X 52 pa at_51 rfl rfl ?_
    refine own_iloadN X 53 pb at_52 rfl rfl ?_
    refine own_iconst X 54 (2 : Int32) at_53 rfl rfl ?_
    refine own_callS X 57 [(.int pa), (.int pb), (.int (2 : Int32))] [(.int (2 : Int32)), (.ref b61)] at_54 rfl (hw _ (List.mem_of_getElem? (i := 6) rfl)) (hw _ (List.mem_of_getElem? (i := 7) rfl)) (hw _ (List.mem_of_getElem? (i := 3) rfl)) (hw _ (List.mem_of_getElem? (i := 8) rfl)) (by decide) (own_obm l Z a0 hw pa pb (2 : Int32) h64 n0 X.sz) (fun _ _ q => Nat.le_of_eq (congrArg Array.size q.1.symm)) rfl own_pd8 rfl rfl rfl (by decide) (Nat.le_of_ble_eq_true rfl) (by decide) (by decide) ?_
    rintro v54 T h_ X ⟨eh_, rfl⟩
    rw [eh_] at X
    show own_Ends p e below _ (T.setTop (mkF m 57 #[.val (.int pa), .val (.int pb), .val (.int pl), .val (.int (5 : Int32)), .val (.ref b61), .unset] [(.int (own_ob pa pb (2 : Int32))), (.int (2 : Int32)), (.ref b61)]))
    refine own_bastore X 58 2 at_57 rfl A_b61 (by decide) (by decide) (Nat.le_of_ble_eq_true rfl) (by omega) ?_
    intro T h65 X W_h65
    rw [own_ob_nar] at W_h65
    have nw_h65 : own_A Z h65 b61 kb_b61 .byte [(.int (own_ob pa pb (0 : Int32))), (.int (own_ob pa pb (1 : Int32))), (.int (own_ob pa pb (2 : Int32))), (.int (0 : Int32)), (.int (0 : Int32))] := A_b61.same W_h65 (fits_nar_byte _)
    have zs_h65 : h64.size ≤ h65.size := (Nat.le_of_eq W_h65.size.symm)
    have OL := OL.wr W_h65 (by omega)
    have C_b61 := Exa.wr W_h65 C_b61
    have A_b61 := nw_h65
    refine own_iloadN X 59 (5 : Int32) at_58 rfl rfl ?_
    refine own_iconst X 60 (3 : Int32) at_59 rfl rfl ?_
    refine own_icN X 63 at_60 rfl (XT.ii_le_f (by decide)) ?_
    refine own_aload X 65 (.ref b61) at_63 rfl rfl rfl ?_
    refine own_iconst X 66 (3 : Int32) at_65 rfl rfl ?_
    refine own_iloadN X 67 pa at_66 rfl rfl ?_
    refine own_iloadN X 68 pb at_67 rfl rfl ?_
    refine own_iconst X 69 (3 : Int32) at_68 rfl rfl ?_
    refine own_callS X 72 [(.int pa), (.int pb), (.int (3 : Int32))] [(.int (3 : Int32)), (.ref b61)] at_69 rfl (hw _ (List.mem_of_getElem? (i := 6) rfl)) (hw _ (List.mem_of_getElem? (i := 7) rfl)) (hw _ (List.mem_of_getElem? (i := 3) rfl)) (hw _ (List.mem_of_getElem? (i := 8) rfl)) (by decide) (own_obm l Z a0 hw pa pb (3 : Int32) h65 n0 X.sz) (fun _ _ q => Nat.le_of_eq (congrArg Array.size q.1.symm)) rfl own_pd8 rfl rfl rfl (by decide) (Nat.le_of_ble_eq_true rfl) (by decide) (by decide) ?_
    rintro v69 T h_ X ⟨eh_, rfl⟩
    rw [eh_] at X
    show own_Ends p e below _ (T.setTop (mkF m 72 #[.val (.int pa), .val (.int pb), .val (.int pl), .val (.int (5 : Int32)), .val (.ref b61), .unset] [(.int (own_ob pa pb (3 : Int32))), (.int (3 : Int32)), (.ref b61)]))
    refine own_bastore X 73 3 at_72 rfl A_b61 (by decide) (by decide) (Nat.le_of_ble_eq_true rfl) (by omega) ?_
    intro T h66 X W_h66
    rw [own_ob_nar] at W_h66
    have nw_h66 : own_A Z h66 b61 kb_b61 .byte [(.int (own_ob pa pb (0 : Int32))), (.int (own_ob pa pb (1 : Int32))), (.int (own_ob pa pb (2 : Int32))), (.int (own_ob pa pb (3 : Int32))), (.int (0 : Int32))] := A_b61.same W_h66 (fits_nar_byte _)
    have zs_h66 : h65.size ≤ h66.size := (Nat.le_of_eq W_h66.size.symm)
    have OL := OL.wr W_h66 (by omega)
    have C_b61 := Exa.wr W_h66 C_b61
    have A_b61 := nw_h66
    refine own_iloadN X 74 (5 : Int32) at_73 rfl rfl ?_
    refine own_iconst X 75 (4 : Int32) at_74 rfl rfl ?_
    refine own_icN X 78 at_75 rfl (XT.ii_le_f (by decide)) ?_
    refine own_aload X 80 (.ref b61) at_78 rfl rfl rfl ?_
    refine own_iconst X 81 (4 : Int32) at_80 rfl rfl ?_
    refine own_iloadN X 82 pa at_81 rfl rfl ?_
    refine own_iloadN X 83 pb at_82 rfl rfl ?_
    refine own_iconst X 84 (4 : Int32) at_83 rfl rfl ?_
    refine own_callS X 87 [(.int pa), (.int pb), (.int (4 : Int32))] [(.int (4 : Int32)), (.ref b61)] at_84 rfl (hw _ (List.mem_of_getElem? (i := 6) rfl)) (hw _ (List.mem_of_getElem? (i := 7) rfl)) (hw _ (List.mem_of_getElem? (i := 3) rfl)) (hw _ (List.mem_of_getElem? (i := 8) rfl)) (by decide) (own_obm l Z a0 hw pa pb (4 : Int32) h66 n0 X.sz) (fun _ _ q => Nat.le_of_eq (congrArg Array.size q.1.symm)) rfl own_pd8 rfl rfl rfl (by decide) (Nat.le_of_ble_eq_true rfl) (by decide) (by decide) ?_
    rintro v84 T h_ X ⟨eh_, rfl⟩
    rw [eh_] at X
    show own_Ends p e below _ (T.setTop (mkF m 87 #[.val (.int pa), .val (.int pb), .val (.int pl), .val (.int (5 : Int32)), .val (.ref b61), .unset] [(.int (own_ob pa pb (4 : Int32))), (.int (4 : Int32)), (.ref b61)]))
    refine own_bastore X 88 4 at_87 rfl A_b61 (by decide) (by decide) (Nat.le_of_ble_eq_true rfl) (by omega) ?_
    intro T h67 X W_h67
    rw [own_ob_nar] at W_h67
    have nw_h67 : own_A Z h67 b61 kb_b61 .byte [(.int (own_ob pa pb (0 : Int32))), (.int (own_ob pa pb (1 : Int32))), (.int (own_ob pa pb (2 : Int32))), (.int (own_ob pa pb (3 : Int32))), (.int (own_ob pa pb (4 : Int32)))] := A_b61.same W_h67 (fits_nar_byte _)
    have zs_h67 : h66.size ≤ h67.size := (Nat.le_of_eq W_h67.size.symm)
    have OL := OL.wr W_h67 (by omega)
    have C_b61 := Exa.wr W_h67 C_b61
    have A_b61 := nw_h67
    refine own_aload X 90 (.ref b61) at_88 rfl rfl rfl ?_
    refine own_callS X 93 [(.ref b61)] [] at_90 rfl (hw _ (List.mem_of_getElem? (i := 9) rfl)) (hw _ (List.mem_of_getElem? (i := 10) rfl)) (hw _ (List.mem_of_getElem? (i := 11) rfl)) (hw _ (List.mem_of_getElem? (i := 12) rfl)) (by decide) (own_hf5 l Z a0 hw b61 kb_b61 ho kh wt kw (own_ob pa pb (0 : Int32)) (own_ob pa pb (1 : Int32)) (own_ob pa pb (2 : Int32)) (own_ob pa pb (3 : Int32)) (own_ob pa pb (4 : Int32)) h67 n0 X.sz OL z_ho z_hA z_wt z_wA A_b61 C_b61) (fun _ _ q => q.1.1) rfl own_pd13 rfl rfl rfl (by decide) (Nat.le_of_ble_eq_true rfl) (by decide) (by decide) ?_
    rintro v90 T h69 X ⟨K_, b68, kx_b68, b1_b68, k1_b68, b2_b68, k2_b68, rfl, A_b68, A1_b68, A2_b68⟩
    have zs_h69 : h67.size ≤ h69.size := K_.1
    have OL := OL.keep K_ all0
    have C_b61 := C_b61.keep K_
    have A_b61 := A_b61.keep K_ nin0
    show own_Ends p e below _ (T.setTop (mkF m 93 #[.val (.int pa), .val (.int pb), .val (.int pl), .val (.int (5 : Int32)), .val (.ref b61), .unset] [(.ref b68)]))
    refine own_astore X 95 #[.val (.int pa), .val (.int pb), .val (.int pl), .val (.int (5 : Int32)), .val (.ref b61), .val (.ref b68)] at_93 rfl rfl rfl ?_
    refine own_aload X 97 (.ref b68) at_95 rfl rfl rfl ?_
    refine own_nullN X 100 at_97 rfl ?_
    refine own_aload X 102 (.ref b68) at_100 rfl rfl rfl ?_
    refine own_len X 103 (3 : Int32) at_102 rfl A_b68 rfl ?_
    refine own_iconst X 104 (3 : Int32) at_103 rfl rfl ?_
    refine own_icY X 109 at_104 (by decide) (by decide) (XT.ii_eq_t (by decide)) ?_
    refine own_aload X 111 (.ref b68) at_109 rfl rfl rfl ?_
    refine own_iconst X 112 (0 : Int32) at_111 rfl rfl ?_
    refine own_aaload X 113 0 (.ref b61) at_112 rfl A_b68 (by decide) (by decide) rfl rfl ?_
    refine own_iloadN X 114 (5 : Int32) at_113 rfl rfl ?_
    refine own_iloadN X 115 pa at_114 rfl rfl ?_
    refine own_iloadN X 116 pb at_115 rfl rfl ?_
    refine own_ldcSV X hS (by omega) 118 [] (0 : Int32) 0 at_116 rfl (hw _ (List.mem_of_getElem? (i := 36) rfl)) (fun a ha => hw a (own_strA a ha)) hhp hN0 hI (by decide) hh24 hcw own_tx_24 (by decide) (by decide) (by decide) (by decide) (by decide) (by decide) ?_
    intro b71 v_b71 kv_b71 T h70 vm0 k0 X E_h70 hS hk0 hW_ EE_b71 Fc_b71 Fv_b71 A_b71 hI Lit_24
    have zs_h70 : h69.size ≤ h70.size := E_h70.1
    have OL := OL.ext E_h70
    have C_b61 := Exa.ext E_h70 C_b61
    have A_b61 := A_b61.ext E_h70
    have A_b68 := A_b68.ext E_h70
    have A1_b68 := A1_b68.ext E_h70
    have A2_b68 := A2_b68.ext E_h70
    have hi_b71 : h70.size > b71 := EE_b71.lt
    have hi_v_b71 : h70.size > v_b71 := A_b71.lt
    refine own_callS X 121 [(.ref b61), (.int (5 : Int32)), (.int pa), (.int pb), (.ref b71)] [] at_118 rfl (hw _ (List.mem_of_getElem? (i := 43) rfl)) (hw _ (List.mem_of_getElem? (i := 44) rfl)) (hw _ (List.mem_of_getElem? (i := 3) rfl)) (hw _ (List.mem_of_getElem? (i := 45) rfl)) (by decide) (own_mt5_0 l Z a0 hw b61 (5 : Int32) pa pb b71 kb_b61 cs v_b71 kv_b71 fo h70 n0 X.sz A_b61 OL z_cs hcs z_fo hfo EE_b71 Fc_b71 Fv_b71 A_b71 rfl) (fun _ _ q => Nat.le_of_eq (congrArg Array.size q.1.symm)) rfl own_pd14 rfl rfl rfl (by decide) (Nat.le_of_ble_eq_true rfl) (by decide) (by decide) ?_
    rintro v118 T h_ X ⟨eh_, rfl⟩
    rw [eh_] at X
    show own_Ends p e below _ (T.setTop (mkF m 121 #[.val (.int pa), .val (.int pb), .val (.int pl), .val (.int (5 : Int32)), .val (.ref b61), .val (.ref b68)] [(.int (1 : Int32))]))
    refine own_ifN X 124 at_121 rfl (XT.i0_eq_f (by decide)) ?_
    refine own_aload X 126 (.ref b68) at_124 rfl rfl rfl ?_
    refine own_iconst X 127 (1 : Int32) at_126 rfl rfl ?_
    refine own_aaload X 128 1 (.ref b1_b68) at_127 rfl A_b68 (by decide) (by decide) rfl rfl ?_
    refine own_iloadN X 129 (5 : Int32) at_128 rfl rfl ?_
    refine own_iloadN X 130 pa at_129 rfl rfl ?_
    refine own_iloadN X 131 pb at_130 rfl rfl ?_
    refine own_ldcSV X hS (by omega) 133 [(.int 58), (.int 104), (.int 111), (.int 108), (.int 100), (.int 115)] (6 : Int32) 24 at_131 rfl (hw _ (List.mem_of_getElem? (i := 62) rfl)) (fun a ha => hw a (own_strA a ha)) hhp hN0 hI (by decide) hh30 hcw own_tx_30 (by decide) (by decide) (by decide) (by decide) (by decide) (by decide) ?_
    intro b73 v_b73 kv_b73 T h72 vm0 k0 X E_h72 hS hk0 hW_ EE_b73 Fc_b73 Fv_b73 A_b73 hI Lit_30
    have Lit_24 := Lit.stays Lit_24 hW_
    have zs_h72 : h70.size ≤ h72.size := E_h72.1
    have OL := OL.ext E_h72
    have C_b61 := Exa.ext E_h72 C_b61
    have A_b61 := A_b61.ext E_h72
    have A_b68 := A_b68.ext E_h72
    have A1_b68 := A1_b68.ext E_h72
    have A2_b68 := A2_b68.ext E_h72
    have EE_b71 := Exa.ext E_h72 EE_b71
    have Fc_b71 := Fld.ext E_h72 Fc_b71
    have Fv_b71 := Fld.ext E_h72 Fv_b71
    have A_b71 := A_b71.ext E_h72
    have hi_b73 : h72.size > b73 := EE_b73.lt
    have hi_v_b73 : h72.size > v_b73 := A_b73.lt
    refine own_callS X 136 [(.ref b1_b68), (.int (5 : Int32)), (.int pa), (.int pb), (.ref b73)] [] at_133 rfl (hw _ (List.mem_of_getElem? (i := 43) rfl)) (hw _ (List.mem_of_getElem? (i := 44) rfl)) (hw _ (List.mem_of_getElem? (i := 3) rfl)) (hw _ (List.mem_of_getElem? (i := 45) rfl)) (by decide) (own_mt5_6 l Z a0 hw b1_b68 (5 : Int32) pa pb b73 k1_b68 cs v_b73 kv_b73 fo h72 n0 X.sz A1_b68 OL z_cs hcs z_fo hfo EE_b73 Fc_b73 Fv_b73 A_b73 rfl) (fun _ _ q => Nat.le_of_eq (congrArg Array.size q.1.symm)) rfl own_pd14 rfl rfl rfl (by decide) (Nat.le_of_ble_eq_true rfl) (by decide) (by decide) ?_
    rintro v133 T h_ X ⟨eh_, rfl⟩
    rw [eh_] at X
    show own_Ends p e below _ (T.setTop (mkF m 136 #[.val (.int pa), .val (.int pb), .val (.int pl), .val (.int (5 : Int32)), .val (.ref b61), .val (.ref b68)] [(.int (1 : Int32))]))
    refine own_ifN X 139 at_136 rfl (XT.i0_eq_f (by decide)) ?_
    refine own_aload X 141 (.ref b68) at_139 rfl rfl rfl ?_
    refine own_iconst X 142 (2 : Int32) at_141 rfl rfl ?_
    refine own_aaload X 143 2 (.ref b2_b68) at_142 rfl A_b68 (by decide) (by decide) rfl rfl ?_
    refine own_iloadN X 144 (5 : Int32) at_143 rfl rfl ?_
    refine own_iloadN X 145 pa at_144 rfl rfl ?_
    refine own_iloadN X 146 pb at_145 rfl rfl ?_
    refine own_ldcSV X hS (by omega) 148 [(.int 58), (.int 119), (.int 97), (.int 105), (.int 116), (.int 105), (.int 110), (.int 103)] (8 : Int32) 32 at_146 rfl (hw _ (List.mem_of_getElem? (i := 85) rfl)) (fun a ha => hw a (own_strA a ha)) hhp hN0 hI (by decide) hh32 hcw own_tx_32 (by decide) (by decide) (by decide) (by decide) (by decide) (by decide) ?_
    intro b75 v_b75 kv_b75 T h74 vm0 k0 X E_h74 hS hk0 hW_ EE_b75 Fc_b75 Fv_b75 A_b75 hI Lit_32
    have Lit_24 := Lit.stays Lit_24 hW_
    have Lit_30 := Lit.stays Lit_30 hW_
    have zs_h74 : h72.size ≤ h74.size := E_h74.1
    have OL := OL.ext E_h74
    have C_b61 := Exa.ext E_h74 C_b61
    have A_b61 := A_b61.ext E_h74
    have A_b68 := A_b68.ext E_h74
    have A1_b68 := A1_b68.ext E_h74
    have A2_b68 := A2_b68.ext E_h74
    have EE_b71 := Exa.ext E_h74 EE_b71
    have Fc_b71 := Fld.ext E_h74 Fc_b71
    have Fv_b71 := Fld.ext E_h74 Fv_b71
    have A_b71 := A_b71.ext E_h74
    have EE_b73 := Exa.ext E_h74 EE_b73
    have Fc_b73 := Fld.ext E_h74 Fc_b73
    have Fv_b73 := Fld.ext E_h74 Fv_b73
    have A_b73 := A_b73.ext E_h74
    have hi_b75 : h74.size > b75 := EE_b75.lt
    have hi_v_b75 : h74.size > v_b75 := A_b75.lt
    refine own_callS X 151 [(.ref b2_b68), (.int (5 : Int32)), (.int pa), (.int pb), (.ref b75)] [] at_148 rfl (hw _ (List.mem_of_getElem? (i := 43) rfl)) (hw _ (List.mem_of_getElem? (i := 44) rfl)) (hw _ (List.mem_of_getElem? (i := 3) rfl)) (hw _ (List.mem_of_getElem? (i := 45) rfl)) (by decide) (own_mt5_8 l Z a0 hw b2_b68 (5 : Int32) pa pb b75 k2_b68 cs v_b75 kv_b75 fo h74 n0 X.sz A2_b68 OL z_cs hcs z_fo hfo EE_b75 Fc_b75 Fv_b75 A_b75 rfl) (fun _ _ q => Nat.le_of_eq (congrArg Array.size q.1.symm)) rfl own_pd14 rfl rfl rfl (by decide) (Nat.le_of_ble_eq_true rfl) (by decide) (by decide) ?_
    rintro v148 T h_ X ⟨eh_, rfl⟩
    rw [eh_] at X
    show own_Ends p e below _ (T.setTop (mkF m 151 #[.val (.int pa), .val (.int pb), .val (.int pl), .val (.int (5 : Int32)), .val (.ref b61), .val (.ref b68)] [(.int (1 : Int32))]))
    refine own_ifN X 154 at_151 rfl (XT.i0_eq_f (by decide)) ?_
    refine own_aload X 156 (.ref b61) at_154 rfl rfl rfl ?_
    refine own_iloadN X 157 (5 : Int32) at_156 rfl rfl ?_
    refine own_iloadN X 158 pa at_157 rfl rfl ?_
    refine own_iloadN X 159 pb at_158 rfl rfl ?_
    refine own_ldcAgain X 161 at_159 rfl (hw _ (List.mem_of_getElem? (i := 36) rfl)) Lit_24 ?_
    refine own_callS X 164 [(.ref b61), (.int (5 : Int32)), (.int pa), (.int pb), (.ref b71)] [] at_161 rfl (hw _ (List.mem_of_getElem? (i := 43) rfl)) (hw _ (List.mem_of_getElem? (i := 44) rfl)) (hw _ (List.mem_of_getElem? (i := 3) rfl)) (hw _ (List.mem_of_getElem? (i := 45) rfl)) (by decide) (own_mt5_0 l Z a0 hw b61 (5 : Int32) pa pb b71 kb_b61 cs v_b71 kv_b71 fo h74 n0 X.sz A_b61 OL z_cs hcs z_fo hfo EE_b71 Fc_b71 Fv_b71 A_b71 rfl) (fun _ _ q => Nat.le_of_eq (congrArg Array.size q.1.symm)) rfl own_pd14 rfl rfl rfl (by decide) (Nat.le_of_ble_eq_true rfl) (by decide) (by decide) ?_
    rintro v161 T h_ X ⟨eh_, rfl⟩
    rw [eh_] at X
    show own_Ends p e below _ (T.setTop (mkF m 164 #[.val (.int pa), .val (.int pb), .val (.int pl), .val (.int (5 : Int32)), .val (.ref b61), .val (.ref b68)] [(.int (1 : Int32))]))
    refine own_ifN X 167 at_164 rfl (XT.i0_eq_f (by decide)) ?_
    refine own_iconst X 168 (1 : Int32) at_167 rfl rfl ?_
    refine own_goto X 172 at_168 (by decide) (by decide) ?_
    exact own_retNW X hS (by omega) .boolean at_172 rfl (by simp) (by decide) (by decide) (by decide)
set_option maxRecDepth 65536 in
set_option maxHeartbeats 40000000 in
theorem comes_1 {Post : Tables → Env → Array Value → State → Outcome → State → Prop} (hpost : ∀ tb e args s v u, (limb_1_1.after args s (.returned v) u = true ∧ limb_1_2.after args s (.returned v) u = true ∧ True) → ReturnedEndW s (.returned v) u (Jvm.fieldLocs frame_1_writes args s ++ Jvm.arrayLocs frame_1_arrays args s ++ Jvm.staticLocs frame_1_statics s) 24 3264 → Post tb e args s (.returned v) u) :
    ArmFor flags0 classFile x code maxLocals ret World_1 tables_1 room_1 Calls_1 rest_1 Pre_1 Post := by
  intro l hfl _ _ p e ha hc hk s m args below hf hA hF happ hP
  obtain ⟨hcalls, hrest, hpre⟩ := hP
  obtain ⟨-, -, -, hnamed, -, -, -, hat⟩ := (Spec.applies_iff hf).mp happ
  obtain ⟨hg, hn⟩ := and_e (Cond.before_iff.mp (show (Jvm.Cond.and given_1 narrow_1).before args s = true from hpre))
  obtain ⟨hcount, hg0⟩ := and_e hg
  obtain ⟨ha0, hg1⟩ := and_e hg0
  obtain ⟨ha1, hg2⟩ := and_e hg1
  have ha2 := hg2
  obtain ⟨w0, w1, w2, rfl⟩ : ∃ w0 w1 w2 : Value, args = #[w0, w1, w2] := by
    have hs : args.size = 3 := by simpa [Cond.value, given_1] using hcount
    obtain ⟨L⟩ := args
    match L, hs with
    | [w0, w1, w2], _ => exact ⟨w0, w1, w2, rfl⟩
  have hw := fun d (hd : d ∈ tables_1) => atoms_spec (ws := Jvm.Cond.code x code maxLocals ret :: tables_1) hat d (List.mem_cons_of_mem _ hd)
  have hfit : Fit s := fun {y c} hc i hi => by
    obtain ⟨ha, rfl⟩ := Array.getElem?_eq_some_iff.mp hc
    have q := List.all_eq_true.mp ((Array.all_eq_true_iff_forall_mem.mp hF) _ (Array.getElem_mem ha)) i (List.mem_range.mpr hi)
    simpa [Array.getElem?_eq_getElem hi] using q
  obtain ⟨hsets, hown0⟩ := atoms_of _ (rest_1_c_eq ▸ (show rest_1_c.before _ s = true from hrest))
  have hr0 := Cond.before_iff.mp hown0
  obtain ⟨i0, ei0⟩ := is_v ha0
  obtain rfl : w0 = (.int i0) := Option.some.inj ei0
  obtain ⟨i1, ei1⟩ := is_v ha1
  obtain rfl : w1 = (.int i1) := Option.some.inj ei1
  obtain ⟨i2, ei2⟩ := is_v ha2
  obtain rfl : w2 = (.int i2) := Option.some.inj ei2
  obtain ⟨cs, ecs⟩ := is_v (Cond.before_iff.mp (hsets _ (List.mem_of_getElem? (i := 1) rfl)))
  have S1 := Sta.start ecs (Or.inl (hsets _ (List.mem_of_getElem? (i := 0) rfl)))
  have hcs : ¬ cs = 0 := fun q => by
    have z1 := not_v (Cond.before_iff.mp (hsets _ (List.mem_of_getElem? (i := 2) rfl)))
    rw [q] at ecs
    simp [Cond.value, ecs, Term.int_eval] at z1
  obtain ⟨fo, efo, hfo⟩ := isR_v (Cond.before_iff.mp (hsets _ (List.mem_of_getElem? (i := 8) rfl)))
  have S2 := Sta.start efo (Or.inl (hsets _ (List.mem_of_getElem? (i := 7) rfl)))
  obtain ⟨g0, r0⟩ := and_e hn
  obtain ⟨g1, r1⟩ := and_e r0
  obtain ⟨g2, r2⟩ := and_e r1
  obtain ⟨g3, r3⟩ := and_e r2
  obtain ⟨g4, r4⟩ := and_e r3
  obtain ⟨g5, r5⟩ := and_e r4
  obtain ⟨g6, r6⟩ := and_e r5
  obtain ⟨g7, r7⟩ := and_e r6
  obtain ⟨g8, r8⟩ := and_e r7
  obtain ⟨g9, r9⟩ := and_e r8
  obtain ⟨g10, r10⟩ := and_e r9
  obtain ⟨g11, r11⟩ := and_e r10
  obtain ⟨g12, r12⟩ := and_e r11
  obtain ⟨g13, r13⟩ := and_e r12
  obtain ⟨g14, r14⟩ := and_e r13
  obtain ⟨g15, r15⟩ := and_e r14
  obtain ⟨g16, r16⟩ := and_e r15
  obtain ⟨g17, r17⟩ := and_e r16
  obtain ⟨g18, r18⟩ := and_e r17
  have g19 := r18
  obtain ⟨ho, eho⟩ := exa_v g1
  have S3 := Sta.start eho (Or.inr ⟨(hw _ (List.mem_of_getElem? (i := 11) rfl)), (hw _ (List.mem_of_getElem? (i := 17) rfl))⟩)
  obtain ⟨kh, A3⟩ := own_A_start (vs := [(.int 58), (.int 104), (.int 111), (.int 108), (.int 100), (.int 115)]) hfit eho g0 g2 (by decide) (by intro i v hi; match i, hi with | 0, rfl => exact own_eqInt g6 | 1, rfl => exact own_eqInt g7 | 2, rfl => exact own_eqInt g8 | 3, rfl => exact own_eqInt g9 | 4, rfl => exact own_eqInt g10 | 5, rfl => exact own_eqInt g11 | j + 6, hi => simp at hi)
  obtain ⟨wt, ewt⟩ := exa_v g4
  have S4 := Sta.start ewt (Or.inr ⟨(hw _ (List.mem_of_getElem? (i := 11) rfl)), (hw _ (List.mem_of_getElem? (i := 35) rfl))⟩)
  obtain ⟨kw, A4⟩ := own_A_start (vs := [(.int 58), (.int 119), (.int 97), (.int 105), (.int 116), (.int 105), (.int 110), (.int 103)]) hfit ewt g3 g5 (by decide) (by intro i v hi; match i, hi with | 0, rfl => exact own_eqInt g12 | 1, rfl => exact own_eqInt g13 | 2, rfl => exact own_eqInt g14 | 3, rfl => exact own_eqInt g15 | 4, rfl => exact own_eqInt g16 | 5, rfl => exact own_eqInt g17 | 6, rfl => exact own_eqInt g18 | 7, rfl => exact own_eqInt g19 | j + 8, hi => simp at hi)
  obtain ⟨n, o, h1, h2, h3, _, L, rfl, ⟨rfl, N⟩, hq⟩ := own_m0 l s _ hw i0 i1 i2 cs fo ho kh wt kw s.heap s.heap.size (Nat.le_refl _) rfl rfl (Old.start s) S1 hcs S2 hfo S3 A3 S4 A4 (hcalls.1 _ (List.mem_of_getElem? (i := 0) rfl)) (hcalls.1 _ (List.mem_of_getElem? (i := 1) rfl)) (hcalls.1 _ (List.mem_of_getElem? (i := 2) rfl)) (hsets _ (List.mem_of_getElem? (i := 2) rfl)) tables_1 p e ha hc hk s m _ below hf ((Spec.applies_iff_loose hf).mp happ).1 ⟨rfl, rfl⟩ trivial
  refine ⟨n, _, h1, h2, h3, hpost _ _ _ _ _ _ ⟨Cond.after_iff.mpr rfl, Cond.after_iff.mpr (eq_i res_at (Term.int_eval (1)) rfl), trivial⟩ ⟨hq.1, hq.2.1, hq.2.2.1, (hq.2.2.2.sift fun y hy => Or.inr (N y hy)).mono (by decide) (by decide)⟩⟩
theorem main_1_1 : Claimed_1_1 := comes_1 fun _ _ _ _ _ _ h hF => ⟨h.1, hF⟩
theorem main_1_2 : Claimed_1_2 := comes_1 fun _ _ _ _ _ _ h hF => ⟨h.2.1, hF⟩
end Jvm.Pilot.@@N@@
namespace Jvm.Pilot.@@N@@
open Jvm Jvm.ClassFile Sem Op Lib Jvm.Free Jvm.Stand Jvm.Pilot.@@N@@.Jvm.D
/-! MADE BY PROGRAM (witnessworld.py) out of the Statement's table words and the real class files: 20 classes; the members and pool entries that the words name. The judged class is class 1, her method 1. -/
namespace start1
open Jvm.ClassFile
def u (s : String) : CpInfo := .utf8 (stringToUtf16 s)
/-- a pool by its gaps: so many unusable entries, then the entry; so many at the end -/
def gap : Nat → List CpInfo → List CpInfo
  | 0, r => r
  | n + 1, r => .unusable :: gap n r
def poolList (es : List (Nat × CpInfo)) (last : Nat) : List CpInfo := es.foldr (fun e r => gap e.1 (e.2 :: r)) (gap last [])
def pool (es : List (Nat × CpInfo)) (last : Nat) : Array CpInfo := ⟨poolList es last⟩
def fileOf (pool : Array CpInfo) (this : Nat) (attrs : Array Attribute := #[]) (ms : Array MethodInfo := #[]) (fl : Nat := 33) (sup : Nat := 0) (ifs : Array Nat := #[]) (fds : Array FieldInfo := #[]) : ClassFile where
  minorVersion := 0
  majorVersion := 65
  constantPool := pool
  accessFlags := fl
  thisClass := this
  superClass := sup
  interfaces := ifs
  fields := fds
  methods := ms
  attributes := attrs
def plain (name : String) (sup : Option ClassId) : Class where
  name := name
  kind := .ordinary
  loader := none
  accessFlags := 33
  super := sup
  interfaces := #[]
  cf := none
  fields := #[]
  methods := #[]
  instanceTypes := #[]
  staticTypes := #[]
  resolved := #[]
  callSites := []
  init := .initialized
  statics := none
  mirror := none

def pool0 : Array CpInfo := pool [(5, u "<init>"), (0, u "()V"), (1, .class_ 10), (1, u "java/lang/Object")] 113

def k0m0 : Method := { name := "<init>", desc := "()V", sig := { parameters := [], returnType := none }, accessFlags := 1, code := none }
/-- java/lang/Object -/
def k0 : Class := { plain "java/lang/Object" none with
  accessFlags := 33
  interfaces := #[]
  cf := some (fileOf pool0 8 #[] #[{ accessFlags := 1, nameIndex := 5, descriptorIndex := 6, attributes := #[] }] 33 0 #[] #[])
  fields := #[]
  methods := #[k0m0]
  instanceTypes := #[]
  staticTypes := #[]
  resolved := Array.replicate 124 none
  statics := none }

def pool1 : Array CpInfo := pool [(2, .class_ 4), (1, u "java/lang/Object"), (0, u "<init>"), (0, u "()V"), (0, .integer 2147483647), (0, .methodref 9 10), (0, .class_ 11), (0, .nameAndType 12 13), (0, u "com/example/latchkey/latchkey/LockKeysHolderFieldsPinLaw"), (0, u "make"), (0, u "(I)[B"), (0, .methodref 9 15), (0, .nameAndType 16 17), (0, u "ownerByte"), (0, u "(III)B"), (0, .methodref 19 20), (0, .class_ 21), (0, .nameAndType 22 23), (0, u "com/example/latchkey/latchkey/LockKeys"), (0, u "holderFields"), (0, u "([B)[[B"), (0, .string 25), (0, u ""), (0, .methodref 9 27), (0, .nameAndType 28 29), (0, u "matches"), (0, u "([BIIILjava/lang/String;)Z"), (0, .string 31), (0, u ":holds"), (0, .string 33), (0, u ":waiting"), (0, .methodref 35 36), (0, .class_ 37), (0, .nameAndType 38 39), (0, u "java/lang/String"), (0, u "charAt"), (0, u "(I)C"), (0, .methodref 35 41), (0, .nameAndType 42 43), (0, u "length"), (0, u "()I"), (0, .methodref 9 45), (0, .nameAndType 46 47), (0, u "at"), (0, u "([BIIILjava/lang/String;I)Z"), (2, u "law"), (0, u "(III)Z")] 7

def k1m0 : Method := { name := "<init>", desc := "()V", sig := { parameters := [], returnType := none }, accessFlags := 1, code := none }
def k1c1 : Code := { maxStack := 5, maxLocals := 6, code := code, exceptionTable := #[], attributes := #[] }
def k1m1 : Method := { name := "law", desc := "(III)Z", sig := { parameters := [.int, .int, .int], returnType := some .boolean }, accessFlags := 9, code := some k1c1 }
def k1c2 : Code := { maxStack := 2, maxLocals := 1, code := method_3_code, exceptionTable := #[], attributes := #[] }
def k1m2 : Method := { name := "make", desc := "(I)[B", sig := { parameters := [.int], returnType := some (.array .byte) }, accessFlags := 10, code := some k1c2 }
def k1c3 : Code := { maxStack := 3, maxLocals := 3, code := method_4_code, exceptionTable := #[], attributes := #[] }
def k1m3 : Method := { name := "ownerByte", desc := "(III)B", sig := { parameters := [.int, .int, .int], returnType := some .byte }, accessFlags := 10, code := some k1c3 }
def k1c4 : Code := { maxStack := 3, maxLocals := 7, code := method_5_code, exceptionTable := #[], attributes := #[] }
def k1m4 : Method := { name := "at", desc := "([BIIILjava/lang/String;I)Z", sig := { parameters := [(.array .byte), .int, .int, .int, (.object "java/lang/String"), .int], returnType := some .boolean }, accessFlags := 10, code := some k1c4 }
def k1c5 : Code := { maxStack := 6, maxLocals := 5, code := method_6_code, exceptionTable := #[], attributes := #[] }
def k1m5 : Method := { name := "matches", desc := "([BIIILjava/lang/String;)Z", sig := { parameters := [(.array .byte), .int, .int, .int, (.object "java/lang/String")], returnType := some .boolean }, accessFlags := 10, code := some k1c5 }
/-- com/example/latchkey/latchkey/LockKeysHolderFieldsPinLaw -/
def k1 : Class := { plain "com/example/latchkey/latchkey/LockKeysHolderFieldsPinLaw" (some 0) with
  accessFlags := 49
  interfaces := #[]
  cf := some (fileOf pool1 9 #[] #[{ accessFlags := 1, nameIndex := 5, descriptorIndex := 6, attributes := #[] }, { accessFlags := 9, nameIndex := 50, descriptorIndex := 51, attributes := #[] }, { accessFlags := 10, nameIndex := 12, descriptorIndex := 13, attributes := #[] }, { accessFlags := 10, nameIndex := 16, descriptorIndex := 17, attributes := #[] }, { accessFlags := 10, nameIndex := 46, descriptorIndex := 47, attributes := #[] }, { accessFlags := 10, nameIndex := 28, descriptorIndex := 29, attributes := #[] }] 49 2 #[] #[])
  fields := #[]
  methods := #[k1m0, k1m1, k1m2, k1m3, k1m4, k1m5]
  instanceTypes := #[]
  staticTypes := #[]
  resolved := Array.replicate 59 none
  statics := none }

def pool2 : Array CpInfo := pool [(2, .class_ 4), (1, u "java/lang/Object"), (28, .class_ 35), (1, u "com/example/latchkey/latchkey/LockKeys"), (10, u "lockKey"), (0, u "[B"), (0, .methodref 49 50), (0, .class_ 51), (0, .nameAndType 52 53), (0, u "java/lang/System"), (0, u "arraycopy"), (0, u "(Ljava/lang/Object;ILjava/lang/Object;II)V"), (2, u "FENCE_SUFFIX"), (0, .methodref 33 58), (0, .nameAndType 59 60), (0, u "suffixed"), (0, u "([B[B)[B"), (2, u "fenceKey"), (2, u "RELEASED_SUFFIX"), (2, u "releasedChannel"), (0, .class_ 47), (0, .fieldref 33 72), (0, .nameAndType 73 47), (0, u "HOLDS"), (0, .fieldref 33 75), (0, .nameAndType 76 47), (0, u "WAITING"), (0, .methodref 78 79), (0, .class_ 80), (0, .nameAndType 81 82), (0, u "java/util/Arrays"), (0, u "copyOf"), (0, u "([BI)[B"), (70, u "MAX_NAME_BYTES"), (0, u "I"), (2, u "HOLDS_SUFFIX"), (0, u "Ljava/lang/String;"), (0, u "WAITING_SUFFIX"), (5, u "holderFields"), (0, u "([B)[[B")] 20

def k2c0 : Code := { maxStack := 5, maxLocals := 1, code := prog_1_method_5_code, exceptionTable := #[], attributes := #[] }
def k2m0 : Method := { name := "holderFields", desc := "([B)[[B", sig := { parameters := [(.array .byte)], returnType := some (.array (.array .byte)) }, accessFlags := 8, code := some k2c0 }
def k2c1 : Code := { maxStack := 5, maxLocals := 3, code := prog_1_method_6_code, exceptionTable := #[], attributes := #[] }
def k2m1 : Method := { name := "suffixed", desc := "([B[B)[B", sig := { parameters := [(.array .byte), (.array .byte)], returnType := some (.array .byte) }, accessFlags := 10, code := some k2c1 }
/-- com/example/latchkey/latchkey/LockKeys -/
def k2 : Class := { plain "com/example/latchkey/latchkey/LockKeys" (some 0) with
  accessFlags := 32
  interfaces := #[]
  cf := some (fileOf pool2 33 #[] #[{ accessFlags := 8, nameIndex := 165, descriptorIndex := 166, attributes := #[] }, { accessFlags := 10, nameIndex := 59, descriptorIndex := 60, attributes := #[] }] 32 2 #[] #[{ accessFlags := 24, nameIndex := 153, descriptorIndex := 154, attributes := #[] }, { accessFlags := 26, nameIndex := 56, descriptorIndex := 47, attributes := #[] }, { accessFlags := 26, nameIndex := 66, descriptorIndex := 47, attributes := #[] }, { accessFlags := 24, nameIndex := 157, descriptorIndex := 158, attributes := #[] }, { accessFlags := 24, nameIndex := 159, descriptorIndex := 158, attributes := #[] }, { accessFlags := 26, nameIndex := 73, descriptorIndex := 47, attributes := #[] }, { accessFlags := 26, nameIndex := 76, descriptorIndex := 47, attributes := #[] }, { accessFlags := 18, nameIndex := 46, descriptorIndex := 47, attributes := #[] }, { accessFlags := 18, nameIndex := 63, descriptorIndex := 47, attributes := #[] }, { accessFlags := 18, nameIndex := 69, descriptorIndex := 47, attributes := #[] }])
  fields := #[{ name := "MAX_NAME_BYTES", type := .int, accessFlags := 24, slot := 0, constantValue := 0 }, { name := "FENCE_SUFFIX", type := (.array .byte), accessFlags := 26, slot := 1, constantValue := 0 }, { name := "RELEASED_SUFFIX", type := (.array .byte), accessFlags := 26, slot := 2, constantValue := 0 }, { name := "HOLDS_SUFFIX", type := (.object "java/lang/String"), accessFlags := 24, slot := 3, constantValue := 0 }, { name := "WAITING_SUFFIX", type := (.object "java/lang/String"), accessFlags := 24, slot := 4, constantValue := 0 }, { name := "HOLDS", type := (.array .byte), accessFlags := 26, slot := 5, constantValue := 0 }, { name := "WAITING", type := (.array .byte), accessFlags := 26, slot := 6, constantValue := 0 }, { name := "lockKey", type := (.array .byte), accessFlags := 18, slot := 0, constantValue := 0 }, { name := "fenceKey", type := (.array .byte), accessFlags := 18, slot := 1, constantValue := 0 }, { name := "releasedChannel", type := (.array .byte), accessFlags := 18, slot := 2, constantValue := 0 }]
  methods := #[k2m0, k2m1]
  instanceTypes := #[(.array .byte), (.array .byte), (.array .byte)]
  staticTypes := #[.int, (.array .byte), (.array .byte), (.object "java/lang/String"), (.object "java/lang/String"), (.array .byte), (.array .byte)]
  resolved := Array.replicate 187 none
  statics := some 0 }

def pool3 : Array CpInfo := pool [(2, .class_ 4), (1, u "java/lang/Object"), (0, u "<init>"), (0, u "()V"), (7, .class_ 16), (1, u "java/util/Arrays"), (57, .class_ 76), (1, u "java/util/Arrays$NaturalOrder"), (36, .class_ 115), (1, u "java/util/Arrays$LegacyMergeSort"), (1, u "Z"), (32, .methodref 151 152), (0, .class_ 153), (0, .nameAndType 154 155), (0, u "java/lang/System"), (0, u "arraycopy"), (0, u "(Ljava/lang/Object;ILjava/lang/Object;II)V"), (146, u "copyOf"), (1, .methodref 305 306), (0, .class_ 307), (0, .nameAndType 308 309), (0, u "java/lang/Math"), (0, u "min"), (0, u "(II)I"), (65, .class_ 376), (0, u "java/util/Arrays$ArrayList"), (68, u "$assertionsDisabled"), (269, u "MIN_ARRAY_SORT_GRAN"), (0, u "I"), (2, u "INSERTIONSORT_THRESHOLD"), (149, u "([BI)[B"), (105, .class_ 976), (0, u "java/util/Arrays$ArrayItr")] 52

def k3m0 : Method := { name := "<init>", desc := "()V", sig := { parameters := [], returnType := none }, accessFlags := 2, code := none }
def k3c1 : Code := { maxStack := 6, maxLocals := 3, code := jdk_65_method_121_code, exceptionTable := #[], attributes := #[] }
def k3m1 : Method := { name := "copyOf", desc := "([BI)[B", sig := { parameters := [(.array .byte), .int], returnType := some (.array .byte) }, accessFlags := 9, code := some k3c1 }
/-- java/util/Arrays -/
def k3 : Class := { plain "java/util/Arrays" (some 0) with
  accessFlags := 49
  interfaces := #[]
  cf := some (fileOf pool3 14 #[.nestMembers #[975, 375, 113, 74]] #[{ accessFlags := 2, nameIndex := 5, descriptorIndex := 6, attributes := #[] }, { accessFlags := 9, nameIndex := 302, descriptorIndex := 869, attributes := #[] }] 49 2 #[] #[{ accessFlags := 26, nameIndex := 715, descriptorIndex := 716, attributes := #[] }, { accessFlags := 26, nameIndex := 719, descriptorIndex := 716, attributes := #[] }, { accessFlags := 4120, nameIndex := 445, descriptorIndex := 117, attributes := #[] }])
  fields := #[{ name := "MIN_ARRAY_SORT_GRAN", type := .int, accessFlags := 26, slot := 0, constantValue := 0 }, { name := "INSERTIONSORT_THRESHOLD", type := .int, accessFlags := 26, slot := 1, constantValue := 0 }, { name := "$assertionsDisabled", type := .boolean, accessFlags := 4120, slot := 2, constantValue := 0 }]
  methods := #[k3m0, k3m1]
  instanceTypes := #[]
  staticTypes := #[.int, .int, .boolean]
  resolved := Array.replicate 1029 none
  statics := none }

def pool4 : Array CpInfo := pool [(1, .class_ 2), (0, u "java/lang/Math"), (1, .class_ 6), (1, u "java/lang/Object"), (0, u "<init>"), (0, u "()V"), (89, .class_ 100), (1, u "java/lang/Math$RandomNumberGeneratorHolder"), (71, u "negativeZeroFloatBits"), (0, u "J"), (2, u "negativeZeroDoubleBits"), (24, u "min"), (43, u "$assertionsDisabled"), (0, u "Z"), (88, u "(II)I"), (2, u "twoToTheDoubleScaleDown"), (0, u "D"), (4, u "twoToTheDoubleScaleUp"), (9, u "E"), (3, u "PI"), (2, u "TAU"), (2, u "DEGREES_TO_RADIANS"), (0, u "RADIANS_TO_DEGREES")] 94

def k4m0 : Method := { name := "<init>", desc := "()V", sig := { parameters := [], returnType := none }, accessFlags := 2, code := none }
def k4c1 : Code := { maxStack := 2, maxLocals := 2, code := jdk_29_method_69_code, exceptionTable := #[], attributes := #[] }
def k4m1 : Method := { name := "min", desc := "(II)I", sig := { parameters := [.int, .int], returnType := some .int }, accessFlags := 9, code := some k4c1 }
/-- java/lang/Math -/
def k4 : Class := { plain "java/lang/Math" (some 0) with
  accessFlags := 49
  interfaces := #[]
  cf := some (fileOf pool4 1 #[.nestMembers #[98]] #[{ accessFlags := 2, nameIndex := 7, descriptorIndex := 8, attributes := #[] }, { accessFlags := 9, nameIndex := 201, descriptorIndex := 335, attributes := #[] }] 49 4 #[] #[{ accessFlags := 25, nameIndex := 354, descriptorIndex := 339, attributes := #[] }, { accessFlags := 25, nameIndex := 358, descriptorIndex := 339, attributes := #[] }, { accessFlags := 25, nameIndex := 361, descriptorIndex := 339, attributes := #[] }, { accessFlags := 26, nameIndex := 364, descriptorIndex := 339, attributes := #[] }, { accessFlags := 26, nameIndex := 365, descriptorIndex := 339, attributes := #[] }, { accessFlags := 26, nameIndex := 172, descriptorIndex := 173, attributes := #[] }, { accessFlags := 26, nameIndex := 176, descriptorIndex := 173, attributes := #[] }, { accessFlags := 8, nameIndex := 344, descriptorIndex := 339, attributes := #[] }, { accessFlags := 8, nameIndex := 338, descriptorIndex := 339, attributes := #[] }, { accessFlags := 4120, nameIndex := 245, descriptorIndex := 246, attributes := #[] }])
  fields := #[{ name := "E", type := .double, accessFlags := 25, slot := 0, constantValue := 0 }, { name := "PI", type := .double, accessFlags := 25, slot := 1, constantValue := 0 }, { name := "TAU", type := .double, accessFlags := 25, slot := 2, constantValue := 0 }, { name := "DEGREES_TO_RADIANS", type := .double, accessFlags := 26, slot := 3, constantValue := 0 }, { name := "RADIANS_TO_DEGREES", type := .double, accessFlags := 26, slot := 4, constantValue := 0 }, { name := "negativeZeroFloatBits", type := .long, accessFlags := 26, slot := 5, constantValue := 0 }, { name := "negativeZeroDoubleBits", type := .long, accessFlags := 26, slot := 6, constantValue := 0 }, { name := "twoToTheDoubleScaleUp", type := .double, accessFlags := 8, slot := 7, constantValue := 0 }, { name := "twoToTheDoubleScaleDown", type := .double, accessFlags := 8, slot := 8, constantValue := 0 }, { name := "$assertionsDisabled", type := .boolean, accessFlags := 4120, slot := 9, constantValue := 0 }]
  methods := #[k4m0, k4m1]
  instanceTypes := #[]
  staticTypes := #[.double, .double, .double, .double, .double, .long, .long, .double, .double, .boolean]
  resolved := Array.replicate 460 none
  statics := none }

def pool5 : Array CpInfo := pool [(2, .class_ 4), (1, u "java/lang/Object"), (0, u "<init>"), (0, u "()V"), (1, .class_ 10), (1, u "java/lang/System"), (0, u "allowSecurityManager"), (0, u "I"), (16, u "cons"), (0, u "Ljava/io/Console;"), (77, .class_ 110), (1, u "java/lang/System$CallersHolder"), (43, u "initialErrStream"), (0, u "Ljava/io/PrintStream;"), (19, u "security"), (0, u "Ljava/lang/SecurityManager;"), (31, .class_ 209), (0, u "java/lang/System$1"), (7, u "props"), (0, u "Ljava/util/Properties;"), (2, u "lineSeparator"), (0, u "Ljava/lang/String;"), (96, .class_ 321), (1, u "java/lang/System$LoggerFinder"), (5, .class_ 328), (0, u "java/lang/System$Logger"), (67, u "err"), (2, u "out"), (91, u "notSupportedJnuEncoding"), (15, u "in"), (17, u "initialIn"), (0, u "Ljava/io/InputStream;"), (35, u "bootLayer"), (0, u "Ljava/lang/ModuleLayer;"), (99, .class_ 664), (0, u "java/lang/System$2"), (9, u "NEVER"), (2, u "MAYBE"), (49, u "arraycopy"), (0, u "(Ljava/lang/Object;ILjava/lang/Object;II)V"), (72, .class_ 802), (0, u "java/lang/System$Logger$Level")] 31

def k5m0 : Method := { name := "<init>", desc := "()V", sig := { parameters := [], returnType := none }, accessFlags := 2, code := none }
def k5m1 : Method := { name := "arraycopy", desc := "(Ljava/lang/Object;ILjava/lang/Object;II)V", sig := { parameters := [(.object "java/lang/Object"), .int, (.object "java/lang/Object"), .int, .int], returnType := none }, accessFlags := 265, code := none }
/-- java/lang/System -/
def k5 : Class := { plain "java/lang/System" (some 0) with
  accessFlags := 49
  interfaces := #[]
  cf := some (fileOf pool5 8 #[.nestMembers #[319, 327, 801, 108, 663, 208]] #[{ accessFlags := 2, nameIndex := 5, descriptorIndex := 6, attributes := #[] }, { accessFlags := 265, nameIndex := 727, descriptorIndex := 728, attributes := #[] }] 49 2 #[] #[{ accessFlags := 25, nameIndex := 507, descriptorIndex := 526, attributes := #[] }, { accessFlags := 25, nameIndex := 399, descriptorIndex := 155, attributes := #[] }, { accessFlags := 25, nameIndex := 396, descriptorIndex := 155, attributes := #[] }, { accessFlags := 10, nameIndex := 525, descriptorIndex := 526, attributes := #[] }, { accessFlags := 26, nameIndex := 674, descriptorIndex := 12, attributes := #[] }, { accessFlags := 26, nameIndex := 677, descriptorIndex := 12, attributes := #[] }, { accessFlags := 10, nameIndex := 11, descriptorIndex := 12, attributes := #[] }, { accessFlags := 74, nameIndex := 175, descriptorIndex := 176, attributes := #[] }, { accessFlags := 10, nameIndex := 491, descriptorIndex := 222, attributes := #[] }, { accessFlags := 74, nameIndex := 29, descriptorIndex := 30, attributes := #[] }, { accessFlags := 74, nameIndex := 154, descriptorIndex := 155, attributes := #[] }, { accessFlags := 10, nameIndex := 217, descriptorIndex := 218, attributes := #[] }, { accessFlags := 10, nameIndex := 221, descriptorIndex := 222, attributes := #[] }, { accessFlags := 8, nameIndex := 562, descriptorIndex := 563, attributes := #[] }])
  fields := #[{ name := "in", type := (.object "java/io/InputStream"), accessFlags := 25, slot := 0, constantValue := 0 }, { name := "out", type := (.object "java/io/PrintStream"), accessFlags := 25, slot := 1, constantValue := 0 }, { name := "err", type := (.object "java/io/PrintStream"), accessFlags := 25, slot := 2, constantValue := 0 }, { name := "initialIn", type := (.object "java/io/InputStream"), accessFlags := 10, slot := 3, constantValue := 0 }, { name := "NEVER", type := .int, accessFlags := 26, slot := 4, constantValue := 0 }, { name := "MAYBE", type := .int, accessFlags := 26, slot := 5, constantValue := 0 }, { name := "allowSecurityManager", type := .int, accessFlags := 10, slot := 6, constantValue := 0 }, { name := "security", type := (.object "java/lang/SecurityManager"), accessFlags := 74, slot := 7, constantValue := 0 }, { name := "notSupportedJnuEncoding", type := (.object "java/lang/String"), accessFlags := 10, slot := 8, constantValue := 0 }, { name := "cons", type := (.object "java/io/Console"), accessFlags := 74, slot := 9, constantValue := 0 }, { name := "initialErrStream", type := (.object "java/io/PrintStream"), accessFlags := 74, slot := 10, constantValue := 0 }, { name := "props", type := (.object "java/util/Properties"), accessFlags := 10, slot := 11, constantValue := 0 }, { name := "lineSeparator", type := (.object "java/lang/String"), accessFlags := 10, slot := 12, constantValue := 0 }, { name := "bootLayer", type := (.object "java/lang/ModuleLayer"), accessFlags := 8, slot := 13, constantValue := 0 }]
  methods := #[k5m0, k5m1]
  instanceTypes := #[]
  staticTypes := #[(.object "java/io/InputStream"), (.object "java/io/PrintStream"), (.object "java/io/PrintStream"), (.object "java/io/InputStream"), .int, .int, .int, (.object "java/lang/SecurityManager"), (.object "java/lang/String"), (.object "java/io/Console"), (.object "java/io/PrintStream"), (.object "java/util/Properties"), (.object "java/lang/String"), (.object "java/lang/ModuleLayer")]
  resolved := Array.replicate 834 none
  statics := none }

def pool6 : Array CpInfo := pool [(1, .class_ 2), (0, u "java/io/Serializable"), (0, .class_ 4), (0, u "java/lang/Object")] 2

/-- java/io/Serializable -/
def k6 : Class := { plain "java/io/Serializable" (some 0) with
  accessFlags := 1537
  interfaces := #[]
  cf := some (fileOf pool6 1 #[] #[] 1537 3 #[] #[])
  fields := #[]
  methods := #[]
  instanceTypes := #[]
  staticTypes := #[]
  resolved := Array.replicate 7 none
  statics := none }

def pool7 : Array CpInfo := pool [(1, .class_ 2), (0, u "java/lang/Comparable"), (0, .class_ 4), (0, u "java/lang/Object")] 7

/-- java/lang/Comparable -/
def k7 : Class := { plain "java/lang/Comparable" (some 0) with
  accessFlags := 1537
  interfaces := #[]
  cf := some (fileOf pool7 1 #[] #[] 1537 3 #[] #[])
  fields := #[]
  methods := #[]
  instanceTypes := #[]
  staticTypes := #[]
  resolved := Array.replicate 12 none
  statics := none }

def pool8 : Array CpInfo := pool [(2, .class_ 4), (1, u "java/lang/CharSequence"), (42, .class_ 48), (0, u "java/lang/CharSequence$1CodePointIterator"), (10, .class_ 60), (0, u "java/lang/CharSequence$1CharIterator"), (5, .class_ 67), (0, u "java/lang/Object")] 63

/-- java/lang/CharSequence -/
def k8 : Class := { plain "java/lang/CharSequence" (some 0) with
  accessFlags := 1537
  interfaces := #[]
  cf := some (fileOf pool8 2 #[.nestMembers #[47, 59]] #[] 1537 66 #[] #[])
  fields := #[]
  methods := #[]
  instanceTypes := #[]
  staticTypes := #[]
  resolved := Array.replicate 131 none
  statics := none }

def pool9 : Array CpInfo := pool [(1, .class_ 2), (0, u "java/lang/constant/Constable"), (0, .class_ 4), (0, u "java/lang/Object")] 6

/-- java/lang/constant/Constable -/
def k9 : Class := { plain "java/lang/constant/Constable" (some 0) with
  accessFlags := 1537
  interfaces := #[]
  cf := some (fileOf pool9 1 #[] #[] 1537 3 #[] #[])
  fields := #[]
  methods := #[]
  instanceTypes := #[]
  staticTypes := #[]
  resolved := Array.replicate 11 none
  statics := none }

def pool10 : Array CpInfo := pool [(1, .class_ 2), (0, u "java/lang/constant/ConstantDesc"), (0, .class_ 4), (0, u "java/lang/Object")] 32

/-- java/lang/constant/ConstantDesc -/
def k10 : Class := { plain "java/lang/constant/ConstantDesc" (some 0) with
  accessFlags := 1537
  interfaces := #[]
  cf := some (fileOf pool10 1 #[] #[] 1537 3 #[] #[])
  fields := #[]
  methods := #[]
  instanceTypes := #[]
  staticTypes := #[]
  resolved := Array.replicate 37 none
  statics := none }

def pool11 : Array CpInfo := pool [(2, .class_ 4), (1, u "java/lang/Object"), (0, u "<init>"), (0, u "()V"), (2, .fieldref 10 11), (0, .class_ 12), (0, .nameAndType 13 14), (0, u "java/lang/String"), (0, u "value"), (0, u "[B"), (0, .fieldref 10 16), (0, .nameAndType 17 18), (0, u "coder"), (0, u "B"), (2, u "hash"), (0, u "I"), (2, u "hashIsZero"), (0, u "Z"), (11, .fieldref 10 39), (0, .nameAndType 40 26), (0, u "COMPACT_STRINGS"), (66, .class_ 109), (1, u "java/lang/StringLatin1"), (32, u "()Z"), (191, u "()I"), (0, .methodref 10 336), (0, .nameAndType 17 337), (0, u "()B"), (25, u "([BI)C"), (27, u "(II)V"), (35, u "(I)C"), (64, .methodref 10 493), (0, .nameAndType 494 142), (0, u "isLatin1"), (0, .methodref 107 496), (0, .nameAndType 497 363), (0, u "charAt"), (3, u "checkIndex"), (5, u "length"), (67, .class_ 576), (0, u "java/lang/CharSequence"), (22, u "CASE_INSENSITIVE_ORDER"), (0, u "Ljava/util/Comparator;"), (452, .fieldref 1054 1055), (0, .class_ 1056), (0, .nameAndType 1057 1058), (0, u "jdk/internal/util/Preconditions"), (0, u "SIOOBE_FORMATTER"), (0, u "Ljava/util/function/BiFunction;"), (0, .methodref 1054 1060), (0, .nameAndType 501 1061), (0, u "(IILjava/util/function/BiFunction;)I"), (39, u "serialPersistentFields"), (0, u "[Ljava/io/ObjectStreamField;"), (0, .class_ 1104), (0, u "java/lang/String$CaseInsensitiveComparator"), (1, .class_ 1107), (0, u "java/io/Serializable"), (0, .class_ 1109), (0, u "java/lang/Comparable"), (0, .class_ 1111), (0, u "java/lang/constant/Constable"), (0, .class_ 1113), (0, u "java/lang/constant/ConstantDesc"), (2, u "serialVersionUID"), (0, u "J"), (3, u "REPL"), (0, u "C"), (2, u "LATIN1"), (1, u "UTF16")] 323

def k11m0 : Method := { name := "<init>", desc := "()V", sig := { parameters := [], returnType := none }, accessFlags := 1, code := none }
def k11c1 : Code := { maxStack := 2, maxLocals := 1, code := jdk_42_method_54_code, exceptionTable := #[], attributes := #[] }
def k11m1 : Method := { name := "length", desc := "()I", sig := { parameters := [], returnType := some .int }, accessFlags := 1, code := some k11c1 }
def k11c2 : Code := { maxStack := 2, maxLocals := 2, code := jdk_42_method_56_code, exceptionTable := #[], attributes := #[] }
def k11m2 : Method := { name := "charAt", desc := "(I)C", sig := { parameters := [.int], returnType := some .char }, accessFlags := 1, code := some k11c2 }
def k11c3 : Code := { maxStack := 1, maxLocals := 1, code := jdk_42_method_152_code, exceptionTable := #[], attributes := #[] }
def k11m3 : Method := { name := "coder", desc := "()B", sig := { parameters := [], returnType := some .byte }, accessFlags := 0, code := some k11c3 }
def k11c4 : Code := { maxStack := 1, maxLocals := 1, code := jdk_42_method_154_code, exceptionTable := #[], attributes := #[] }
def k11m4 : Method := { name := "isLatin1", desc := "()Z", sig := { parameters := [], returnType := some .boolean }, accessFlags := 0, code := some k11c4 }
def k11c5 : Code := { maxStack := 3, maxLocals := 2, code := jdk_42_method_155_code, exceptionTable := #[], attributes := #[] }
def k11m5 : Method := { name := "checkIndex", desc := "(II)V", sig := { parameters := [.int, .int], returnType := none }, accessFlags := 8, code := some k11c5 }
/-- java/lang/String -/
def k11 : Class := { plain "java/lang/String" (some 0) with
  accessFlags := 49
  interfaces := #[6, 7, 8, 9, 10]
  cf := some (fileOf pool11 10 #[.nestMembers #[1103]] #[{ accessFlags := 1, nameIndex := 5, descriptorIndex := 6, attributes := #[] }, { accessFlags := 1, nameIndex := 507, descriptorIndex := 334, attributes := #[] }, { accessFlags := 1, nameIndex := 497, descriptorIndex := 427, attributes := #[] }, { accessFlags := 0, nameIndex := 17, descriptorIndex := 337, attributes := #[] }, { accessFlags := 0, nameIndex := 494, descriptorIndex := 142, attributes := #[] }, { accessFlags := 8, nameIndex := 501, descriptorIndex := 391, attributes := #[] }] 49 2 #[1106, 1108, 575, 1110, 1112] #[{ accessFlags := 18, nameIndex := 13, descriptorIndex := 14, attributes := #[] }, { accessFlags := 18, nameIndex := 17, descriptorIndex := 18, attributes := #[] }, { accessFlags := 2, nameIndex := 21, descriptorIndex := 22, attributes := #[] }, { accessFlags := 2, nameIndex := 25, descriptorIndex := 26, attributes := #[] }, { accessFlags := 26, nameIndex := 1116, descriptorIndex := 1117, attributes := #[] }, { accessFlags := 24, nameIndex := 40, descriptorIndex := 26, attributes := #[] }, { accessFlags := 26, nameIndex := 1101, descriptorIndex := 1102, attributes := #[] }, { accessFlags := 26, nameIndex := 1121, descriptorIndex := 1122, attributes := #[] }, { accessFlags := 25, nameIndex := 599, descriptorIndex := 600, attributes := #[] }, { accessFlags := 24, nameIndex := 1125, descriptorIndex := 18, attributes := #[] }, { accessFlags := 24, nameIndex := 1127, descriptorIndex := 18, attributes := #[] }])
  fields := #[{ name := "value", type := (.array .byte), accessFlags := 18, slot := 0, constantValue := 0 }, { name := "coder", type := .byte, accessFlags := 18, slot := 1, constantValue := 0 }, { name := "hash", type := .int, accessFlags := 2, slot := 2, constantValue := 0 }, { name := "hashIsZero", type := .boolean, accessFlags := 2, slot := 3, constantValue := 0 }, { name := "serialVersionUID", type := .long, accessFlags := 26, slot := 0, constantValue := 0 }, { name := "COMPACT_STRINGS", type := .boolean, accessFlags := 24, slot := 1, constantValue := 0 }, { name := "serialPersistentFields", type := (.array (.object "java/io/ObjectStreamField")), accessFlags := 26, slot := 2, constantValue := 0 }, { name := "REPL", type := .char, accessFlags := 26, slot := 3, constantValue := 0 }, { name := "CASE_INSENSITIVE_ORDER", type := (.object "java/util/Comparator"), accessFlags := 25, slot := 4, constantValue := 0 }, { name := "LATIN1", type := .byte, accessFlags := 24, slot := 5, constantValue := 0 }, { name := "UTF16", type := .byte, accessFlags := 24, slot := 6, constantValue := 0 }]
  methods := #[k11m0, k11m1, k11m2, k11m3, k11m4, k11m5]
  instanceTypes := #[(.array .byte), .byte, .int, .boolean]
  staticTypes := #[.long, .boolean, (.array (.object "java/io/ObjectStreamField")), .char, (.object "java/util/Comparator"), .byte, .byte]
  resolved := Array.replicate 1451 none
  statics := some 1 }

def pool12 : Array CpInfo := pool [(1, .class_ 2), (0, u "java/lang/String"), (1, .class_ 6), (1, u "java/lang/Object"), (0, u "<init>"), (0, u "()V"), (0, .methodref 1 10), (0, .nameAndType 11 12), (0, u "checkIndex"), (0, u "(II)V"), (1, .class_ 16), (1, u "java/lang/StringLatin1"), (36, u "([BI)C"), (67, u "$assertionsDisabled"), (0, u "Z"), (98, .class_ 223), (1, u "java/lang/StringLatin1$LinesSpliterator"), (28, u "charAt"), (137, .class_ 391), (0, u "java/lang/StringLatin1$CharsSpliterator")] 3

def k12m0 : Method := { name := "<init>", desc := "()V", sig := { parameters := [], returnType := none }, accessFlags := 0, code := none }
def k12c1 : Code := { maxStack := 2, maxLocals := 2, code := jdk_43_method_2_code, exceptionTable := #[], attributes := #[] }
def k12m1 : Method := { name := "charAt", desc := "([BI)C", sig := { parameters := [(.array .byte), .int], returnType := some .char }, accessFlags := 9, code := some k12c1 }
/-- java/lang/StringLatin1 -/
def k12 : Class := { plain "java/lang/StringLatin1" (some 0) with
  accessFlags := 48
  interfaces := #[]
  cf := some (fileOf pool12 14 #[.nestMembers #[390, 221]] #[{ accessFlags := 0, nameIndex := 7, descriptorIndex := 8, attributes := #[] }, { accessFlags := 9, nameIndex := 252, descriptorIndex := 53, attributes := #[] }] 48 4 #[] #[{ accessFlags := 4120, nameIndex := 121, descriptorIndex := 122, attributes := #[] }])
  fields := #[{ name := "$assertionsDisabled", type := .boolean, accessFlags := 4120, slot := 0, constantValue := 0 }]
  methods := #[k12m0, k12m1]
  instanceTypes := #[]
  staticTypes := #[.boolean]
  resolved := Array.replicate 395 none
  statics := none }

def pool13 : Array CpInfo := pool [(2, .class_ 4), (1, u "java/lang/Object"), (0, u "<init>"), (0, u "()V"), (17, .class_ 26), (1, u "jdk/internal/util/Preconditions"), (6, u "checkIndex"), (21, .class_ 56), (0, u "jdk/internal/util/Preconditions$4"), (57, .class_ 115), (0, u "jdk/internal/util/Preconditions$1"), (7, u "SIOOBE_FORMATTER"), (0, u "Ljava/util/function/BiFunction;"), (0, .class_ 126), (0, u "jdk/internal/util/Preconditions$2"), (3, u "AIOOBE_FORMATTER"), (0, .class_ 132), (0, u "jdk/internal/util/Preconditions$3"), (3, u "IOOBE_FORMATTER"), (41, u "(IILjava/util/function/BiFunction;)I")] 15

def k13m0 : Method := { name := "<init>", desc := "()V", sig := { parameters := [], returnType := none }, accessFlags := 1, code := none }
def k13c1 : Code := { maxStack := 3, maxLocals := 3, code := jdk_41_method_11_code, exceptionTable := #[], attributes := #[] }
def k13m1 : Method := { name := "checkIndex", desc := "(IILjava/util/function/BiFunction;)I", sig := { parameters := [.int, .int, (.object "java/util/function/BiFunction")], returnType := some .int }, accessFlags := 9, code := some k13c1 }
/-- jdk/internal/util/Preconditions -/
def k13 : Class := { plain "jdk/internal/util/Preconditions" (some 0) with
  accessFlags := 33
  interfaces := #[]
  cf := some (fileOf pool13 24 #[.nestMembers #[55, 131, 125, 114]] #[{ accessFlags := 1, nameIndex := 5, descriptorIndex := 6, attributes := #[] }, { accessFlags := 9, nameIndex := 33, descriptorIndex := 178, attributes := #[] }] 33 2 #[] #[{ accessFlags := 25, nameIndex := 123, descriptorIndex := 124, attributes := #[] }, { accessFlags := 25, nameIndex := 130, descriptorIndex := 124, attributes := #[] }, { accessFlags := 25, nameIndex := 136, descriptorIndex := 124, attributes := #[] }])
  fields := #[{ name := "SIOOBE_FORMATTER", type := (.object "java/util/function/BiFunction"), accessFlags := 25, slot := 0, constantValue := 0 }, { name := "AIOOBE_FORMATTER", type := (.object "java/util/function/BiFunction"), accessFlags := 25, slot := 1, constantValue := 0 }, { name := "IOOBE_FORMATTER", type := (.object "java/util/function/BiFunction"), accessFlags := 25, slot := 2, constantValue := 0 }]
  methods := #[k13m0, k13m1]
  instanceTypes := #[]
  staticTypes := #[(.object "java/util/function/BiFunction"), (.object "java/util/function/BiFunction"), (.object "java/util/function/BiFunction")]
  resolved := Array.replicate 194 none
  statics := some 2 }

def pool14 : Array CpInfo := pool [(9, u "<init>"), (6, .class_ 18), (1, u "java/lang/Object"), (0, u "()V"), (1, .class_ 23), (1, u "jdk/internal/util/ArraysSupport"), (0, u "LOG2_ARRAY_LONG_INDEX_SCALE"), (0, u "I"), (2, u "U"), (0, u "Ljdk/internal/misc/Unsafe;"), (8, u "BIG_ENDIAN"), (0, u "Z"), (8, u "LOG2_BYTE_BIT_SIZE"), (4, u "LOG2_ARRAY_INT_INDEX_SCALE"), (54, u "JLA"), (0, u "Ljdk/internal/access/JavaLangAccess;"), (11, u "LOG2_ARRAY_BOOLEAN_INDEX_SCALE"), (9, u "LOG2_ARRAY_BYTE_INDEX_SCALE"), (5, u "LOG2_ARRAY_CHAR_INDEX_SCALE"), (5, u "LOG2_ARRAY_SHORT_INDEX_SCALE"), (18, u "LOG2_ARRAY_FLOAT_INDEX_SCALE"), (24, u "LOG2_ARRAY_DOUBLE_INDEX_SCALE"), (89, u "T_BOOLEAN"), (2, u "T_CHAR"), (1, u "T_FLOAT"), (1, u "T_DOUBLE"), (1, u "T_BYTE"), (1, u "T_SHORT"), (1, u "T_INT"), (1, u "T_LONG"), (1, u "SOFT_MAX_ARRAY_LENGTH")] 83

def k14m0 : Method := { name := "<init>", desc := "()V", sig := { parameters := [], returnType := none }, accessFlags := 2, code := none }
/-- jdk/internal/util/ArraysSupport -/
def k14 : Class := { plain "jdk/internal/util/ArraysSupport" (some 0) with
  accessFlags := 33
  interfaces := #[]
  cf := some (fileOf pool14 21 #[] #[{ accessFlags := 2, nameIndex := 9, descriptorIndex := 19, attributes := #[] }] 33 16 #[] #[{ accessFlags := 24, nameIndex := 28, descriptorIndex := 29, attributes := #[] }, { accessFlags := 26, nameIndex := 38, descriptorIndex := 39, attributes := #[] }, { accessFlags := 25, nameIndex := 121, descriptorIndex := 25, attributes := #[] }, { accessFlags := 25, nameIndex := 131, descriptorIndex := 25, attributes := #[] }, { accessFlags := 25, nameIndex := 137, descriptorIndex := 25, attributes := #[] }, { accessFlags := 25, nameIndex := 143, descriptorIndex := 25, attributes := #[] }, { accessFlags := 25, nameIndex := 53, descriptorIndex := 25, attributes := #[] }, { accessFlags := 25, nameIndex := 24, descriptorIndex := 25, attributes := #[] }, { accessFlags := 25, nameIndex := 162, descriptorIndex := 25, attributes := #[] }, { accessFlags := 25, nameIndex := 187, descriptorIndex := 25, attributes := #[] }, { accessFlags := 26, nameIndex := 48, descriptorIndex := 25, attributes := #[] }, { accessFlags := 25, nameIndex := 277, descriptorIndex := 25, attributes := #[] }, { accessFlags := 25, nameIndex := 280, descriptorIndex := 25, attributes := #[] }, { accessFlags := 25, nameIndex := 282, descriptorIndex := 25, attributes := #[] }, { accessFlags := 25, nameIndex := 284, descriptorIndex := 25, attributes := #[] }, { accessFlags := 25, nameIndex := 286, descriptorIndex := 25, attributes := #[] }, { accessFlags := 25, nameIndex := 288, descriptorIndex := 25, attributes := #[] }, { accessFlags := 25, nameIndex := 290, descriptorIndex := 25, attributes := #[] }, { accessFlags := 25, nameIndex := 292, descriptorIndex := 25, attributes := #[] }, { accessFlags := 26, nameIndex := 108, descriptorIndex := 109, attributes := #[] }, { accessFlags := 25, nameIndex := 294, descriptorIndex := 25, attributes := #[] }])
  fields := #[{ name := "U", type := (.object "jdk/internal/misc/Unsafe"), accessFlags := 24, slot := 0, constantValue := 0 }, { name := "BIG_ENDIAN", type := .boolean, accessFlags := 26, slot := 1, constantValue := 0 }, { name := "LOG2_ARRAY_BOOLEAN_INDEX_SCALE", type := .int, accessFlags := 25, slot := 2, constantValue := 0 }, { name := "LOG2_ARRAY_BYTE_INDEX_SCALE", type := .int, accessFlags := 25, slot := 3, constantValue := 0 }, { name := "LOG2_ARRAY_CHAR_INDEX_SCALE", type := .int, accessFlags := 25, slot := 4, constantValue := 0 }, { name := "LOG2_ARRAY_SHORT_INDEX_SCALE", type := .int, accessFlags := 25, slot := 5, constantValue := 0 }, { name := "LOG2_ARRAY_INT_INDEX_SCALE", type := .int, accessFlags := 25, slot := 6, constantValue := 0 }, { name := "LOG2_ARRAY_LONG_INDEX_SCALE", type := .int, accessFlags := 25, slot := 7, constantValue := 0 }, { name := "LOG2_ARRAY_FLOAT_INDEX_SCALE", type := .int, accessFlags := 25, slot := 8, constantValue := 0 }, { name := "LOG2_ARRAY_DOUBLE_INDEX_SCALE", type := .int, accessFlags := 25, slot := 9, constantValue := 0 }, { name := "LOG2_BYTE_BIT_SIZE", type := .int, accessFlags := 26, slot := 10, constantValue := 0 }, { name := "T_BOOLEAN", type := .int, accessFlags := 25, slot := 11, constantValue := 0 }, { name := "T_CHAR", type := .int, accessFlags := 25, slot := 12, constantValue := 0 }, { name := "T_FLOAT", type := .int, accessFlags := 25, slot := 13, constantValue := 0 }, { name := "T_DOUBLE", type := .int, accessFlags := 25, slot := 14, constantValue := 0 }, { name := "T_BYTE", type := .int, accessFlags := 25, slot := 15, constantValue := 0 }, { name := "T_SHORT", type := .int, accessFlags := 25, slot := 16, constantValue := 0 }, { name := "T_INT", type := .int, accessFlags := 25, slot := 17, constantValue := 0 }, { name := "T_LONG", type := .int, accessFlags := 25, slot := 18, constantValue := 0 }, { name := "JLA", type := (.object "jdk/internal/access/JavaLangAccess"), accessFlags := 26, slot := 19, constantValue := 0 }, { name := "SOFT_MAX_ARRAY_LENGTH", type := .int, accessFlags := 25, slot := 20, constantValue := 0 }]
  methods := #[k14m0]
  instanceTypes := #[]
  staticTypes := #[(.object "jdk/internal/misc/Unsafe"), .boolean, .int, .int, .int, .int, .int, .int, .int, .int, .int, .int, .int, .int, .int, .int, .int, .int, .int, (.object "jdk/internal/access/JavaLangAccess"), .int]
  resolved := Array.replicate 378 none
  statics := none }

def pool15 : Array CpInfo := pool [(1, u "java/lang/Cloneable"), (0, .class_ 1), (0, u "java/lang/Object"), (0, .class_ 3)] 3

/-- java/lang/Cloneable -/
def k15 : Class := { plain "java/lang/Cloneable" (some 0) with
  accessFlags := 1537
  interfaces := #[]
  cf := some (fileOf pool15 2 #[] #[] 1537 4 #[] #[])
  fields := #[]
  methods := #[]
  instanceTypes := #[]
  staticTypes := #[]
  resolved := Array.replicate 8 none
  statics := none }

/-- the primitive byte -/
def k16 : Class := { plain "byte" none with kind := .primitive 'B', accessFlags := 0x411 }
/-- [B -/
def k17 : Class := { plain "[B" (some 0) with kind := .array 16 .byte, interfaces := #[15, 6], accessFlags := 1041 }

/-- the primitive int -/
def k18 : Class := { plain "int" none with kind := .primitive 'I', accessFlags := 0x411 }
/-- [I -/
def k19 : Class := { plain "[I" (some 0) with kind := .array 18 .int, interfaces := #[15, 6], accessFlags := 1041 }

/-- [[B -/
def k20 : Class := { plain "[[B" (some 0) with kind := .array 17 (.array .byte), interfaces := #[15, 6], accessFlags := 1041 }

def heap : Heap := #[{ cls := 2, slots := #[.int 0, .null, .null, .null, .null, .ref 3, .ref 4], vm := .statics 2 },
  { cls := 11, slots := #[.long 0, .int 1, .null, .int 0, .null, .int 0, .int 0], vm := .statics 11 },
  { cls := 13, slots := #[.null, .null, .null], vm := .statics 13 },
  { cls := 17, slots := #[.int 58, .int 104, .int 111, .int 108, .int 100, .int 115], vm := .none },
  { cls := 17, slots := #[.int 58, .int 119, .int 97, .int 105, .int 116, .int 105, .int 110, .int 103], vm := .none }]
def classes : Array Class := #[k0, k1, k2, k3, k4, k5, k6, k7, k8, k9, k10, k11, k12, k13, k14, k15, k16, k17, k18, k19, k20]
def interned : List (Array UInt16 × Addr) := []
def slotsUsed : Nat := 31
def theMethod : MethodId := ⟨1, 1⟩
def args0 : Array Value := #[.int 5, .int 7, .int 3]
def aboutOver (below : List Frame) : State where
  vm := { classes := classes, interned := interned.toArray }
  heap := heap
  slotsUsed := slotsUsed
  threads := #[{ frames := .invoking theMethod args0 :: below }]
def below0 : List Frame := [.native { method := ⟨0, 0⟩, args := #[] }]
def about1 : State := aboutOver below0
def p0 : Program := .bare "" "" ""
def e0 : Env := launch0.env 0 0 0
theorem w_frames : about1.frames = Frame.invoking theMethod args0 :: below0 := rfl
set_option maxRecDepth 65536 in
theorem w_args : argsFit about1.vm theMethod args0 = true := by decide +kernel
set_option maxRecDepth 65536 in
theorem w_heap : heapFits about1 = true := by decide +kernel
set_option maxRecDepth 65536 in
theorem w_runnable : about1.curStatus? = some .runnable := by decide +kernel
set_option maxRecDepth 65536 in
theorem w_alone : about1.alone = true := by decide +kernel
set_option maxRecDepth 65536 in
theorem w_named : about1.methodNamed? x = some theMethod := by decide +kernel
set_option maxRecDepth 65536 in
theorem w_hears : about1.hears theMethod below0 = true := by decide +kernel
set_option maxRecDepth 65536 in
theorem w_ripe : about1.ripe theMethod args0 below0 = true := by decide +kernel
theorem w_running : about1.status = .running := rfl
set_option maxRecDepth 65536 in
theorem w_room : about1.hasRoom e0.platform room_1 = true :=
  launch0.hasRoom_least _ room_1 (by decide +kernel) (by decide +kernel) (by decide +kernel) (by decide +kernel) (by decide +kernel) (by decide +kernel)
theorem allAtoms_all (ts : List Jvm.Cond) (a : Array Jvm.Value) (st : Jvm.State) : (allAtoms ts).before a st = ts.all (fun c => c.before a st) := by
  induction ts with
  | nil => rfl
  | cons c t ih =>
    show (Jvm.Cond.and c (allAtoms t)).before a st = _
    rw [Jvm.Cond.before_and, ih, List.all_cons]
def words1 : List Jvm.Cond := Jvm.Cond.code x code maxLocals ret :: tables_1
/-- a 'code' word, met by the world's own term for the bytes: nothing is compared byte by byte -/
theorem code_word {y : MethodName} {bytes : ByteArray} {mx : Nat} {rt : Option FieldType} {a : Array Value} {s : State} {m : MethodId} {meth : Method} {c : Code} (h1 : s.methodNamed? y = some m) (h2 : s.vm.method? m = some meth) (h3 : meth.code = some c) (h4 : c.code = bytes)
    (h5 : (c.maxLocals == mx && c.exceptionTable.isEmpty && decide (c.maxStack ≤ mostOperands) && decide (meth.sig.returnType = rt) && !meth.locks && decide (parseMethodDescriptor y.desc = some meth.sig)) = true) : (Jvm.Cond.code y bytes mx rt).before a s = true := by
  simp only [Bool.and_eq_true, beq_iff_eq, Bool.not_eq_true', decide_eq_true_eq] at h5
  obtain ⟨⟨⟨⟨⟨g1, g2⟩, g3⟩, g4⟩, g5⟩, g6⟩ := h5
  simp [Cond.before, Cond.holds, Cond.value, h1, h2, h3, h4, g1, g2, g3, g4, g5, g6]
def isCode : Jvm.Cond → Bool
  | .code _ _ _ _ => true
  | _ => false
theorem all_split {L : List Jvm.Cond} {P : Jvm.Cond → Bool} (h1 : L.all (fun c => isCode c || P c) = true) (h2 : ∀ c ∈ L.filter isCode, P c = true) : L.all P = true := by
  refine List.all_eq_true.mpr fun c hc => ?_
  have h := List.all_eq_true.mp h1 c hc
  rcases Bool.eq_false_or_eq_true (isCode c) with hi | hi
  · exact h2 c (List.mem_filter.mpr ⟨hc, hi⟩)
  · simpa [hi] using h
set_option maxRecDepth 65536 in
theorem w_c0 : (Jvm.Cond.code x code maxLocals ret).before args0 about1 = true := code_word (m := ⟨1, 1⟩) (meth := k1m1) (c := k1c1) (by decide +kernel) rfl rfl rfl (by decide +kernel)
set_option maxRecDepth 65536 in
theorem w_c1 : (Jvm.Cond.code ({ cls := "com/example/latchkey/latchkey/LockKeysHolderFieldsPinLaw", name := "make", desc := "(I)[B" } : Jvm.MethodName) method_3_code (1 : Nat) (Option.some (Jvm.ClassFile.FieldType.array Jvm.ClassFile.FieldType.byte))).before args0 about1 = true := code_word (m := ⟨1, 2⟩) (meth := k1m2) (c := k1c2) (by decide +kernel) rfl rfl rfl (by decide +kernel)
set_option maxRecDepth 65536 in
theorem w_c2 : (Jvm.Cond.code ({ cls := "com/example/latchkey/latchkey/LockKeysHolderFieldsPinLaw", name := "ownerByte", desc := "(III)B" } : Jvm.MethodName) method_4_code (3 : Nat) (Option.some Jvm.ClassFile.FieldType.byte)).before args0 about1 = true := code_word (m := ⟨1, 3⟩) (meth := k1m3) (c := k1c3) (by decide +kernel) rfl rfl rfl (by decide +kernel)
set_option maxRecDepth 65536 in
theorem w_c3 : (Jvm.Cond.code ({ cls := "com/example/latchkey/latchkey/LockKeys", name := "holderFields", desc := "([B)[[B" } : Jvm.MethodName) prog_1_method_5_code (1 : Nat) (Option.some (Jvm.ClassFile.FieldType.array (Jvm.ClassFile.FieldType.array Jvm.ClassFile.FieldType.byte)))).before args0 about1 = true := code_word (m := ⟨2, 0⟩) (meth := k2m0) (c := k2c0) (by decide +kernel) rfl rfl rfl (by decide +kernel)
set_option maxRecDepth 65536 in
theorem w_c4 : (Jvm.Cond.code ({ cls := "com/example/latchkey/latchkey/LockKeys", name := "suffixed", desc := "([B[B)[B" } : Jvm.MethodName) prog_1_method_6_code (3 : Nat) (Option.some (Jvm.ClassFile.FieldType.array Jvm.ClassFile.FieldType.byte))).before args0 about1 = true := code_word (m := ⟨2, 1⟩) (meth := k2m1) (c := k2c1) (by decide +kernel) rfl rfl rfl (by decide +kernel)
set_option maxRecDepth 65536 in
theorem w_c5 : (Jvm.Cond.code ({ cls := "java/util/Arrays", name := "copyOf", desc := "([BI)[B" } : Jvm.MethodName) jdk_65_method_121_code (3 : Nat) (Option.some (Jvm.ClassFile.FieldType.array Jvm.ClassFile.FieldType.byte))).before args0 about1 = true := code_word (m := ⟨3, 1⟩) (meth := k3m1) (c := k3c1) (by decide +kernel) rfl rfl rfl (by decide +kernel)
set_option maxRecDepth 65536 in
theorem w_c6 : (Jvm.Cond.code ({ cls := "java/lang/Math", name := "min", desc := "(II)I" } : Jvm.MethodName) jdk_29_method_69_code (2 : Nat) (Option.some Jvm.ClassFile.FieldType.int)).before args0 about1 = true := code_word (m := ⟨4, 1⟩) (meth := k4m1) (c := k4c1) (by decide +kernel) rfl rfl rfl (by decide +kernel)
set_option maxRecDepth 65536 in
theorem w_c7 : (Jvm.Cond.code ({ cls := "com/example/latchkey/latchkey/LockKeysHolderFieldsPinLaw", name := "matches", desc := "([BIIILjava/lang/String;)Z" } : Jvm.MethodName) method_6_code (5 : Nat) (Option.some Jvm.ClassFile.FieldType.boolean)).before args0 about1 = true := code_word (m := ⟨1, 5⟩) (meth := k1m5) (c := k1c5) (by decide +kernel) rfl rfl rfl (by decide +kernel)
set_option maxRecDepth 65536 in
theorem w_c8 : (Jvm.Cond.code ({ cls := "java/lang/String", name := "length", desc := "()I" } : Jvm.MethodName) jdk_42_method_54_code (1 : Nat) (Option.some Jvm.ClassFile.FieldType.int)).before args0 about1 = true := code_word (m := ⟨11, 1⟩) (meth := k11m1) (c := k11c1) (by decide +kernel) rfl rfl rfl (by decide +kernel)
set_option maxRecDepth 65536 in
theorem w_c9 : (Jvm.Cond.code ({ cls := "java/lang/String", name := "coder", desc := "()B" } : Jvm.MethodName) jdk_42_method_152_code (1 : Nat) (Option.some Jvm.ClassFile.FieldType.byte)).before args0 about1 = true := code_word (m := ⟨11, 3⟩) (meth := k11m3) (c := k11c3) (by decide +kernel) rfl rfl rfl (by decide +kernel)
set_option maxRecDepth 65536 in
theorem w_c10 : (Jvm.Cond.code ({ cls := "com/example/latchkey/latchkey/LockKeysHolderFieldsPinLaw", name := "at", desc := "([BIIILjava/lang/String;I)Z" } : Jvm.MethodName) method_5_code (7 : Nat) (Option.some Jvm.ClassFile.FieldType.boolean)).before args0 about1 = true := code_word (m := ⟨1, 4⟩) (meth := k1m4) (c := k1c4) (by decide +kernel) rfl rfl rfl (by decide +kernel)
set_option maxRecDepth 65536 in
theorem w_c11 : (Jvm.Cond.code ({ cls := "java/lang/String", name := "charAt", desc := "(I)C" } : Jvm.MethodName) jdk_42_method_56_code (2 : Nat) (Option.some Jvm.ClassFile.FieldType.char)).before args0 about1 = true := code_word (m := ⟨11, 2⟩) (meth := k11m2) (c := k11c2) (by decide +kernel) rfl rfl rfl (by decide +kernel)
set_option maxRecDepth 65536 in
theorem w_c12 : (Jvm.Cond.code ({ cls := "java/lang/String", name := "isLatin1", desc := "()Z" } : Jvm.MethodName) jdk_42_method_154_code (1 : Nat) (Option.some Jvm.ClassFile.FieldType.boolean)).before args0 about1 = true := code_word (m := ⟨11, 4⟩) (meth := k11m4) (c := k11c4) (by decide +kernel) rfl rfl rfl (by decide +kernel)
set_option maxRecDepth 65536 in
theorem w_c13 : (Jvm.Cond.code ({ cls := "java/lang/StringLatin1", name := "charAt", desc := "([BI)C" } : Jvm.MethodName) jdk_43_method_2_code (2 : Nat) (Option.some Jvm.ClassFile.FieldType.char)).before args0 about1 = true := code_word (m := ⟨12, 1⟩) (meth := k12m1) (c := k12c1) (by decide +kernel) rfl rfl rfl (by decide +kernel)
set_option maxRecDepth 65536 in
theorem w_c14 : (Jvm.Cond.code ({ cls := "java/lang/String", name := "checkIndex", desc := "(II)V" } : Jvm.MethodName) jdk_42_method_155_code (2 : Nat) (Option.none : Option Jvm.ClassFile.FieldType)).before args0 about1 = true := code_word (m := ⟨11, 5⟩) (meth := k11m5) (c := k11c5) (by decide +kernel) rfl rfl rfl (by decide +kernel)
set_option maxRecDepth 65536 in
theorem w_c15 : (Jvm.Cond.code ({ cls := "jdk/internal/util/Preconditions", name := "checkIndex", desc := "(IILjava/util/function/BiFunction;)I" } : Jvm.MethodName) jdk_41_method_11_code (3 : Nat) (Option.some Jvm.ClassFile.FieldType.int)).before args0 about1 = true := code_word (m := ⟨13, 1⟩) (meth := k13m1) (c := k13c1) (by decide +kernel) rfl rfl rfl (by decide +kernel)
def codes1 : List Jvm.Cond := [Jvm.Cond.code x code maxLocals ret, Jvm.Cond.code ({ cls := "com/example/latchkey/latchkey/LockKeysHolderFieldsPinLaw", name := "make", desc := "(I)[B" } : Jvm.MethodName) method_3_code (1 : Nat) (Option.some (Jvm.ClassFile.FieldType.array Jvm.ClassFile.FieldType.byte)), Jvm.Cond.code ({ cls := "com/example/latchkey/latchkey/LockKeysHolderFieldsPinLaw", name := "ownerByte", desc := "(III)B" } : Jvm.MethodName) method_4_code (3 : Nat) (Option.some Jvm.ClassFile.FieldType.byte), Jvm.Cond.code ({ cls := "com/example/latchkey/latchkey/LockKeys", name := "holderFields", desc := "([B)[[B" } : Jvm.MethodName) prog_1_method_5_code (1 : Nat) (Option.some (Jvm.ClassFile.FieldType.array (Jvm.ClassFile.FieldType.array Jvm.ClassFile.FieldType.byte))), Jvm.Cond.code ({ cls := "com/example/latchkey/latchkey/LockKeys", name := "suffixed", desc := "([B[B)[B" } : Jvm.MethodName) prog_1_method_6_code (3 : Nat) (Option.some (Jvm.ClassFile.FieldType.array Jvm.ClassFile.FieldType.byte)), Jvm.Cond.code ({ cls := "java/util/Arrays", name := "copyOf", desc := "([BI)[B" } : Jvm.MethodName) jdk_65_method_121_code (3 : Nat) (Option.some (Jvm.ClassFile.FieldType.array Jvm.ClassFile.FieldType.byte)), Jvm.Cond.code ({ cls := "java/lang/Math", name := "min", desc := "(II)I" } : Jvm.MethodName) jdk_29_method_69_code (2 : Nat) (Option.some Jvm.ClassFile.FieldType.int), Jvm.Cond.code ({ cls := "com/example/latchkey/latchkey/LockKeysHolderFieldsPinLaw", name := "matches", desc := "([BIIILjava/lang/String;)Z" } : Jvm.MethodName) method_6_code (5 : Nat) (Option.some Jvm.ClassFile.FieldType.boolean), Jvm.Cond.code ({ cls := "java/lang/String", name := "length", desc := "()I" } : Jvm.MethodName) jdk_42_method_54_code (1 : Nat) (Option.some Jvm.ClassFile.FieldType.int), Jvm.Cond.code ({ cls := "java/lang/String", name := "coder", desc := "()B" } : Jvm.MethodName) jdk_42_method_152_code (1 : Nat) (Option.some Jvm.ClassFile.FieldType.byte), Jvm.Cond.code ({ cls := "com/example/latchkey/latchkey/LockKeysHolderFieldsPinLaw", name := "at", desc := "([BIIILjava/lang/String;I)Z" } : Jvm.MethodName) method_5_code (7 : Nat) (Option.some Jvm.ClassFile.FieldType.boolean), Jvm.Cond.code ({ cls := "java/lang/String", name := "charAt", desc := "(I)C" } : Jvm.MethodName) jdk_42_method_56_code (2 : Nat) (Option.some Jvm.ClassFile.FieldType.char), Jvm.Cond.code ({ cls := "java/lang/String", name := "isLatin1", desc := "()Z" } : Jvm.MethodName) jdk_42_method_154_code (1 : Nat) (Option.some Jvm.ClassFile.FieldType.boolean), Jvm.Cond.code ({ cls := "java/lang/StringLatin1", name := "charAt", desc := "([BI)C" } : Jvm.MethodName) jdk_43_method_2_code (2 : Nat) (Option.some Jvm.ClassFile.FieldType.char), Jvm.Cond.code ({ cls := "java/lang/String", name := "checkIndex", desc := "(II)V" } : Jvm.MethodName) jdk_42_method_155_code (2 : Nat) (Option.none : Option Jvm.ClassFile.FieldType), Jvm.Cond.code ({ cls := "jdk/internal/util/Preconditions", name := "checkIndex", desc := "(IILjava/util/function/BiFunction;)I" } : Jvm.MethodName) jdk_41_method_11_code (3 : Nat) (Option.some Jvm.ClassFile.FieldType.int)]
set_option maxRecDepth 65536 in
theorem codes_eq : words1.filter isCode = codes1 := rfl
theorem w_codes : ∀ c ∈ words1.filter isCode, c.before args0 about1 = true := by
  rw [codes_eq]
  intro c hc
  simp only [codes1, List.mem_cons, List.not_mem_nil, or_false] at hc
  rcases hc with rfl | rfl | rfl | rfl | rfl | rfl | rfl | rfl | rfl | rfl | rfl | rfl | rfl | rfl | rfl | rfl
  · exact w_c0
  · exact w_c1
  · exact w_c2
  · exact w_c3
  · exact w_c4
  · exact w_c5
  · exact w_c6
  · exact w_c7
  · exact w_c8
  · exact w_c9
  · exact w_c10
  · exact w_c11
  · exact w_c12
  · exact w_c13
  · exact w_c14
  · exact w_c15
set_option maxRecDepth 65536 in
theorem w_t1 : (words1.take 24).all (fun c => isCode c || c.before args0 about1) = true := by decide +kernel
set_option maxRecDepth 65536 in
theorem w_t2 : ((words1.drop 24).take 24).all (fun c => isCode c || c.before args0 about1) = true := by decide +kernel
set_option maxRecDepth 65536 in
theorem w_t3 : (((words1.drop 24).drop 24).take 24).all (fun c => isCode c || c.before args0 about1) = true := by decide +kernel
set_option maxRecDepth 65536 in
theorem w_t4 : (((words1.drop 24).drop 24).drop 24).all (fun c => isCode c || c.before args0 about1) = true := by decide +kernel
theorem w_tables : (allAtoms (Jvm.Cond.code x code maxLocals ret :: tables_1)).before args0 about1 = true := by
  rw [allAtoms_all]
  show words1.all (fun c => c.before args0 about1) = true
  refine all_split ?_ w_codes
  rw [← List.take_append_drop 24 words1, List.all_append, w_t1, ← List.take_append_drop 24 (words1.drop 24), List.all_append, w_t2, ← List.take_append_drop 24 ((words1.drop 24).drop 24), List.all_append, w_t3, w_t4]
  rfl
set_option maxRecDepth 65536 in
theorem w_rest : rest_1_c.before args0 about1 = true := by decide +kernel
set_option maxRecDepth 65536 in
theorem w_case : (Jvm.Cond.and given_1 narrow_1).before args0 about1 = true := by decide +kernel
set_option maxRecDepth 65536 in
theorem w_consts : constsHeld consts_1 about1 := Jvm.Lit.constsHeldB_iff.mp (by decide +kernel)
theorem w_applies : (headSpec (Jvm.Cond.code x code maxLocals ret :: tables_1) room_1).applies x e0.platform about1 = true :=
  (Spec.applies_iff w_frames).mpr ⟨w_running, w_runnable, w_alone, w_named, w_hears, w_ripe, w_room, w_tables⟩
theorem atStart : AtStart classFile x code maxLocals ret World_1 tables_1 room_1 Calls_1 rest_1 Pre_1 launch0 p0 e0 about1 theMethod args0 below0 :=
  ⟨lists_1, trivial, launch0.admits_env _ _ _, launch0.least_env, fairChoices_fair.cas, fairChoices_fair.clock, w_frames, w_args, w_heap, w_applies, ⟨w_consts, trivial⟩, w_rest, w_case⟩
end start1
theorem witness_1 : WitnessClaimed_1 := ⟨start1.p0, start1.e0, start1.about1, start1.theMethod, start1.args0, start1.below0, start1.atStart⟩
end Jvm.Pilot.@@N@@
