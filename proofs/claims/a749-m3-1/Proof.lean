import JvmDerived
import JvmDerived.Pilot.@@N@@Statement
import JvmDerived.Pilot.@@N@@Code
set_option linter.unusedVariables false
set_option linter.unusedSimpArgs false
namespace Jvm.Ow
open Jvm Jvm.ClassFile Sem Op Lib Jvm.Free Jvm.Stand Jvm.LawKit Jvm.RoadKit Bundle
theorem ltA {a b : Nat} (h : a < b) : a < b := h
theorem leA {a b : Nat} (h : a ≤ b) : a ≤ b := h
theorem neA {a b : Nat} (h : a ≠ b) : a ≠ b := h
section Base
variable {p : Program} {l : Launch} {e : Env} {R : Room} {s : State} {m : MethodId} {args : Array Value} {below : List Frame} {meth : Method} {c : Code} {own : String} {Z : State} {a0 : Array Value} {EL : List (String × Nat)} {h0 : Heap} {T : State} {h h' : Heap} {vm vm' : Vm} {cells slots : Nat} {P : Outcome → State → Prop} {g : JFrame}
/-- from t the invocation comes to an end at which P holds -/
def Gets (p : Program) (e : Env) (below : List Frame) (P : Outcome → State → Prop) (t : State) : Prop := ∃ u o, Steps p.tables e below t u ∧ u.status = .running ∧ Ended u below o ∧ P o u
theorem Gets.via {t t' : State} (h : ∀ u, Steps p.tables e below t' u → Steps p.tables e below t u) (k : Gets p e below P t') : Gets p e below P t := by
  obtain ⟨u, o, h1, h2⟩ := k
  exact ⟨u, o, h _ h1, h2⟩
theorem Gets.steps {t t' : State} (h : Steps p.tables e below t t') (k : Gets p e below P t') : Gets p e below P t := k.via fun _ q => h.trans q
/-- where a walk stands: over the start with the tables at hand; what it may have interned; what the literals hold; nothing of the law's start written -/
def Wk (p : Program) (l : Launch) (e : Env) (R : Room) (s : State) (m : MethodId) (args : Array Value) (below : List Frame) (meth : Method) (c : Code) (own : String) (Z : State) (a0 : Array Value) (EL : List (String × Nat)) (h0 : Heap) (T : State) (h : Heap) (vm : Vm) (cells slots : Nat) : Prop :=
  ∃ (locs : List Loc) (k : Nat), Stand p l e R (s.setVm vm) m args below meth c T locs cells slots ∧ T.heap = h ∧ s.Since vm k ∧ k ≤ h.size ∧ Z.Warmed39 vm ∧ vm.findClass own = some m.cls ∧ CHr Z EL s.vm h0 vm h ∧ Fr Z.heap.size locs ∧ Old Z Z.heap.size h ∧ p.tables.exec = Jvm.exec ∧ EW Z a0 EL ∧ s.heap = h0 ∧ meth.locks = false
/-- what an invocation leaves -/
def Out (s : State) (Z : State) (EL : List (String × Nat)) (rm : Room) (Q : Option Value → Heap → Prop) (o : Outcome) (u : State) : Prop :=
  ∃ (v : Option Value) (L : List Loc), o = .returned v ∧ (Q v u.heap ∧ Fr Z.heap.size L ∧ Old Z Z.heap.size u.heap) ∧ CHr Z EL s.vm s.heap u.vm u.heap ∧ ReturnedEndW s o u L rm.cells rm.slots
/-- a contract -/
def Met (l : Launch) (Z : State) (EL : List (String × Nat)) (y : MethodName) (bytes : ByteArray) (maxL : Nat) (ret : Option FieldType) (ws : List Jvm.Cond) (rm : Room) (sf : List Addr) (as : Array Value) (h : Heap) (Q : Option Value → Heap → Prop) : Prop :=
  MetFree l y (head1 (Jvm.Cond.code y bytes maxL ret :: ws) rm) (fun a U => a = as ∧ Z.Warmed39 U.vm ∧ U.heap = h ∧ CHv Z EL U.vm h ∧ ∀ x ∈ sf, Safe Z EL U.vm h x) (fun _ _ _ _ _ => True) (fun _ U o U' => Out U Z EL rm Q o U')
theorem Met.start {y : MethodName} {bytes : ByteArray} {maxL : Nat} {ret : Option FieldType} {ws : List Jvm.Cond} {rm : Room} {sf : List Addr} {as : Array Value} {Q : Option Value → Heap → Prop} (hp : plainName y.cls = true) (hEL : EW Z a0 EL) (hO : Old Z Z.heap.size h) {Ls : Array Slot} (hent : ∀ m, entryFrame m as maxL = mkF m 0 Ls [])
    (body : ∀ p e s m below meth c T vm, Wk p l e rm s m as below meth c y.cls Z a0 EL h T h vm 0 0 → (∀ x ∈ sf, Safe Z EL vm h x) → c.code = bytes → c.maxLocals = maxL → meth.sig.returnType = ret → meth.name = y.name → Gets p e below (Out s Z EL rm Q) (T.setTop (mkF m 0 Ls []))) :
    Met l Z EL y bytes maxL ret ws rm sf as h Q := by
  refine MetFree.of_bodySF (plainFor_of_name hp) hisR ?_
  intro p e s m args below meth c s₁ Bd hml0 hP hK
  obtain ⟨rfl, hZ, hh, hC, hsf⟩ := hP
  have e0 : s₁.heap = h := by rw [← hh, Bd.state]; rfl
  have X0 : Stand p l e rm s m args below meth c s₁ [] 0 0 := Stand.of_body Bd
  have hown : s.vm.findClass y.cls = some m.cls := findClass_of_methodNamed Bd.named
  have W0 : Wk p l e rm s m args below meth c y.cls Z a0 EL h s₁ h s.vm 0 0 :=
    ⟨[], 0, X0, e0, ⟨State.Warmed39.refl s, fun j q hj hq => absurd (Array.getElem?_eq_some_iff.mp hq).1 (Nat.not_lt.mpr hj)⟩, Nat.zero_le _, hZ, hown, CHr.refl hC, Fr.nil _, hO, Bd.exec, hEL, hh, Bd.notSynchronized⟩
  have k := body p e s m below meth c s₁ s.vm W0 hsf Bd.bytes hml0 Bd.returns (name_of_methodNamed Bd.named Bd.method).1
  obtain ⟨u, o, h1, h2, h3, h4⟩ := k
  exact ⟨u, o, castTop (hent m) h1, h2, h3, h4⟩
theorem Wk.at (X : Wk p l e R s m args below meth c own Z a0 EL h0 T h vm cells slots) : At T m c below := by obtain ⟨_, _, X, -⟩ := X; exact X.here
theorem Wk.hx (X : Wk p l e R s m args below meth c own Z a0 EL h0 T h vm cells slots) : p.tables.exec = Jvm.exec := by obtain ⟨_, _, -, -, -, -, -, -, -, -, -, q, -⟩ := X; exact q
theorem Wk.hZ (X : Wk p l e R s m args below meth c own Z a0 EL h0 T h vm cells slots) : Z.Warmed39 vm := by obtain ⟨_, _, -, -, -, -, q, -⟩ := X; exact q
theorem Wk.eT (X : Wk p l e R s m args below meth c own Z a0 EL h0 T h vm cells slots) : T.heap = h := by obtain ⟨_, _, -, q, -⟩ := X; exact q
theorem Wk.old (X : Wk p l e R s m args below meth c own Z a0 EL h0 T h vm cells slots) : Old Z Z.heap.size h := by obtain ⟨_, _, -, -, -, -, -, -, -, -, q, -⟩ := X; exact q
theorem Wk.chv (X : Wk p l e R s m args below meth c own Z a0 EL h0 T h vm cells slots) : CHv Z EL vm h := by obtain ⟨_, _, -, -, -, -, -, -, q, -⟩ := X; exact q.1
theorem Wk.ew (X : Wk p l e R s m args below meth c own Z a0 EL h0 T h vm cells slots) : EW Z a0 EL := by obtain ⟨_, _, -, -, -, -, -, -, -, -, -, -, q, -⟩ := X; exact q
theorem Wk.ge (X : Wk p l e R s m args below meth c own Z a0 EL h0 T h vm cells slots) : Z.heap.size ≤ h.size := X.old.2.1
theorem Wk.sta (X : Wk p l e R s m args below meth c own Z a0 EL h0 T h vm cells slots) {C n d : String} {v : Value} (F : Sta Z Z.heap C n d v) : Sta Z h C n d v := F.ext X.old.2
theorem Wk.more (X : Wk p l e R s m args below meth c own Z a0 EL h0 T h vm cells slots) {cells' slots' : Nat} (q1 : cells ≤ cells') (q2 : slots ≤ slots') : Wk p l e R s m args below meth c own Z a0 EL h0 T h vm cells' slots' := by
  obtain ⟨locs, k, Y, r⟩ := X; exact ⟨locs, k, Y.mono q1 q2, r⟩
/-- a step that leaves heap and base -/
theorem Wk.still (X : Wk p l e R s m args below meth c own Z a0 EL h0 T h vm cells slots) {T' : State} (hY : ∀ locs, Stand p l e R (s.setVm vm) m args below meth c T locs cells slots → Stand p l e R (s.setVm vm) m args below meth c T' locs cells slots) (hT : T'.heap = h) : Wk p l e R s m args below meth c own Z a0 EL h0 T' h vm cells slots := by
  obtain ⟨locs, k, Y, -, r⟩ := X; exact ⟨locs, k, hY _ Y, hT, r⟩
theorem Wk.getF (X : Wk p l e R s m args below meth c own Z a0 EL h0 T h vm cells slots) {R0 O n d host : String} {index : Nat} (w : (Jvm.Cond.fieldLink own index R0 n d).before a0 Z = true ∨ (Jvm.Cond.fieldLinkNest own index R0 n d host).before a0 Z = true) (via : Via Z R0 O n d) {a : Addr} {v : Value} (F : Fld Z h a O n d v)
    (hg : g.method = m) {rest : List Value} (hs : g.stack = .ref a :: rest) (hd : decode c.code g.pc = .ok (.getfield index, 3))
    (k : ∀ T', Wk p l e R s m args below meth c own Z a0 EL h0 T' h vm cells slots → Gets p e below P (T'.setTop { g with pc := g.pc + 3, stack := v :: rest })) : Gets p e below P (T.setTop g) := by
  obtain ⟨locs, j, Y, eT, hS, hk, hZ, hown, hC, N, hO, hx, r⟩ := X
  obtain ⟨T', Y', e', st⟩ := RoadKit.getF Y hx hZ hown w via eT F hg hs hd
  exact (k T' ⟨locs, j, Y', e', hS, hk, hZ, hown, hC, N, hO, hx, r⟩).via st
theorem Wk.getS (X : Wk p l e R s m args below meth c own Z a0 EL h0 T h vm cells slots) {R0 O n d : String} {index : Nat} (w : (Jvm.Cond.fieldLink own index R0 n d).before a0 Z = true) (via : Via Z R0 O n d) {v : Value} (F : Sta Z h O n d v)
    (hg : g.method = m) (hd : decode c.code g.pc = .ok (.getstatic index, 3))
    (k : ∀ T', Wk p l e R s m args below meth c own Z a0 EL h0 T' h vm cells slots → Gets p e below P (T'.setTop { g with pc := g.pc + 3, stack := v :: g.stack })) : Gets p e below P (T.setTop g) := by
  obtain ⟨locs, j, Y, eT, hS, hk, hZ, hown, hC, N, hO, hx, r⟩ := X
  obtain ⟨T', Y', e', st⟩ := RoadKit.getS (host := "") Y hx hZ hown w via eT F hg hd
  exact (k T' ⟨locs, j, Y', e', hS, hk, hZ, hown, hC, N, hO, hx, r⟩).via st
theorem Wk.cast (X : Wk p l e R s m args below meth c own Z a0 EL h0 T h vm cells slots) {K : String} {index : Nat} (w : (Jvm.Cond.classLink own index K).before a0 Z = true) {a : Addr} (F : Ins Z h a K true)
    (hg : g.method = m) {rest : List Value} (hs : g.stack = .ref a :: rest) (hd : decode c.code g.pc = .ok (.checkcast index, 3))
    (k : ∀ T', Wk p l e R s m args below meth c own Z a0 EL h0 T' h vm cells slots → Gets p e below P (T'.setTop { g with pc := g.pc + 3 })) : Gets p e below P (T.setTop g) := by
  obtain ⟨locs, j, Y, eT, hS, hk, hZ, hown, hC, N, hO, hx, r⟩ := X
  obtain ⟨T', Y', e', st⟩ := RoadKit.castY Y hx hZ hown w eT F hg hs hd
  exact (k T' ⟨locs, j, Y', e', hS, hk, hZ, hown, hC, N, hO, hx, r⟩).via st
theorem Wk.inst (X : Wk p l e R s m args below meth c own Z a0 EL h0 T h vm cells slots) {K : String} {index : Nat} (w : (Jvm.Cond.classLink own index K).before a0 Z = true) {a : Addr} (F : Ins Z h a K true)
    (hg : g.method = m) {rest : List Value} (hs : g.stack = .ref a :: rest) (hd : decode c.code g.pc = .ok (.instanceof index, 3))
    (k : ∀ T', Wk p l e R s m args below meth c own Z a0 EL h0 T' h vm cells slots → Gets p e below P (T'.setTop { g with pc := g.pc + 3, stack := .int 1 :: rest })) : Gets p e below P (T.setTop g) := by
  obtain ⟨locs, j, Y, eT, hS, hk, hZ, hown, hC, N, hO, hx, r⟩ := X
  obtain ⟨T', Y', e', st⟩ := RoadKit.instY Y hx hZ hown w eT F hg hs hd
  exact (k T' ⟨locs, j, Y', e', hS, hk, hZ, hown, hC, N, hO, hx, r⟩).via st
theorem Wk.objInit (X : Wk p l e R s m args below meth c own Z a0 EL h0 T h vm cells slots) {idx : Nat} (w1 : (Jvm.Cond.methodLink own idx Lib.objectInit).before a0 Z = true) (w2 : (Jvm.Cond.instanceMethod Lib.objectInit).before a0 Z = true) (w3 : (Jvm.Cond.code Lib.objectInit ⟨#[0xb1]⟩ 1 none).before a0 Z = true)
    (hg : g.method = m) (hsize : g.locals.size = c.maxLocals) {a : Addr} {rest : List Value} (hs : g.stack = .ref a :: rest) (hd : decode c.code g.pc = .ok (.invokespecial idx, 3)) (hf : 1 ≤ R.frames) {W : Nat} (hW : 2 * g.monitorRoom + (rest.map fun v => v.category).sum ≤ W) (hl : W + 12 ≤ R.locals)
    (k : ∀ T', Wk p l e R s m args below meth c own Z a0 EL h0 T' h vm cells slots → Gets p e below P (T'.setTop { g with pc := g.pc + 3, stack := rest })) : Gets p e below P (T.setTop g) := by
  obtain ⟨locs, j, Y, eT, hS, hk, hZ, hown, hC, N, hO, hx, r⟩ := X
  obtain ⟨T', Y', e', st⟩ := RoadKit.initO Y hx hZ hown w1 w2 w3 eT hg hsize hs hd hf hW hl
  exact (k T' ⟨locs, j, Y', e', hS, hk, hZ, hown, hC, N, hO, hx, r⟩).via st
theorem Wk.new (X : Wk p l e R s m args below meth c own Z a0 EL h0 T h vm cells slots) {C : String} {index n : Nat} (w : (Jvm.Cond.classLink own index C).before a0 Z = true) (wi : (Jvm.Cond.instantiable C n).before a0 Z = true) (wz : (Jvm.Cond.initialized C).before a0 Z = true)
    (hg : g.method = m) (hd : decode c.code g.pc = .ok (.new index, 3)) (hc : cells + 1 ≤ R.cells) (hl : slots + n ≤ R.slots)
    (k : ∀ T' h' a, Wk p l e R s m args below meth c own Z a0 EL h0 T' h' vm (cells + 1) (slots + n) → CHr Z EL vm h vm h' → Ext h h' → a = h.size → Exa Z h' a C → Safe Z EL vm h' a → (∀ {O nm d : String} {ty : FieldType}, Laid Z a0 C O nm d → parseFieldDescriptor d = some ty → Fld Z h' a O nm d (defaultValue ty)) → Gets p e below P (T'.setTop { g with pc := g.pc + 3, stack := .ref a :: g.stack })) : Gets p e below P (T.setTop g) := by
  obtain ⟨locs, j, Y, eT, hS, hk, hZ, hown, hC, N, hO, hx, r⟩ := X
  obtain ⟨T', h', Y', e', E, A, D, -, st⟩ := RoadKit.newO Y hx hZ hown w wi wz eT hg hd hc hl
  have C1 : CHr Z EL vm h vm h' := CHr.ext E hC.1
  exact (k T' h' h.size ⟨locs, j, Y', e', hS, Nat.le_trans hk E.1, hZ, hown, hC.trans C1, N, hO.ext E, hx, r⟩ C1 E rfl A (Safe.ext E hC.1 (Safe.new (Nat.le_refl _))) D).via st
theorem Wk.newA (X : Wk p l e R s m args below meth c own Z a0 EL h0 T h vm cells slots) {aty : ArrayType} (w : (Jvm.Cond.arrayClass (newarray.typeOf aty)).before a0 Z = true) (hg : g.method = m) (hd : decode c.code g.pc = .ok (.newarray aty, 2)) {n : Int32} {rest : List Value} (hs : g.stack = .int n :: rest)
    (hn : ¬ n < 0) {cap : Nat} (hcap : n.toNatClampNeg ≤ cap) (hb : cap * 8 ≤ 536870912) (hc : cells + 1 ≤ R.cells) (hl : slots + cap ≤ R.slots)
    (k : ∀ T' h' a kc, Wk p l e R s m args below meth c own Z a0 EL h0 T' h' vm (cells + 1) (slots + cap) → CHr Z EL vm h vm h' → Ext h h' → a = h.size → Safe Z EL vm h' a → Arv Z h' a kc (newarray.typeOf aty) n [] (defaultValue (newarray.typeOf aty)) → Gets p e below P (T'.setTop { g with pc := g.pc + 2, stack := .ref a :: rest })) : Gets p e below P (T.setTop g) := by
  obtain ⟨locs, j, Y, eT, hS, hk, hZ, hown, hC, N, hO, hx, r⟩ := X
  obtain ⟨T', h', kc, Y', e', E, A, st⟩ := RoadKit.newP Y hx hZ w eT hg hd hs hn hcap hb hc hl
  have C1 : CHr Z EL vm h vm h' := CHr.ext E hC.1
  exact (k T' h' h.size kc ⟨locs, j, Y', e', hS, Nat.le_trans hk E.1, hZ, hown, hC.trans C1, N, hO.ext E, hx, r⟩ C1 E rfl (Safe.ext E hC.1 (Safe.new (Nat.le_refl _))) (Arv.new A hn)).via st
theorem Wk.putF (X : Wk p l e R s m args below meth c own Z a0 EL h0 T h vm cells slots) {R0 O n d host C : String} {index kk : Nat} {ty : FieldType} (w : (Jvm.Cond.fieldLink own index R0 n d).before a0 Z = true ∨ (Jvm.Cond.fieldLinkNest own index R0 n d host).before a0 Z = true) (via : Via Z R0 O n d)
    {a : Addr} {v old : Value} (F : Fld Z h a O n d old) (E : Exa Z h a C) (L : (Jvm.Cond.lays C O n d).before a0 Z = true ∨ ((Jvm.Cond.laysFinal C O n d).before a0 Z = true ∧ own = O ∧ meth.name = "<init>")) (wi : (Jvm.Cond.instantiable C kk).before a0 Z = true)
    (hty : parseFieldDescriptor d = some ty) (hn : narrow ty v = v) (hf : fits ty v = true) (hge : Z.heap.size ≤ a) (S : Safe Z EL vm h a) (hg : g.method = m) {rest : List Value} (hs : g.stack = v :: .ref a :: rest) (hd : decode c.code g.pc = .ok (.putfield index, 3))
    (k : ∀ T' h', Wk p l e R s m args below meth c own Z a0 EL h0 T' h' vm cells slots → CHr Z EL vm h vm h' → Wr h h' a (RoadKit.slotOf Z O n d) v → Fld Z h' a O n d v → Exa Z h' a C → Gets p e below P (T'.setTop { g with pc := g.pc + 3, stack := rest })) : Gets p e below P (T.setTop g) := by
  obtain ⟨locs, j, Y, eT, hS, hk, hZ, hown, hC, N, hO, hx, r⟩ := X
  obtain ⟨T', h', Y', e', W, st⟩ := RoadKit.putF Y hx hZ hown w via eT F E L wi hty hn hf hg hs hd
  have C1 : CHr Z EL vm h vm h' := CHr.wr W S hC.1
  exact (k T' h' ⟨_, j, Y', e', hS, Nat.le_trans hk (Nat.le_of_eq W.size.symm), hZ, hown, hC.trans C1, Fr.snoc Y' N hge, hO.wr W hge, hx, r⟩ C1 W (F.same W) (E.wr W)).via st
theorem padN {k : ClassId} {ty : FieldType} {z : Int32} {d : Value} {a : Addr} (F : Arv Z h a k ty z [] d) (n : Nat) : Arv Z h a k ty z (List.replicate n d) d := F.pad fun i => by
  rw [List.getD_eq_getElem?_getD, List.getElem?_replicate]; split <;> simp
theorem Wk.stC (X : Wk p l e R s m args below meth c own Z a0 EL h0 T h vm cells slots) {a : Addr} {kc : ClassId} {n : Int32} {vs : List Value} {dv : Value} (A : Arv Z h a kc .char n vs dv) {j x : Int32} {i : Nat} (hj0 : ¬ j < 0) (hj : j.toNatClampNeg = i) (hi : i < vs.length) (hin : i < n.toNatClampNeg) {v : Int32} (hv : nar .char x = v)
    (hge : Z.heap.size ≤ a) (hg : g.method = m) {rest : List Value} (hs : g.stack = .int x :: .int j :: .ref a :: rest) (hd : decode c.code g.pc = .ok (.castore, 1))
    (k : ∀ T' h', Wk p l e R s m args below meth c own Z a0 EL h0 T' h' vm cells slots → CHr Z EL vm h vm h' → Keep h h' [a] → Arv Z h' a kc .char n (vs.set i (.int v)) dv → Gets p e below P (T'.setTop { g with pc := g.pc + 1, stack := rest })) : Gets p e below P (T.setTop g) := by
  obtain ⟨locs, j', Y, eT, hS, hk, hZ, hown, hC, N, hO, hx, r⟩ := X
  obtain ⟨cl, A1, A2, A3, A4, A5, A6⟩ := A
  obtain ⟨T', h', Y', e', W, st⟩ := RoadKit.stC Y hx hZ eT A1 (j := j) (x := x) (fun q => q.elim hj0 (fun q => by rw [A3, hj] at q; omega)) hg hs hd
  have C1 : CHr Z EL vm h vm h' := CHr.wr W (Safe.arr hZ.alike A1 (by decide)) hC.1
  subst hv
  exact (k T' h' ⟨_, j', Y', e', hS, Nat.le_trans hk (Nat.le_of_eq W.size.symm), hZ, hown, hC.trans C1, Fr.snoc Y' N hge, hO.wr W hge, hx, r⟩ C1 (Keep.of_wr W) (Arv.set A1 A2 A3 A4 A5 A6 (fits_nar_char x) W i hj hi)).via st
theorem Wk.stB (X : Wk p l e R s m args below meth c own Z a0 EL h0 T h vm cells slots) {a : Addr} {kc : ClassId} {n : Int32} {vs : List Value} {dv : Value} (A : Arv Z h a kc .byte n vs dv) {j x : Int32} {i : Nat} (hj0 : ¬ j < 0) (hj : j.toNatClampNeg = i) (hi : i < vs.length) (hin : i < n.toNatClampNeg) {v : Int32} (hv : nar .byte x = v) (S : Safe Z EL vm h a)
    (hge : Z.heap.size ≤ a) (hg : g.method = m) {rest : List Value} (hs : g.stack = .int x :: .int j :: .ref a :: rest) (hd : decode c.code g.pc = .ok (.bastore, 1))
    (k : ∀ T' h', Wk p l e R s m args below meth c own Z a0 EL h0 T' h' vm cells slots → CHr Z EL vm h vm h' → Keep h h' [a] → Arv Z h' a kc .byte n (vs.set i (.int v)) dv → Gets p e below P (T'.setTop { g with pc := g.pc + 1, stack := rest })) : Gets p e below P (T.setTop g) := by
  obtain ⟨locs, j', Y, eT, hS, hk, hZ, hown, hC, N, hO, hx, r⟩ := X
  obtain ⟨cl, A1, A2, A3, A4, A5, A6⟩ := A
  obtain ⟨T', h', Y', e', W, st⟩ := RoadKit.stB Y hx hZ eT A1 (j := j) (x := x) (fun q => q.elim hj0 (fun q => by rw [A3, hj] at q; omega)) hg hs hd
  have C1 : CHr Z EL vm h vm h' := CHr.wr W S hC.1
  subst hv
  exact (k T' h' ⟨_, j', Y', e', hS, Nat.le_trans hk (Nat.le_of_eq W.size.symm), hZ, hown, hC.trans C1, Fr.snoc Y' N hge, hO.wr W hge, hx, r⟩ C1 (Keep.of_wr W) (Arv.set A1 A2 A3 A4 A5 A6 (fits_nar_byte x) W i hj hi)).via st
theorem Wk.alen (X : Wk p l e R s m args below meth c own Z a0 EL h0 T h vm cells slots) {a : Addr} {kc : ClassId} {ty : FieldType} {n : Int32} {vs : List Value} {dv : Value} (A : Arv Z h a kc ty n vs dv)
    (hg : g.method = m) {rest : List Value} (hs : g.stack = .ref a :: rest) (hd : decode c.code g.pc = .ok (.arraylength, 1))
    (k : Gets p e below P (T.setTop { g with pc := g.pc + 1, stack := .int n :: rest })) : Gets p e below P (T.setTop g) := by
  obtain ⟨locs, j', Y, eT, hS, hk, hZ, hown, hC, N, hO, hx, r⟩ := X
  obtain ⟨cl, A1, A2, A3, A4, A5, A6⟩ := A
  refine k.via fun u q => ?_
  refine Y.arraylength hx (by rw [eT]; exact A1.1) (State.isArrayOf_alike hZ.alike A1.2.1) hg hs hd _ ?_
  rw [A3, (back32 A4).1]; exact q
theorem Wk.ldC (X : Wk p l e R s m args below meth c own Z a0 EL h0 T h vm cells slots) {a : Addr} {kc : ClassId} {n : Int32} {vs : List Value} {dv v : Value} (A : Arv Z h a kc .char n vs dv) {j : Int32} {i : Nat} (hj0 : ¬ j < 0) (hj : j.toNatClampNeg = i) (hin : i < n.toNatClampNeg) (hv : vs.getD i dv = v)
    (hg : g.method = m) {rest : List Value} (hs : g.stack = .int j :: .ref a :: rest) (hd : decode c.code g.pc = .ok (.caload, 1))
    (k : Gets p e below P (T.setTop { g with pc := g.pc + 1, stack := v :: rest })) : Gets p e below P (T.setTop g) := by
  obtain ⟨locs, j', Y, eT, hS, hk, hZ, hown, hC, N, hO, hx, r⟩ := X
  obtain ⟨cl, A1, A2, A3, A4, A5, A6⟩ := A
  refine k.via fun u q => ?_
  exact Y.caload hx (j := j) (v := v) (by rw [eT]; exact A1.1) (State.isArrayOf_alike hZ.alike A1.2.1) A1.2.2 (fun q => q.elim hj0 (fun q => by rw [A3, hj] at q; omega)) (by rw [hj, A5 i (by rw [A3]; exact hin), hv]) hg hs hd _ q
theorem Wk.ldB (X : Wk p l e R s m args below meth c own Z a0 EL h0 T h vm cells slots) {a : Addr} {kc : ClassId} {n : Int32} {vs : List Value} {dv v : Value} (A : Arv Z h a kc .byte n vs dv) {j : Int32} {i : Nat} (hj0 : ¬ j < 0) (hj : j.toNatClampNeg = i) (hin : i < n.toNatClampNeg) (hv : vs.getD i dv = v)
    (hg : g.method = m) {rest : List Value} (hs : g.stack = .int j :: .ref a :: rest) (hd : decode c.code g.pc = .ok (.baload, 1))
    (k : Gets p e below P (T.setTop { g with pc := g.pc + 1, stack := v :: rest })) : Gets p e below P (T.setTop g) := by
  obtain ⟨locs, j', Y, eT, hS, hk, hZ, hown, hC, N, hO, hx, r⟩ := X
  obtain ⟨cl, A1, A2, A3, A4, A5, A6⟩ := A
  refine k.via fun u q => ?_
  exact Y.baloadBytes hx (j := j) (v := v) (by rw [eT]; exact A1.1) (State.isArrayOf_alike hZ.alike A1.2.1) A1.2.2 (fun q => q.elim hj0 (fun q => by rw [A3, hj] at q; omega)) (by rw [hj, A5 i (by rw [A3]; exact hin), hv]) hg hs hd _ q
theorem Wk.ldR (X : Wk p l e R s m args below meth c own Z a0 EL h0 T h vm cells slots) {a : Addr} {kc : ClassId} {ty : FieldType} {n : Int32} {vs : List Value} {dv v : Value} (A : Arv Z h a kc ty n vs dv) (hty : ty.isReference = true) {j : Int32} {i : Nat} (hj0 : ¬ j < 0) (hj : j.toNatClampNeg = i) (hin : i < n.toNatClampNeg) (hv : vs.getD i dv = v)
    (hg : g.method = m) {rest : List Value} (hs : g.stack = .int j :: .ref a :: rest) (hd : decode c.code g.pc = .ok (.aaload, 1))
    (k : Gets p e below P (T.setTop { g with pc := g.pc + 1, stack := v :: rest })) : Gets p e below P (T.setTop g) := by
  obtain ⟨locs, j', Y, eT, hS, hk, hZ, hown, hC, N, hO, hx, r⟩ := X
  obtain ⟨cl, A1, A2, A3, A4, A5, A6⟩ := A
  refine k.via fun u q => ?_
  exact Y.aaload hx (j := j) (v := v) (by rw [eT]; exact A1.1) (State.isArrayOf_alike hZ.alike A1.2.1) hty A1.2.2 (fun q => q.elim hj0 (fun q => by rw [A3, hj] at q; omega)) (by rw [hj, A5 i (by rw [A3]; exact hin), hv]) hg hs hd _ q
theorem Wk.ldcI (X : Wk p l e R s m args below meth c own Z a0 EL h0 T h vm cells slots) {index : Nat} {v : Int32} (w : (Jvm.Cond.constant own index v).before a0 Z = true) (hg : g.method = m) (hd : decode c.code g.pc = .ok (.ldc index, 2))
    (k : Gets p e below P (T.setTop { g with pc := g.pc + 2, stack := .int v :: g.stack })) : Gets p e below P (T.setTop g) := by
  obtain ⟨locs, j', Y, eT, hS, hk, hZ, hown, hC, N, hO, hx, r⟩ := X
  exact k.via fun u q => Y.ldcI hx hown (mv (s := s.setVm vm) hZ w) hg hd q
theorem Wk.acmpW (X : Wk p l e R s m args below meth c own Z a0 EL h0 T h vm cells slots) (hx : p.tables.exec = Jvm.exec) (hg : g.method = m) {cd : ACond} {x y : Value} (h1 : x.isRef = true) (h2 : y.isRef = true) {rest : List Value} {o : Int} {pc0 pc' : Nat} {same : Bool} (hpc : g.pc = pc0)
    (hd : decode c.code g.pc = .ok (.if_acmp cd o, 3)) (hs : g.stack = y :: x :: rest) (hq : decide (x = y) = same) (ho : 0 ≤ (pc0 : Int) + o) (hp : pc' = if acV cd same = true then ((pc0 : Int) + o).toNat else pc0 + 3)
    (k : Gets p e below P (T.setTop { g with pc := pc', stack := rest })) : Gets p e below P (T.setTop g) := by
  obtain ⟨locs, j', Y, -⟩ := X
  exact k.via fun u q => RoadKit.acmp Y hx hg h1 h2 hpc hd hs hq ho hp q
/-- ldc of a String constant, what it holds not asked -/
theorem Wk.ldcO (X : Wk p l e R s m args below meth c own Z a0 EL h0 T h vm cells slots) {text : String} {index : Nat} (w : (Jvm.Cond.stringLink own index text).before a0 Z = true) (wS : ∀ a ∈ Bundle.stringAtoms, a.before a0 Z = true)
    (hg : g.method = m) (hd : decode c.code g.pc = .ok (.ldc index, 2)) {n : Nat} (hn : 4 * text.toList.length ≤ n) (hbig : n ≤ 536870912) (hc : cells + 2 ≤ R.cells) (hl : slots + (n + 4) ≤ R.slots)
    (k : ∀ T' h' vm' a, Wk p l e R s m args below meth c own Z a0 EL h0 T' h' vm' (cells + 2) (slots + (n + 4)) → CHr Z EL vm h vm' h' → Ext h h' → Gets p e below P (T'.setTop { g with pc := g.pc + 2, stack := .ref a :: g.stack })) : Gets p e below P (T.setTop g) := by
  obtain ⟨locs, j, Y, eT, hS, hk, hZ, hown, hC, N, hO, hx, hEL, r⟩ := X
  obtain ⟨a, T', h', k1, Y', e', E, hS', hk', hZ', hown', C1, -, st⟩ := RoadKit.ldcOH Y hx hZ hown w wS eT hS hk hEL hC.1 hg hd hn hbig hc hl
  exact (k T' h' T'.vm a ⟨locs, k1, Y', e', hS', hk', hZ', hown', hC.trans C1, N, hO.ext E, hx, hEL, r⟩ C1 E).via st
/-- ldc of a String constant that is read -/
theorem Wk.ldcC (X : Wk p l e R s m args below meth c own Z a0 EL h0 T h vm cells slots) {text : String} {index : Nat} (w : (Jvm.Cond.stringLink own index text).before a0 Z = true) (wS : ∀ a ∈ Bundle.stringAtoms, a.before a0 Z = true) (hmem : (own, index) ∈ EL)
    {vs : List Value} {z : Int32} (ht : (∀ c ∈ text.toList, c.toNat < 256) ∧ text.toList.map (fun c => Value.int (Jvm.Lit.byteI c.toNat.toUInt16)) = vs) (hz : ¬ z < 0) (hvl : z.toNatClampNeg = vs.length)
    (hg : g.method = m) (hd : decode c.code g.pc = .ok (.ldc index, 2)) {n : Nat} (hn : 4 * text.toList.length ≤ n) (hbig : n ≤ 536870912) (hc : cells + 2 ≤ R.cells) (hl : slots + (n + 4) ≤ R.slots)
    (k : ∀ T' h' vm' a b kb, Wk p l e R s m args below meth c own Z a0 EL h0 T' h' vm' (cells + 2) (slots + (n + 4)) → CHr Z EL vm h vm' h' → Ext h h' → Exa Z h' a "java/lang/String" → Fld Z h' a "java/lang/String" "coder" "B" (.int 0) → Fld Z h' a "java/lang/String" "value" "[B" (.ref b) → Arv Z h' b kb .byte z vs (.int 0) → (∀ x, Safe Z EL vm' h' x → x ≠ a ∧ x ≠ b) → Gets p e below P (T'.setTop { g with pc := g.pc + 2, stack := .ref a :: g.stack })) : Gets p e below P (T.setTop g) := by
  obtain ⟨locs, j, Y, eT, hS, hk, hZ, hown, hC, N, hO, hx, hEL, r⟩ := X
  obtain ⟨a, T', h', k1, b, kb, Y', e', E, hS', hk', hZ', hown', q1, q2, q3, q4, -, -, C1, -, q5, st⟩ := RoadKit.ldcCH Y hx hZ hown w wS eT hS hk hEL hmem hC.1 ht hz hvl hg hd hn hbig hc hl
  exact (k T' h' T'.vm a b kb ⟨locs, k1, Y', e', hS', hk', hZ', hown', hC.trans C1, N, hO.ext E, hx, hEL, r⟩ C1 E q1 q2 q3 q4 q5).via st
/-- who pays a call, in one shape -/
def Pay (l : Launch) (R : Room) (p : Program) (e : Env) (below : List Frame) (s : State) (args : Array Value) (y : MethodName) (len W : Nat) (Z : State) (EL : List (String × Nat)) (vm : Vm) (h : Heap) (as : Array Value) (rc rs : Nat) (Q : Option Value → Heap → Prop) : Prop :=
  BackS l R p e below (s.setVm vm) args y len W (fun A a => a = as ∧ A.U.heap = h ∧ A.cells + rc ≤ R.cells ∧ A.slots + rs ≤ R.slots)
    (fun A _ v B => ∃ L, (Q v B.U.heap ∧ Fr Z.heap.size L ∧ Old Z Z.heap.size B.U.heap) ∧ B.locs = A.locs ++ L ∧ B.cells = A.cells + rc ∧ B.slots = A.slots + rs ∧ CHr Z EL vm h B.U.vm B.U.heap)
theorem safe_later {x : Addr} (C : CHr Z EL vm h vm' h) (S : Safe Z EL vm h x) : Safe Z EL vm' h x := by
  by_cases q : x < h.size
  · exact C.safe q S
  · exact Safe.new (Nat.not_lt.mp q)
theorem Wk.payM (X : Wk p l e R s m args below meth c own Z a0 EL h0 T h vm cells slots) {y : MethodName} {bytes : ByteArray} {maxL : Nat} {ret : Option FieldType} {rm : Room} {sf : List Addr} {as : Array Value} {Q : Option Value → Heap → Prop} {len W : Nat} (M : Met l Z EL y bytes maxL ret [] rm sf as h Q) (hsf : ∀ x ∈ sf, Safe Z EL vm h x)
    (wc : (Jvm.Cond.code y bytes maxL ret).before a0 Z = true) (wz : (Jvm.Cond.initialized y.cls).before a0 Z = true) (hf : rm.frames + 1 ≤ R.frames) (hl : W + (maxL + 11) + rm.locals ≤ R.locals) : Pay l R p e below s args y len W Z EL vm h as rm.cells rm.slots Q := by
  have hZ := X.hZ
  have hEL := X.ew
  have H := X.chv
  exact BackS.of_freeW (bytes := bytes) (maxL := maxL) (ret := ret) (E := fun _ first o t L k n => k = rm.cells ∧ n = rm.slots ∧ (∃ v, o = .returned v ∧ (Q v t.heap ∧ Fr Z.heap.size L ∧ Old Z Z.heap.size t.heap)) ∧ CHr Z EL first.vm first.heap t.vm t.heap) M hf hl
    (fun m meth c A a Y hp => have hU : Z.Warmed39 A.U.vm := wtrans (s := s.setVm vm) hZ Y.warmed
      ⟨by show (Jvm.Cond.and _ .tt).before a A.U = true; rw [Cond.before_and, mv hU wc]; rfl, mv hU wc, mv hU wz, hp.2.2.1, hp.2.2.2⟩)
    (fun m meth c A a g mk Y hp => ⟨hp.1, wtrans (s := s.setVm vm) hZ Y.warmed, hp.2.1, (CHv.at Y hZ hEL H).1, fun x hx => safe_later (vm' := A.U.vm) (CHv.at Y hZ hEL H) (hsf x hx)⟩) (fun _ _ _ _ _ _ _ _ _ => trivial)
    (fun _ _ _ _ ⟨v, L, h1, h2, h3, h4⟩ => ⟨L, _, _, h4, rfl, rfl, ⟨v, h1, h2⟩, h3⟩)
    (fun m meth c A a g mk v t L k n Y hp _ _ ⟨e1, e2, ⟨v', e3, e4⟩, e5⟩ => by
      cases e3; subst e1 e2
      refine ⟨L, e4, rfl, rfl, rfl, (CHv.at Y hZ hEL H).trans ?_⟩
      rw [← hp.2.1]; exact e5)
/-- a narrow payer of the library's -/
theorem Wk.payN (X : Wk p l e R s m args below meth c own Z a0 EL h0 T h vm cells slots) {y : MethodName} {as : Array Value} {rc rs : Nat} {Qn : Option Value → Heap → List Loc → Prop} {Q : Option Value → Heap → Prop} {len W : Nat} {ws : List Addr}
    (hK : Back l R p e below (s.setVm vm) args y len W (fun A a => a = as ∧ A.U.heap = h ∧ A.cells + rc ≤ R.cells ∧ A.slots + rs ≤ R.slots) (fun A _ v B => ∃ L, Qn v B.U.heap L ∧ B.locs = A.locs ++ L ∧ B.cells = A.cells + rc ∧ B.slots = A.slots + rs))
    (hq : ∀ v u L, Qn v u L → Fr Z.heap.size L ∧ Keep h u ws ∧ Q v u) (hws : ∀ x ∈ ws, Z.heap.size ≤ x) (hsafe : ∀ x ∈ ws, Safe Z EL vm h x) : Pay l R p e below s args y len W Z EL vm h as rc rs Q := by
  intro m' meth' c' A g' ig mk a Y hg hsize hd hW hn hpre
  obtain ⟨v, B, Y', ⟨L, q1, q2, q3, q4⟩, hsteps⟩ := hK m' meth' c' A g' ig mk a Y hg hsize hd hW hn hpre
  obtain ⟨N, K, q5⟩ := hq _ _ _ q1
  have C1 : CHr Z EL vm h vm B.U.heap := CHr.keep K hsafe X.chv
  have C2 := CHv.at Y' X.hZ X.ew C1.1
  exact ⟨v, B, Y'.retabled Y'.warmed.wide, Y'.warmed.since _, by rw [hpre.2.1]; exact K.1, ⟨L, ⟨q5, N, X.old.keep K hws⟩, q2, q3, q4, C1.trans C2⟩, hsteps⟩
theorem Wk.after (X : Wk p l e R s m args below meth c own Z a0 EL h0 T h vm cells slots) {locs : List Loc} {j : Nat} (hS : s.Since vm j) (hk : j ≤ h.size) (hC : CHr Z EL s.vm h0 vm h) (N : Fr Z.heap.size locs) (hO : Old Z Z.heap.size h) (hown : vm.findClass own = some m.cls)
    {B : Pt} {L : List Loc} {rc rs : Nat} (Y : Stand p l e R ((s.setVm vm).setVm B.U.vm) m args below meth c B.U B.locs B.cells B.slots) (S : (s.setVm vm).Since B.U.vm B.U.heap.size) (hgr : h.size ≤ B.U.heap.size) (q2 : B.locs = locs ++ L) (q3 : B.cells = cells + rc) (q4 : B.slots = slots + rs) (NL : Fr Z.heap.size L) (OL : Old Z Z.heap.size B.U.heap) (C1 : CHr Z EL vm h B.U.vm B.U.heap) :
    Wk p l e R s m args below meth c own Z a0 EL h0 B.U B.U.heap B.U.vm (cells + rc) (slots + rs) := by
  refine ⟨locs ++ L, B.U.heap.size, ?_, rfl, hS.trans S (Nat.le_trans hk hgr), Nat.le_refl _, State.Warmed39.trans (t := s.setVm vm) X.hZ S.1, ?_, hC.trans C1, N.app NL, OL, X.hx, X.ew, ?_⟩
  · rw [← q2, ← q3, ← q4]; exact Y
  · rw [S.1.alike.findClass]; exact hown
  · obtain ⟨_, _, -, -, -, -, -, -, -, -, -, -, -, r⟩ := X; exact r
theorem Wk.callS (X : Wk p l e R s m args below meth c own Z a0 EL h0 T h vm cells slots) {index : Nat} {y : MethodName} {bytes : ByteArray} {maxL : Nat} {ret : Option FieldType} (w1 : (Jvm.Cond.methodLink own index y).before a0 Z = true) (w2 : (Jvm.Cond.static y).before a0 Z = true) (w3 : (Jvm.Cond.initialized y.cls).before a0 Z = true) (w4 : (Jvm.Cond.code y bytes maxL ret).before a0 Z = true)
    (hy : y.cls ≠ "java/lang/invoke/MethodHandle" ∧ y.cls ≠ "java/lang/invoke/VarHandle") {W rc rs : Nat} {as : Array Value} {Q : Option Value → Heap → Prop} (hK : Pay l R p e below s args y 3 W Z EL vm h as rc rs Q)
    (hg : g.method = m) (hsize : g.locals.size = c.maxLocals) {argsL rest : List Value} (hlen : ∀ sig, parseMethodDescriptor y.desc = some sig → argsL.length = sig.parameters.length) (hstack : g.stack = argsL.reverse ++ rest) (has : argsL.toArray = as) (hW : 2 * g.monitorRoom + (rest.map fun v => v.category).sum ≤ W)
    (hdg : decode c.code g.pc = .ok (.invokestatic index, 3)) (hc : cells + rc ≤ R.cells) (hs : slots + rs ≤ R.slots)
    (k : ∀ T' h' vm' v, Wk p l e R s m args below meth c own Z a0 EL h0 T' h' vm' (cells + rc) (slots + rs) → CHr Z EL vm h vm' h' → h.size ≤ h'.size → Q v h' → Gets p e below P (T'.setTop { g with pc := g.pc + 3, stack := v.toList ++ rest })) : Gets p e below P (T.setTop g) := by
  have X' := X
  obtain ⟨locs, j, Y, eT, hS, hk, hZ, hown, hC, N, hO, hx, r⟩ := X
  obtain ⟨v, vm₁, B, hW1, Y', S, hgr, ⟨L, ⟨q1, NL, OL⟩, q2, q3, q4, C1⟩, st⟩ := RoadKit.callSS Y hx hown (mv (s := s.setVm vm) hZ w1) (mv (s := s.setVm vm) hZ w2) (mv (s := s.setVm vm) hZ w3) (mv (s := s.setVm vm) hZ w4) hy hK hg hsize hlen hstack hW hdg (fun vm₁ _ => ⟨has, eT, hc, hs⟩)
  exact (k B.U B.U.heap B.U.vm v (X'.after hS hk hC N hO hown Y' S (eT ▸ hgr) q2 q3 q4 NL OL C1) C1 (eT ▸ hgr) q1).steps st
theorem Wk.callI (X : Wk p l e R s m args below meth c own Z a0 EL h0 T h vm cells slots) {index : Nat} {y : MethodName} {bytes : ByteArray} {maxL : Nat} (hy1 : y.name = "<init>") (w1 : (Jvm.Cond.methodLink own index y).before a0 Z = true) (w2 : (Jvm.Cond.instanceMethod y).before a0 Z = true) (w4 : (Jvm.Cond.code y bytes maxL none).before a0 Z = true)
    (hy : y.cls ≠ "java/lang/invoke/MethodHandle" ∧ y.cls ≠ "java/lang/invoke/VarHandle") {W rc rs : Nat} {as : Array Value} {Q : Option Value → Heap → Prop} (hK : Pay l R p e below s args y 3 W Z EL vm h as rc rs Q)
    (hg : g.method = m) (hsize : g.locals.size = c.maxLocals) {a : Addr} {argsL rest : List Value} (hlen : ∀ sig, parseMethodDescriptor y.desc = some sig → argsL.length = sig.parameters.length) (hstack : g.stack = argsL.reverse ++ .ref a :: rest) (has : (Value.ref a :: argsL).toArray = as) (hW : 2 * g.monitorRoom + (rest.map fun v => v.category).sum ≤ W)
    (hdg : decode c.code g.pc = .ok (.invokespecial index, 3)) (hc : cells + rc ≤ R.cells) (hs : slots + rs ≤ R.slots)
    (k : ∀ T' h' vm' v, Wk p l e R s m args below meth c own Z a0 EL h0 T' h' vm' (cells + rc) (slots + rs) → CHr Z EL vm h vm' h' → h.size ≤ h'.size → Q v h' → Gets p e below P (T'.setTop { g with pc := g.pc + 3, stack := v.toList ++ rest })) : Gets p e below P (T.setTop g) := by
  have X' := X
  obtain ⟨locs, j, Y, eT, hS, hk, hZ, hown, hC, N, hO, hx, r⟩ := X
  obtain ⟨v, vm₁, B, hW1, Y', S, hgr, ⟨L, ⟨q1, NL, OL⟩, q2, q3, q4, C1⟩, st⟩ := Y.specialBackS hx hy1 hown (mv (s := s.setVm vm) hZ w1) (mv (s := s.setVm vm) hZ w2) (mv (s := s.setVm vm) hZ w4) hy hK hg hsize (Steps.refl _) hlen hstack hW hdg (fun vm₁ _ => ⟨has, eT, hc, hs⟩)
  exact (k B.U B.U.heap B.U.vm v (X'.after hS hk hC N hO hown Y' S (eT ▸ hgr) q2 q3 q4 NL OL C1) C1 (eT ▸ hgr) q1).steps st
theorem Wk.callV (X : Wk p l e R s m args below meth c own Z a0 EL h0 T h vm cells slots) {C : String} {index : Nat} {y z : MethodName} (w1 : (Jvm.Cond.methodLink own index y).before a0 Z = true) (w2 : (Jvm.Cond.declares y).before a0 Z = true) (w3 : (Jvm.Cond.selects C y z).before a0 Z = true) (w4 : (Jvm.Cond.instanceMethod z).before a0 Z = true)
    (hnf : ∀ s' : State, Z.Warmed39 s'.vm → NotFace s' y)
    (hy : y.cls ≠ "java/lang/invoke/MethodHandle" ∧ y.cls ≠ "java/lang/invoke/VarHandle") {W rc rs : Nat} {as : Array Value} {Q : Option Value → Heap → Prop} (hK : Pay l R p e below s args z 3 W Z EL vm h as rc rs Q) {b : Addr} (E : Exa Z h b C)
    (hg : g.method = m) (hsize : g.locals.size = c.maxLocals) {argsL rest : List Value} (hlen : ∀ sig, parseMethodDescriptor y.desc = some sig → argsL.length = sig.parameters.length) (hstack : g.stack = argsL.reverse ++ .ref b :: rest) (has : (Value.ref b :: argsL).toArray = as) (hW : 2 * g.monitorRoom + (rest.map fun v => v.category).sum ≤ W)
    (hdg : decode c.code g.pc = .ok (.invokevirtual index, 3)) (hc : cells + rc ≤ R.cells) (hs : slots + rs ≤ R.slots)
    (k : ∀ T' h' vm' v, Wk p l e R s m args below meth c own Z a0 EL h0 T' h' vm' (cells + rc) (slots + rs) → CHr Z EL vm h vm' h' → h.size ≤ h'.size → Q v h' → Gets p e below P (T'.setTop { g with pc := g.pc + 3, stack := v.toList ++ rest })) : Gets p e below P (T.setTop g) := by
  have X' := X
  obtain ⟨locs, j, Y, eT, hS, hk, hZ, hown, hC, N, hO, hx, r⟩ := X
  obtain ⟨cq, kq, qa, qb, qc⟩ := RoadKit.isOf (s := s.setVm vm) hZ eT E
  obtain ⟨v, vm₁, B, hW1, Y', S, hgr, ⟨L, ⟨q1, NL, OL⟩, q2, q3, q4, C1⟩, st⟩ := Y.virtualBackS hx hown (mv (s := s.setVm vm) hZ w1) (mv (s := s.setVm vm) hZ w2) (hnf (s.setVm vm) hZ) (mv (s := s.setVm vm) hZ w3) (mv (s := s.setVm vm) hZ w4) hy hK qa qc hg hsize (Steps.refl _) hlen hstack hW hdg (fun vm₁ _ => ⟨has, eT, hc, hs⟩)
  exact (k B.U B.U.heap B.U.vm v (X'.after hS hk hC N hO hown Y' S (eT ▸ hgr) q2 q3 q4 NL OL C1) C1 (eT ▸ hgr) q1).steps st
theorem nfs {y z : MethodName} {C : String} (hc : y = z) (w : (Jvm.Cond.selects C y z).before a0 Z = true) : ∀ s' : State, Z.Warmed39 s'.vm → NotFace s' y := fun s' hZ => by
  subst hc; exact notFace_of_selects (args := #[]) (mv (s := s') hZ w)
theorem Wk.callF (X : Wk p l e R s m args below meth c own Z a0 EL h0 T h vm cells slots) {C : String} {index count : Nat} {xi y : MethodName} (w1 : (Jvm.Cond.methodLink own index xi).before a0 Z = true) (w2 : (Jvm.Cond.declares xi).before a0 Z = true) (w3 : (Jvm.Cond.interfaceMethod xi.cls xi.cls xi.name xi.desc).before a0 Z = true) (e3 : ((Jvm.Cond.interfaceMethod xi.cls xi.cls xi.name xi.desc).onTables && (Jvm.Cond.interfaceMethod xi.cls xi.cls xi.name xi.desc).keepsFace) = true) (w4 : (Jvm.Cond.selects C xi y).before a0 Z = true) (w5 : (Jvm.Cond.instanceMethod y).before a0 Z = true)
    (w6 : (Jvm.Cond.publicMethod y).before a0 Z = true) (w7 : (Jvm.Cond.unhidden C xi.name xi.desc).before a0 Z = true) (w8 : (Jvm.Cond.castable C xi.cls).before a0 Z = true)
    (hy : xi.cls ≠ "java/lang/invoke/MethodHandle" ∧ xi.cls ≠ "java/lang/invoke/VarHandle") {W rc rs : Nat} {as : Array Value} {Q : Option Value → Heap → Prop} (hK : Pay l R p e below s args y 5 W Z EL vm h as rc rs Q) {b : Addr} (E : Exa Z h b C)
    (hg : g.method = m) (hsize : g.locals.size = c.maxLocals) {argsL rest : List Value} (hlen : ∀ sig, parseMethodDescriptor xi.desc = some sig → argsL.length = sig.parameters.length) (hstack : g.stack = argsL.reverse ++ .ref b :: rest) (has : (Value.ref b :: argsL).toArray = as) (hW : 2 * g.monitorRoom + (rest.map fun v => v.category).sum ≤ W)
    (hdg : decode c.code g.pc = .ok (.invokeinterface index count, 5)) (hc : cells + rc ≤ R.cells) (hs : slots + rs ≤ R.slots)
    (k : ∀ T' h' vm' v, Wk p l e R s m args below meth c own Z a0 EL h0 T' h' vm' (cells + rc) (slots + rs) → CHr Z EL vm h vm' h' → h.size ≤ h'.size → Q v h' → Gets p e below P (T'.setTop { g with pc := g.pc + 5, stack := v.toList ++ rest })) : Gets p e below P (T.setTop g) := by
  have X' := X
  obtain ⟨locs, j, Y, eT, hS, hk, hZ, hown, hC, N, hO, hx, r⟩ := X
  obtain ⟨cq, kq, qa, qb, qc⟩ := RoadKit.isOf (s := s.setVm vm) hZ eT E
  obtain ⟨v, vm₁, B, hW1, Y', S, hgr, ⟨L, ⟨q1, NL, OL⟩, q2, q3, q4, C1⟩, st⟩ := Y.interfaceBackS hx hown (mv (s := s.setVm vm) hZ w1) (mv (s := s.setVm vm) hZ w2) (mv (s := s.setVm vm) hZ w3 e3) (mv (s := s.setVm vm) hZ w4) (mv (s := s.setVm vm) hZ w5) (mv (s := s.setVm vm) hZ w6) (mv (s := s.setVm vm) hZ w7) (mv (s := s.setVm vm) hZ w8) hy hK qa qb qc hg hsize (Steps.refl _) hlen hstack hW hdg (fun vm₁ _ => ⟨has, eT, hc, hs⟩)
  exact (k B.U B.U.heap B.U.vm v (X'.after hS hk hC N hO hown Y' S (eT ▸ hgr) q2 q3 q4 NL OL C1) C1 (eT ▸ hgr) q1).steps st
theorem Wk.done (X : Wk p l e R s m args below meth c own Z a0 EL h0 T h vm cells slots) {Q : Option Value → Heap → Prop} {rm : Room} {v : Option Value} (hv : meth.sig.returnType = none → v = none) (hc : cells ≤ rm.cells) (hs : slots ≤ rm.slots) (q : Q v h)
    (st : ∀ fs, Stand p l e R (s.setVm vm) m args below meth c T [] cells slots ∨ True → (∀ (f : JFrame) (acts : List Action), f.method = m → f.locked = none → f.entered = [] → (doReturn e (T.setTop f) acts v).1 = T.setFrames fs) → Steps p.tables e below (T.setTop g) (T.setFrames fs)) : Gets p e below (Out s Z EL rm Q) (T.setTop g) := by
  obtain ⟨locs, j, Y, eT, hS, hk, hZ, hown, hC, N, hO, hx, hEL, hh, hlk⟩ := X
  obtain ⟨fs, hr, hrun, hended, hq⟩ := Y.leaveW hS (by rw [eT]; exact hk) (v := v) hv
  refine ⟨_, _, st fs (Or.inr trivial) hr, hrun, hended, v, locs, rfl, ⟨?_, N, ?_⟩, ?_, ?_⟩
  · show Q v T.heap; rw [eT]; exact q
  · show Old Z Z.heap.size T.heap; rw [eT]; exact hO
  · show CHr Z EL s.vm s.heap T.vm T.heap
    rw [hh, eT]
    exact hC.trans (CHv.at Y hZ hEL hC.1)
  · obtain ⟨r1, r2, r3, r4⟩ := hq
    exact ⟨r1, r2, r3, r4.mono hc hs⟩
theorem Wk.retV (X : Wk p l e R s m args below meth c own Z a0 EL h0 T h vm cells slots) {Q : Option Value → Heap → Prop} {rm : Room} (hret : meth.sig.returnType = none) {pc : Nat} {Ls : Array Slot} (hd : decode c.code pc = .ok (.return_, 1)) (hc : cells ≤ rm.cells) (hs : slots ≤ rm.slots) (q : Q none h) : Gets p e below (Out s Z EL rm Q) (T.setTop (mkF m pc Ls [])) := by
  have X' := X
  obtain ⟨locs, j, Y, -⟩ := X'
  exact X.done (fun _ => rfl) hc hs q fun fs _ hr => Y.returnOut X.hx hret hd hr
theorem Wk.ret (X : Wk p l e R s m args below meth c own Z a0 EL h0 T h vm cells slots) {Q : Option Value → Heap → Prop} {rm : Room} {t : FieldType} {w : Value} {i : Instr} (hret : meth.sig.returnType = some t) {pc : Nat} {Ls : Array Slot} {rest : List Value} (hn : narrow t w = w)
    (hi : (i = .ireturn ∧ (t = .int ∨ t = .boolean ∨ t = .byte ∨ t = .char ∨ t = .short) ∧ ∃ z, w = .int z) ∨ (i = .lreturn ∧ t = .long ∧ ∃ z, w = .long z) ∨ (i = .dreturn ∧ t = .double ∧ ∃ z, w = .double z) ∨ (i = .freturn ∧ t = .float ∧ ∃ z, w = .float z) ∨ (i = .areturn ∧ t.isReference = true ∧ w.isRef = true))
    (hd : decode c.code pc = .ok (i, 1)) (hc : cells ≤ rm.cells) (hs : slots ≤ rm.slots) (q : Q (some w) h) : Gets p e below (Out s Z EL rm Q) (T.setTop (mkF m pc Ls (w :: rest))) := by
  have X' := X
  obtain ⟨locs, j, Y, -⟩ := X'
  exact X.done (fun z => by rw [hret] at z; cases z) hc hs q fun fs _ hr => RoadKit.retOut Y X.hx hret hn hi hd hr
theorem Wk.retA (X : Wk p l e R s m args below meth c own Z a0 EL h0 T h vm cells slots) {Q : Option Value → Heap → Prop} {rm : Room} {t : FieldType} {w : Value} (hret : meth.sig.returnType = some t) {pc : Nat} {Ls : Array Slot} {rest : List Value} (hn : narrow t w = w) (ht : t.isReference = true) (hw : w.isRef = true)
    (hd : decode c.code pc = .ok (.areturn, 1)) (hc : cells ≤ rm.cells) (hs : slots ≤ rm.slots) (q : Q (some w) h) : Gets p e below (Out s Z EL rm Q) (T.setTop (mkF m pc Ls (w :: rest))) :=
  X.ret hret hn (Or.inr (Or.inr (Or.inr (Or.inr ⟨rfl, ht, hw⟩)))) hd hc hs q
theorem Wk.retI (X : Wk p l e R s m args below meth c own Z a0 EL h0 T h vm cells slots) {Q : Option Value → Heap → Prop} {rm : Room} {t : FieldType} {x : Int32} (hret : meth.sig.returnType = some t) {pc : Nat} {Ls : Array Slot} {rest : List Value} (hn : narrow t (.int x) = .int x) (ht : t = .int ∨ t = .boolean ∨ t = .byte ∨ t = .char ∨ t = .short)
    (hd : decode c.code pc = .ok (.ireturn, 1)) (hc : cells ≤ rm.cells) (hs : slots ≤ rm.slots) (q : Q (some (.int x)) h) : Gets p e below (Out s Z EL rm Q) (T.setTop (mkF m pc Ls (.int x :: rest))) :=
  X.ret hret hn (Or.inl ⟨rfl, ht, x, rfl⟩) hd hc hs q
variable {a b : Addr} {k : ClassId} {cs : List Int32} {ws : List Addr}
/-- a Latin-1 String at a, its bytes at b, spelling cs -/
def Str (Z : State) (h : Heap) (a b : Addr) (k : ClassId) (cs : List Int32) : Prop := Exa Z h a "java/lang/String" ∧ Fld Z h a "java/lang/String" "coder" "B" (.int (0 : Int32)) ∧ Fld Z h a "java/lang/String" "value" "[B" (.ref b) ∧ Arv Z h b k .byte (Int32.ofNat cs.length) ((cs.map fun c => c.toInt8.toInt32).map Value.int) (.int (0 : Int32)) ∧ (∀ c ∈ cs, ¬ c < 0 ∧ ¬ (255 : Int32) < c) ∧ cs.length ≤ 4000
theorem Str.ext (F : Str Z h a b k cs) (E : Ext h h') : Str Z h' a b k cs := ⟨F.1.ext E, F.2.1.ext E, F.2.2.1.ext E, F.2.2.2.1.ext E, F.2.2.2.2⟩
theorem Str.keep (F : Str Z h a b k cs) (K : Keep h h' ws) (q : a ∉ ws) (r : b ∉ ws) : Str Z h' a b k cs := ⟨F.1.keep K, F.2.1.keep K q, F.2.2.1.keep K q, F.2.2.2.1.keep K r, F.2.2.2.2⟩
theorem Str.lt (F : Str Z h a b k cs) : a < h.size := F.1.lt
theorem Str.lb (F : Str Z h a b k cs) : b < h.size := F.2.2.2.1.lt
end Base
section Vals
variable {tb : Tables} [Ours tb] {e : Env} {below : List Frame} {T target : State} {m : MethodId} {c : Code} {g : JFrame}
theorem i2cV (h : At T m c below) (hx : tb.exec = Jvm.exec) (hg : g.method = m) {x v : Int32} {rest : List Value} (hd : decode c.code g.pc = .ok (.i2c, 1)) (hs : g.stack = .int x :: rest) (hv : x.toUInt32.toUInt16.toUInt32.toInt32 = v)
    (hr : Steps tb e below (T.setTop { g with pc := g.pc + 1, stack := .int v :: rest }) target) : Steps tb e below (T.setTop g) target := by subst hv; exact XS.i2c h hx hg hd hs hr
/-- (char) of an int -/
def i2c (x : Int32) : Int32 := x.toUInt32.toUInt16.toUInt32.toInt32
theorem i2c_in {x : Int32} (h0 : ¬ x < 0) (h1 : ¬ (65535 : Int32) < x) : x.toUInt32.toUInt16.toUInt32.toInt32 = x := by
  have q := c_i2c x
  apply Int32.toInt_inj.mp
  have e0 : (0 : Int32).toInt = 0 := by decide
  have e1 : (65535 : Int32).toInt = 65535 := by decide
  rw [Int32.lt_iff_toInt_lt, e0] at h0
  rw [Int32.lt_iff_toInt_lt, e1] at h1
  omega
theorem m255 (x : Int32) : ¬ (x &&& (255 : Int32)) < 0 ∧ ¬ (255 : Int32) < (x &&& (255 : Int32)) := by
  have q := c_and x (255 : Int32) (by decide)
  have e0 : (0 : Int32).toInt = 0 := by decide
  have e1 : (255 : Int32).toInt = 255 := by decide
  constructor
  · rw [Int32.lt_iff_toInt_lt, e0]; omega
  · rw [Int32.lt_iff_toInt_lt, e1]; rw [e1] at q; omega
theorem lt_of {a b c : Int32} (h : ¬ a < b) (hb : b.toInt ≤ c.toInt) : True := trivial
theorem i2c_m255 (x : Int32) : (x &&& (255 : Int32)).toUInt32.toUInt16.toUInt32.toInt32 = x &&& (255 : Int32) := i2c_in (m255 x).1 fun q => (m255 x).2 (by
  have e1 : (255 : Int32).toInt = 255 := by decide
  have e2 : (65535 : Int32).toInt = 65535 := by decide
  rw [Int32.lt_iff_toInt_lt] at q ⊢; omega)
theorem i2c_i2c (x : Int32) : (i2c x).toUInt32.toUInt16.toUInt32.toInt32 = i2c x := by
  have q := c_i2c x
  have e0 : (0 : Int32).toInt = 0 := by decide
  have e1 : (65535 : Int32).toInt = 65535 := by decide
  refine i2c_in ?_ ?_
  · rw [Int32.lt_iff_toInt_lt, e0]; unfold i2c; omega
  · rw [Int32.lt_iff_toInt_lt, e1]; unfold i2c; omega
theorem nar_b (x : Int32) : nar .byte x.toInt8.toInt32 = x.toInt8.toInt32 := by simp [nar]
theorem allI {P : Int32 → Prop} {y : Int32} {L : List Int32} (q : P y) (r : ∀ x ∈ L, P x) : ∀ x ∈ y :: L, P x := fun x z => (List.mem_cons.mp z).elim (fun u => u ▸ q) (r x)
theorem allN {P : Int32 → Prop} : ∀ x ∈ ([] : List Int32), P x := fun _ q => nomatch q
end Vals
end Jvm.Ow

/- laws to paste: Road.backV (cut by pick.py; bodies as the Statement names them) -/
namespace Jvm.Pilot.@@N@@
namespace StrChars
open Jvm Sem ClassFile Op Lib Jvm.Stand Jvm.Free.XT Jvm.Free.ALB Jvm.Free.JM Jvm.Free
open Jvm.Lib.Cold (StaticIs)
/-- a char array whose places are chars -/
def Ch (a : Addr) (A : Cell) (U : State) : Prop := Arr .char a A U ∧ Typed .char A
theorem Ch.mv {a : Addr} {A : Cell} {U U' : State} (h : Ch a A U) (hal : U.vm.Alike U'.vm) (hh : U'.heap = U.heap) : Ch a A U' := ⟨h.1.mv hal hh, h.2⟩
theorem Ch.keep {a : Addr} {A : Cell} {U U' : State} (h : Ch a A U) (hal : U.vm.Alike U'.vm) (hk : U'.heap[a]? = some A) : Ch a A U' := ⟨h.1.keep hal hk, h.2⟩
/-- what place i of a char[]'s cell holds -/
def cv (A : Cell) (i : Nat) : Int32 := match A.slots[i]? with | some (.int x) => x | _ => 0
theorem Ch.get {a : Addr} {A : Cell} {U : State} (h : Ch a A U) {i : Nat} (hi : i < A.slots.size) : A.slots[i]? = some (.int (cv A i)) := by
  have e := Array.getElem?_eq_getElem hi
  have f := h.2 i _ e
  unfold cv; rw [e]
  generalize A.slots[i] = v at f
  cases v <;> simp [fits] at f ⊢
/-- the byte that i2b leaves of a char -/
def lo8 (x : Int32) : Int32 := x.toInt8.toInt32
theorem fits_lo8 (y : Int32) : fits .byte (.int (lo8 y)) = true := by
  have h1 := y.toInt8.le_toInt
  have h2 := y.toInt8.toInt_lt
  simp only [lo8, fits, Bool.and_eq_true, decide_eq_true_eq, Int32.le_iff_toInt_le, Int8.toInt_toInt32, show (-128 : Int32).toInt = -128 from by decide, show (127 : Int32).toInt = 127 from by decide]
  omega
/-- A' is A but that each place j of lo .. hi - 1 holds f j -/
def Laid (A A' : Cell) (lo hi : Nat) (f : Nat → Value) : Prop := A'.cls = A.cls ∧ A'.vm = A.vm ∧ A'.slots.size = A.slots.size ∧ ∀ i, A'.slots[i]? = if lo ≤ i ∧ i < hi then some (f i) else A.slots[i]?
theorem Laid.zero (A : Cell) (lo : Nat) (f : Nat → Value) : Laid A A lo (lo + 0) f := ⟨rfl, rfl, rfl, fun i => by rw [if_neg (by omega)]⟩
theorem Laid.step {A Ak : Cell} {lo k : Nat} {f : Nat → Value} {v : Value} (h : Laid A Ak lo k f) (hlo : lo ≤ k) (hk : k < Ak.slots.size) (hv : v = f k) : Laid A (Ak.setSlot k v) lo (k + 1) f := by
  refine ⟨h.1, h.2.1, by simpa [Cell.setSlot] using h.2.2.1, fun i => ?_⟩
  by_cases e : k = i
  · subst e; rw [Cell.slots_setSlot_self v hk, if_pos (by omega), hv]
  · rw [Cell.slots_setSlot_ne v e, h.2.2.2 i]
    by_cases q : lo ≤ i ∧ i < k
    · rw [if_pos q, if_pos (by omega)]
    · rw [if_neg q, if_neg (by omega)]
def U16 : String := "java/lang/StringUTF16"
namespace Cmp5
def yN : MethodName := ⟨"java/lang/StringUTF16", "compress", "([CI[BII)I"⟩
abbrev yB : ByteArray := jdk_52_method_21_code
theorem d0 : decode yB 0 = .ok (.iconst 0, 1) := by decide +kernel
theorem d1 : decode yB 1 = .ok (.istore 5, 2) := by decide +kernel
theorem d3 : decode yB 3 = .ok (.iload 5, 2) := by decide +kernel
theorem d5 : decode yB 5 = .ok (.iload 4, 2) := by decide +kernel
theorem d7 : decode yB 7 = .ok (.if_icmp (.ge) 37, 3) := by decide +kernel
theorem d10 : decode yB 10 = .ok (.aload_n 0, 1) := by decide +kernel
theorem d11 : decode yB 11 = .ok (.iload_n 1, 1) := by decide +kernel
theorem d12 : decode yB 12 = .ok (.caload, 1) := by decide +kernel
theorem d13 : decode yB 13 = .ok (.istore 6, 2) := by decide +kernel
theorem d15 : decode yB 15 = .ok (.iload 6, 2) := by decide +kernel
theorem d17 : decode yB 17 = .ok (.sipush 255, 3) := by decide +kernel
theorem d20 : decode yB 20 = .ok (.if_icmp (.le) 6, 3) := by decide +kernel
theorem d26 : decode yB 26 = .ok (.aload_n 2, 1) := by decide +kernel
theorem d27 : decode yB 27 = .ok (.iload_n 3, 1) := by decide +kernel
theorem d28 : decode yB 28 = .ok (.iload 6, 2) := by decide +kernel
theorem d30 : decode yB 30 = .ok (.i2b, 1) := by decide +kernel
theorem d31 : decode yB 31 = .ok (.bastore, 1) := by decide +kernel
theorem d32 : decode yB 32 = .ok (.iinc 1 1, 3) := by decide +kernel
theorem d35 : decode yB 35 = .ok (.iinc 3 1, 3) := by decide +kernel
theorem d38 : decode yB 38 = .ok (.iinc 5 1, 3) := by decide +kernel
theorem d41 : decode yB 41 = .ok (.goto (-38), 3) := by decide +kernel
theorem d44 : decode yB 44 = .ok (.iload 4, 2) := by decide +kernel
theorem d46 : decode yB 46 = .ok (.ireturn, 1) := by decide +kernel
def site : List Cond := []
def tab : Cond := tabOf yN yB 7 (some .int) site
def P (b : Addr) (A : Cell) (d : Addr) (B : Cell) (o q len : Nat) (args : Array Value) (s : State) : Prop := args = #[.ref b, .int (Int32.ofNat o), .ref d, .int (Int32.ofNat q), .int (Int32.ofNat len)] ∧ Ch b A s ∧ Arr .byte d B s ∧ b ≠ d ∧ o + len ≤ A.slots.size ∧ q + len ≤ B.slots.size ∧ ∀ i, i < len → ¬ 255 < cv A (o + i)
def E (b : Addr) (A : Cell) (d : Addr) (B : Cell) (o q len : Nat) (r : Option Value) (s u : State) : Prop := r = some (.int (Int32.ofNat len)) ∧ ∃ B', Put d B' s u ∧ Laid B B' q (q + len) (fun j => Value.int (lo8 (cv A (o + (j - q)))))
/-- no char of the range above 255: len; the places written hold each char's low byte -/
theorem law (l : Launch) (b : Addr) (A : Cell) (d : Addr) (B : Cell) (o q len : Nat) : Law l yN 5 5 0 0 yB 7 (some .int) site (P b A d B o q len) (E b A d B o q len) (copyLocs d q len) 0 0 := by
  refine Law.of_walk (plainFor_of_name (by decide +kernel)) (by decide +kernel) (by decide +kernel) (by decide) (fun _ _ h => by rw [h.1]; rfl) (fun _ U U' hal hh h => ⟨h.1, h.2.1.mv hal hh, h.2.2.1.mv hal hh, h.2.2.2⟩) (fun r U U' V V' h1 hal h2 h => ⟨h.1, h.2.elim fun B' q => ⟨B', q.1.mv h1 h2, q.2⟩⟩) ?_
  intro p e s m args below meth c s₁ X0 hexec hbytes hml hret hlk hnm hown hh0 W hP
  obtain ⟨rfl, hA, hB, hne, l1, l2, hp⟩ := hP
  have c1 : Steps p.tables e below (s₁.setTop (entryFrame m #[.ref b, .int (Int32.ofNat o), .ref d, .int (Int32.ofNat q), .int (Int32.ofNat len)] 7)) (s₁.setTop (mkF m 0 #[.val (.ref b), .val (.int (Int32.ofNat o)), .val (.ref d), .val (.int (Int32.ofNat q)), .val (.int (Int32.ofNat len)), .unset, .unset] [])) := entry rfl
  have hA0 := hA.1.mv X0.warmed.alike hh0
  have hB0 := hB.mv X0.warmed.alike hh0
  have a31 := hA.1.2.2.2
  have c2 : Steps p.tables e below (s₁.setTop (entryFrame m #[.ref b, .int (Int32.ofNat o), .ref d, .int (Int32.ofNat q), .int (Int32.ofNat len)] 7)) (s₁.setTop (mkF m 3 #[.val (.ref b), .val (.int (Int32.ofNat o)), .val (.ref d), .val (.int (Int32.ofNat q)), .val (.int (Int32.ofNat len)), .val (.int 0), .unset] [])) := c1.trans (by
    refine iconstV X0.here hexec rfl 0 (hb hbytes d0) (by decide) ?_
    refine XS.istore X0.here hexec rfl (hb hbytes d1) rfl rfl ?_
    exact Steps.refl _)
  have loop : ∀ (r i : Nat), i + r = len → ∀ (z : Slot), (z = .unset ∨ ∃ w, z = .val w ∧ w.category = 1) → ∀ (Tl : State) (Bk : Cell), Stand p l e { frames := 0, locals := 0, cells := 0, slots := 0 } s m #[.ref b, .int (Int32.ofNat o), .ref d, .int (Int32.ofNat q), .int (Int32.ofNat len)] below meth c Tl ([] ++ copyLocs d q i) 0 0 → Put d Bk s₁ Tl → Laid B Bk q (q + i) (fun j => Value.int (lo8 (cv A (o + (j - q))))) →
      Steps p.tables e below (s₁.setTop (entryFrame m #[.ref b, .int (Int32.ofNat o), .ref d, .int (Int32.ofNat q), .int (Int32.ofNat len)] 7)) (Tl.setTop (mkF m 3 #[.val (.ref b), .val (.int (Int32.ofNat (o + i))), .val (.ref d), .val (.int (Int32.ofNat (q + i))), .val (.int (Int32.ofNat len)), .val (.int (Int32.ofNat i)), z] [])) → ∃ (T' : State) (B' : Cell) (z' : Slot), Stand p l e { frames := 0, locals := 0, cells := 0, slots := 0 } s m #[.ref b, .int (Int32.ofNat o), .ref d, .int (Int32.ofNat q), .int (Int32.ofNat len)] below meth c T' ([] ++ copyLocs d q len) 0 0 ∧ Put d B' s₁ T' ∧ Laid B B' q (q + len) (fun j => Value.int (lo8 (cv A (o + (j - q))))) ∧
      Steps p.tables e below (s₁.setTop (entryFrame m #[.ref b, .int (Int32.ofNat o), .ref d, .int (Int32.ofNat q), .int (Int32.ofNat len)] 7)) (T'.setTop (mkF m 3 #[.val (.ref b), .val (.int (Int32.ofNat (o + len))), .val (.ref d), .val (.int (Int32.ofNat (q + len))), .val (.int (Int32.ofNat len)), .val (.int (Int32.ofNat len)), z'] [])) := by
    intro r
    induction r with
    | zero =>
      intro i hi z hz Tl Bk Xl pl fl cl
      have hil : i = len := by omega
      rw [hil] at Xl fl cl
      exact ⟨Tl, Bk, z, Xl, pl, fl, cl⟩
    | succ r ih =>
      intro i hi z hz Tl Bk Xl pl fl cl
      have all := X0.warmed.alike.symm.trans Xl.warmed.alike
      have hAl := hA0.keep all (pl.other hne hA0.1)
      have hBk := hB0.like all pl.1 fl.1 fl.2.1 fl.2.2.1
      have hlt : q + i < Bk.slots.size := by rw [fl.2.2.1]; omega
      have c3 : Steps p.tables e below (s₁.setTop (entryFrame m #[.ref b, .int (Int32.ofNat o), .ref d, .int (Int32.ofNat q), .int (Int32.ofNat len)] 7)) (Tl.setTop (mkF m 12 #[.val (.ref b), .val (.int (Int32.ofNat (o + i))), .val (.ref d), .val (.int (Int32.ofNat (q + i))), .val (.int (Int32.ofNat len)), .val (.int (Int32.ofNat i)), z] [.int (Int32.ofNat (o + i)), .ref b])) := cl.trans (by
        refine XS.iload Xl.here hexec rfl (hb hbytes d3) rfl ?_
        refine XS.iload Xl.here hexec rfl (hb hbytes d5) rfl ?_
        refine XS.icmpNo Xl.here hexec rfl (hb hbytes d7) rfl (ii_ge_f (lt32 (by omega) (by omega))) ?_
        refine XS.aloadN Xl.here hexec rfl (hb hbytes d10) rfl rfl ?_
        refine XS.iloadN Xl.here hexec rfl (hb hbytes d11) rfl ?_
        exact Steps.refl _)
      have c4 : Steps p.tables e below (s₁.setTop (entryFrame m #[.ref b, .int (Int32.ofNat o), .ref d, .int (Int32.ofNat q), .int (Int32.ofNat len)] 7)) (Tl.setTop (mkF m 13 #[.val (.ref b), .val (.int (Int32.ofNat (o + i))), .val (.ref d), .val (.int (Int32.ofNat (q + i))), .val (.int (Int32.ofNat len)), .val (.int (Int32.ofNat i)), z] [.int (cv A (o + i))])) := c3.trans (by
        refine Xl.aget hexec hAl rfl (hA.get (i := o + i) (by omega)) rfl rfl (hb hbytes d12) ?_
        exact Steps.refl _)
      have c5 : Steps p.tables e below (s₁.setTop (entryFrame m #[.ref b, .int (Int32.ofNat o), .ref d, .int (Int32.ofNat q), .int (Int32.ofNat len)] 7)) (Tl.setTop (mkF m 15 #[.val (.ref b), .val (.int (Int32.ofNat (o + i))), .val (.ref d), .val (.int (Int32.ofNat (q + i))), .val (.int (Int32.ofNat len)), .val (.int (Int32.ofNat i)), .val (.int (cv A (o + i)))] [])) := c4.trans (by
        refine XS.istoreS Xl.here hexec rfl (hb hbytes d13) rfl rfl hz ?_
        exact Steps.refl _)
      have c6 : Steps p.tables e below (s₁.setTop (entryFrame m #[.ref b, .int (Int32.ofNat o), .ref d, .int (Int32.ofNat q), .int (Int32.ofNat len)] 7)) (Tl.setTop (mkF m 31 #[.val (.ref b), .val (.int (Int32.ofNat (o + i))), .val (.ref d), .val (.int (Int32.ofNat (q + i))), .val (.int (Int32.ofNat len)), .val (.int (Int32.ofNat i)), .val (.int (cv A (o + i)))] [.int (lo8 (cv A (o + i))), .int (Int32.ofNat (q + i)), .ref d])) := c5.trans (by
        refine XS.iload Xl.here hexec rfl (hb hbytes d15) rfl ?_
        refine sipushV Xl.here hexec rfl 255 (hb hbytes d17) (by decide) ?_
        refine XS.icmpYes Xl.here hexec rfl (pc0 := 20) rfl (hb hbytes d20) rfl (ii_le_t (hp i (by omega))) (by decide) rfl ?_
        refine XS.aloadN Xl.here hexec rfl (hb hbytes d26) rfl rfl ?_
        refine XS.iloadN Xl.here hexec rfl (hb hbytes d27) rfl ?_
        refine XS.iload Xl.here hexec rfl (hb hbytes d28) rfl ?_
        refine i2b Xl.here hexec rfl (hb hbytes d30) rfl ?_
        exact Steps.refl _)
      obtain ⟨T7, X7, p7, st7⟩ := Xl.aput hexec hBk rfl hlt rfl (fits_lo8 (cv A (o + i))) (g := (mkF m 31 #[.val (.ref b), .val (.int (Int32.ofNat (o + i))), .val (.ref d), .val (.int (Int32.ofNat (q + i))), .val (.int (Int32.ofNat len)), .val (.int (Int32.ofNat i)), .val (.int (cv A (o + i)))] [.int (lo8 (cv A (o + i))), .int (Int32.ofNat (q + i)), .ref d])) rfl (rest := []) rfl (hb hbytes d31)
      have c8 : Steps p.tables e below (s₁.setTop (entryFrame m #[.ref b, .int (Int32.ofNat o), .ref d, .int (Int32.ofNat q), .int (Int32.ofNat len)] 7)) (T7.setTop (mkF m 32 #[.val (.ref b), .val (.int (Int32.ofNat (o + i))), .val (.ref d), .val (.int (Int32.ofNat (q + i))), .val (.int (Int32.ofNat len)), .val (.int (Int32.ofNat i)), .val (.int (cv A (o + i)))] [])) := c6.trans (st7 _ (Steps.refl _))
      have c9 : Steps p.tables e below (s₁.setTop (entryFrame m #[.ref b, .int (Int32.ofNat o), .ref d, .int (Int32.ofNat q), .int (Int32.ofNat len)] 7)) (T7.setTop (mkF m 3 #[.val (.ref b), .val (.int (Int32.ofNat (o + i) + 1)), .val (.ref d), .val (.int (Int32.ofNat (q + i) + 1)), .val (.int (Int32.ofNat len)), .val (.int (Int32.ofNat i + 1)), .val (.int (cv A (o + i)))] [])) := c8.trans (by
        refine iincV X7.here hexec rfl 1 (hb hbytes d32) (by decide) rfl rfl ?_
        refine iincV X7.here hexec rfl 1 (hb hbytes d35) (by decide) rfl rfl ?_
        refine iincV X7.here hexec rfl 1 (hb hbytes d38) (by decide) rfl rfl ?_
        refine XS.goto X7.here hexec rfl (pc0 := 41) rfl (hb hbytes d41) (by decide) rfl ?_
        exact Steps.refl _)
      have c10 : Steps p.tables e below (s₁.setTop (entryFrame m #[.ref b, .int (Int32.ofNat o), .ref d, .int (Int32.ofNat q), .int (Int32.ofNat len)] 7)) (T7.setTop (mkF m 3 #[.val (.ref b), .val (.int (Int32.ofNat (o + (i + 1)))), .val (.ref d), .val (.int (Int32.ofNat (q + (i + 1)))), .val (.int (Int32.ofNat len)), .val (.int (Int32.ofNat (i + 1))), .val (.int (cv A (o + i)))] [])) := by
        have := c9
        rw [succ32, succ32, succ32] at this
        exact this
      exact ih (i + 1) (by omega) _ (Or.inr ⟨_, rfl, rfl⟩) T7 _ (by rw [copyLocs_step, ← List.append_assoc]; exact X7) (pl.trans p7) (fl.step (by omega) hlt (by simp)) c10
  obtain ⟨T9, B9, z9, X9, p9, f9, g9⟩ := loop len 0 (by omega) .unset (Or.inl rfl) s₁ B (by simpa [copyLocs] using X0) ⟨hB0.1, fun _ _ => rfl, rfl⟩ (Laid.zero _ _ _) c2
  have c11 : Steps p.tables e below (s₁.setTop (entryFrame m #[.ref b, .int (Int32.ofNat o), .ref d, .int (Int32.ofNat q), .int (Int32.ofNat len)] 7)) (T9.setTop (mkF m 46 #[.val (.ref b), .val (.int (Int32.ofNat (o + len))), .val (.ref d), .val (.int (Int32.ofNat (q + len))), .val (.int (Int32.ofNat len)), .val (.int (Int32.ofNat len)), z9] [.int (Int32.ofNat len)])) := g9.trans (by
    refine XS.iload X9.here hexec rfl (hb hbytes d3) rfl ?_
    refine XS.iload X9.here hexec rfl (hb hbytes d5) rfl ?_
    refine XS.icmpYes X9.here hexec rfl (pc0 := 7) rfl (hb hbytes d7) rfl (ii_ge_t (nlt32 (by omega) (Nat.le_refl _))) (by decide) rfl ?_
    refine XS.iload X9.here hexec rfl (hb hbytes d44) rfl ?_
    exact Steps.refl _)
  exact ⟨T9, some (.int (Int32.ofNat len)), _, _, _, X9, by simp, rfl, rfl, (fun h => by cases h), ⟨rfl, B9, p9.from hh0, f9⟩, fun fs hl => c11.trans (X9.ireturnOut hexec hret rfl (Or.inl rfl) (hb hbytes d46) hl)⟩
end Cmp5
namespace Cmp3
def yN : MethodName := ⟨"java/lang/StringUTF16", "compress", "([CII)[B"⟩
abbrev yB : ByteArray := jdk_52_method_16_code
theorem d0 : decode yB 0 = .ok (.iload_n 2, 1) := by decide +kernel
theorem d1 : decode yB 1 = .ok (.newarray .byte, 2) := by decide +kernel
theorem d3 : decode yB 3 = .ok (.astore_n 3, 1) := by decide +kernel
theorem d4 : decode yB 4 = .ok (.aload_n 0, 1) := by decide +kernel
theorem d5 : decode yB 5 = .ok (.iload_n 1, 1) := by decide +kernel
theorem d6 : decode yB 6 = .ok (.aload_n 3, 1) := by decide +kernel
theorem d7 : decode yB 7 = .ok (.iconst 0, 1) := by decide +kernel
theorem d8 : decode yB 8 = .ok (.iload_n 2, 1) := by decide +kernel
theorem d9 : decode yB 9 = .ok (.invokestatic 115, 3) := by decide +kernel
theorem d12 : decode yB 12 = .ok (.istore 4, 2) := by decide +kernel
theorem d14 : decode yB 14 = .ok (.iload 4, 2) := by decide +kernel
theorem d16 : decode yB 16 = .ok (.iload_n 2, 1) := by decide +kernel
theorem d17 : decode yB 17 = .ok (.if_icmp (.eq) 40, 3) := by decide +kernel
theorem d57 : decode yB 57 = .ok (.aload_n 3, 1) := by decide +kernel
theorem d58 : decode yB 58 = .ok (.areturn, 1) := by decide +kernel
def site : List Cond := [.arrayClass .byte, Cmp5.tab] ++ staticW U16 115 Cmp5.yN
def tab : Cond := tabOf yN yB 6 (some (.array .byte)) site
def P (b : Addr) (A : Cell) (o len : Nat) (args : Array Value) (s : State) : Prop := args = #[.ref b, .int (Int32.ofNat o), .int (Int32.ofNat len)] ∧ Ch b A s ∧ o + len ≤ A.slots.size ∧ len ≤ 536870912 ∧ ∀ i, i < len → ¬ 255 < cv A (o + i)
def E (b : Addr) (A : Cell) (o len : Nat) (r : Option Value) (s u : State) : Prop := NewArr .byte "[B" len (fun j => .int (lo8 (cv A (o + j)))) r s u ∧ u.heap.size = s.heap.size + 1
/-- no char of the range above 255: a new byte[] of their low bytes -/
theorem law (l : Launch) (b : Addr) (A : Cell) (o len : Nat) : Law l yN 3 3 1 18 yB 6 (some (.array .byte)) site (P b A o len) (E b A o len) [] 1 len := by
  refine Law.of_walk (plainFor_of_name (by decide +kernel)) (by decide +kernel) (by decide +kernel) (by decide) (fun _ _ h => by rw [h.1]; rfl) (fun _ U U' hal hh h => ⟨h.1, h.2.1.mv hal hh, h.2.2⟩) (fun r U U' V V' h1 hal h2 h => ⟨NewArr.mv r U U' V V' h1 hal h2 h.1, by rw [h1, h2]; exact h.2⟩) ?_
  intro p e s m args below meth c s₁ X0 hexec hbytes hml hret hlk hnm hown hh0 W hP
  obtain ⟨rfl, hA, l1, l2, hp⟩ := hP
  have a31 := hA.1.2.2.2
  have c1 : Steps p.tables e below (s₁.setTop (entryFrame m #[.ref b, .int (Int32.ofNat o), .int (Int32.ofNat len)] 6)) (s₁.setTop (mkF m 0 #[.val (.ref b), .val (.int (Int32.ofNat o)), .val (.int (Int32.ofNat len)), .unset, .unset, .unset] [])) := entry rfl
  have c2 : Steps p.tables e below (s₁.setTop (entryFrame m #[.ref b, .int (Int32.ofNat o), .int (Int32.ofNat len)] 6)) (s₁.setTop (mkF m 1 #[.val (.ref b), .val (.int (Int32.ofNat o)), .val (.int (Int32.ofNat len)), .unset, .unset, .unset] [.int (Int32.ofNat len)])) := c1.trans (by
    refine XS.iloadN X0.here hexec rfl (hb hbytes d0) rfl ?_
    exact Steps.refl _)
  obtain ⟨T3, B3, X3, ba3, bs3, bv3, bh3, bf3, st3⟩ := X0.anew hexec (atype := .byte) (wk W (.arrayClass .byte)) rfl (by show len * 1 ≤ _; omega) (by omega) (g := (mkF m 1 #[.val (.ref b), .val (.int (Int32.ofNat o)), .val (.int (Int32.ofNat len)), .unset, .unset, .unset] [.int (Int32.ofNat len)])) rfl (hb hbytes d1) (rest := []) rfl (Nat.le_refl _) (by show 0 + len ≤ len; omega)
  rw [hh0] at ba3 st3
  have kp3 : XT.Kept s T3 := (XT.Kept.of_eq hh0).push bh3
  have hA3 := hA.keep X3.warmed.alike (kp3 _ _ hA.1.1)
  have hne : b ≠ s.heap.size := hA.1.ne
  have c4 : Steps p.tables e below (s₁.setTop (entryFrame m #[.ref b, .int (Int32.ofNat o), .int (Int32.ofNat len)] 6)) (T3.setTop (mkF m 3 #[.val (.ref b), .val (.int (Int32.ofNat o)), .val (.int (Int32.ofNat len)), .unset, .unset, .unset] [.ref s.heap.size])) := c2.trans (st3 _ (Steps.refl _))
  have c5 : Steps p.tables e below (s₁.setTop (entryFrame m #[.ref b, .int (Int32.ofNat o), .int (Int32.ofNat len)] 6)) (T3.setTop (mkF m 9 #[.val (.ref b), .val (.int (Int32.ofNat o)), .val (.int (Int32.ofNat len)), .val (.ref s.heap.size), .unset, .unset] [.int (Int32.ofNat len), .int 0, .ref s.heap.size, .int (Int32.ofNat o), .ref b])) := c4.trans (by
    refine XS.astoreN X3.here hexec rfl (hb hbytes d3) rfl rfl rfl ?_
    refine XS.aloadN X3.here hexec rfl (hb hbytes d4) rfl rfl ?_
    refine XS.iloadN X3.here hexec rfl (hb hbytes d5) rfl ?_
    refine XS.aloadN X3.here hexec rfl (hb hbytes d6) rfl rfl ?_
    refine iconstV X3.here hexec rfl 0 (hb hbytes d7) (by decide) ?_
    refine XS.iloadN X3.here hexec rfl (hb hbytes d8) rfl ?_
    exact Steps.refl _)
  obtain ⟨v6, T6, X6, E6, g6⟩ := X3.callS hexec (Cmp5.law l b A s.heap.size B3 o 0 len) hown (wks W (staticW U16 115 Cmp5.yN)) (wk W Cmp5.tab) (W := 0) (Nat.le_of_ble_eq_true rfl) (Nat.le_of_ble_eq_true rfl) (Nat.le_refl _) (by show 0 + len + 0 ≤ len; omega) (g := (mkF m 9 #[.val (.ref b), .val (.int (Int32.ofNat o)), .val (.int (Int32.ofNat len)), .val (.ref s.heap.size), .unset, .unset] [.int (Int32.ofNat len), .int (Int32.ofNat 0), .ref s.heap.size, .int (Int32.ofNat o), .ref b])) rfl (by rw [hml]; rfl) c5 (argsL := [.ref b, .int (Int32.ofNat o), .ref s.heap.size, .int (Int32.ofNat 0), .int (Int32.ofNat len)]) (rest := []) rfl rfl (by show 2 * 0 + 0 ≤ _; decide) (hb hbytes d9) (⟨rfl, hA3, ba3, hne, l1, by rw [bs3]; simp, hp⟩)
  obtain ⟨rfl, B6, p6, f6⟩ := E6
  have c7 : Steps p.tables e below (s₁.setTop (entryFrame m #[.ref b, .int (Int32.ofNat o), .int (Int32.ofNat len)] 6)) (T6.setTop (mkF m 12 #[.val (.ref b), .val (.int (Int32.ofNat o)), .val (.int (Int32.ofNat len)), .val (.ref s.heap.size), .unset, .unset] [.int (Int32.ofNat len)])) := g6
  have c8 : Steps p.tables e below (s₁.setTop (entryFrame m #[.ref b, .int (Int32.ofNat o), .int (Int32.ofNat len)] 6)) (T6.setTop (mkF m 58 #[.val (.ref b), .val (.int (Int32.ofNat o)), .val (.int (Int32.ofNat len)), .val (.ref s.heap.size), .val (.int (Int32.ofNat len)), .unset] [.ref s.heap.size])) := c7.trans (by
    refine XS.istore X6.here hexec rfl (hb hbytes d12) rfl rfl ?_
    refine XS.iload X6.here hexec rfl (hb hbytes d14) rfl ?_
    refine XS.iloadN X6.here hexec rfl (hb hbytes d16) rfl ?_
    refine XS.icmpYes X6.here hexec rfl (pc0 := 17) rfl (hb hbytes d17) rfl (ii_eq_t rfl) (by decide) rfl ?_
    refine XS.aloadN X6.here hexec rfl (hb hbytes d57) rfl rfl ?_
    exact Steps.refl _)
  have X8 := X6.wide (L' := []) (cells' := 1) (slots' := len) (fun x hx hlt => by
    simp only [List.nil_append, copyLocs, List.mem_map, List.mem_range] at hx
    obtain ⟨i, -, rfl⟩ := hx
    exact absurd hlt (Nat.lt_irrefl _)) (Nat.le_refl _) (by omega)
  exact ⟨T6, some (.ref s.heap.size), _, _, _, X8, rfl, rfl, rfl, (fun h => by cases h), ⟨⟨rfl, B6, ba3.like (X3.warmed.alike.symm.trans X6.warmed.alike) p6.1 f6.1 f6.2.1 f6.2.2.1, f6.2.1.trans bv3, by rw [X6.warmed.alike.findClass, f6.1]; exact bf3, by rw [f6.2.2.1, bs3]; simp, fun j hj => by rw [f6.2.2.2 j, if_pos (by omega)]; rfl, kp3.put p6 (Nat.le_refl _)⟩, by rw [p6.2.2, bh3, hh0]; simp⟩, fun fs hl => c8.trans (X8.areturnOut hexec rfl hret rfl (hb hbytes d58) hl)⟩
end Cmp3
namespace CodL
def yN : MethodName := ⟨"java/lang/StringUTF16", "coderFromArrayLen", "([BI)B"⟩
abbrev yB : ByteArray := jdk_52_method_15_code
theorem d0 : decode yB 0 = .ok (.iload_n 1, 1) := by decide +kernel
theorem d1 : decode yB 1 = .ok (.aload_n 0, 1) := by decide +kernel
theorem d2 : decode yB 2 = .ok (.arraylength, 1) := by decide +kernel
theorem d3 : decode yB 3 = .ok (.isub, 1) := by decide +kernel
theorem d4 : decode yB 4 = .ok (.bipush 31, 2) := by decide +kernel
theorem d6 : decode yB 6 = .ok (.iushr, 1) := by decide +kernel
theorem d7 : decode yB 7 = .ok (.i2b, 1) := by decide +kernel
theorem d8 : decode yB 8 = .ok (.ireturn, 1) := by decide +kernel
def site : List Cond := []
def tab : Cond := tabOf yN yB 2 (some .byte) site
def P (d : Addr) (B : Cell) (args : Array Value) (s : State) : Prop := args = #[.ref d, .int (Int32.ofNat B.slots.size)] ∧ Arr .byte d B s
def E (r : Option Value) (s u : State) : Prop := XT.PureE (some (.int 0)) r s u
/-- an array as long as the number of chars: LATIN1 -/
theorem law (l : Launch) (d : Addr) (B : Cell) : Law l yN 2 2 0 0 yB 2 (some .byte) site (P d B) E [] 0 0 := by
  refine Law.of_walk (plainFor_of_name (by decide +kernel)) (by decide +kernel) (by decide +kernel) (by decide) (fun _ _ h => by rw [h.1]; rfl) (fun _ U U' hal hh h => ⟨h.1, h.2.mv hal hh⟩) (fun r U U' V V' h1 hal h2 h => XT.PureE.mv r U U' V V' h1 hal h2 h) ?_
  intro p e s m args below meth c s₁ X0 hexec hbytes hml hret hlk hnm hown hh0 W hP
  obtain ⟨rfl, hB⟩ := hP
  have hB0 := hB.mv X0.warmed.alike hh0
  have c1 : Steps p.tables e below (s₁.setTop (entryFrame m #[.ref d, .int (Int32.ofNat B.slots.size)] 2)) (s₁.setTop (mkF m 0 #[.val (.ref d), .val (.int (Int32.ofNat B.slots.size))] [])) := entry rfl
  have c2 : Steps p.tables e below (s₁.setTop (entryFrame m #[.ref d, .int (Int32.ofNat B.slots.size)] 2)) (s₁.setTop (mkF m 2 #[.val (.ref d), .val (.int (Int32.ofNat B.slots.size))] [.ref d, .int (Int32.ofNat B.slots.size)])) := c1.trans (by
    refine XS.iloadN X0.here hexec rfl (hb hbytes d0) rfl ?_
    refine XS.aloadN X0.here hexec rfl (hb hbytes d1) rfl rfl ?_
    exact Steps.refl _)
  have c3 : Steps p.tables e below (s₁.setTop (entryFrame m #[.ref d, .int (Int32.ofNat B.slots.size)] 2)) (s₁.setTop (mkF m 8 #[.val (.ref d), .val (.int (Int32.ofNat B.slots.size))] [.int (lo8 (ushr (Int32.ofNat B.slots.size - Int32.ofNat B.slots.size) 31))])) := c2.trans (by
    refine X0.alen hexec hB0 rfl rfl (hb hbytes d2) ?_
    refine XS.isub X0.here hexec rfl (hb hbytes d3) rfl ?_
    refine bipushV X0.here hexec rfl 31 (hb hbytes d4) (by decide) ?_
    refine iushr X0.here hexec rfl (hb hbytes d6) rfl ?_
    refine i2b X0.here hexec rfl (hb hbytes d7) rfl ?_
    exact Steps.refl _)
  have e0 : lo8 (ushr (Int32.ofNat B.slots.size - Int32.ofNat B.slots.size) 31) = 0 := by rw [Int32.sub_self]; decide
  rw [e0] at c3
  exact ⟨s₁, some (.int 0), _, _, _, X0, rfl, rfl, rfl, (fun h => by cases h), ⟨rfl, hh0⟩, fun fs hl => c3.trans (X0.ireturnOut hexec hret rfl (Or.inr (Or.inr (Or.inl rfl))) (hb hbytes d8) hl)⟩
end CodL
/-- the String at a is Latin-1 over a new byte[] (the heap's one new cell): the low bytes of the len chars of A from o on; every cell but a is kept -/
def Got (a : Addr) (D : Cell) (fV fC : Field) (A : Cell) (o len : Nat) (r : Option Value) (s u : State) : Prop := r = none ∧ ∃ D' V : Cell, Blank "java/lang/String" a D' u ∧ Same D D' [fV.slot, fC.slot] ∧ D'.slots[fV.slot]? = some (.ref s.heap.size) ∧ D'.slots[fC.slot]? = some (.int 0) ∧ Arr .byte s.heap.size V u ∧ V.vm = .none ∧ u.vm.findClass "[B" = some V.cls ∧ V.slots.size = len ∧ (∀ j, j < len → V.slots[j]? = some (.int (lo8 (cv A (o + j))))) ∧ (∀ (y : Addr) (c : Cell), y ≠ a → s.heap[y]? = some c → u.heap[y]? = some c) ∧ u.heap.size = s.heap.size + 1
theorem Got.mv {a : Addr} {D A : Cell} {fV fC : Field} {o len : Nat} : ∀ r (U U' V V' : State), U'.heap = U.heap → V.vm.Alike V'.vm → V'.heap = V.heap → Got a D fV fC A o len r U V → Got a D fV fC A o len r U' V' :=
  fun r U U' V V' h1 hal h2 ⟨e0, D', X, a1, a2, a3, a4, a5, a6, a7, a8, a9, a10, a11⟩ => ⟨e0, D', X, a1.mv hal h2, a2, by rw [h1]; exact a3, a4, by rw [h1]; exact a5.mv hal h2, a6, by rw [hal.findClass]; exact a7, a8, a9, by rw [h1, h2]; exact a10, by rw [h1, h2]; exact a11⟩
namespace New4
def yN : MethodName := ⟨"java/lang/String", "<init>", "([CIILjava/lang/Void;)V"⟩
abbrev yB : ByteArray := jdk_42_method_149_code
theorem d0 : decode yB 0 = .ok (.aload_n 0, 1) := by decide +kernel
theorem d1 : decode yB 1 = .ok (.invokespecial 1, 3) := by decide +kernel
theorem d4 : decode yB 4 = .ok (.iload_n 3, 1) := by decide +kernel
theorem d5 : decode yB 5 = .ok (.ifCond (.ne) 22, 3) := by decide +kernel
theorem d27 : decode yB 27 = .ok (.getstatic 38, 3) := by decide +kernel
theorem d30 : decode yB 30 = .ok (.ifCond (.eq) 28, 3) := by decide +kernel
theorem d33 : decode yB 33 = .ok (.aload_n 1, 1) := by decide +kernel
theorem d34 : decode yB 34 = .ok (.iload_n 2, 1) := by decide +kernel
theorem d35 : decode yB 35 = .ok (.iload_n 3, 1) := by decide +kernel
theorem d36 : decode yB 36 = .ok (.invokestatic 177, 3) := by decide +kernel
theorem d39 : decode yB 39 = .ok (.astore 5, 2) := by decide +kernel
theorem d41 : decode yB 41 = .ok (.aload_n 0, 1) := by decide +kernel
theorem d42 : decode yB 42 = .ok (.aload 5, 2) := by decide +kernel
theorem d44 : decode yB 44 = .ok (.iload_n 3, 1) := by decide +kernel
theorem d45 : decode yB 45 = .ok (.invokestatic 47, 3) := by decide +kernel
theorem d48 : decode yB 48 = .ok (.putfield 15, 3) := by decide +kernel
theorem d51 : decode yB 51 = .ok (.aload_n 0, 1) := by decide +kernel
theorem d52 : decode yB 52 = .ok (.aload 5, 2) := by decide +kernel
theorem d54 : decode yB 54 = .ok (.putfield 9, 3) := by decide +kernel
theorem d57 : decode yB 57 = .ok (.return_, 1) := by decide +kernel
def site : List Cond := [.fieldLink "java/lang/String" 38 "java/lang/String" "COMPACT_STRINGS" "Z", Cmp3.tab, CodL.tab, .laysFinal "java/lang/String" "java/lang/String" "value" "[B", .fieldLink "java/lang/String" 9 "java/lang/String" "value" "[B", .laysFinal "java/lang/String" "java/lang/String" "coder" "B", .fieldLink "java/lang/String" 15 "java/lang/String" "coder" "B"] ++ objW "java/lang/String" 1 ++ staticW "java/lang/String" 177 Cmp3.yN ++ staticW "java/lang/String" 47 CodL.yN
def tab : Cond := tabOf yN yB 6 none site
def P (a : Addr) (D : Cell) (fV fC : Field) (b : Addr) (A : Cell) (z : Int32) (o len : Nat) (args : Array Value) (s : State) : Prop := args = #[.ref a, .ref b, .int (Int32.ofNat o), .int (Int32.ofNat len), .null] ∧ Blank "java/lang/String" a D s ∧ Found "java/lang/String" "value" "[B" fV s ∧ Found "java/lang/String" "coder" "B" fC s ∧ Ch b A s ∧ StaticIs s "java/lang/String" "COMPACT_STRINGS" "Z" (.int z) ∧ ¬ z = 0 ∧ 0 < len ∧ o + len ≤ A.slots.size ∧ len ≤ 536870912 ∧ ∀ i, i < len → ¬ 255 < cv A (o + i)
def E (a : Addr) (D : Cell) (fV fC : Field) (A : Cell) (o len : Nat) (r : Option Value) (s u : State) : Prop := Got a D fV fC A o len r s u
/-- len > 0, no char of the range above 255: a Latin-1 String of their low bytes -/
theorem law (l : Launch) (a : Addr) (D : Cell) (fV fC : Field) (b : Addr) (A : Cell) (z : Int32) (o len : Nat) : Law l yN 5 4 2 35 yB 6 none site (P a D fV fC b A z o len) (E a D fV fC A o len) [⟨a, fC.slot⟩, ⟨a, fV.slot⟩] 1 len := by
  refine Law.of_walk (plainFor_of_name (by decide +kernel)) (by decide +kernel) (by decide +kernel) (by decide) (fun _ _ h => by rw [h.1]; rfl) (fun _ U U' hal hh h => ⟨h.1, h.2.1.mv hal hh, h.2.2.1.al hal, h.2.2.2.1.al hal, h.2.2.2.2.1.mv hal hh, h.2.2.2.2.2.1.there hal hh, h.2.2.2.2.2.2⟩) (fun r U U' V V' h1 hal h2 h => Got.mv r U U' V V' h1 hal h2 h) ?_
  intro p e s m args below meth c s₁ X0 hexec hbytes hml hret hlk hnm hown hh0 W hP
  obtain ⟨rfl, hB, f1, f2, hA, s1, hz, l0, l1, l2, hp⟩ := hP
  have a31 := hA.1.2.2.2
  have c1 : Steps p.tables e below (s₁.setTop (entryFrame m #[.ref a, .ref b, .int (Int32.ofNat o), .int (Int32.ofNat len), .null] 6)) (s₁.setTop (mkF m 0 #[.val (.ref a), .val (.ref b), .val (.int (Int32.ofNat o)), .val (.int (Int32.ofNat len)), .val .null, .unset] [])) := entry rfl
  have c2 : Steps p.tables e below (s₁.setTop (entryFrame m #[.ref a, .ref b, .int (Int32.ofNat o), .int (Int32.ofNat len), .null] 6)) (s₁.setTop (mkF m 1 #[.val (.ref a), .val (.ref b), .val (.int (Int32.ofNat o)), .val (.int (Int32.ofNat len)), .val .null, .unset] [.ref a])) := c1.trans (by
    refine XS.aloadN X0.here hexec rfl (hb hbytes d0) rfl rfl ?_
    exact Steps.refl _)
  obtain ⟨T3, X3, q3, st3⟩ := X0.oinit hexec hown (wks W (objW "java/lang/String" 1)) (g := (mkF m 1 #[.val (.ref a), .val (.ref b), .val (.int (Int32.ofNat o)), .val (.int (Int32.ofNat len)), .val .null, .unset] [.ref a])) rfl (by rw [hml]; rfl) (rest := []) rfl (hb hbytes d1) (W := 0) (by show 2 * 0 + 0 ≤ _; decide) (Nat.le_of_ble_eq_true rfl) (Nat.le_of_ble_eq_true rfl)
  have hh3 := q3.trans hh0
  have c4 : Steps p.tables e below (s₁.setTop (entryFrame m #[.ref a, .ref b, .int (Int32.ofNat o), .int (Int32.ofNat len), .null] 6)) (T3.setTop (mkF m 27 #[.val (.ref a), .val (.ref b), .val (.int (Int32.ofNat o)), .val (.int (Int32.ofNat len)), .val .null, .unset] [])) := (c2.trans (st3 _ (Steps.refl _))).trans (by
    refine XS.iloadN X3.here hexec rfl (hb hbytes d4) rfl ?_
    refine XS.ifYes X3.here hexec rfl (pc0 := 5) rfl (hb hbytes d5) rfl (i0_ne_t (nz32 (by omega) l0)) (by decide) rfl ?_
    exact Steps.refl _)
  obtain ⟨T5, X5, q5, st5⟩ := X3.sget hexec hown (wk W (.fieldLink "java/lang/String" 38 "java/lang/String" "COMPACT_STRINGS" "Z")) s1 (fun _ _ h => by rw [hh3]; exact h) (g := (mkF m 27 #[.val (.ref a), .val (.ref b), .val (.int (Int32.ofNat o)), .val (.int (Int32.ofNat len)), .val .null, .unset] [])) rfl (hb hbytes d27)
  have hh5 := q5.trans hh3
  have c6 : Steps p.tables e below (s₁.setTop (entryFrame m #[.ref a, .ref b, .int (Int32.ofNat o), .int (Int32.ofNat len), .null] 6)) (T5.setTop (mkF m 30 #[.val (.ref a), .val (.ref b), .val (.int (Int32.ofNat o)), .val (.int (Int32.ofNat len)), .val .null, .unset] [.int z])) := c4.trans (st5 _ (Steps.refl _))
  have c7 : Steps p.tables e below (s₁.setTop (entryFrame m #[.ref a, .ref b, .int (Int32.ofNat o), .int (Int32.ofNat len), .null] 6)) (T5.setTop (mkF m 36 #[.val (.ref a), .val (.ref b), .val (.int (Int32.ofNat o)), .val (.int (Int32.ofNat len)), .val .null, .unset] [.int (Int32.ofNat len), .int (Int32.ofNat o), .ref b])) := c6.trans (by
    refine XS.ifNo X5.here hexec rfl (hb hbytes d30) rfl (i0_eq_f hz) ?_
    refine XS.aloadN X5.here hexec rfl (hb hbytes d33) rfl rfl ?_
    refine XS.iloadN X5.here hexec rfl (hb hbytes d34) rfl ?_
    refine XS.iloadN X5.here hexec rfl (hb hbytes d35) rfl ?_
    exact Steps.refl _)
  obtain ⟨v8, T8, X8, E8, g8⟩ := X5.callS hexec (Cmp3.law l b A o len) hown (wks W (staticW "java/lang/String" 177 Cmp3.yN)) (wk W Cmp3.tab) (W := 0) (Nat.le_of_ble_eq_true rfl) (Nat.le_of_ble_eq_true rfl) (Nat.le_refl _) (by show 0 + len ≤ len; omega) (g := (mkF m 36 #[.val (.ref a), .val (.ref b), .val (.int (Int32.ofNat o)), .val (.int (Int32.ofNat len)), .val .null, .unset] [.int (Int32.ofNat len), .int (Int32.ofNat o), .ref b])) rfl (by rw [hml]; rfl) c7 (argsL := [.ref b, .int (Int32.ofNat o), .int (Int32.ofNat len)]) (rest := []) rfl rfl (by show 2 * 0 + 0 ≤ _; decide) (hb hbytes d36) (⟨rfl, hA.mv X5.warmed.alike hh5, l1, l2, hp⟩)
  obtain ⟨e8, z8⟩ := E8
  obtain ⟨rfl, N, n1, n2, n3, n4, n5, n6⟩ := NewArr.mv _ T5 s _ _ hh5.symm (Vm.Alike.refl _) rfl e8
  rw [hh5] at z8
  have hB1 := hB.keep X8.warmed.alike (n6 _ _ hB.1)
  have hne : s.heap.size ≠ a := (Nat.ne_of_lt (Array.getElem?_eq_some_iff.mp hB.1).1).symm
  have c9 : Steps p.tables e below (s₁.setTop (entryFrame m #[.ref a, .ref b, .int (Int32.ofNat o), .int (Int32.ofNat len), .null] 6)) (T8.setTop (mkF m 39 #[.val (.ref a), .val (.ref b), .val (.int (Int32.ofNat o)), .val (.int (Int32.ofNat len)), .val .null, .unset] [.ref s.heap.size])) := g8
  have c10 : Steps p.tables e below (s₁.setTop (entryFrame m #[.ref a, .ref b, .int (Int32.ofNat o), .int (Int32.ofNat len), .null] 6)) (T8.setTop (mkF m 45 #[.val (.ref a), .val (.ref b), .val (.int (Int32.ofNat o)), .val (.int (Int32.ofNat len)), .val .null, .val (.ref s.heap.size)] [.int (Int32.ofNat N.slots.size), .ref s.heap.size, .ref a])) := by
    have hc : Steps p.tables e below (s₁.setTop (entryFrame m #[.ref a, .ref b, .int (Int32.ofNat o), .int (Int32.ofNat len), .null] 6)) (T8.setTop (mkF m 45 #[.val (.ref a), .val (.ref b), .val (.int (Int32.ofNat o)), .val (.int (Int32.ofNat len)), .val .null, .val (.ref s.heap.size)] [.int (Int32.ofNat len), .ref s.heap.size, .ref a])) := c9.trans (by
      refine XS.astore X8.here hexec rfl (hb hbytes d39) rfl rfl rfl ?_
      refine XS.aloadN X8.here hexec rfl (hb hbytes d41) rfl rfl ?_
      refine XS.aload X8.here hexec rfl (hb hbytes d42) rfl rfl ?_
      refine XS.iloadN X8.here hexec rfl (hb hbytes d44) rfl ?_
      exact Steps.refl _)
    rw [n4]; exact hc
  obtain ⟨v11, T11, X11, E11, g11⟩ := X8.callS hexec (CodL.law l s.heap.size N) hown (wks W (staticW "java/lang/String" 47 CodL.yN)) (wk W CodL.tab) (W := 1) (Nat.le_of_ble_eq_true rfl) (Nat.le_of_ble_eq_true rfl) (Nat.le_refl _) (by show 0 + len + 0 ≤ len; omega) (g := (mkF m 45 #[.val (.ref a), .val (.ref b), .val (.int (Int32.ofNat o)), .val (.int (Int32.ofNat len)), .val .null, .val (.ref s.heap.size)] [.int (Int32.ofNat N.slots.size), .ref s.heap.size, .ref a])) rfl (by rw [hml]; rfl) c10 (argsL := [.ref s.heap.size, .int (Int32.ofNat N.slots.size)]) (rest := [.ref a]) rfl rfl (by show 2 * 0 + (1 + 0) ≤ _; decide) (hb hbytes d45) (⟨rfl, n1⟩)
  obtain ⟨rfl, q11⟩ := E11
  have hB11 := hB1.mv (X8.warmed.alike.symm.trans X11.warmed.alike) q11
  have c12 : Steps p.tables e below (s₁.setTop (entryFrame m #[.ref a, .ref b, .int (Int32.ofNat o), .int (Int32.ofNat len), .null] 6)) (T11.setTop (mkF m 48 #[.val (.ref a), .val (.ref b), .val (.int (Int32.ofNat o)), .val (.int (Int32.ofNat len)), .val .null, .val (.ref s.heap.size)] [.int 0, .ref a])) := g11
  obtain ⟨T13, X13, p13, bl13, sl13, st13⟩ := X11.finit hexec hown (wk W (.fieldLink "java/lang/String" 15 "java/lang/String" "coder" "B")) (Or.inr ⟨_, (wk W (.laysFinal "java/lang/String" "java/lang/String" "coder" "B"))⟩) (Or.inl ⟨rfl, hnm⟩) f2 (Or.inl rfl) hB11 (t := .byte) (by decide +kernel) rfl (g := (mkF m 48 #[.val (.ref a), .val (.ref b), .val (.int (Int32.ofNat o)), .val (.int (Int32.ofNat len)), .val .null, .val (.ref s.heap.size)] [.int 0, .ref a])) rfl (rest := []) rfl (hb hbytes d48)
  have c14 : Steps p.tables e below (s₁.setTop (entryFrame m #[.ref a, .ref b, .int (Int32.ofNat o), .int (Int32.ofNat len), .null] 6)) (T13.setTop (mkF m 54 #[.val (.ref a), .val (.ref b), .val (.int (Int32.ofNat o)), .val (.int (Int32.ofNat len)), .val .null, .val (.ref s.heap.size)] [.ref s.heap.size, .ref a])) := (c12.trans (st13 _ (Steps.refl _))).trans (by
    refine XS.aloadN X13.here hexec rfl (hb hbytes d51) rfl rfl ?_
    refine XS.aload X13.here hexec rfl (hb hbytes d52) rfl rfl ?_
    exact Steps.refl _)
  obtain ⟨T15, X15, p15, bl15, sl15, st15⟩ := X13.finit hexec hown (wk W (.fieldLink "java/lang/String" 9 "java/lang/String" "value" "[B")) (Or.inr ⟨_, (wk W (.laysFinal "java/lang/String" "java/lang/String" "value" "[B"))⟩) (Or.inl ⟨rfl, hnm⟩) f1 (Or.inl rfl) bl13 (t := (.array .byte)) (by decide +kernel) rfl (g := (mkF m 54 #[.val (.ref a), .val (.ref b), .val (.int (Int32.ofNat o)), .val (.int (Int32.ofNat len)), .val .null, .val (.ref s.heap.size)] [.ref s.heap.size, .ref a])) rfl (rest := []) rfl (hb hbytes d54)
  have c16 : Steps p.tables e below (s₁.setTop (entryFrame m #[.ref a, .ref b, .int (Int32.ofNat o), .int (Int32.ofNat len), .null] 6)) (T15.setTop (mkF m 57 #[.val (.ref a), .val (.ref b), .val (.int (Int32.ofNat o)), .val (.int (Int32.ofNat len)), .val .null, .val (.ref s.heap.size)] [])) := c14.trans (st15 _ (Steps.refl _))
  have ap := apart (Or.inr ⟨_, (wk W (.laysFinal "java/lang/String" "java/lang/String" "value" "[B"))⟩) (Or.inr ⟨_, (wk W (.laysFinal "java/lang/String" "java/lang/String" "coder" "B"))⟩) f1 f2 (t₁ := .array .byte) (t₂ := .byte) (by decide +kernel) (by decide +kernel) (by decide)
  have al := X8.warmed.alike.symm.trans X15.warmed.alike
  have n7 : T11.heap[s.heap.size]? = some N := by rw [q11]; exact n1.1
  exact ⟨T15, none, _, _, _, X15, by simp, rfl, by omega, (fun _ => rfl), ⟨rfl, _, N, bl15, ((Same.refl D _).set _ (by simp)).set _ (by simp), sl15, (Cell.slots_setSlot_ne _ ap).trans sl13, n1.keep al (p15.other hne (p13.other hne n7)), n2, by rw [al.findClass]; exact n3, n4, n5, fun y c h1 h2 => p15.other h1 (p13.other h1 (by rw [q11]; exact n6 y c h2)), by rw [p15.2.2, p13.2.2, q11]; exact z8⟩, fun fs hl => c16.trans (X15.returnOut hexec hret (hb hbytes d57) hl)⟩
end New4
namespace New1
def yN : MethodName := ⟨"java/lang/String", "<init>", "([C)V"⟩
abbrev yB : ByteArray := jdk_42_method_3_code
theorem d0 : decode yB 0 = .ok (.aload_n 0, 1) := by decide +kernel
theorem d1 : decode yB 1 = .ok (.aload_n 1, 1) := by decide +kernel
theorem d2 : decode yB 2 = .ok (.iconst 0, 1) := by decide +kernel
theorem d3 : decode yB 3 = .ok (.aload_n 1, 1) := by decide +kernel
theorem d4 : decode yB 4 = .ok (.arraylength, 1) := by decide +kernel
theorem d5 : decode yB 5 = .ok (.aconst_null, 1) := by decide +kernel
theorem d6 : decode yB 6 = .ok (.invokespecial 27, 3) := by decide +kernel
theorem d9 : decode yB 9 = .ok (.return_, 1) := by decide +kernel
def site : List Cond := [New4.tab] ++ initW "java/lang/String" 27 New4.yN
def tab : Cond := tabOf yN yB 2 none site
def P (a : Addr) (D : Cell) (fV fC : Field) (b : Addr) (A : Cell) (z : Int32) (args : Array Value) (s : State) : Prop := args = #[.ref a, .ref b] ∧ Blank "java/lang/String" a D s ∧ Found "java/lang/String" "value" "[B" fV s ∧ Found "java/lang/String" "coder" "B" fC s ∧ Ch b A s ∧ StaticIs s "java/lang/String" "COMPACT_STRINGS" "Z" (.int z) ∧ ¬ z = 0 ∧ 0 < A.slots.size ∧ A.slots.size ≤ 536870912 ∧ ∀ i, i < A.slots.size → ¬ 255 < cv A i
def E (a : Addr) (D : Cell) (fV fC : Field) (A : Cell) (r : Option Value) (s u : State) : Prop := Got a D fV fC A 0 A.slots.size r s u
/-- new String(chars), not empty, no char above 255: a Latin-1 String of their low bytes -/
theorem law (l : Launch) (a : Addr) (D : Cell) (fV fC : Field) (b : Addr) (A : Cell) (z : Int32) : Law l yN 2 1 3 52 yB 2 none site (P a D fV fC b A z) (E a D fV fC A) [⟨a, fC.slot⟩, ⟨a, fV.slot⟩] 1 A.slots.size := by
  refine Law.of_walk (plainFor_of_name (by decide +kernel)) (by decide +kernel) (by decide +kernel) (by decide) (fun _ _ h => by rw [h.1]; rfl) (fun _ U U' hal hh h => ⟨h.1, h.2.1.mv hal hh, h.2.2.1.al hal, h.2.2.2.1.al hal, h.2.2.2.2.1.mv hal hh, h.2.2.2.2.2.1.there hal hh, h.2.2.2.2.2.2⟩) (fun r U U' V V' h1 hal h2 h => Got.mv r U U' V V' h1 hal h2 h) ?_
  intro p e s m args below meth c s₁ X0 hexec hbytes hml hret hlk hnm hown hh0 W hP
  obtain ⟨rfl, hB, f1, f2, hA, s1, hz, l0, l2, hp⟩ := hP
  have c1 : Steps p.tables e below (s₁.setTop (entryFrame m #[.ref a, .ref b] 2)) (s₁.setTop (mkF m 0 #[.val (.ref a), .val (.ref b)] [])) := entry rfl
  have c2 : Steps p.tables e below (s₁.setTop (entryFrame m #[.ref a, .ref b] 2)) (s₁.setTop (mkF m 6 #[.val (.ref a), .val (.ref b)] [.null, .int (Int32.ofNat A.slots.size), .int 0, .ref b, .ref a])) := c1.trans (by
    refine XS.aloadN X0.here hexec rfl (hb hbytes d0) rfl rfl ?_
    refine XS.aloadN X0.here hexec rfl (hb hbytes d1) rfl rfl ?_
    refine iconstV X0.here hexec rfl 0 (hb hbytes d2) (by decide) ?_
    refine XS.aloadN X0.here hexec rfl (hb hbytes d3) rfl rfl ?_
    refine X0.alen hexec (hA.1.mv X0.warmed.alike hh0) rfl rfl (hb hbytes d4) ?_
    refine XS.aconstNull X0.here hexec rfl (hb hbytes d5) ?_
    exact Steps.refl _)
  obtain ⟨v3, T3, X3, E3, g3⟩ := X0.callN hexec (New4.law l a D fV fC b A z 0 A.slots.size) rfl hown (wks W (initW "java/lang/String" 27 New4.yN)) (W New4.tab (by simp only [site, List.mem_cons, List.mem_append, true_or, or_true])) (W := 0) (Nat.le_of_ble_eq_true rfl) (Nat.le_of_ble_eq_true rfl) (Nat.le_refl _) (by show 0 + A.slots.size ≤ A.slots.size; omega) (g := (mkF m 6 #[.val (.ref a), .val (.ref b)] [.null, .int (Int32.ofNat A.slots.size), .int (Int32.ofNat 0), .ref b, .ref a])) rfl (by rw [hml]; rfl) c2 (argsL := [.ref b, .int (Int32.ofNat 0), .int (Int32.ofNat A.slots.size), .null]) (rest := []) rfl rfl (by show 2 * 0 + 0 ≤ _; decide) (hb hbytes d6) (⟨rfl, hB.mv X0.warmed.alike hh0, f1.al X0.warmed.alike, f2.al X0.warmed.alike, hA.mv X0.warmed.alike hh0, s1.there X0.warmed.alike hh0, hz, l0, by omega, l2, fun i hi => by rw [Nat.zero_add]; exact hp i hi⟩)
  have e0 := Got.mv _ s₁ s _ _ hh0.symm (Vm.Alike.refl _) rfl E3
  obtain rfl := e0.1
  have c4 : Steps p.tables e below (s₁.setTop (entryFrame m #[.ref a, .ref b] 2)) (T3.setTop (mkF m 9 #[.val (.ref a), .val (.ref b)] [])) := g3
  exact ⟨T3, none, _, _, _, X3, by simp, rfl, by omega, (fun _ => rfl), e0, fun fs hl => c4.trans (X3.returnOut hexec hret (hb hbytes d9) hl)⟩
theorem pays {l : Launch} {R : Room} {p : Program} {e : Env} {below : List Frame} {s : State} {sargs : Array Value} {len W : Nat} (a : Addr) (D : Cell) (fV fC : Field) (b : Addr) (A : Cell) (z : Int32) (htab : tab.before sargs s = true) (hfr : 4 ≤ R.frames) (hlo : W + 65 ≤ R.locals) :
    Back l R p e below s sargs yN len W (fun A₁ a₁ => A₁.cells + 1 ≤ R.cells ∧ A₁.slots + A.slots.size ≤ R.slots ∧ P a D fV fC b A z a₁ A₁.U) (fun A₁ _ v₁ B₁ => E a D fV fC A v₁ A₁.U B₁.U ∧ B₁.locs = A₁.locs ++ [⟨a, fC.slot⟩, ⟨a, fV.slot⟩] ∧ B₁.cells = A₁.cells + 1 ∧ B₁.slots = A₁.slots + A.slots.size) :=
  (law l a D fV fC b A z).pays htab hfr (by omega)
end New1
end StrChars
namespace StrChars.Road
open Jvm Sem ClassFile Op Lib Jvm.Stand Jvm.Free Jvm.Free.XT
open Jvm.Lib.Cold (StaticIs)
abbrev ST : String := "java/lang/String"
/-- every table word that New1's law asks, flat -/
abbrev words : List Jvm.Cond := [.code New1.yN New1.yB 2 none, .initialized ST, .methodLink ST 27 New4.yN, .instanceMethod New4.yN,
  .code New4.yN New4.yB 6 none, .fieldLink ST 38 ST "COMPACT_STRINGS" "Z", .laysFinal ST ST "value" "[B", .fieldLink ST 9 ST "value" "[B", .laysFinal ST ST "coder" "B", .fieldLink ST 15 ST "coder" "B",
  .methodLink ST 1 Lib.objectInit, .instanceMethod Lib.objectInit, .code Lib.objectInit ⟨#[0xb1]⟩ 1 none, .methodLink ST 177 Cmp3.yN, .static Cmp3.yN, .methodLink ST 47 CodL.yN, .static CodL.yN,
  .code Cmp3.yN Cmp3.yB 6 (some (.array .byte)), .initialized U16, .arrayClass .byte, .methodLink U16 115 Cmp5.yN, .static Cmp5.yN, .code Cmp5.yN Cmp5.yB 7 (some .int), .code CodL.yN CodL.yB 2 (some .byte)]
theorem tab_of {a : Array Value} {s : State} (h : ∀ w ∈ words, w.before a s = true) : New1.tab.before a s = true := by
  have h5 : Cmp5.tab.before a s = true := unparts (wk h (.code Cmp5.yN Cmp5.yB 7 (some .int))) (wks h (.initialized Cmp5.yN.cls :: Cmp5.site))
  have hc : CodL.tab.before a s = true := unparts (wk h (.code CodL.yN CodL.yB 2 (some .byte))) (wks h (.initialized CodL.yN.cls :: CodL.site))
  have q5 : ∀ w ∈ Cmp5.tab :: words, w.before a s = true := fun w hw => (List.mem_cons.mp hw).elim (fun e => e ▸ h5) (h w)
  have h3 : Cmp3.tab.before a s = true := unparts (wk q5 (.code Cmp3.yN Cmp3.yB 6 (some (.array .byte)))) (wks q5 (.initialized Cmp3.yN.cls :: Cmp3.site))
  have q3 : ∀ w ∈ Cmp3.tab :: CodL.tab :: words, w.before a s = true := fun w hw => (List.mem_cons.mp hw).elim (fun e => e ▸ h3) fun hw => (List.mem_cons.mp hw).elim (fun e => e ▸ hc) (h w)
  have h4 : New4.tab.before a s = true := unparts (wk q3 (.code New4.yN New4.yB 6 none)) (wks q3 (.initialized New4.yN.cls :: New4.site))
  have q4 : ∀ w ∈ New4.tab :: words, w.before a s = true := fun w hw => (List.mem_cons.mp hw).elim (fun e => e ▸ h4) (h w)
  exact unparts (wk q4 (.code New1.yN New1.yB 2 none)) (wks q4 (.initialized New1.yN.cls :: New1.site))
/-- the words ride from the start Z to the walk's own state -/
theorem moved {Z s : State} {a0 args : Array Value} (hZ : Z.Warmed39 s.vm) (hw : ∀ d ∈ words, d.before a0 Z = true) : ∀ d ∈ words, d.before args s = true := fun d hd => by
  have q := hw d hd
  have t : ∀ d ∈ words, d = .arrayClass .byte ∨ (d.onTables && d.keepsFace) = true := by decide +kernel
  rcases t d hd with rfl | t
  · exact RoadKit.mvA hZ q
  · exact RoadKit.mv hZ q t
/-- WHAT COMES BACK, over the tables of the start Z: h the heap at the call, h' behind it -/
def Q (Z : State) (x : Addr) (A : Cell) (h : Heap) (v : Option Value) (h' : Heap) (L : List Loc) : Prop := v = none ∧ (∀ y ∈ L, y.base = x) ∧ RoadKit.Keep h h' [x] ∧ h'.size = h.size + 1 ∧ RoadKit.Exa Z h' x ST ∧ RoadKit.Fld Z h' x ST "value" "[B" (.ref h.size) ∧ RoadKit.Fld Z h' x ST "coder" "B" (.int 0) ∧
  (∃ V : Cell, RoadKit.Arr Z h' h.size V .byte ∧ V.vm = .none ∧ Z.vm.findClass "[B" = some V.cls ∧ V.slots.size = A.slots.size ∧ ∀ j, j < A.slots.size → V.slots[j]? = some (.int (lo8 (cv A j)))) ∧
  ∀ (O n d : String) (w : Value), RoadKit.Fld Z h x O n d w → RoadKit.slotOf Z O n d ≠ RoadKit.slotOf Z ST "value" "[B" → RoadKit.slotOf Z O n d ≠ RoadKit.slotOf Z ST "coder" "B" → RoadKit.Fld Z h' x O n d w
/-- **new String(chars) AT A CALL, IN THE ROAD'S FORM**: for specialBack behind newO: x the fresh String, b the char[] with the cell A -/
theorem back {p : Program} {l : Launch} {e : Env} {R : Room} {s : State} {args : Array Value} {below : List Frame} {len W : Nat} {Z : State} {a0 : Array Value} {h : Heap} (hZ : Z.Warmed39 s.vm) (hw : ∀ d ∈ words, d.before a0 Z = true) {kI : Nat} (wi : (Jvm.Cond.instantiable ST kI).before a0 Z = true)
    {x b : Addr} {A : Cell} {z : Int32} {v0 c0 : Value} (E : RoadKit.Exa Z h x ST) (V : RoadKit.Fld Z h x ST "value" "[B" v0) (C : RoadKit.Fld Z h x ST "coder" "B" c0) (K : RoadKit.Arr Z h b A .char) (hty : Typed .char A) (S : RoadKit.Sta Z h ST "COMPACT_STRINGS" "Z" (.int z)) (hz : ¬ z = 0)
    (l0 : 0 < A.slots.size) (l2 : A.slots.size ≤ 536870912) (hp : ∀ i, i < A.slots.size → ¬ 255 < cv A i) (hfr : 4 ≤ R.frames) (hlo : W + 65 ≤ R.locals) :
    Back l R p e below s args New1.yN len W (fun P a => a = #[.ref x, .ref b] ∧ P.U.heap = h ∧ P.cells + 1 ≤ R.cells ∧ P.slots + A.slots.size ≤ R.slots)
      (fun P _ v B => ∃ L, Q Z x A h v B.U.heap L ∧ B.locs = P.locs ++ L ∧ B.cells = P.cells + 1 ∧ B.slots = P.slots + A.slots.size) := by
  intro m meth c P g ig mk a X hg hsize hdg hW hn hp'
  obtain ⟨rfl, rfl, r1, r2⟩ := hp'
  have al : Z.vm.Alike P.U.vm := hZ.alike.trans X.warmed.alike
  obtain ⟨D, cfV, kV, iV, fV, hD, gV, stV, knV, obV, asV, slV⟩ := id V
  obtain ⟨D', cfC, kC, iC, fC, hD', gC, stC, -, -, asC, slC⟩ := id C
  cases hD.symm.trans hD'
  obtain ⟨D2, kD, e1, e2, e3, e4, e5⟩ := id E
  cases hD.symm.trans e1
  obtain ⟨c2, k2, i1, i2, i3, -⟩ := Cond.instantiable_spec wi
  cases e2.symm.trans i1
  cases e3.symm.trans i2
  obtain ⟨kU, u1, u2⟩ := al.2.2 _ _ e3
  have hB : Blank ST x D P.U := ⟨hD, ⟨knV, fun q hq => by rw [hq] at obV; cases obV⟩, by rw [al.findClass]; exact e2, kU, u1, by rw [u2]; exact i3, by rw [u2]; exact e5 i3⟩
  have F1 : Found ST "value" "[B" fV P.U := ⟨SBG.found_only al ⟨cfV, kV, iV, gV⟩, stV⟩
  have F2 : Found ST "coder" "B" fC P.U := ⟨SBG.found_only al ⟨cfC, kC, iC, gC⟩, stC⟩
  have hA : Ch b A P.U := ⟨⟨K.1, State.isArrayOf_alike al K.2.1, K.2.2, by omega⟩, hty⟩
  have hS : StaticIs P.U ST "COMPACT_STRINGS" "Z" (.int z) := by
    obtain ⟨cfS, iS, kS, fS, st, cS, t1, t2, t3, t4, t5, t6, t7⟩ := S
    exact StaticIs.there (s := { Z with heap := P.U.heap }) ⟨cfS, iS, kS, fS, st, cS, t1, t2, t3, t4, t5, (fun q => by rw [q] at t6; cases t6), t7⟩ al rfl
  obtain ⟨v, B, X', ⟨⟨hv, E', V', q1, q2, q3, q4, q5, q6, q7, q8, q9, q10, q11⟩, hl, hc, hs⟩, st⟩ := New1.pays x D fV fC b A z (tab_of (moved hZ hw)) hfr hlo m meth c P g ig mk _ X hg hsize hdg hW hn ⟨r1, r2, rfl, hB, F1, F2, hA, hS, hz, l0, l2, hp⟩
  have al' : Z.vm.Alike B.U.vm := hZ.alike.trans X'.warmed.alike
  have hsz : E'.slots.size = D.slots.size := by
    obtain ⟨-, -, -, kB, w1, w2, w3⟩ := q1
    obtain ⟨kB', y1, y2⟩ := al'.2.2 _ _ e3
    rw [q2.2.1] at w1
    cases w1.symm.trans y1
    rw [w3, e5 i3, y2]
  refine ⟨v, B, X', ⟨_, ⟨hv, ?_, ⟨by omega, fun y cy hy hn' => q10 y cy (by simpa using hn') hy, fun y cy hy => ?_⟩, q11, ⟨E', _, q1.1, by rw [q2.2.1]; exact e2, by rw [q2.2.1]; exact e3, by rw [q2.1]; exact obV, fun _ => by rw [hsz]; exact e5 i3⟩,
    ⟨E', cfV, kV, iV, fV, q1.1, gV, stV, by rw [q2.1]; exact knV, by rw [q2.1]; exact obV, by rw [q2.2.1]; exact asV, q3⟩, ⟨E', cfC, kC, iC, fC, q1.1, gC, stC, by rw [q2.1]; exact knV, by rw [q2.1]; exact obV, by rw [q2.2.1]; exact asC, q4⟩,
    ⟨V', ⟨q5.1, State.isArrayOf_alike al'.symm q5.2.1, q5.2.2.1⟩, q6, by rw [← al'.findClass]; exact q7, q8, fun j hj => by have := q9 j hj; rwa [Nat.zero_add] at this⟩, fun O n d w F n1 n2 => ?_⟩, hl, hc, hs⟩, st⟩
  · intro y hy
    simp only [List.mem_cons, List.not_mem_nil, or_false] at hy
    rcases hy with rfl | rfl <;> rfl
  · by_cases q : y = x
    · subst q
      cases hD.symm.trans hy
      exact ⟨E', q1.1, q2.2.1, q2.1, hsz⟩
    · exact ⟨cy, q10 y cy q hy, rfl, rfl, rfl⟩
  · obtain ⟨D3, cf, k, i, f, g1, g2, g3, g4, g5, g6, g7⟩ := F
    cases hD.symm.trans g1
    simp only [RoadKit.slotOf, g2, gV, gC, Option.map_some, Option.getD_some] at n1 n2
    exact ⟨E', cf, k, i, f, q1.1, g2, g3, by rw [q2.1]; exact g4, by rw [q2.1]; exact g5, by rw [q2.2.1]; exact g6, by rw [q2.2.2 f.slot (by simp [n1, n2])]; exact g7⟩
end StrChars.Road
namespace StrChars.Road
open Jvm Sem ClassFile Op Lib Jvm.Stand Jvm.Free Jvm.Free.XT
/-- WHAT COMES BACK, the byte[] as a list of values -/
def QA (Z : State) (x : Addr) (zn : Int32) (cs : List Int32) (h : Heap) (v : Option Value) (h' : Heap) (L : List Loc) : Prop := v = none ∧ (∀ y ∈ L, y.base = x) ∧ RoadKit.Keep h h' [x] ∧ h'.size = h.size + 1 ∧ RoadKit.Exa Z h' x ST ∧ RoadKit.Fld Z h' x ST "value" "[B" (.ref h.size) ∧ RoadKit.Fld Z h' x ST "coder" "B" (.int 0) ∧
  (∃ kb, Z.vm.findClass "[B" = some kb ∧ RoadKit.Arv Z h' h.size kb .byte zn (cs.map fun c => .int (lo8 c)) (.int 0)) ∧
  ∀ (O n d : String) (w : Value), RoadKit.Fld Z h x O n d w → RoadKit.slotOf Z O n d ≠ RoadKit.slotOf Z ST "value" "[B" → RoadKit.slotOf Z O n d ≠ RoadKit.slotOf Z ST "coder" "B" → RoadKit.Fld Z h' x O n d w
/-- **new String(chars) AT A CALL, THE ARRAYS AS LISTS**: the char[] at b holds cs, not empty, no char above 255 -/
theorem backArv {p : Program} {l : Launch} {e : Env} {R : Room} {s : State} {args : Array Value} {below : List Frame} {len W : Nat} {Z : State} {a0 : Array Value} {h : Heap} (hZ : Z.Warmed39 s.vm) (hw : ∀ d ∈ words, d.before a0 Z = true) {kI : Nat} (wi : (Jvm.Cond.instantiable ST kI).before a0 Z = true)
    {x b : Addr} {k : ClassId} {zn z : Int32} {cs : List Int32} {dv v0 c0 : Value} (E : RoadKit.Exa Z h x ST) (V : RoadKit.Fld Z h x ST "value" "[B" v0) (C : RoadKit.Fld Z h x ST "coder" "B" c0) (K : RoadKit.Arv Z h b k .char zn (cs.map Value.int) dv) (S : RoadKit.Sta Z h ST "COMPACT_STRINGS" "Z" (.int z)) (hz : ¬ z = 0)
    (hlen : zn.toNatClampNeg = cs.length) (h0 : 0 < cs.length) (hbig : cs.length ≤ 536870912) (hall : ∀ c ∈ cs, ¬ 255 < c) (hfr : 4 ≤ R.frames) (hlo : W + 65 ≤ R.locals) :
    Back l R p e below s args New1.yN len W (fun P a => a = #[.ref x, .ref b] ∧ P.U.heap = h ∧ P.cells + 1 ≤ R.cells ∧ P.slots + cs.length ≤ R.slots)
      (fun P _ v B => ∃ L, QA Z x zn cs h v B.U.heap L ∧ B.locs = P.locs ++ L ∧ B.cells = P.cells + 1 ∧ B.slots = P.slots + cs.length) := by
  obtain ⟨A, K1, K2, K3, K4, K5, K6⟩ := K
  have e : A.slots.size = cs.length := K3.trans hlen
  have hat : ∀ (i : Nat) (hi : i < cs.length), A.slots[i]? = some (.int cs[i]) := fun i hi => by rw [K5 i (by omega)]; simp [List.getD_eq_getElem?_getD, hi]
  have hcv : ∀ (i : Nat) (hi : i < cs.length), cv A i = cs[i] := fun i hi => by unfold cv; rw [hat i hi]
  have hty : Typed .char A := fun i v hv => by
    have hi : i < A.slots.size := (Array.getElem?_eq_some_iff.mp hv).1
    have q := K5 i hi
    rw [hv] at q
    rw [Option.some.inj q]
    exact K6 i hi
  refine Back.mono (back hZ hw wi E V C K1 hty S hz (by omega) (by omega) (fun i hi => by rw [hcv i (by omega)]; exact hall _ (List.getElem_mem _)) hfr hlo) (fun P a hp => ⟨hp.1, hp.2.1, hp.2.2.1, by rw [e]; exact hp.2.2.2⟩) (fun P a v B hp hq => ?_)
  obtain ⟨L, ⟨q1, q2, q3, q4, q5, q6, q7, ⟨V', v1, v2, v3, v4, v5⟩, q9⟩, hl, hc, hs⟩ := hq
  refine ⟨L, ⟨q1, q2, q3, q4, q5, q6, q7, ⟨V'.cls, v3, V', v1, rfl, by rw [v4, e, hlen], K4, fun i hi => ?_, fun i hi => ?_⟩, q9⟩, hl, hc, by rw [hs, e]⟩
  · have hi' : i < cs.length := by omega
    rw [v5 i (by omega), hcv i hi']; simp [List.getD_eq_getElem?_getD, hi']
  · have hi' : i < cs.length := by omega
    simp only [List.getD_eq_getElem?_getD, List.getElem?_map, List.getElem?_eq_getElem hi', Option.map_some, Option.getD_some]
    exact fits_lo8 _
end StrChars.Road
namespace StrChars.Road
open Jvm Sem ClassFile Op Lib Jvm.Stand Jvm.Free Jvm.Free.XT
/-- WHAT COMES BACK, in the writer's own shape -/
def QV (Z : State) (x : Addr) (N : Int32) (bs : List Int32) (h : Heap) (n0 : Nat) (v : Option Value) (h' : Heap) (L : List Loc) : Prop := v = none ∧ RoadKit.Fr n0 L ∧ RoadKit.Keep h h' [x] ∧ RoadKit.Exa Z h' x ST ∧ RoadKit.Fld Z h' x ST "coder" "B" (.int 0) ∧
  ∃ (t : Addr) (kb : ClassId), n0 ≤ t ∧ h.size ≤ t ∧ ¬ t = x ∧ RoadKit.Fld Z h' x ST "value" "[B" (.ref t) ∧ RoadKit.Arv Z h' t kb .byte N (bs.map Value.int) (.int 0)
/-- **new String(chars) AT A CALL, FOR THE WRITER**: a char[] of n known ints, each 0 to 255 -/
theorem backV {p : Program} {l : Launch} {e : Env} {R : Room} {s : State} {args : Array Value} {below : List Frame} {len W : Nat} {Z : State} {a0 : Array Value} {h : Heap} (hZ : Z.Warmed39 s.vm) (hw : ∀ d ∈ words, d.before a0 Z = true) {kI : Nat} (wi : (Jvm.Cond.instantiable ST kI).before a0 Z = true)
    {x b : Addr} {kC : ClassId} {cs bs : List Int32} {d v0 c0 : Value} {z N : Int32} {n n0 : Nat} (hx0 : n0 ≤ x) (hh0 : n0 ≤ h.size) (E : RoadKit.Exa Z h x ST) (V : RoadKit.Fld Z h x ST "value" "[B" v0) (C : RoadKit.Fld Z h x ST "coder" "B" c0) (K : RoadKit.Arv Z h b kC .char N (cs.map Value.int) d) (S : RoadKit.Sta Z h ST "COMPACT_STRINGS" "Z" (.int z)) (hz : ¬ z = 0)
    (hn : cs.length = n) (hN : N = Int32.ofNat n) (l0 : 0 < n) (l2 : n ≤ 4000) (hp : ∀ c ∈ cs, ¬ c < 0 ∧ ¬ (255 : Int32) < c) (hb : bs = cs.map (fun c => c.toInt8.toInt32)) (hfr : 4 ≤ R.frames) (hlo : W + 65 ≤ R.locals) :
    Back l R p e below s args (⟨"java/lang/String", "<init>", "([C)V"⟩ : MethodName) len W (fun P a => a = #[.ref x, .ref b] ∧ P.U.heap = h ∧ P.cells + 1 ≤ R.cells ∧ P.slots + n ≤ R.slots)
      (fun P _ v B => ∃ L, QV Z x N bs h n0 v B.U.heap L ∧ B.locs = P.locs ++ L ∧ B.cells = P.cells + 1 ∧ B.slots = P.slots + n) := by
  subst hn hN hb
  refine Back.mono (backArv hZ hw wi E V C K S hz (n32 (by omega)) l0 (by omega) (fun c hc => (hp c hc).2) hfr hlo) (fun P a hp => hp) (fun P a v B hp hq => ?_)
  obtain ⟨L, ⟨q1, q2, q3, q4, q5, q6, q7, ⟨kb, v1, v2⟩, q9⟩, hl, hc, hs⟩ := hq
  exact ⟨L, ⟨q1, fun y hy => by rw [q2 y hy]; exact hx0, q3, q5, q7, h.size, kb, hh0, Nat.le_refl _, Nat.ne_of_gt E.lt, q6, by rw [List.map_map]; exact v2⟩, hl, hc, hs⟩
end StrChars.Road
end Jvm.Pilot.@@N@@

namespace Jvm.Pilot.@@N@@
open Jvm Jvm.ClassFile Sem Op Lib Jvm.Free Jvm.Stand Jvm.LawKit Jvm.RoadKit Bundle Jvm.Ow Jvm.Pilot.@@N@@.Jvm.D
theorem wSt {a0 : Array Value} {Z : State} (hw : ∀ d ∈ tables_1, d.before a0 Z = true) : ∀ d ∈ Bundle.stringAtoms, d.before a0 Z = true := fun d hd => hw d ((by decide +kernel : ∀ d ∈ Bundle.stringAtoms, d ∈ tables_1) d hd)
theorem nref {t : FieldType} {w : Value} (h : w.isRef = true) : narrow t w = w := by cases w <;> first | (cases t <;> rfl) | cases h
theorem fref {C : String} {w : Value} (h : w.isRef = true) : fits (.object C) w = true := by cases w <;> first | rfl | cases h

theorem wCh {a0 : Array Value} {Z : State} (hw : ∀ d ∈ tables_1, d.before a0 Z = true) : ∀ d ∈ StrChars.Road.words, d.before a0 Z = true := fun d hd => hw d ((by decide +kernel : ∀ d ∈ StrChars.Road.words, d ∈ tables_1) d hd)
/-- what new String(chars) leaves -/
def QStr (Z : State) (x : Addr) (N : Int32) (cs : List Int32) (h : Heap) (v : Option Value) (u : Heap) : Prop := ∃ (t : Addr) (kb : ClassId), v = none ∧ Keep h u [x] ∧ Exa Z u x "java/lang/String" ∧ Fld Z u x "java/lang/String" "coder" "B" (.int (0 : Int32)) ∧ Fld Z u x "java/lang/String" "value" "[B" (.ref t) ∧ Arv Z u t kb .byte N ((cs.map fun c => c.toInt8.toInt32).map Value.int) (.int (0 : Int32)) ∧ h.size ≤ t
theorem payStr {p : Program} {l : Launch} {e : Env} {R : Room} {s : State} {m : MethodId} {args : Array Value} {below : List Frame} {meth : Method} {c : Code} {own : String} {Z : State} {a0 : Array Value} {EL : List (String × Nat)} {h0 : Heap} {T : State} {h : Heap} {vm : Vm} {cells slots : Nat} (X : Wk p l e R s m args below meth c own Z a0 EL h0 T h vm cells slots) {len W : Nat} (hw : ∀ d ∈ tables_1, d.before a0 Z = true) (wi : (Jvm.Cond.instantiable "java/lang/String" 4).before a0 Z = true)
    {x b : Addr} {kC : ClassId} (cs : List Int32) {d v0 c0 : Value} {z N : Int32} (n : Nat) (hx0 : Z.heap.size ≤ x) (E : Exa Z h x "java/lang/String") (V : Fld Z h x "java/lang/String" "value" "[B" v0) (C : Fld Z h x "java/lang/String" "coder" "B" c0) (K : Arv Z h b kC .char N (cs.map Value.int) d) (S : Sta Z Z.heap "java/lang/String" "COMPACT_STRINGS" "Z" (.int z)) (hz : ¬ z = 0)
    (hn : cs.length = n) (hN : N = Int32.ofNat n) (l0 : 0 < n) (l2 : n ≤ 4000) (hp : ∀ c ∈ cs, ¬ c < 0 ∧ ¬ (255 : Int32) < c) (hfr : 4 ≤ R.frames) (hlo : W + 65 ≤ R.locals) (sf : Safe Z EL vm h x) :
    Pay l R p e below s args (⟨"java/lang/String", "<init>", "([C)V"⟩ : MethodName) len W Z EL vm h #[.ref x, .ref b] 1 n (QStr Z x N cs h) :=
  X.payN (ws := [x]) (StrChars.Road.backV (s := s.setVm vm) (n0 := Z.heap.size) X.hZ (wCh hw) wi hx0 X.ge E V C K (X.sta S) hz hn hN l0 l2 hp rfl hfr hlo)
    (fun v u L q => by obtain ⟨q1, q2, q3, q4, q5, t, kb, q6, q7, q8, q9, q10⟩ := q; exact ⟨q2, q3, t, kb, q1, q3, q4, q5, q9, q10, q7⟩) (allS hx0 all0) (sfS sf sf0)

theorem w0 {a0 : Array Value} {Z : State} (hw : ∀ d ∈ tables_1, d.before a0 Z = true) : ((Jvm.Cond.methodLink "org/holdfast/model/IdentifierOfPinLaw" (16 : Nat) ({ cls := "org/holdfast/model/IdentifierOfPinLaw", name := "mk", desc := "(II)Ljava/lang/String;" } : Jvm.MethodName)) : Jvm.Cond).before a0 Z = true := hw _ (List.mem_of_getElem? (i := 0) rfl)
theorem w1 {a0 : Array Value} {Z : State} (hw : ∀ d ∈ tables_1, d.before a0 Z = true) : ((Jvm.Cond.static ({ cls := "org/holdfast/model/IdentifierOfPinLaw", name := "mk", desc := "(II)Ljava/lang/String;" } : Jvm.MethodName)) : Jvm.Cond).before a0 Z = true := hw _ (List.mem_of_getElem? (i := 1) rfl)
theorem w2 {a0 : Array Value} {Z : State} (hw : ∀ d ∈ tables_1, d.before a0 Z = true) : ((Jvm.Cond.initialized "org/holdfast/model/IdentifierOfPinLaw") : Jvm.Cond).before a0 Z = true := hw _ (List.mem_of_getElem? (i := 2) rfl)
theorem w3 {a0 : Array Value} {Z : State} (hw : ∀ d ∈ tables_1, d.before a0 Z = true) : ((Jvm.Cond.code ({ cls := "org/holdfast/model/IdentifierOfPinLaw", name := "mk", desc := "(II)Ljava/lang/String;" } : Jvm.MethodName) method_2_code (5 : Nat) (Option.some (Jvm.ClassFile.FieldType.object "java/lang/String"))) : Jvm.Cond).before a0 Z = true := hw _ (List.mem_of_getElem? (i := 3) rfl)
theorem w4 {a0 : Array Value} {Z : State} (hw : ∀ d ∈ tables_1, d.before a0 Z = true) : ((Jvm.Cond.classLink "org/holdfast/model/IdentifierOfPinLaw" (7 : Nat) "java/lang/String") : Jvm.Cond).before a0 Z = true := hw _ (List.mem_of_getElem? (i := 4) rfl)
theorem w5 {a0 : Array Value} {Z : State} (hw : ∀ d ∈ tables_1, d.before a0 Z = true) : ((Jvm.Cond.instantiable "java/lang/String" (4 : Nat)) : Jvm.Cond).before a0 Z = true := hw _ (List.mem_of_getElem? (i := 5) rfl)
theorem w6 {a0 : Array Value} {Z : State} (hw : ∀ d ∈ tables_1, d.before a0 Z = true) : ((Jvm.Cond.initialized "java/lang/String") : Jvm.Cond).before a0 Z = true := hw _ (List.mem_of_getElem? (i := 6) rfl)
theorem w7 {a0 : Array Value} {Z : State} (hw : ∀ d ∈ tables_1, d.before a0 Z = true) : ((Jvm.Cond.arrayClass Jvm.ClassFile.FieldType.char) : Jvm.Cond).before a0 Z = true := hw _ (List.mem_of_getElem? (i := 7) rfl)
theorem w8 {a0 : Array Value} {Z : State} (hw : ∀ d ∈ tables_1, d.before a0 Z = true) : ((Jvm.Cond.methodLink "org/holdfast/model/IdentifierOfPinLaw" (9 : Nat) ({ cls := "java/lang/String", name := "<init>", desc := "([C)V" } : Jvm.MethodName)) : Jvm.Cond).before a0 Z = true := hw _ (List.mem_of_getElem? (i := 8) rfl)
theorem w9 {a0 : Array Value} {Z : State} (hw : ∀ d ∈ tables_1, d.before a0 Z = true) : ((Jvm.Cond.instanceMethod ({ cls := "java/lang/String", name := "<init>", desc := "([C)V" } : Jvm.MethodName)) : Jvm.Cond).before a0 Z = true := hw _ (List.mem_of_getElem? (i := 9) rfl)
theorem w10 {a0 : Array Value} {Z : State} (hw : ∀ d ∈ tables_1, d.before a0 Z = true) : ((Jvm.Cond.code ({ cls := "java/lang/String", name := "<init>", desc := "([C)V" } : Jvm.MethodName) jdk_42_method_3_code (2 : Nat) (Option.none : Option Jvm.ClassFile.FieldType)) : Jvm.Cond).before a0 Z = true := hw _ (List.mem_of_getElem? (i := 10) rfl)
theorem w11 {a0 : Array Value} {Z : State} (hw : ∀ d ∈ tables_1, d.before a0 Z = true) : ((Jvm.Cond.methodLink "java/lang/String" (27 : Nat) ({ cls := "java/lang/String", name := "<init>", desc := "([CIILjava/lang/Void;)V" } : Jvm.MethodName)) : Jvm.Cond).before a0 Z = true := hw _ (List.mem_of_getElem? (i := 11) rfl)
theorem w12 {a0 : Array Value} {Z : State} (hw : ∀ d ∈ tables_1, d.before a0 Z = true) : ((Jvm.Cond.instanceMethod ({ cls := "java/lang/String", name := "<init>", desc := "([CIILjava/lang/Void;)V" } : Jvm.MethodName)) : Jvm.Cond).before a0 Z = true := hw _ (List.mem_of_getElem? (i := 12) rfl)
theorem w14 {a0 : Array Value} {Z : State} (hw : ∀ d ∈ tables_1, d.before a0 Z = true) : ((Jvm.Cond.code ({ cls := "java/lang/String", name := "<init>", desc := "([CIILjava/lang/Void;)V" } : Jvm.MethodName) jdk_42_method_149_code (6 : Nat) (Option.none : Option Jvm.ClassFile.FieldType)) : Jvm.Cond).before a0 Z = true := hw _ (List.mem_of_getElem? (i := 14) rfl)
theorem w15 {a0 : Array Value} {Z : State} (hw : ∀ d ∈ tables_1, d.before a0 Z = true) : ((Jvm.Cond.methodLink "java/lang/String" (1 : Nat) ({ cls := "java/lang/Object", name := "<init>", desc := "()V" } : Jvm.MethodName)) : Jvm.Cond).before a0 Z = true := hw _ (List.mem_of_getElem? (i := 15) rfl)
theorem w16 {a0 : Array Value} {Z : State} (hw : ∀ d ∈ tables_1, d.before a0 Z = true) : ((Jvm.Cond.instanceMethod ({ cls := "java/lang/Object", name := "<init>", desc := "()V" } : Jvm.MethodName)) : Jvm.Cond).before a0 Z = true := hw _ (List.mem_of_getElem? (i := 16) rfl)
theorem w17 {a0 : Array Value} {Z : State} (hw : ∀ d ∈ tables_1, d.before a0 Z = true) : ((Jvm.Cond.code ({ cls := "java/lang/Object", name := "<init>", desc := "()V" } : Jvm.MethodName) object_method_1_code (1 : Nat) (Option.none : Option Jvm.ClassFile.FieldType)) : Jvm.Cond).before a0 Z = true := hw _ (List.mem_of_getElem? (i := 17) rfl)
theorem w18 {a0 : Array Value} {Z : State} (hw : ∀ d ∈ tables_1, d.before a0 Z = true) : ((Jvm.Cond.fieldLink "java/lang/String" (38 : Nat) "java/lang/String" "COMPACT_STRINGS" "Z") : Jvm.Cond).before a0 Z = true := hw _ (List.mem_of_getElem? (i := 18) rfl)
theorem w23 {a0 : Array Value} {Z : State} (hw : ∀ d ∈ tables_1, d.before a0 Z = true) : ((Jvm.Cond.arrayClass Jvm.ClassFile.FieldType.byte) : Jvm.Cond).before a0 Z = true := hw _ (List.mem_of_getElem? (i := 23) rfl)
theorem w30 {a0 : Array Value} {Z : State} (hw : ∀ d ∈ tables_1, d.before a0 Z = true) : ((Jvm.Cond.fieldLink "java/lang/String" (15 : Nat) "java/lang/String" "coder" "B") : Jvm.Cond).before a0 Z = true := hw _ (List.mem_of_getElem? (i := 30) rfl)
theorem w31 {a0 : Array Value} {Z : State} (hw : ∀ d ∈ tables_1, d.before a0 Z = true) : ((Jvm.Cond.laysFinal "java/lang/String" "java/lang/String" "coder" "B") : Jvm.Cond).before a0 Z = true := hw _ (List.mem_of_getElem? (i := 31) rfl)
theorem w32 {a0 : Array Value} {Z : State} (hw : ∀ d ∈ tables_1, d.before a0 Z = true) : ((Jvm.Cond.fieldLink "java/lang/String" (9 : Nat) "java/lang/String" "value" "[B") : Jvm.Cond).before a0 Z = true := hw _ (List.mem_of_getElem? (i := 32) rfl)
theorem w33 {a0 : Array Value} {Z : State} (hw : ∀ d ∈ tables_1, d.before a0 Z = true) : ((Jvm.Cond.laysFinal "java/lang/String" "java/lang/String" "value" "[B") : Jvm.Cond).before a0 Z = true := hw _ (List.mem_of_getElem? (i := 33) rfl)
theorem w34 {a0 : Array Value} {Z : State} (hw : ∀ d ∈ tables_1, d.before a0 Z = true) : ((Jvm.Cond.stringLink "java/lang/String" (7 : Nat) "") : Jvm.Cond).before a0 Z = true := hw _ (List.mem_of_getElem? (i := 34) rfl)
theorem w37 {a0 : Array Value} {Z : State} (hw : ∀ d ∈ tables_1, d.before a0 Z = true) : ((Jvm.Cond.methodLink "org/holdfast/model/IdentifierOfPinLaw" (22 : Nat) ({ cls := "org/holdfast/model/Identifier", name := "of", desc := "(Ljava/lang/String;Ljava/lang/String;)Lorg/holdfast/model/Identifier;" } : Jvm.MethodName)) : Jvm.Cond).before a0 Z = true := hw _ (List.mem_of_getElem? (i := 37) rfl)
theorem w38 {a0 : Array Value} {Z : State} (hw : ∀ d ∈ tables_1, d.before a0 Z = true) : ((Jvm.Cond.static ({ cls := "org/holdfast/model/Identifier", name := "of", desc := "(Ljava/lang/String;Ljava/lang/String;)Lorg/holdfast/model/Identifier;" } : Jvm.MethodName)) : Jvm.Cond).before a0 Z = true := hw _ (List.mem_of_getElem? (i := 38) rfl)
theorem w39 {a0 : Array Value} {Z : State} (hw : ∀ d ∈ tables_1, d.before a0 Z = true) : ((Jvm.Cond.initialized "org/holdfast/model/Identifier") : Jvm.Cond).before a0 Z = true := hw _ (List.mem_of_getElem? (i := 39) rfl)
theorem w40 {a0 : Array Value} {Z : State} (hw : ∀ d ∈ tables_1, d.before a0 Z = true) : ((Jvm.Cond.code ({ cls := "org/holdfast/model/Identifier", name := "of", desc := "(Ljava/lang/String;Ljava/lang/String;)Lorg/holdfast/model/Identifier;" } : Jvm.MethodName) prog_38_method_2_code (2 : Nat) (Option.some (Jvm.ClassFile.FieldType.object "org/holdfast/model/Identifier"))) : Jvm.Cond).before a0 Z = true := hw _ (List.mem_of_getElem? (i := 40) rfl)
theorem w41 {a0 : Array Value} {Z : State} (hw : ∀ d ∈ tables_1, d.before a0 Z = true) : ((Jvm.Cond.classLink "org/holdfast/model/Identifier" (18 : Nat) "org/holdfast/model/Identifier") : Jvm.Cond).before a0 Z = true := hw _ (List.mem_of_getElem? (i := 41) rfl)
theorem w42 {a0 : Array Value} {Z : State} (hw : ∀ d ∈ tables_1, d.before a0 Z = true) : ((Jvm.Cond.instantiable "org/holdfast/model/Identifier" (2 : Nat)) : Jvm.Cond).before a0 Z = true := hw _ (List.mem_of_getElem? (i := 42) rfl)
theorem w43 {a0 : Array Value} {Z : State} (hw : ∀ d ∈ tables_1, d.before a0 Z = true) : ((Jvm.Cond.methodLink "org/holdfast/model/Identifier" (25 : Nat) ({ cls := "org/holdfast/model/TypeOrSource", name := "text", desc := "(Ljava/lang/String;)Lorg/holdfast/model/TypeOrSource;" } : Jvm.MethodName)) : Jvm.Cond).before a0 Z = true := hw _ (List.mem_of_getElem? (i := 43) rfl)
theorem w44 {a0 : Array Value} {Z : State} (hw : ∀ d ∈ tables_1, d.before a0 Z = true) : ((Jvm.Cond.static ({ cls := "org/holdfast/model/TypeOrSource", name := "text", desc := "(Ljava/lang/String;)Lorg/holdfast/model/TypeOrSource;" } : Jvm.MethodName)) : Jvm.Cond).before a0 Z = true := hw _ (List.mem_of_getElem? (i := 44) rfl)
theorem w45 {a0 : Array Value} {Z : State} (hw : ∀ d ∈ tables_1, d.before a0 Z = true) : ((Jvm.Cond.initialized "org/holdfast/model/TypeOrSource") : Jvm.Cond).before a0 Z = true := hw _ (List.mem_of_getElem? (i := 45) rfl)
theorem w46 {a0 : Array Value} {Z : State} (hw : ∀ d ∈ tables_1, d.before a0 Z = true) : ((Jvm.Cond.code ({ cls := "org/holdfast/model/TypeOrSource", name := "text", desc := "(Ljava/lang/String;)Lorg/holdfast/model/TypeOrSource;" } : Jvm.MethodName) prog_44_method_2_code (1 : Nat) (Option.some (Jvm.ClassFile.FieldType.object "org/holdfast/model/TypeOrSource"))) : Jvm.Cond).before a0 Z = true := hw _ (List.mem_of_getElem? (i := 46) rfl)
theorem w47 {a0 : Array Value} {Z : State} (hw : ∀ d ∈ tables_1, d.before a0 Z = true) : ((Jvm.Cond.classLink "org/holdfast/model/TypeOrSource" (15 : Nat) "org/holdfast/model/TypeOrSource") : Jvm.Cond).before a0 Z = true := hw _ (List.mem_of_getElem? (i := 47) rfl)
theorem w48 {a0 : Array Value} {Z : State} (hw : ∀ d ∈ tables_1, d.before a0 Z = true) : ((Jvm.Cond.instantiable "org/holdfast/model/TypeOrSource" (2 : Nat)) : Jvm.Cond).before a0 Z = true := hw _ (List.mem_of_getElem? (i := 48) rfl)
theorem w49 {a0 : Array Value} {Z : State} (hw : ∀ d ∈ tables_1, d.before a0 Z = true) : ((Jvm.Cond.methodLink "org/holdfast/model/TypeOrSource" (23 : Nat) ({ cls := "org/holdfast/model/TypeOrSource", name := "<init>", desc := "(Ljava/lang/String;Ljava/lang/String;)V" } : Jvm.MethodName)) : Jvm.Cond).before a0 Z = true := hw _ (List.mem_of_getElem? (i := 49) rfl)
theorem w50 {a0 : Array Value} {Z : State} (hw : ∀ d ∈ tables_1, d.before a0 Z = true) : ((Jvm.Cond.instanceMethod ({ cls := "org/holdfast/model/TypeOrSource", name := "<init>", desc := "(Ljava/lang/String;Ljava/lang/String;)V" } : Jvm.MethodName)) : Jvm.Cond).before a0 Z = true := hw _ (List.mem_of_getElem? (i := 50) rfl)
theorem w51 {a0 : Array Value} {Z : State} (hw : ∀ d ∈ tables_1, d.before a0 Z = true) : ((Jvm.Cond.code ({ cls := "org/holdfast/model/TypeOrSource", name := "<init>", desc := "(Ljava/lang/String;Ljava/lang/String;)V" } : Jvm.MethodName) prog_44_method_1_code (3 : Nat) (Option.none : Option Jvm.ClassFile.FieldType)) : Jvm.Cond).before a0 Z = true := hw _ (List.mem_of_getElem? (i := 51) rfl)
theorem w52 {a0 : Array Value} {Z : State} (hw : ∀ d ∈ tables_1, d.before a0 Z = true) : ((Jvm.Cond.methodLink "org/holdfast/model/TypeOrSource" (1 : Nat) ({ cls := "java/lang/Record", name := "<init>", desc := "()V" } : Jvm.MethodName)) : Jvm.Cond).before a0 Z = true := hw _ (List.mem_of_getElem? (i := 52) rfl)
theorem w53 {a0 : Array Value} {Z : State} (hw : ∀ d ∈ tables_1, d.before a0 Z = true) : ((Jvm.Cond.instanceMethod ({ cls := "java/lang/Record", name := "<init>", desc := "()V" } : Jvm.MethodName)) : Jvm.Cond).before a0 Z = true := hw _ (List.mem_of_getElem? (i := 53) rfl)
theorem w55 {a0 : Array Value} {Z : State} (hw : ∀ d ∈ tables_1, d.before a0 Z = true) : ((Jvm.Cond.initialized "java/lang/Record") : Jvm.Cond).before a0 Z = true := hw _ (List.mem_of_getElem? (i := 55) rfl)
theorem w56 {a0 : Array Value} {Z : State} (hw : ∀ d ∈ tables_1, d.before a0 Z = true) : ((Jvm.Cond.code ({ cls := "java/lang/Record", name := "<init>", desc := "()V" } : Jvm.MethodName) jdk_30_method_1_code (1 : Nat) (Option.none : Option Jvm.ClassFile.FieldType)) : Jvm.Cond).before a0 Z = true := hw _ (List.mem_of_getElem? (i := 56) rfl)
theorem w57 {a0 : Array Value} {Z : State} (hw : ∀ d ∈ tables_1, d.before a0 Z = true) : ((Jvm.Cond.methodLink "java/lang/Record" (1 : Nat) ({ cls := "java/lang/Object", name := "<init>", desc := "()V" } : Jvm.MethodName)) : Jvm.Cond).before a0 Z = true := hw _ (List.mem_of_getElem? (i := 57) rfl)
theorem w58 {a0 : Array Value} {Z : State} (hw : ∀ d ∈ tables_1, d.before a0 Z = true) : ((Jvm.Cond.fieldLink "org/holdfast/model/TypeOrSource" (14 : Nat) "org/holdfast/model/TypeOrSource" "pointer" "Ljava/lang/String;") : Jvm.Cond).before a0 Z = true := hw _ (List.mem_of_getElem? (i := 58) rfl)
theorem w59 {a0 : Array Value} {Z : State} (hw : ∀ d ∈ tables_1, d.before a0 Z = true) : ((Jvm.Cond.laysFinal "org/holdfast/model/TypeOrSource" "org/holdfast/model/TypeOrSource" "pointer" "Ljava/lang/String;") : Jvm.Cond).before a0 Z = true := hw _ (List.mem_of_getElem? (i := 59) rfl)
theorem w60 {a0 : Array Value} {Z : State} (hw : ∀ d ∈ tables_1, d.before a0 Z = true) : ((Jvm.Cond.fieldLink "org/holdfast/model/TypeOrSource" (20 : Nat) "org/holdfast/model/TypeOrSource" "text" "Ljava/lang/String;") : Jvm.Cond).before a0 Z = true := hw _ (List.mem_of_getElem? (i := 60) rfl)
theorem w61 {a0 : Array Value} {Z : State} (hw : ∀ d ∈ tables_1, d.before a0 Z = true) : ((Jvm.Cond.laysFinal "org/holdfast/model/TypeOrSource" "org/holdfast/model/TypeOrSource" "text" "Ljava/lang/String;") : Jvm.Cond).before a0 Z = true := hw _ (List.mem_of_getElem? (i := 61) rfl)
theorem w62 {a0 : Array Value} {Z : State} (hw : ∀ d ∈ tables_1, d.before a0 Z = true) : ((Jvm.Cond.methodLink "org/holdfast/model/Identifier" (31 : Nat) ({ cls := "org/holdfast/model/Identifier", name := "<init>", desc := "(Ljava/lang/String;Lorg/holdfast/model/TypeOrSource;)V" } : Jvm.MethodName)) : Jvm.Cond).before a0 Z = true := hw _ (List.mem_of_getElem? (i := 62) rfl)
theorem w63 {a0 : Array Value} {Z : State} (hw : ∀ d ∈ tables_1, d.before a0 Z = true) : ((Jvm.Cond.instanceMethod ({ cls := "org/holdfast/model/Identifier", name := "<init>", desc := "(Ljava/lang/String;Lorg/holdfast/model/TypeOrSource;)V" } : Jvm.MethodName)) : Jvm.Cond).before a0 Z = true := hw _ (List.mem_of_getElem? (i := 63) rfl)
theorem w64 {a0 : Array Value} {Z : State} (hw : ∀ d ∈ tables_1, d.before a0 Z = true) : ((Jvm.Cond.code ({ cls := "org/holdfast/model/Identifier", name := "<init>", desc := "(Ljava/lang/String;Lorg/holdfast/model/TypeOrSource;)V" } : Jvm.MethodName) prog_38_method_1_code (3 : Nat) (Option.none : Option Jvm.ClassFile.FieldType)) : Jvm.Cond).before a0 Z = true := hw _ (List.mem_of_getElem? (i := 64) rfl)
theorem w65 {a0 : Array Value} {Z : State} (hw : ∀ d ∈ tables_1, d.before a0 Z = true) : ((Jvm.Cond.methodLink "org/holdfast/model/Identifier" (1 : Nat) ({ cls := "java/lang/Record", name := "<init>", desc := "()V" } : Jvm.MethodName)) : Jvm.Cond).before a0 Z = true := hw _ (List.mem_of_getElem? (i := 65) rfl)
theorem w66 {a0 : Array Value} {Z : State} (hw : ∀ d ∈ tables_1, d.before a0 Z = true) : ((Jvm.Cond.stringLink "org/holdfast/model/Identifier" (7 : Nat) "value") : Jvm.Cond).before a0 Z = true := hw _ (List.mem_of_getElem? (i := 66) rfl)
theorem w67 {a0 : Array Value} {Z : State} (hw : ∀ d ∈ tables_1, d.before a0 Z = true) : ((Jvm.Cond.methodLink "org/holdfast/model/Identifier" (9 : Nat) ({ cls := "java/util/Objects", name := "requireNonNull", desc := "(Ljava/lang/Object;Ljava/lang/String;)Ljava/lang/Object;" } : Jvm.MethodName)) : Jvm.Cond).before a0 Z = true := hw _ (List.mem_of_getElem? (i := 67) rfl)
theorem w68 {a0 : Array Value} {Z : State} (hw : ∀ d ∈ tables_1, d.before a0 Z = true) : ((Jvm.Cond.static ({ cls := "java/util/Objects", name := "requireNonNull", desc := "(Ljava/lang/Object;Ljava/lang/String;)Ljava/lang/Object;" } : Jvm.MethodName)) : Jvm.Cond).before a0 Z = true := hw _ (List.mem_of_getElem? (i := 68) rfl)
theorem w69 {a0 : Array Value} {Z : State} (hw : ∀ d ∈ tables_1, d.before a0 Z = true) : ((Jvm.Cond.initialized "java/util/Objects") : Jvm.Cond).before a0 Z = true := hw _ (List.mem_of_getElem? (i := 69) rfl)
theorem w70 {a0 : Array Value} {Z : State} (hw : ∀ d ∈ tables_1, d.before a0 Z = true) : ((Jvm.Cond.code ({ cls := "java/util/Objects", name := "requireNonNull", desc := "(Ljava/lang/Object;Ljava/lang/String;)Ljava/lang/Object;" } : Jvm.MethodName) jdk_31_method_11_code (2 : Nat) (Option.some (Jvm.ClassFile.FieldType.object "java/lang/Object"))) : Jvm.Cond).before a0 Z = true := hw _ (List.mem_of_getElem? (i := 70) rfl)
theorem w71 {a0 : Array Value} {Z : State} (hw : ∀ d ∈ tables_1, d.before a0 Z = true) : ((Jvm.Cond.stringLink "org/holdfast/model/Identifier" (15 : Nat) "typeOrSource") : Jvm.Cond).before a0 Z = true := hw _ (List.mem_of_getElem? (i := 71) rfl)
theorem w72 {a0 : Array Value} {Z : State} (hw : ∀ d ∈ tables_1, d.before a0 Z = true) : ((Jvm.Cond.fieldLink "org/holdfast/model/Identifier" (17 : Nat) "org/holdfast/model/Identifier" "value" "Ljava/lang/String;") : Jvm.Cond).before a0 Z = true := hw _ (List.mem_of_getElem? (i := 72) rfl)
theorem w73 {a0 : Array Value} {Z : State} (hw : ∀ d ∈ tables_1, d.before a0 Z = true) : ((Jvm.Cond.laysFinal "org/holdfast/model/Identifier" "org/holdfast/model/Identifier" "value" "Ljava/lang/String;") : Jvm.Cond).before a0 Z = true := hw _ (List.mem_of_getElem? (i := 73) rfl)
theorem w74 {a0 : Array Value} {Z : State} (hw : ∀ d ∈ tables_1, d.before a0 Z = true) : ((Jvm.Cond.fieldLink "org/holdfast/model/Identifier" (22 : Nat) "org/holdfast/model/Identifier" "typeOrSource" "Lorg/holdfast/model/TypeOrSource;") : Jvm.Cond).before a0 Z = true := hw _ (List.mem_of_getElem? (i := 74) rfl)
theorem w75 {a0 : Array Value} {Z : State} (hw : ∀ d ∈ tables_1, d.before a0 Z = true) : ((Jvm.Cond.laysFinal "org/holdfast/model/Identifier" "org/holdfast/model/Identifier" "typeOrSource" "Lorg/holdfast/model/TypeOrSource;") : Jvm.Cond).before a0 Z = true := hw _ (List.mem_of_getElem? (i := 75) rfl)
theorem w76 {a0 : Array Value} {Z : State} (hw : ∀ d ∈ tables_1, d.before a0 Z = true) : ((Jvm.Cond.methodLink "org/holdfast/model/IdentifierOfPinLaw" (28 : Nat) ({ cls := "org/holdfast/model/Identifier", name := "typeOrSource", desc := "()Lorg/holdfast/model/TypeOrSource;" } : Jvm.MethodName)) : Jvm.Cond).before a0 Z = true := hw _ (List.mem_of_getElem? (i := 76) rfl)
theorem w77 {a0 : Array Value} {Z : State} (hw : ∀ d ∈ tables_1, d.before a0 Z = true) : ((Jvm.Cond.declares ({ cls := "org/holdfast/model/Identifier", name := "typeOrSource", desc := "()Lorg/holdfast/model/TypeOrSource;" } : Jvm.MethodName)) : Jvm.Cond).before a0 Z = true := hw _ (List.mem_of_getElem? (i := 77) rfl)
theorem w78 {a0 : Array Value} {Z : State} (hw : ∀ d ∈ tables_1, d.before a0 Z = true) : ((Jvm.Cond.instanceMethod ({ cls := "org/holdfast/model/Identifier", name := "typeOrSource", desc := "()Lorg/holdfast/model/TypeOrSource;" } : Jvm.MethodName)) : Jvm.Cond).before a0 Z = true := hw _ (List.mem_of_getElem? (i := 78) rfl)
theorem w79 {a0 : Array Value} {Z : State} (hw : ∀ d ∈ tables_1, d.before a0 Z = true) : ((Jvm.Cond.selects "org/holdfast/model/Identifier" ({ cls := "org/holdfast/model/Identifier", name := "typeOrSource", desc := "()Lorg/holdfast/model/TypeOrSource;" } : Jvm.MethodName) ({ cls := "org/holdfast/model/Identifier", name := "typeOrSource", desc := "()Lorg/holdfast/model/TypeOrSource;" } : Jvm.MethodName)) : Jvm.Cond).before a0 Z = true := hw _ (List.mem_of_getElem? (i := 79) rfl)
theorem w80 {a0 : Array Value} {Z : State} (hw : ∀ d ∈ tables_1, d.before a0 Z = true) : ((Jvm.Cond.code ({ cls := "org/holdfast/model/Identifier", name := "typeOrSource", desc := "()Lorg/holdfast/model/TypeOrSource;" } : Jvm.MethodName) prog_38_method_7_code (1 : Nat) (Option.some (Jvm.ClassFile.FieldType.object "org/holdfast/model/TypeOrSource"))) : Jvm.Cond).before a0 Z = true := hw _ (List.mem_of_getElem? (i := 80) rfl)
theorem w81 {a0 : Array Value} {Z : State} (hw : ∀ d ∈ tables_1, d.before a0 Z = true) : ((Jvm.Cond.methodLink "org/holdfast/model/IdentifierOfPinLaw" (32 : Nat) ({ cls := "org/holdfast/model/Identifier", name := "value", desc := "()Ljava/lang/String;" } : Jvm.MethodName)) : Jvm.Cond).before a0 Z = true := hw _ (List.mem_of_getElem? (i := 81) rfl)
theorem w82 {a0 : Array Value} {Z : State} (hw : ∀ d ∈ tables_1, d.before a0 Z = true) : ((Jvm.Cond.declares ({ cls := "org/holdfast/model/Identifier", name := "value", desc := "()Ljava/lang/String;" } : Jvm.MethodName)) : Jvm.Cond).before a0 Z = true := hw _ (List.mem_of_getElem? (i := 82) rfl)
theorem w83 {a0 : Array Value} {Z : State} (hw : ∀ d ∈ tables_1, d.before a0 Z = true) : ((Jvm.Cond.instanceMethod ({ cls := "org/holdfast/model/Identifier", name := "value", desc := "()Ljava/lang/String;" } : Jvm.MethodName)) : Jvm.Cond).before a0 Z = true := hw _ (List.mem_of_getElem? (i := 83) rfl)
theorem w84 {a0 : Array Value} {Z : State} (hw : ∀ d ∈ tables_1, d.before a0 Z = true) : ((Jvm.Cond.selects "org/holdfast/model/Identifier" ({ cls := "org/holdfast/model/Identifier", name := "value", desc := "()Ljava/lang/String;" } : Jvm.MethodName) ({ cls := "org/holdfast/model/Identifier", name := "value", desc := "()Ljava/lang/String;" } : Jvm.MethodName)) : Jvm.Cond).before a0 Z = true := hw _ (List.mem_of_getElem? (i := 84) rfl)
theorem w85 {a0 : Array Value} {Z : State} (hw : ∀ d ∈ tables_1, d.before a0 Z = true) : ((Jvm.Cond.code ({ cls := "org/holdfast/model/Identifier", name := "value", desc := "()Ljava/lang/String;" } : Jvm.MethodName) prog_38_method_6_code (1 : Nat) (Option.some (Jvm.ClassFile.FieldType.object "java/lang/String"))) : Jvm.Cond).before a0 Z = true := hw _ (List.mem_of_getElem? (i := 85) rfl)
theorem w86 {a0 : Array Value} {Z : State} (hw : ∀ d ∈ tables_1, d.before a0 Z = true) : ((Jvm.Cond.methodLink "org/holdfast/model/IdentifierOfPinLaw" (36 : Nat) ({ cls := "org/holdfast/model/TypeOrSource", name := "text", desc := "()Ljava/lang/String;" } : Jvm.MethodName)) : Jvm.Cond).before a0 Z = true := hw _ (List.mem_of_getElem? (i := 86) rfl)
theorem w87 {a0 : Array Value} {Z : State} (hw : ∀ d ∈ tables_1, d.before a0 Z = true) : ((Jvm.Cond.declares ({ cls := "org/holdfast/model/TypeOrSource", name := "text", desc := "()Ljava/lang/String;" } : Jvm.MethodName)) : Jvm.Cond).before a0 Z = true := hw _ (List.mem_of_getElem? (i := 87) rfl)
theorem w88 {a0 : Array Value} {Z : State} (hw : ∀ d ∈ tables_1, d.before a0 Z = true) : ((Jvm.Cond.instanceMethod ({ cls := "org/holdfast/model/TypeOrSource", name := "text", desc := "()Ljava/lang/String;" } : Jvm.MethodName)) : Jvm.Cond).before a0 Z = true := hw _ (List.mem_of_getElem? (i := 88) rfl)
theorem w89 {a0 : Array Value} {Z : State} (hw : ∀ d ∈ tables_1, d.before a0 Z = true) : ((Jvm.Cond.selects "org/holdfast/model/TypeOrSource" ({ cls := "org/holdfast/model/TypeOrSource", name := "text", desc := "()Ljava/lang/String;" } : Jvm.MethodName) ({ cls := "org/holdfast/model/TypeOrSource", name := "text", desc := "()Ljava/lang/String;" } : Jvm.MethodName)) : Jvm.Cond).before a0 Z = true := hw _ (List.mem_of_getElem? (i := 89) rfl)
theorem w90 {a0 : Array Value} {Z : State} (hw : ∀ d ∈ tables_1, d.before a0 Z = true) : ((Jvm.Cond.code ({ cls := "org/holdfast/model/TypeOrSource", name := "text", desc := "()Ljava/lang/String;" } : Jvm.MethodName) prog_44_method_7_code (1 : Nat) (Option.some (Jvm.ClassFile.FieldType.object "java/lang/String"))) : Jvm.Cond).before a0 Z = true := hw _ (List.mem_of_getElem? (i := 90) rfl)
theorem w91 {a0 : Array Value} {Z : State} (hw : ∀ d ∈ tables_1, d.before a0 Z = true) : ((Jvm.Cond.methodLink "org/holdfast/model/IdentifierOfPinLaw" (41 : Nat) ({ cls := "java/lang/String", name := "equals", desc := "(Ljava/lang/Object;)Z" } : Jvm.MethodName)) : Jvm.Cond).before a0 Z = true := hw _ (List.mem_of_getElem? (i := 91) rfl)
theorem w92 {a0 : Array Value} {Z : State} (hw : ∀ d ∈ tables_1, d.before a0 Z = true) : ((Jvm.Cond.declares ({ cls := "java/lang/String", name := "equals", desc := "(Ljava/lang/Object;)Z" } : Jvm.MethodName)) : Jvm.Cond).before a0 Z = true := hw _ (List.mem_of_getElem? (i := 92) rfl)
theorem w93 {a0 : Array Value} {Z : State} (hw : ∀ d ∈ tables_1, d.before a0 Z = true) : ((Jvm.Cond.instanceMethod ({ cls := "java/lang/String", name := "equals", desc := "(Ljava/lang/Object;)Z" } : Jvm.MethodName)) : Jvm.Cond).before a0 Z = true := hw _ (List.mem_of_getElem? (i := 93) rfl)
theorem w94 {a0 : Array Value} {Z : State} (hw : ∀ d ∈ tables_1, d.before a0 Z = true) : ((Jvm.Cond.selects "java/lang/String" ({ cls := "java/lang/String", name := "equals", desc := "(Ljava/lang/Object;)Z" } : Jvm.MethodName) ({ cls := "java/lang/String", name := "equals", desc := "(Ljava/lang/Object;)Z" } : Jvm.MethodName)) : Jvm.Cond).before a0 Z = true := hw _ (List.mem_of_getElem? (i := 94) rfl)
theorem w95 {a0 : Array Value} {Z : State} (hw : ∀ d ∈ tables_1, d.before a0 Z = true) : ((Jvm.Cond.code ({ cls := "java/lang/String", name := "equals", desc := "(Ljava/lang/Object;)Z" } : Jvm.MethodName) jdk_42_method_66_code (3 : Nat) (Option.some Jvm.ClassFile.FieldType.boolean)) : Jvm.Cond).before a0 Z = true := hw _ (List.mem_of_getElem? (i := 95) rfl)
theorem w96 {a0 : Array Value} {Z : State} (hw : ∀ d ∈ tables_1, d.before a0 Z = true) : ((Jvm.Cond.methodLink "org/holdfast/model/IdentifierOfPinLaw" (45 : Nat) ({ cls := "org/holdfast/model/TypeOrSource", name := "pointer", desc := "()Ljava/lang/String;" } : Jvm.MethodName)) : Jvm.Cond).before a0 Z = true := hw _ (List.mem_of_getElem? (i := 96) rfl)
theorem w97 {a0 : Array Value} {Z : State} (hw : ∀ d ∈ tables_1, d.before a0 Z = true) : ((Jvm.Cond.declares ({ cls := "org/holdfast/model/TypeOrSource", name := "pointer", desc := "()Ljava/lang/String;" } : Jvm.MethodName)) : Jvm.Cond).before a0 Z = true := hw _ (List.mem_of_getElem? (i := 97) rfl)
theorem w98 {a0 : Array Value} {Z : State} (hw : ∀ d ∈ tables_1, d.before a0 Z = true) : ((Jvm.Cond.instanceMethod ({ cls := "org/holdfast/model/TypeOrSource", name := "pointer", desc := "()Ljava/lang/String;" } : Jvm.MethodName)) : Jvm.Cond).before a0 Z = true := hw _ (List.mem_of_getElem? (i := 98) rfl)
theorem w99 {a0 : Array Value} {Z : State} (hw : ∀ d ∈ tables_1, d.before a0 Z = true) : ((Jvm.Cond.selects "org/holdfast/model/TypeOrSource" ({ cls := "org/holdfast/model/TypeOrSource", name := "pointer", desc := "()Ljava/lang/String;" } : Jvm.MethodName) ({ cls := "org/holdfast/model/TypeOrSource", name := "pointer", desc := "()Ljava/lang/String;" } : Jvm.MethodName)) : Jvm.Cond).before a0 Z = true := hw _ (List.mem_of_getElem? (i := 99) rfl)
theorem w100 {a0 : Array Value} {Z : State} (hw : ∀ d ∈ tables_1, d.before a0 Z = true) : ((Jvm.Cond.code ({ cls := "org/holdfast/model/TypeOrSource", name := "pointer", desc := "()Ljava/lang/String;" } : Jvm.MethodName) prog_44_method_6_code (1 : Nat) (Option.some (Jvm.ClassFile.FieldType.object "java/lang/String"))) : Jvm.Cond).before a0 Z = true := hw _ (List.mem_of_getElem? (i := 100) rfl)
theorem w101 {a0 : Array Value} {Z : State} (hw : ∀ d ∈ tables_1, d.before a0 Z = true) : ((Jvm.Cond.methodLink "org/holdfast/model/IdentifierOfPinLaw" (12 : Nat) ({ cls := "java/lang/String", name := "valueOf", desc := "(C)Ljava/lang/String;" } : Jvm.MethodName)) : Jvm.Cond).before a0 Z = true := hw _ (List.mem_of_getElem? (i := 101) rfl)
theorem w102 {a0 : Array Value} {Z : State} (hw : ∀ d ∈ tables_1, d.before a0 Z = true) : ((Jvm.Cond.static ({ cls := "java/lang/String", name := "valueOf", desc := "(C)Ljava/lang/String;" } : Jvm.MethodName)) : Jvm.Cond).before a0 Z = true := hw _ (List.mem_of_getElem? (i := 102) rfl)
theorem w103 {a0 : Array Value} {Z : State} (hw : ∀ d ∈ tables_1, d.before a0 Z = true) : ((Jvm.Cond.code ({ cls := "java/lang/String", name := "valueOf", desc := "(C)Ljava/lang/String;" } : Jvm.MethodName) jdk_42_method_139_code (1 : Nat) (Option.some (Jvm.ClassFile.FieldType.object "java/lang/String"))) : Jvm.Cond).before a0 Z = true := hw _ (List.mem_of_getElem? (i := 103) rfl)
theorem w104 {a0 : Array Value} {Z : State} (hw : ∀ d ∈ tables_1, d.before a0 Z = true) : ((Jvm.Cond.methodLink "java/lang/String" (1015 : Nat) ({ cls := "java/lang/StringLatin1", name := "canEncode", desc := "(C)Z" } : Jvm.MethodName)) : Jvm.Cond).before a0 Z = true := hw _ (List.mem_of_getElem? (i := 104) rfl)
theorem w105 {a0 : Array Value} {Z : State} (hw : ∀ d ∈ tables_1, d.before a0 Z = true) : ((Jvm.Cond.static ({ cls := "java/lang/StringLatin1", name := "canEncode", desc := "(C)Z" } : Jvm.MethodName)) : Jvm.Cond).before a0 Z = true := hw _ (List.mem_of_getElem? (i := 105) rfl)
theorem w106 {a0 : Array Value} {Z : State} (hw : ∀ d ∈ tables_1, d.before a0 Z = true) : ((Jvm.Cond.initialized "java/lang/StringLatin1") : Jvm.Cond).before a0 Z = true := hw _ (List.mem_of_getElem? (i := 106) rfl)
theorem w107 {a0 : Array Value} {Z : State} (hw : ∀ d ∈ tables_1, d.before a0 Z = true) : ((Jvm.Cond.code ({ cls := "java/lang/StringLatin1", name := "canEncode", desc := "(C)Z" } : Jvm.MethodName) jdk_43_method_3_code (1 : Nat) (Option.some Jvm.ClassFile.FieldType.boolean)) : Jvm.Cond).before a0 Z = true := hw _ (List.mem_of_getElem? (i := 107) rfl)
theorem w108 {a0 : Array Value} {Z : State} (hw : ∀ d ∈ tables_1, d.before a0 Z = true) : ((Jvm.Cond.classLink "java/lang/String" (10 : Nat) "java/lang/String") : Jvm.Cond).before a0 Z = true := hw _ (List.mem_of_getElem? (i := 108) rfl)
theorem w109 {a0 : Array Value} {Z : State} (hw : ∀ d ∈ tables_1, d.before a0 Z = true) : ((Jvm.Cond.methodLink "java/lang/String" (1018 : Nat) ({ cls := "java/lang/StringLatin1", name := "toBytes", desc := "(C)[B" } : Jvm.MethodName)) : Jvm.Cond).before a0 Z = true := hw _ (List.mem_of_getElem? (i := 109) rfl)
theorem w110 {a0 : Array Value} {Z : State} (hw : ∀ d ∈ tables_1, d.before a0 Z = true) : ((Jvm.Cond.static ({ cls := "java/lang/StringLatin1", name := "toBytes", desc := "(C)[B" } : Jvm.MethodName)) : Jvm.Cond).before a0 Z = true := hw _ (List.mem_of_getElem? (i := 110) rfl)
theorem w111 {a0 : Array Value} {Z : State} (hw : ∀ d ∈ tables_1, d.before a0 Z = true) : ((Jvm.Cond.code ({ cls := "java/lang/StringLatin1", name := "toBytes", desc := "(C)[B" } : Jvm.MethodName) jdk_43_method_46_code (1 : Nat) (Option.some (Jvm.ClassFile.FieldType.array Jvm.ClassFile.FieldType.byte))) : Jvm.Cond).before a0 Z = true := hw _ (List.mem_of_getElem? (i := 111) rfl)
theorem w112 {a0 : Array Value} {Z : State} (hw : ∀ d ∈ tables_1, d.before a0 Z = true) : ((Jvm.Cond.methodLink "java/lang/String" (209 : Nat) ({ cls := "java/lang/String", name := "<init>", desc := "([BB)V" } : Jvm.MethodName)) : Jvm.Cond).before a0 Z = true := hw _ (List.mem_of_getElem? (i := 112) rfl)
theorem w113 {a0 : Array Value} {Z : State} (hw : ∀ d ∈ tables_1, d.before a0 Z = true) : ((Jvm.Cond.instanceMethod ({ cls := "java/lang/String", name := "<init>", desc := "([BB)V" } : Jvm.MethodName)) : Jvm.Cond).before a0 Z = true := hw _ (List.mem_of_getElem? (i := 113) rfl)
theorem w114 {a0 : Array Value} {Z : State} (hw : ∀ d ∈ tables_1, d.before a0 Z = true) : ((Jvm.Cond.code ({ cls := "java/lang/String", name := "<init>", desc := "([BB)V" } : Jvm.MethodName) jdk_42_method_151_code (3 : Nat) (Option.none : Option Jvm.ClassFile.FieldType)) : Jvm.Cond).before a0 Z = true := hw _ (List.mem_of_getElem? (i := 114) rfl)
theorem d0_0 : decode method_2_code 0 = .ok (.iload_n 1, 1) := by decide +kernel
theorem d0_1 : decode method_2_code 1 = .ok (.sipush 255, 3) := by decide +kernel
theorem d0_4 : decode method_2_code 4 = .ok (.iand, 1) := by decide +kernel
theorem d0_5 : decode method_2_code 5 = .ok (.i2c, 1) := by decide +kernel
theorem d0_6 : decode method_2_code 6 = .ok (.istore_n 2, 1) := by decide +kernel
theorem d0_7 : decode method_2_code 7 = .ok (.iload_n 1, 1) := by decide +kernel
theorem d0_8 : decode method_2_code 8 = .ok (.bipush 8, 2) := by decide +kernel
theorem d0_10 : decode method_2_code 10 = .ok (.iushr, 1) := by decide +kernel
theorem d0_11 : decode method_2_code 11 = .ok (.sipush 255, 3) := by decide +kernel
theorem d0_14 : decode method_2_code 14 = .ok (.iand, 1) := by decide +kernel
theorem d0_15 : decode method_2_code 15 = .ok (.i2c, 1) := by decide +kernel
theorem d0_16 : decode method_2_code 16 = .ok (.istore_n 3, 1) := by decide +kernel
theorem d0_17 : decode method_2_code 17 = .ok (.iload_n 1, 1) := by decide +kernel
theorem d0_18 : decode method_2_code 18 = .ok (.bipush 16, 2) := by decide +kernel
theorem d0_20 : decode method_2_code 20 = .ok (.iushr, 1) := by decide +kernel
theorem d0_21 : decode method_2_code 21 = .ok (.sipush 255, 3) := by decide +kernel
theorem d0_24 : decode method_2_code 24 = .ok (.iand, 1) := by decide +kernel
theorem d0_25 : decode method_2_code 25 = .ok (.i2c, 1) := by decide +kernel
theorem d0_26 : decode method_2_code 26 = .ok (.istore 4, 2) := by decide +kernel
theorem d0_28 : decode method_2_code 28 = .ok (.iload_n 0, 1) := by decide +kernel
theorem d0_29 : decode method_2_code 29 = .ok (.ifCond .ne 14, 3) := by decide +kernel
theorem d0_32 : decode method_2_code 32 = .ok (.new 7, 3) := by decide +kernel
theorem d0_35 : decode method_2_code 35 = .ok (.dup, 1) := by decide +kernel
theorem d0_36 : decode method_2_code 36 = .ok (.iconst 0, 1) := by decide +kernel
theorem d0_37 : decode method_2_code 37 = .ok (.newarray .char, 2) := by decide +kernel
theorem d0_39 : decode method_2_code 39 = .ok (.invokespecial 9, 3) := by decide +kernel
theorem d0_42 : decode method_2_code 42 = .ok (.areturn, 1) := by decide +kernel
theorem d0_43 : decode method_2_code 43 = .ok (.iload_n 0, 1) := by decide +kernel
theorem d0_44 : decode method_2_code 44 = .ok (.iconst 1, 1) := by decide +kernel
theorem d0_45 : decode method_2_code 45 = .ok (.if_icmp .ne 8, 3) := by decide +kernel
theorem d0_48 : decode method_2_code 48 = .ok (.iload_n 2, 1) := by decide +kernel
theorem d0_49 : decode method_2_code 49 = .ok (.invokestatic 12, 3) := by decide +kernel
theorem d0_52 : decode method_2_code 52 = .ok (.areturn, 1) := by decide +kernel
theorem d0_53 : decode method_2_code 53 = .ok (.iload_n 0, 1) := by decide +kernel
theorem d0_54 : decode method_2_code 54 = .ok (.iconst 2, 1) := by decide +kernel
theorem d0_55 : decode method_2_code 55 = .ok (.if_icmp .ne 22, 3) := by decide +kernel
theorem d0_58 : decode method_2_code 58 = .ok (.new 7, 3) := by decide +kernel
theorem d0_61 : decode method_2_code 61 = .ok (.dup, 1) := by decide +kernel
theorem d0_62 : decode method_2_code 62 = .ok (.iconst 2, 1) := by decide +kernel
theorem d0_63 : decode method_2_code 63 = .ok (.newarray .char, 2) := by decide +kernel
theorem d0_65 : decode method_2_code 65 = .ok (.dup, 1) := by decide +kernel
theorem d0_66 : decode method_2_code 66 = .ok (.iconst 0, 1) := by decide +kernel
theorem d0_67 : decode method_2_code 67 = .ok (.iload_n 2, 1) := by decide +kernel
theorem d0_68 : decode method_2_code 68 = .ok (.castore, 1) := by decide +kernel
theorem d0_69 : decode method_2_code 69 = .ok (.dup, 1) := by decide +kernel
theorem d0_70 : decode method_2_code 70 = .ok (.iconst 1, 1) := by decide +kernel
theorem d0_71 : decode method_2_code 71 = .ok (.iload_n 3, 1) := by decide +kernel
theorem d0_72 : decode method_2_code 72 = .ok (.castore, 1) := by decide +kernel
theorem d0_73 : decode method_2_code 73 = .ok (.invokespecial 9, 3) := by decide +kernel
theorem d0_76 : decode method_2_code 76 = .ok (.areturn, 1) := by decide +kernel
theorem d0_77 : decode method_2_code 77 = .ok (.new 7, 3) := by decide +kernel
theorem d0_80 : decode method_2_code 80 = .ok (.dup, 1) := by decide +kernel
theorem d0_81 : decode method_2_code 81 = .ok (.iconst 3, 1) := by decide +kernel
theorem d0_82 : decode method_2_code 82 = .ok (.newarray .char, 2) := by decide +kernel
theorem d0_84 : decode method_2_code 84 = .ok (.dup, 1) := by decide +kernel
theorem d0_85 : decode method_2_code 85 = .ok (.iconst 0, 1) := by decide +kernel
theorem d0_86 : decode method_2_code 86 = .ok (.iload_n 2, 1) := by decide +kernel
theorem d0_87 : decode method_2_code 87 = .ok (.castore, 1) := by decide +kernel
theorem d0_88 : decode method_2_code 88 = .ok (.dup, 1) := by decide +kernel
theorem d0_89 : decode method_2_code 89 = .ok (.iconst 1, 1) := by decide +kernel
theorem d0_90 : decode method_2_code 90 = .ok (.iload_n 3, 1) := by decide +kernel
theorem d0_91 : decode method_2_code 91 = .ok (.castore, 1) := by decide +kernel
theorem d0_92 : decode method_2_code 92 = .ok (.dup, 1) := by decide +kernel
theorem d0_93 : decode method_2_code 93 = .ok (.iconst 2, 1) := by decide +kernel
theorem d0_94 : decode method_2_code 94 = .ok (.iload 4, 2) := by decide +kernel
theorem d0_96 : decode method_2_code 96 = .ok (.castore, 1) := by decide +kernel
theorem d0_97 : decode method_2_code 97 = .ok (.invokespecial 9, 3) := by decide +kernel
theorem d0_100 : decode method_2_code 100 = .ok (.areturn, 1) := by decide +kernel
theorem d1_0 : decode jdk_42_method_3_code 0 = .ok (.aload_n 0, 1) := by decide +kernel
theorem d1_1 : decode jdk_42_method_3_code 1 = .ok (.aload_n 1, 1) := by decide +kernel
theorem d1_2 : decode jdk_42_method_3_code 2 = .ok (.iconst 0, 1) := by decide +kernel
theorem d1_3 : decode jdk_42_method_3_code 3 = .ok (.aload_n 1, 1) := by decide +kernel
theorem d1_4 : decode jdk_42_method_3_code 4 = .ok (.arraylength, 1) := by decide +kernel
theorem d1_5 : decode jdk_42_method_3_code 5 = .ok (.aconst_null, 1) := by decide +kernel
theorem d1_6 : decode jdk_42_method_3_code 6 = .ok (.invokespecial 27, 3) := by decide +kernel
theorem d1_9 : decode jdk_42_method_3_code 9 = .ok (.return_, 1) := by decide +kernel
theorem d2_0 : decode jdk_42_method_149_code 0 = .ok (.aload_n 0, 1) := by decide +kernel
theorem d2_1 : decode jdk_42_method_149_code 1 = .ok (.invokespecial 1, 3) := by decide +kernel
theorem d2_4 : decode jdk_42_method_149_code 4 = .ok (.iload_n 3, 1) := by decide +kernel
theorem d2_5 : decode jdk_42_method_149_code 5 = .ok (.ifCond .ne 22, 3) := by decide +kernel
theorem d2_8 : decode jdk_42_method_149_code 8 = .ok (.aload_n 0, 1) := by decide +kernel
theorem d2_9 : decode jdk_42_method_149_code 9 = .ok (.ldc 7, 2) := by decide +kernel
theorem d2_11 : decode jdk_42_method_149_code 11 = .ok (.getfield 9, 3) := by decide +kernel
theorem d2_14 : decode jdk_42_method_149_code 14 = .ok (.putfield 9, 3) := by decide +kernel
theorem d2_17 : decode jdk_42_method_149_code 17 = .ok (.aload_n 0, 1) := by decide +kernel
theorem d2_18 : decode jdk_42_method_149_code 18 = .ok (.ldc 7, 2) := by decide +kernel
theorem d2_20 : decode jdk_42_method_149_code 20 = .ok (.getfield 15, 3) := by decide +kernel
theorem d2_23 : decode jdk_42_method_149_code 23 = .ok (.putfield 15, 3) := by decide +kernel
theorem d2_26 : decode jdk_42_method_149_code 26 = .ok (.return_, 1) := by decide +kernel
theorem d7_0 : decode prog_38_method_2_code 0 = .ok (.new 18, 3) := by decide +kernel
theorem d7_3 : decode prog_38_method_2_code 3 = .ok (.dup, 1) := by decide +kernel
theorem d7_4 : decode prog_38_method_2_code 4 = .ok (.aload_n 0, 1) := by decide +kernel
theorem d7_5 : decode prog_38_method_2_code 5 = .ok (.aload_n 1, 1) := by decide +kernel
theorem d7_6 : decode prog_38_method_2_code 6 = .ok (.invokestatic 25, 3) := by decide +kernel
theorem d7_9 : decode prog_38_method_2_code 9 = .ok (.invokespecial 31, 3) := by decide +kernel
theorem d7_12 : decode prog_38_method_2_code 12 = .ok (.areturn, 1) := by decide +kernel
theorem d8_0 : decode prog_44_method_2_code 0 = .ok (.new 15, 3) := by decide +kernel
theorem d8_3 : decode prog_44_method_2_code 3 = .ok (.dup, 1) := by decide +kernel
theorem d8_4 : decode prog_44_method_2_code 4 = .ok (.aconst_null, 1) := by decide +kernel
theorem d8_5 : decode prog_44_method_2_code 5 = .ok (.aload_n 0, 1) := by decide +kernel
theorem d8_6 : decode prog_44_method_2_code 6 = .ok (.invokespecial 23, 3) := by decide +kernel
theorem d8_9 : decode prog_44_method_2_code 9 = .ok (.areturn, 1) := by decide +kernel
theorem d9_0 : decode prog_44_method_1_code 0 = .ok (.aload_n 0, 1) := by decide +kernel
theorem d9_1 : decode prog_44_method_1_code 1 = .ok (.invokespecial 1, 3) := by decide +kernel
theorem d9_4 : decode prog_44_method_1_code 4 = .ok (.aload_n 1, 1) := by decide +kernel
theorem d9_5 : decode prog_44_method_1_code 5 = .ok (.ifnonnull 7, 3) := by decide +kernel
theorem d9_8 : decode prog_44_method_1_code 8 = .ok (.iconst 1, 1) := by decide +kernel
theorem d9_9 : decode prog_44_method_1_code 9 = .ok (.goto 4, 3) := by decide +kernel
theorem d9_13 : decode prog_44_method_1_code 13 = .ok (.aload_n 2, 1) := by decide +kernel
theorem d9_14 : decode prog_44_method_1_code 14 = .ok (.ifnonnull 7, 3) := by decide +kernel
theorem d9_21 : decode prog_44_method_1_code 21 = .ok (.iconst 0, 1) := by decide +kernel
theorem d9_22 : decode prog_44_method_1_code 22 = .ok (.if_icmp .ne 13, 3) := by decide +kernel
theorem d9_35 : decode prog_44_method_1_code 35 = .ok (.aload_n 0, 1) := by decide +kernel
theorem d9_36 : decode prog_44_method_1_code 36 = .ok (.aload_n 1, 1) := by decide +kernel
theorem d9_37 : decode prog_44_method_1_code 37 = .ok (.putfield 14, 3) := by decide +kernel
theorem d9_40 : decode prog_44_method_1_code 40 = .ok (.aload_n 0, 1) := by decide +kernel
theorem d9_41 : decode prog_44_method_1_code 41 = .ok (.aload_n 2, 1) := by decide +kernel
theorem d9_42 : decode prog_44_method_1_code 42 = .ok (.putfield 20, 3) := by decide +kernel
theorem d9_45 : decode prog_44_method_1_code 45 = .ok (.return_, 1) := by decide +kernel
theorem d10_0 : decode jdk_30_method_1_code 0 = .ok (.aload_n 0, 1) := by decide +kernel
theorem d10_1 : decode jdk_30_method_1_code 1 = .ok (.invokespecial 1, 3) := by decide +kernel
theorem d10_4 : decode jdk_30_method_1_code 4 = .ok (.return_, 1) := by decide +kernel
theorem d11_0 : decode prog_38_method_1_code 0 = .ok (.aload_n 0, 1) := by decide +kernel
theorem d11_1 : decode prog_38_method_1_code 1 = .ok (.invokespecial 1, 3) := by decide +kernel
theorem d11_4 : decode prog_38_method_1_code 4 = .ok (.aload_n 1, 1) := by decide +kernel
theorem d11_5 : decode prog_38_method_1_code 5 = .ok (.ldc 7, 2) := by decide +kernel
theorem d11_7 : decode prog_38_method_1_code 7 = .ok (.invokestatic 9, 3) := by decide +kernel
theorem d11_10 : decode prog_38_method_1_code 10 = .ok (.pop, 1) := by decide +kernel
theorem d11_11 : decode prog_38_method_1_code 11 = .ok (.aload_n 2, 1) := by decide +kernel
theorem d11_12 : decode prog_38_method_1_code 12 = .ok (.ldc 15, 2) := by decide +kernel
theorem d11_14 : decode prog_38_method_1_code 14 = .ok (.invokestatic 9, 3) := by decide +kernel
theorem d11_17 : decode prog_38_method_1_code 17 = .ok (.pop, 1) := by decide +kernel
theorem d11_18 : decode prog_38_method_1_code 18 = .ok (.aload_n 0, 1) := by decide +kernel
theorem d11_19 : decode prog_38_method_1_code 19 = .ok (.aload_n 1, 1) := by decide +kernel
theorem d11_20 : decode prog_38_method_1_code 20 = .ok (.putfield 17, 3) := by decide +kernel
theorem d11_23 : decode prog_38_method_1_code 23 = .ok (.aload_n 0, 1) := by decide +kernel
theorem d11_24 : decode prog_38_method_1_code 24 = .ok (.aload_n 2, 1) := by decide +kernel
theorem d11_25 : decode prog_38_method_1_code 25 = .ok (.putfield 22, 3) := by decide +kernel
theorem d11_28 : decode prog_38_method_1_code 28 = .ok (.return_, 1) := by decide +kernel
theorem d12_0 : decode jdk_31_method_11_code 0 = .ok (.aload_n 0, 1) := by decide +kernel
theorem d12_1 : decode jdk_31_method_11_code 1 = .ok (.ifnonnull 12, 3) := by decide +kernel
theorem d12_13 : decode jdk_31_method_11_code 13 = .ok (.aload_n 0, 1) := by decide +kernel
theorem d12_14 : decode jdk_31_method_11_code 14 = .ok (.areturn, 1) := by decide +kernel
theorem d13_0 : decode prog_38_method_7_code 0 = .ok (.aload_n 0, 1) := by decide +kernel
theorem d13_1 : decode prog_38_method_7_code 1 = .ok (.getfield 22, 3) := by decide +kernel
theorem d13_4 : decode prog_38_method_7_code 4 = .ok (.areturn, 1) := by decide +kernel
theorem d14_0 : decode prog_38_method_6_code 0 = .ok (.aload_n 0, 1) := by decide +kernel
theorem d14_1 : decode prog_38_method_6_code 1 = .ok (.getfield 17, 3) := by decide +kernel
theorem d14_4 : decode prog_38_method_6_code 4 = .ok (.areturn, 1) := by decide +kernel
theorem d15_0 : decode prog_44_method_7_code 0 = .ok (.aload_n 0, 1) := by decide +kernel
theorem d15_1 : decode prog_44_method_7_code 1 = .ok (.getfield 20, 3) := by decide +kernel
theorem d15_4 : decode prog_44_method_7_code 4 = .ok (.areturn, 1) := by decide +kernel
theorem d16_0 : decode jdk_42_method_66_code 0 = .ok (.aload_n 0, 1) := by decide +kernel
theorem d16_1 : decode jdk_42_method_66_code 1 = .ok (.aload_n 1, 1) := by decide +kernel
theorem d16_2 : decode jdk_42_method_66_code 2 = .ok (.if_acmp .ne 5, 3) := by decide +kernel
theorem d16_5 : decode jdk_42_method_66_code 5 = .ok (.iconst 1, 1) := by decide +kernel
theorem d16_6 : decode jdk_42_method_66_code 6 = .ok (.ireturn, 1) := by decide +kernel
theorem d17_0 : decode prog_44_method_6_code 0 = .ok (.aload_n 0, 1) := by decide +kernel
theorem d17_1 : decode prog_44_method_6_code 1 = .ok (.getfield 14, 3) := by decide +kernel
theorem d17_4 : decode prog_44_method_6_code 4 = .ok (.areturn, 1) := by decide +kernel
theorem d18_0 : decode jdk_42_method_139_code 0 = .ok (.getstatic 38, 3) := by decide +kernel
theorem d18_3 : decode jdk_42_method_139_code 3 = .ok (.ifCond .eq 23, 3) := by decide +kernel
theorem d18_6 : decode jdk_42_method_139_code 6 = .ok (.iload_n 0, 1) := by decide +kernel
theorem d18_7 : decode jdk_42_method_139_code 7 = .ok (.invokestatic 1015, 3) := by decide +kernel
theorem d18_10 : decode jdk_42_method_139_code 10 = .ok (.ifCond .eq 16, 3) := by decide +kernel
theorem d18_13 : decode jdk_42_method_139_code 13 = .ok (.new 10, 3) := by decide +kernel
theorem d18_16 : decode jdk_42_method_139_code 16 = .ok (.dup, 1) := by decide +kernel
theorem d18_17 : decode jdk_42_method_139_code 17 = .ok (.iload_n 0, 1) := by decide +kernel
theorem d18_18 : decode jdk_42_method_139_code 18 = .ok (.invokestatic 1018, 3) := by decide +kernel
theorem d18_21 : decode jdk_42_method_139_code 21 = .ok (.iconst 0, 1) := by decide +kernel
theorem d18_22 : decode jdk_42_method_139_code 22 = .ok (.invokespecial 209, 3) := by decide +kernel
theorem d18_25 : decode jdk_42_method_139_code 25 = .ok (.areturn, 1) := by decide +kernel
theorem d19_0 : decode jdk_43_method_3_code 0 = .ok (.iload_n 0, 1) := by decide +kernel
theorem d19_1 : decode jdk_43_method_3_code 1 = .ok (.sipush 255, 3) := by decide +kernel
theorem d19_4 : decode jdk_43_method_3_code 4 = .ok (.if_icmp .gt 7, 3) := by decide +kernel
theorem d19_7 : decode jdk_43_method_3_code 7 = .ok (.iconst 1, 1) := by decide +kernel
theorem d19_8 : decode jdk_43_method_3_code 8 = .ok (.goto 4, 3) := by decide +kernel
theorem d19_12 : decode jdk_43_method_3_code 12 = .ok (.ireturn, 1) := by decide +kernel
theorem d20_0 : decode jdk_43_method_46_code 0 = .ok (.iconst 1, 1) := by decide +kernel
theorem d20_1 : decode jdk_43_method_46_code 1 = .ok (.newarray .byte, 2) := by decide +kernel
theorem d20_3 : decode jdk_43_method_46_code 3 = .ok (.dup, 1) := by decide +kernel
theorem d20_4 : decode jdk_43_method_46_code 4 = .ok (.iconst 0, 1) := by decide +kernel
theorem d20_5 : decode jdk_43_method_46_code 5 = .ok (.iload_n 0, 1) := by decide +kernel
theorem d20_6 : decode jdk_43_method_46_code 6 = .ok (.i2b, 1) := by decide +kernel
theorem d20_7 : decode jdk_43_method_46_code 7 = .ok (.bastore, 1) := by decide +kernel
theorem d20_8 : decode jdk_43_method_46_code 8 = .ok (.areturn, 1) := by decide +kernel
theorem d21_0 : decode jdk_42_method_151_code 0 = .ok (.aload_n 0, 1) := by decide +kernel
theorem d21_1 : decode jdk_42_method_151_code 1 = .ok (.invokespecial 1, 3) := by decide +kernel
theorem d21_4 : decode jdk_42_method_151_code 4 = .ok (.aload_n 0, 1) := by decide +kernel
theorem d21_5 : decode jdk_42_method_151_code 5 = .ok (.aload_n 1, 1) := by decide +kernel
theorem d21_6 : decode jdk_42_method_151_code 6 = .ok (.putfield 9, 3) := by decide +kernel
theorem d21_9 : decode jdk_42_method_151_code 9 = .ok (.aload_n 0, 1) := by decide +kernel
theorem d21_10 : decode jdk_42_method_151_code 10 = .ok (.iload_n 2, 1) := by decide +kernel
theorem d21_11 : decode jdk_42_method_151_code 11 = .ok (.putfield 15, 3) := by decide +kernel
theorem d21_14 : decode jdk_42_method_151_code 14 = .ok (.return_, 1) := by decide +kernel
theorem pn0 : plainName "org/holdfast/model/IdentifierOfPinLaw" = true := by first | (simp [plainName, overriddenIn]; done) | decide +kernel
theorem pn1 : plainName "java/lang/String" = true := by first | (simp [plainName, overriddenIn]; done) | decide +kernel
theorem pn2 : plainName "java/lang/String" = true := by first | (simp [plainName, overriddenIn]; done) | decide +kernel
theorem pn7 : plainName "org/holdfast/model/Identifier" = true := by first | (simp [plainName, overriddenIn]; done) | decide +kernel
theorem pn8 : plainName "org/holdfast/model/TypeOrSource" = true := by first | (simp [plainName, overriddenIn]; done) | decide +kernel
theorem pn9 : plainName "org/holdfast/model/TypeOrSource" = true := by first | (simp [plainName, overriddenIn]; done) | decide +kernel
theorem pn10 : plainName "java/lang/Record" = true := by first | (simp [plainName, overriddenIn]; done) | decide +kernel
theorem pn11 : plainName "org/holdfast/model/Identifier" = true := by first | (simp [plainName, overriddenIn]; done) | decide +kernel
theorem pn12 : plainName "java/util/Objects" = true := by first | (simp [plainName, overriddenIn]; done) | decide +kernel
theorem pn13 : plainName "org/holdfast/model/Identifier" = true := by first | (simp [plainName, overriddenIn]; done) | decide +kernel
theorem pn14 : plainName "org/holdfast/model/Identifier" = true := by first | (simp [plainName, overriddenIn]; done) | decide +kernel
theorem pn15 : plainName "org/holdfast/model/TypeOrSource" = true := by first | (simp [plainName, overriddenIn]; done) | decide +kernel
theorem pn16 : plainName "java/lang/String" = true := by first | (simp [plainName, overriddenIn]; done) | decide +kernel
theorem pn17 : plainName "org/holdfast/model/TypeOrSource" = true := by first | (simp [plainName, overriddenIn]; done) | decide +kernel
theorem pn18 : plainName "java/lang/String" = true := by first | (simp [plainName, overriddenIn]; done) | decide +kernel
theorem pn19 : plainName "java/lang/StringLatin1" = true := by first | (simp [plainName, overriddenIn]; done) | decide +kernel
theorem pn20 : plainName "java/lang/StringLatin1" = true := by first | (simp [plainName, overriddenIn]; done) | decide +kernel
theorem pn21 : plainName "java/lang/String" = true := by first | (simp [plainName, overriddenIn]; done) | decide +kernel
theorem pn22 : plainName "org/holdfast/model/IdentifierOfPinLaw" = true := by first | (simp [plainName, overriddenIn]; done) | decide +kernel
theorem pd0 : parseMethodDescriptor "([CIILjava/lang/Void;)V" = some ⟨[(.array .char), .int, .int, (.object "java/lang/Void")], none⟩ := by decide +kernel
theorem pd1 : parseMethodDescriptor "(C)Z" = some ⟨[.char], some .boolean⟩ := by decide +kernel
theorem pd2 : parseMethodDescriptor "(C)[B" = some ⟨[.char], some (.array .byte)⟩ := by decide +kernel
theorem pd3 : parseMethodDescriptor "([BB)V" = some ⟨[(.array .byte), .byte], none⟩ := by decide +kernel
theorem pd4 : parseMethodDescriptor "([C)V" = some ⟨[(.array .char)], none⟩ := by decide +kernel
theorem pd5 : parseMethodDescriptor "(C)Ljava/lang/String;" = some ⟨[.char], some (.object "java/lang/String")⟩ := by decide +kernel
theorem pd6 : parseMethodDescriptor "()V" = some ⟨[], none⟩ := by decide +kernel
theorem pd7 : parseMethodDescriptor "(Ljava/lang/String;Ljava/lang/String;)V" = some ⟨[(.object "java/lang/String"), (.object "java/lang/String")], none⟩ := by decide +kernel
theorem pd8 : parseMethodDescriptor "(Ljava/lang/Object;Ljava/lang/String;)Ljava/lang/Object;" = some ⟨[(.object "java/lang/Object"), (.object "java/lang/String")], some (.object "java/lang/Object")⟩ := by decide +kernel
theorem pd9 : parseMethodDescriptor "(Ljava/lang/String;)Lorg/holdfast/model/TypeOrSource;" = some ⟨[(.object "java/lang/String")], some (.object "org/holdfast/model/TypeOrSource")⟩ := by decide +kernel
theorem pd10 : parseMethodDescriptor "(Ljava/lang/String;Lorg/holdfast/model/TypeOrSource;)V" = some ⟨[(.object "java/lang/String"), (.object "org/holdfast/model/TypeOrSource")], none⟩ := by decide +kernel
theorem pd11 : parseMethodDescriptor "(II)Ljava/lang/String;" = some ⟨[.int, .int], some (.object "java/lang/String")⟩ := by decide +kernel
theorem pd12 : parseMethodDescriptor "(Ljava/lang/String;Ljava/lang/String;)Lorg/holdfast/model/Identifier;" = some ⟨[(.object "java/lang/String"), (.object "java/lang/String")], some (.object "org/holdfast/model/Identifier")⟩ := by decide +kernel
theorem pd13 : parseMethodDescriptor "()Lorg/holdfast/model/TypeOrSource;" = some ⟨[], some (.object "org/holdfast/model/TypeOrSource")⟩ := by decide +kernel
theorem pd14 : parseMethodDescriptor "()Ljava/lang/String;" = some ⟨[], some (.object "java/lang/String")⟩ := by decide +kernel
theorem pd15 : parseMethodDescriptor "(Ljava/lang/Object;)Z" = some ⟨[(.object "java/lang/Object")], some .boolean⟩ := by decide +kernel
abbrev RrmE4 : Room := { frames := 1, cells := 4, slots := 10, locals := 12 }
def QrmE4 (Z : State) (x : Addr) (b : Addr) (h0 : Heap) (v : Option Value) (h : Heap) : Prop := ∃ (t : Addr) (kb : ClassId), v = none ∧ Keep h0 h [x] ∧ Str Z h x t kb []
set_option maxRecDepth 65536 in
set_option maxHeartbeats 40000000 in
theorem rmE4 (l : Launch) (Z : State) (a0 : Array Value) (hw : ∀ d ∈ tables_1, d.before a0 Z = true) (hEL : EW Z a0 consts_1) (zc : Int32) (O2 : Sta Z Z.heap "java/lang/String" "COMPACT_STRINGS" "Z" (.int zc)) (P5 : ¬ zc = 0) (x : Addr) (b : Addr) (h0 : Heap) (O0 : Old Z Z.heap.size h0) (P0 : Exa Z h0 x "java/lang/String") (P1 : Fld Z h0 x "java/lang/String" "coder" "B" (.int (0 : Int32))) (P2 : Fld Z h0 x "java/lang/String" "value" "[B" .null) (P3 : Z.heap.size ≤ x) : Met l Z consts_1 (⟨"java/lang/String", "<init>", "([CIILjava/lang/Void;)V"⟩ : MethodName) jdk_42_method_149_code 6 (none) [] RrmE4 [x] #[(.ref x), (.ref b), (.int (0 : Int32)), (.int (0 : Int32)), .null] h0 (QrmE4 Z x b h0) := by
  refine Met.start (a0 := a0) (Ls := #[.val (.ref x), .val (.ref b), .val (.int (0 : Int32)), .val (.int (0 : Int32)), .val .null, .unset]) pn2 hEL O0 (fun m => by first | (simp [entryFrame, mkF, argsToLocals, Value.category]; done) | rfl) ?_
  intro p e s m below meth cc T0 vm0 X0 sf0_ hby hml hret hnm
  have hx := X0.hx
  have zz := X0.ge
  have A0 := X0.at
  have l1 := ltA P0.lt
  have l2 := ltA P1.lt
  have l3 := ltA P2.lt
  have s4 := sf0_ x (List.mem_of_getElem? (i := 0) rfl)
  show Gets p e below _ (T0.setTop (mkF m 0 #[.val (.ref x), .val (.ref b), .val (.int (0 : Int32)), .val (.int (0 : Int32)), .val .null, .unset] []))
  refine Gets.via (fun _ k => (XS.aloadN A0 hx rfl (hb hby d2_0) rfl rfl k)) ?_
  show Gets p e below _ (T0.setTop (mkF m 1 #[.val (.ref x), .val (.ref b), .val (.int (0 : Int32)), .val (.int (0 : Int32)), .val .null, .unset] [(.ref x)]))
  refine X0.objInit (w15 hw) (w16 hw) (w17 hw) rfl (by rw [hml]; rfl) rfl (hb hby d2_1) (by decide) (W := 0) (by show 2 * 0 + _ ≤ _; exact Nat.le_of_eq rfl) (by decide) fun T5 X5 => ?_
  have A6 := X5.at
  show Gets p e below _ (T5.setTop (mkF m 4 #[.val (.ref x), .val (.ref b), .val (.int (0 : Int32)), .val (.int (0 : Int32)), .val .null, .unset] []))
  refine Gets.via (fun _ k => (XS.iloadN A6 hx rfl (hb hby d2_4) rfl (XS.ifNo A6 hx rfl (hb hby d2_5) rfl (Jvm.Free.XT.i0_ne_f (by decide)) k))) ?_
  show Gets p e below _ (T5.setTop (mkF m 8 #[.val (.ref x), .val (.ref b), .val (.int (0 : Int32)), .val (.int (0 : Int32)), .val .null, .unset] []))
  refine Gets.via (fun _ k => (XS.aloadN A6 hx rfl (hb hby d2_8) rfl rfl k)) ?_
  show Gets p e below _ (T5.setTop (mkF m 9 #[.val (.ref x), .val (.ref b), .val (.int (0 : Int32)), .val (.int (0 : Int32)), .val .null, .unset] [(.ref x)]))
  refine X5.ldcC (w34 hw) (wSt hw) (by decide) (vs := []) (z := (0 : Int32)) ⟨by decide, by decide⟩ (by decide) (by decide) rfl (hb hby d2_9) (n := 1) (by decide) (by decide) (by decide) (by decide) fun T7 h7 vm7 a7 b7 k7 X7 C7 E7 Z7 Fc7 Fv7 V7 q7 => ?_
  have z7 := E7.1
  have l7 := ltA Z7.lt
  have lb7 := ltA V7.lt
  have A8 := X7.at
  have f9 := C7.safe (x := x) (ltA (by omega)) s4
  have ne10 := neA (q7 x f9).1
  have nf10 := neA (q7 x f9).2
  show Gets p e below _ (T7.setTop (mkF m 11 #[.val (.ref x), .val (.ref b), .val (.int (0 : Int32)), .val (.int (0 : Int32)), .val .null, .unset] [(.ref a7), (.ref x)]))
  refine X7.getF (host := "") (Or.inl (w32 hw)) Via.refl Fv7 rfl rfl (hb hby d2_11) fun T11 X11 => ?_
  have A12 := X11.at
  show Gets p e below _ (T11.setTop (mkF m 14 #[.val (.ref x), .val (.ref b), .val (.int (0 : Int32)), .val (.int (0 : Int32)), .val .null, .unset] [(.ref b7), (.ref x)]))
  have f14 : Fld Z h7 x "java/lang/String" "value" "[B" .null := P2.ext E7
  have f15 : Exa Z h7 x "java/lang/String" := P0.ext E7
  refine X11.putF (host := "") (Or.inl (w32 hw)) Via.refl f14 f15 (Or.inr ⟨(w33 hw), rfl, hnm⟩) (w5 hw) (ty := (.array .byte)) (by decide) rfl rfl (leA (by omega)) f9 rfl rfl (hb hby d2_14) fun T13 h13 X13 C13 W13 F13 Z13 => ?_
  have z13 := W13.size
  have A16 := X13.at
  show Gets p e below _ (T13.setTop (mkF m 17 #[.val (.ref x), .val (.ref b), .val (.int (0 : Int32)), .val (.int (0 : Int32)), .val .null, .unset] []))
  refine Gets.via (fun _ k => (XS.aloadN A16 hx rfl (hb hby d2_17) rfl rfl k)) ?_
  show Gets p e below _ (T13.setTop (mkF m 18 #[.val (.ref x), .val (.ref b), .val (.int (0 : Int32)), .val (.int (0 : Int32)), .val .null, .unset] [(.ref x)]))
  refine X13.ldcC (w34 hw) (wSt hw) (by decide) (vs := []) (z := (0 : Int32)) ⟨by decide, by decide⟩ (by decide) (by decide) rfl (hb hby d2_18) (n := 1) (by decide) (by decide) (by decide) (by decide) fun T17 h17 vm17 a17 b17 k17 X17 C17 E17 Z17 Fc17 Fv17 V17 q17 => ?_
  have z17 := E17.1
  have l17 := ltA Z17.lt
  have lb17 := ltA V17.lt
  have A18 := X17.at
  have f19 := C13.safe (x := x) (ltA (by omega)) f9
  have f20 := C17.safe (x := x) (ltA (by omega)) f19
  have ne21 := neA (q17 x f20).1
  have nf21 := neA (q17 x f20).2
  show Gets p e below _ (T17.setTop (mkF m 20 #[.val (.ref x), .val (.ref b), .val (.int (0 : Int32)), .val (.int (0 : Int32)), .val .null, .unset] [(.ref a17), (.ref x)]))
  refine X17.getF (host := "") (Or.inl (w30 hw)) Via.refl Fc17 rfl rfl (hb hby d2_20) fun T22 X22 => ?_
  have A23 := X22.at
  show Gets p e below _ (T22.setTop (mkF m 23 #[.val (.ref x), .val (.ref b), .val (.int (0 : Int32)), .val (.int (0 : Int32)), .val .null, .unset] [(.int (0 : Int32)), (.ref x)]))
  have f25 : Fld Z h7 x "java/lang/String" "coder" "B" (.int (0 : Int32)) := P1.ext E7
  have f26 : Fld Z h13 x "java/lang/String" "coder" "B" (.int (0 : Int32)) := f25.other W13 (Or.inr (slot_ne (t := .byte) (t' := (.array .byte)) (Or.inr (w31 hw)) (Or.inr (w33 hw)) (by decide) (by decide) (by decide)))
  have f27 : Fld Z h17 x "java/lang/String" "coder" "B" (.int (0 : Int32)) := f26.ext E17
  have f28 : Exa Z h17 x "java/lang/String" := Z13.ext E17
  refine X22.putF (host := "") (Or.inl (w30 hw)) Via.refl f27 f28 (Or.inr ⟨(w31 hw), rfl, hnm⟩) (w5 hw) (ty := .byte) (by decide) (by decide) (by decide) (leA (by omega)) f20 rfl rfl (hb hby d2_23) fun T24 h24 X24 C24 W24 F24 Z24 => ?_
  have z24 := W24.size
  have A29 := X24.at
  show Gets p e below _ (T24.setTop (mkF m 26 #[.val (.ref x), .val (.ref b), .val (.int (0 : Int32)), .val (.int (0 : Int32)), .val .null, .unset] []))
  have f30 : Fld Z h17 x "java/lang/String" "value" "[B" (.ref b7) := F13.ext E17
  have f31 : Fld Z h24 x "java/lang/String" "value" "[B" (.ref b7) := f30.other W24 (Or.inr (slot_ne (t := (.array .byte)) (t' := .byte) (Or.inr (w33 hw)) (Or.inr (w31 hw)) (by decide) (by decide) (by decide)))
  have f32 : Arv Z h13 b7 k7 .byte (0 : Int32) [] (.int (0 : Int32)) := V7.other W13 (neA (by omega))
  have f33 : Arv Z h17 b7 k7 .byte (0 : Int32) [] (.int (0 : Int32)) := f32.ext E17
  have f34 : Arv Z h24 b7 k7 .byte (0 : Int32) [] (.int (0 : Int32)) := f33.other W24 (neA (by omega))
  have f35 : Str Z h24 x b7 k7 [] := ⟨Z24, F24, f31, f34, allN, Nat.le_of_ble_eq_true rfl⟩
  exact X24.retV hret (hb hby d2_26) (by decide) (by decide) ⟨b7, k7, rfl, (((((Keep.refl h0 [x]).ext E7).wr W13 (Or.inl (List.mem_of_getElem? (i := 0) rfl))).ext E17).wr W24 (Or.inl (List.mem_of_getElem? (i := 0) rfl))), f35⟩
abbrev RrmE1 : Room := { frames := 2, cells := 4, slots := 10, locals := 29 }
def QrmE1 (Z : State) (x : Addr) (b : Addr) (kc : ClassId) (h0 : Heap) (v : Option Value) (h : Heap) : Prop := ∃ (t : Addr) (kb : ClassId), v = none ∧ Keep h0 h [x] ∧ Str Z h x t kb []
set_option maxRecDepth 65536 in
set_option maxHeartbeats 40000000 in
theorem rmE1 (l : Launch) (Z : State) (a0 : Array Value) (hw : ∀ d ∈ tables_1, d.before a0 Z = true) (hEL : EW Z a0 consts_1) (zc : Int32) (O2 : Sta Z Z.heap "java/lang/String" "COMPACT_STRINGS" "Z" (.int zc)) (P5 : ¬ zc = 0) (x : Addr) (b : Addr) (kc : ClassId) (h0 : Heap) (O0 : Old Z Z.heap.size h0) (P0 : Exa Z h0 x "java/lang/String") (P1 : Fld Z h0 x "java/lang/String" "coder" "B" (.int (0 : Int32))) (P2 : Fld Z h0 x "java/lang/String" "value" "[B" .null) (P3 : Z.heap.size ≤ x) (P4 : Arv Z h0 b kc .char (0 : Int32) [] (.int (0 : Int32))) : Met l Z consts_1 (⟨"java/lang/String", "<init>", "([C)V"⟩ : MethodName) jdk_42_method_3_code 2 (none) [] RrmE1 [x] #[(.ref x), (.ref b)] h0 (QrmE1 Z x b kc h0) := by
  refine Met.start (a0 := a0) (Ls := #[.val (.ref x), .val (.ref b)]) pn1 hEL O0 (fun m => by first | (simp [entryFrame, mkF, argsToLocals, Value.category]; done) | rfl) ?_
  intro p e s m below meth cc T0 vm0 X0 sf0_ hby hml hret hnm
  have hx := X0.hx
  have zz := X0.ge
  have A0 := X0.at
  have l1 := ltA P0.lt
  have l2 := ltA P1.lt
  have l3 := ltA P2.lt
  have l4 := ltA P4.lt
  have s5 := sf0_ x (List.mem_of_getElem? (i := 0) rfl)
  show Gets p e below _ (T0.setTop (mkF m 0 #[.val (.ref x), .val (.ref b)] []))
  refine Gets.via (fun _ k => (XS.aloadN A0 hx rfl (hb hby d1_0) rfl rfl (XS.aloadN A0 hx rfl (hb hby d1_1) rfl rfl (XS.iconst A0 hx rfl (hb hby d1_2) (XS.aloadN A0 hx rfl (hb hby d1_3) rfl rfl k))))) ?_
  show Gets p e below _ (T0.setTop (mkF m 4 #[.val (.ref x), .val (.ref b)] [(.ref b), (.int (0 : Int32)), (.ref b), (.ref x)]))
  refine X0.alen P4 rfl rfl (hb hby d1_4) ?_
  show Gets p e below _ (T0.setTop (mkF m 5 #[.val (.ref x), .val (.ref b)] [(.int (0 : Int32)), (.int (0 : Int32)), (.ref b), (.ref x)]))
  refine Gets.via (fun _ k => (XS.aconstNull A0 hx rfl (hb hby d1_5) k)) ?_
  show Gets p e below _ (T0.setTop (mkF m 6 #[.val (.ref x), .val (.ref b)] [.null, (.int (0 : Int32)), (.int (0 : Int32)), (.ref b), (.ref x)]))
  refine X0.callI (y := (⟨"java/lang/String", "<init>", "([CIILjava/lang/Void;)V"⟩ : MethodName)) (W := 0) rfl (w11 hw) (w12 hw) (w14 hw) (by decide) (X0.payM (sf := [x]) (rmE4 l Z a0 hw hEL zc O2 P5 x b h0 X0.old P0 P1 P2 P3) (sfS s5 sf0) (w14 hw) (w6 hw) (by decide) (by decide)) rfl (by rw [hml]; rfl) (a := x) (argsL := [(.ref b), (.int (0 : Int32)), (.int (0 : Int32)), .null]) (rest := []) (lenOf pd0 rfl) rfl rfl (by show 2 * 0 + _ ≤ _; exact Nat.le_of_eq rfl) (hb hby d1_6) (by decide) (by decide) fun T6 h6 vm6 v6 X6 C6 z6 q6 => ?_
  obtain ⟨t6, kb6, rfl, K6, g6_0⟩ := q6
  have l7 := ltA g6_0.lt
  have l8 := ltA g6_0.lb
  have A9 := X6.at
  show Gets p e below _ (T6.setTop (mkF m 9 #[.val (.ref x), .val (.ref b)] []))
  exact X6.retV hret (hb hby d1_9) (by decide) (by decide) ⟨t6, kb6, rfl, ((Keep.refl h0 [x]).trans K6 (allS (Or.inl (List.mem_of_getElem? (i := 0) rfl)) all0)), g6_0⟩
abbrev Rrm19 : Room := { frames := 0, cells := 0, slots := 0, locals := 0 }
def Qrm19 (Z : State) (c : Int32) (h0 : Heap) (v : Option Value) (h : Heap) : Prop := v = some (.int (1 : Int32)) ∧ h = h0
set_option maxRecDepth 65536 in
set_option maxHeartbeats 40000000 in
theorem rm19 (l : Launch) (Z : State) (a0 : Array Value) (hw : ∀ d ∈ tables_1, d.before a0 Z = true) (hEL : EW Z a0 consts_1) (zc : Int32) (O2 : Sta Z Z.heap "java/lang/String" "COMPACT_STRINGS" "Z" (.int zc)) (P5 : ¬ zc = 0) (c : Int32) (h0 : Heap) (O0 : Old Z Z.heap.size h0) (P0 : ¬ c < 0 ∧ ¬ (255 : Int32) < c) : Met l Z consts_1 (⟨"java/lang/StringLatin1", "canEncode", "(C)Z"⟩ : MethodName) jdk_43_method_3_code 1 (some .boolean) [] Rrm19 [] #[(.int c)] h0 (Qrm19 Z c h0) := by
  refine Met.start (a0 := a0) (Ls := #[.val (.int c)]) pn19 hEL O0 (fun m => by first | (simp [entryFrame, mkF, argsToLocals, Value.category]; done) | rfl) ?_
  intro p e s m below meth cc T0 vm0 X0 sf0_ hby hml hret hnm
  have hx := X0.hx
  have zz := X0.ge
  have A0 := X0.at
  show Gets p e below _ (T0.setTop (mkF m 0 #[.val (.int c)] []))
  refine Gets.via (fun _ k => (XS.iloadN A0 hx rfl (hb hby d19_0) rfl (XS.sipush A0 hx rfl (hb hby d19_1) (XS.icmpNo A0 hx rfl (hb hby d19_4) rfl (Jvm.Free.XT.ii_gt_f P0.2) k)))) ?_
  show Gets p e below _ (T0.setTop (mkF m 7 #[.val (.int c)] []))
  refine Gets.via (fun _ k => (XS.iconst A0 hx rfl (hb hby d19_7) (XS.goto A0 hx rfl (pc0 := 8) (pc' := 12) rfl (hb hby d19_8) (by decide) (by decide) k))) ?_
  show Gets p e below _ (T0.setTop (mkF m 12 #[.val (.int c)] [(.int (1 : Int32))]))
  exact X0.retI hret (by decide) (by simp) (hb hby d19_12) (by decide) (by decide) ⟨rfl, rfl⟩
abbrev Rrm20 : Room := { frames := 0, cells := 1, slots := 1, locals := 0 }
def Qrm20 (Z : State) (c : Int32) (h0 : Heap) (v : Option Value) (h : Heap) : Prop := ∃ (t : Addr) (kb : ClassId), v = some (.ref t) ∧ Keep h0 h [] ∧ Arv Z h t kb .byte (1 : Int32) [(.int (c.toInt8.toInt32))] (.int (0 : Int32)) ∧ h0.size ≤ t
set_option maxRecDepth 65536 in
set_option maxHeartbeats 40000000 in
theorem rm20 (l : Launch) (Z : State) (a0 : Array Value) (hw : ∀ d ∈ tables_1, d.before a0 Z = true) (hEL : EW Z a0 consts_1) (zc : Int32) (O2 : Sta Z Z.heap "java/lang/String" "COMPACT_STRINGS" "Z" (.int zc)) (P5 : ¬ zc = 0) (c : Int32) (h0 : Heap) (O0 : Old Z Z.heap.size h0)  : Met l Z consts_1 (⟨"java/lang/StringLatin1", "toBytes", "(C)[B"⟩ : MethodName) jdk_43_method_46_code 1 (some (.array .byte)) [] Rrm20 [] #[(.int c)] h0 (Qrm20 Z c h0) := by
  refine Met.start (a0 := a0) (Ls := #[.val (.int c)]) pn20 hEL O0 (fun m => by first | (simp [entryFrame, mkF, argsToLocals, Value.category]; done) | rfl) ?_
  intro p e s m below meth cc T0 vm0 X0 sf0_ hby hml hret hnm
  have hx := X0.hx
  have zz := X0.ge
  have A0 := X0.at
  show Gets p e below _ (T0.setTop (mkF m 0 #[.val (.int c)] []))
  refine Gets.via (fun _ k => (XS.iconst A0 hx rfl (hb hby d20_0) k)) ?_
  show Gets p e below _ (T0.setTop (mkF m 1 #[.val (.int c)] [(.int (1 : Int32))]))
  refine X0.newA (aty := .byte) (w23 hw) rfl (hb hby d20_1) rfl (by decide) (cap := 1) (by decide) (by decide) (by decide) (by decide) fun T1 h1 a1 k1 X1 C1 E1 g1 S1 V1 => ?_
  have z1 := E1.1
  have l1 := ltA V1.lt
  have V1_ : Arv Z h1 a1 k1 .byte (1 : Int32) [(.int (0 : Int32))] (.int (0 : Int32)) := padN V1 1
  have A2 := X1.at
  show Gets p e below _ (T1.setTop (mkF m 3 #[.val (.int c)] [(.ref a1)]))
  refine Gets.via (fun _ k => (XS.dup A2 hx rfl (hb hby d20_3) rfl rfl (XS.iconst A2 hx rfl (hb hby d20_4) (XS.iloadN A2 hx rfl (hb hby d20_5) rfl (XS.i2b A2 hx rfl (hb hby d20_6) rfl k))))) ?_
  show Gets p e below _ (T1.setTop (mkF m 7 #[.val (.int c)] [(.int (c.toInt8.toInt32)), (.int (0 : Int32)), (.ref a1), (.ref a1)]))
  refine X1.stB V1_ (i := 0) (by decide) (by decide) (Nat.le_of_ble_eq_true rfl) (by decide) (v := (c.toInt8.toInt32)) (nar_b _) S1 (leA (by omega)) rfl rfl (hb hby d20_7) fun T3 h3 X3 C3 K3 V3 => ?_
  have z3 := K3.1
  have V3_ : Arv Z h3 a1 k1 .byte (1 : Int32) [(.int (c.toInt8.toInt32))] (.int (0 : Int32)) := V3
  have A4 := X3.at
  show Gets p e below _ (T3.setTop (mkF m 8 #[.val (.int c)] [(.ref a1)]))
  exact X3.retA hret rfl rfl rfl (hb hby d20_8) (by decide) (by decide) ⟨a1, k1, rfl, (((Keep.refl h0 []).ext E1).trans K3 (allS (Or.inr (leA (by omega))) all0)), V3_, (leA (by omega))⟩
abbrev Rrm21 : Room := { frames := 1, cells := 0, slots := 0, locals := 12 }
def Qrm21 (Z : State) (x : Addr) (t : Addr) (h0 : Heap) (v : Option Value) (h : Heap) : Prop := v = none ∧ Keep h0 h [x] ∧ Exa Z h x "java/lang/String" ∧ Fld Z h x "java/lang/String" "coder" "B" (.int (0 : Int32)) ∧ Fld Z h x "java/lang/String" "value" "[B" (.ref t)
set_option maxRecDepth 65536 in
set_option maxHeartbeats 40000000 in
theorem rm21 (l : Launch) (Z : State) (a0 : Array Value) (hw : ∀ d ∈ tables_1, d.before a0 Z = true) (hEL : EW Z a0 consts_1) (zc : Int32) (O2 : Sta Z Z.heap "java/lang/String" "COMPACT_STRINGS" "Z" (.int zc)) (P5 : ¬ zc = 0) (x : Addr) (t : Addr) (h0 : Heap) (O0 : Old Z Z.heap.size h0) (P0 : Exa Z h0 x "java/lang/String") (P1 : Fld Z h0 x "java/lang/String" "coder" "B" (.int (0 : Int32))) (P2 : Fld Z h0 x "java/lang/String" "value" "[B" .null) (P3 : Z.heap.size ≤ x) : Met l Z consts_1 (⟨"java/lang/String", "<init>", "([BB)V"⟩ : MethodName) jdk_42_method_151_code 3 (none) [] Rrm21 [x] #[(.ref x), (.ref t), (.int (0 : Int32))] h0 (Qrm21 Z x t h0) := by
  refine Met.start (a0 := a0) (Ls := #[.val (.ref x), .val (.ref t), .val (.int (0 : Int32))]) pn21 hEL O0 (fun m => by first | (simp [entryFrame, mkF, argsToLocals, Value.category]; done) | rfl) ?_
  intro p e s m below meth cc T0 vm0 X0 sf0_ hby hml hret hnm
  have hx := X0.hx
  have zz := X0.ge
  have A0 := X0.at
  have l1 := ltA P0.lt
  have l2 := ltA P1.lt
  have l3 := ltA P2.lt
  have s4 := sf0_ x (List.mem_of_getElem? (i := 0) rfl)
  show Gets p e below _ (T0.setTop (mkF m 0 #[.val (.ref x), .val (.ref t), .val (.int (0 : Int32))] []))
  refine Gets.via (fun _ k => (XS.aloadN A0 hx rfl (hb hby d21_0) rfl rfl k)) ?_
  show Gets p e below _ (T0.setTop (mkF m 1 #[.val (.ref x), .val (.ref t), .val (.int (0 : Int32))] [(.ref x)]))
  refine X0.objInit (w15 hw) (w16 hw) (w17 hw) rfl (by rw [hml]; rfl) rfl (hb hby d21_1) (by decide) (W := 0) (by show 2 * 0 + _ ≤ _; exact Nat.le_of_eq rfl) (by decide) fun T5 X5 => ?_
  have A6 := X5.at
  show Gets p e below _ (T5.setTop (mkF m 4 #[.val (.ref x), .val (.ref t), .val (.int (0 : Int32))] []))
  refine Gets.via (fun _ k => (XS.aloadN A6 hx rfl (hb hby d21_4) rfl rfl (XS.aloadN A6 hx rfl (hb hby d21_5) rfl rfl k))) ?_
  show Gets p e below _ (T5.setTop (mkF m 6 #[.val (.ref x), .val (.ref t), .val (.int (0 : Int32))] [(.ref t), (.ref x)]))
  refine X5.putF (host := "") (Or.inl (w32 hw)) Via.refl P2 P0 (Or.inr ⟨(w33 hw), rfl, hnm⟩) (w5 hw) (ty := (.array .byte)) (by decide) rfl rfl (leA (by omega)) s4 rfl rfl (hb hby d21_6) fun T7 h7 X7 C7 W7 F7 Z7 => ?_
  have z7 := W7.size
  have A8 := X7.at
  show Gets p e below _ (T7.setTop (mkF m 9 #[.val (.ref x), .val (.ref t), .val (.int (0 : Int32))] []))
  refine Gets.via (fun _ k => (XS.aloadN A8 hx rfl (hb hby d21_9) rfl rfl (XS.iloadN A8 hx rfl (hb hby d21_10) rfl k))) ?_
  show Gets p e below _ (T7.setTop (mkF m 11 #[.val (.ref x), .val (.ref t), .val (.int (0 : Int32))] [(.int (0 : Int32)), (.ref x)]))
  have f10 : Fld Z h7 x "java/lang/String" "coder" "B" (.int (0 : Int32)) := P1.other W7 (Or.inr (slot_ne (t := .byte) (t' := (.array .byte)) (Or.inr (w31 hw)) (Or.inr (w33 hw)) (by decide) (by decide) (by decide)))
  have f11 := C7.safe (x := x) (ltA (by omega)) s4
  refine X7.putF (host := "") (Or.inl (w30 hw)) Via.refl f10 Z7 (Or.inr ⟨(w31 hw), rfl, hnm⟩) (w5 hw) (ty := .byte) (by decide) (by decide) (by decide) (leA (by omega)) f11 rfl rfl (hb hby d21_11) fun T9 h9 X9 C9 W9 F9 Z9 => ?_
  have z9 := W9.size
  have A12 := X9.at
  show Gets p e below _ (T9.setTop (mkF m 14 #[.val (.ref x), .val (.ref t), .val (.int (0 : Int32))] []))
  have f13 : Fld Z h9 x "java/lang/String" "value" "[B" (.ref t) := F7.other W9 (Or.inr (slot_ne (t := (.array .byte)) (t' := .byte) (Or.inr (w33 hw)) (Or.inr (w31 hw)) (by decide) (by decide) (by decide)))
  exact X9.retV hret (hb hby d21_14) (by decide) (by decide) ⟨rfl, (((Keep.refl h0 [x]).wr W7 (Or.inl (List.mem_of_getElem? (i := 0) rfl))).wr W9 (Or.inl (List.mem_of_getElem? (i := 0) rfl))), Z9, F9, f13⟩
abbrev Rrm18 : Room := { frames := 2, cells := 2, slots := 5, locals := 27 }
def Qrm18 (Z : State) (c : Int32) (h0 : Heap) (v : Option Value) (h : Heap) : Prop := ∃ (a : Addr) (t : Addr) (kb : ClassId), v = some (.ref a) ∧ Keep h0 h [] ∧ Str Z h a t kb [c] ∧ h0.size ≤ a ∧ h0.size ≤ t
set_option maxRecDepth 65536 in
set_option maxHeartbeats 40000000 in
theorem rm18 (l : Launch) (Z : State) (a0 : Array Value) (hw : ∀ d ∈ tables_1, d.before a0 Z = true) (hEL : EW Z a0 consts_1) (zc : Int32) (O2 : Sta Z Z.heap "java/lang/String" "COMPACT_STRINGS" "Z" (.int zc)) (P5 : ¬ zc = 0) (c : Int32) (h0 : Heap) (O0 : Old Z Z.heap.size h0) (P0 : ¬ c < 0 ∧ ¬ (255 : Int32) < c) : Met l Z consts_1 (⟨"java/lang/String", "valueOf", "(C)Ljava/lang/String;"⟩ : MethodName) jdk_42_method_139_code 1 (some (.object "java/lang/String")) [] Rrm18 [] #[(.int c)] h0 (Qrm18 Z c h0) := by
  refine Met.start (a0 := a0) (Ls := #[.val (.int c)]) pn18 hEL O0 (fun m => by first | (simp [entryFrame, mkF, argsToLocals, Value.category]; done) | rfl) ?_
  intro p e s m below meth cc T0 vm0 X0 sf0_ hby hml hret hnm
  have hx := X0.hx
  have zz := X0.ge
  have A0 := X0.at
  show Gets p e below _ (T0.setTop (mkF m 0 #[.val (.int c)] []))
  refine X0.getS (w18 hw) Via.refl (X0.sta O2) rfl (hb hby d18_0) fun T1 X1 => ?_
  have A2 := X1.at
  show Gets p e below _ (T1.setTop (mkF m 3 #[.val (.int c)] [(.int zc)]))
  refine Gets.via (fun _ k => (XS.ifNo A2 hx rfl (hb hby d18_3) rfl (Jvm.Free.XT.i0_eq_f P5) k)) ?_
  show Gets p e below _ (T1.setTop (mkF m 6 #[.val (.int c)] []))
  refine Gets.via (fun _ k => (XS.iloadN A2 hx rfl (hb hby d18_6) rfl k)) ?_
  show Gets p e below _ (T1.setTop (mkF m 7 #[.val (.int c)] [(.int c)]))
  refine X1.callS (y := (⟨"java/lang/StringLatin1", "canEncode", "(C)Z"⟩ : MethodName)) (W := 0) (w104 hw) (w105 hw) (w106 hw) (w107 hw) (by decide) (X1.payM (sf := []) (rm19 l Z a0 hw hEL zc O2 P5 c h0 X1.old P0) sf0 (w107 hw) (w106 hw) (by decide) (by decide)) rfl (by rw [hml]; rfl) (argsL := [(.int c)]) (rest := []) (lenOf pd1 rfl) rfl rfl (by show 2 * 0 + _ ≤ _; exact Nat.le_of_eq rfl) (hb hby d18_7) (by decide) (by decide) fun T3 h3 vm3 v3 X3 C3 z3 q3 => ?_
  obtain ⟨rfl, K3⟩ := q3
  rw [K3] at X3 C3
  have A4 := X3.at
  show Gets p e below _ (T3.setTop (mkF m 10 #[.val (.int c)] [(.int (1 : Int32))]))
  refine Gets.via (fun _ k => (XS.ifNo A4 hx rfl (hb hby d18_10) rfl (Jvm.Free.XT.i0_eq_f (by decide)) k)) ?_
  show Gets p e below _ (T3.setTop (mkF m 13 #[.val (.int c)] []))
  refine X3.new (w108 hw) (w5 hw) (w6 hw) rfl (hb hby d18_13) (by decide) (by decide) fun T5 h5 a5 X5 C5 E5 g5 Z5 S5 D5 => ?_
  have z5 := E5.1
  have l5 := ltA Z5.lt
  have A6 := X5.at
  show Gets p e below _ (T5.setTop (mkF m 16 #[.val (.int c)] [(.ref a5)]))
  refine Gets.via (fun _ k => (XS.dup A6 hx rfl (hb hby d18_16) rfl rfl (XS.iloadN A6 hx rfl (hb hby d18_17) rfl k))) ?_
  show Gets p e below _ (T5.setTop (mkF m 18 #[.val (.int c)] [(.int c), (.ref a5), (.ref a5)]))
  refine X5.callS (y := (⟨"java/lang/StringLatin1", "toBytes", "(C)[B"⟩ : MethodName)) (W := 2) (w109 hw) (w110 hw) (w106 hw) (w111 hw) (by decide) (X5.payM (sf := []) (rm20 l Z a0 hw hEL zc O2 P5 c h5 X5.old ) sf0 (w111 hw) (w106 hw) (by decide) (by decide)) rfl (by rw [hml]; rfl) (argsL := [(.int c)]) (rest := [(.ref a5), (.ref a5)]) (lenOf pd2 rfl) rfl rfl (by show 2 * 0 + _ ≤ _; exact Nat.le_of_eq rfl) (hb hby d18_18) (by decide) (by decide) fun T7 h7 vm7 v7 X7 C7 z7 q7 => ?_
  obtain ⟨t7, kb7, rfl, K7, g7_0, g7_1⟩ := q7
  have l8 := ltA g7_0.lt
  have A9 := X7.at
  show Gets p e below _ (T7.setTop (mkF m 21 #[.val (.int c)] [(.ref t7), (.ref a5), (.ref a5)]))
  refine Gets.via (fun _ k => (XS.iconst A9 hx rfl (hb hby d18_21) k)) ?_
  show Gets p e below _ (T7.setTop (mkF m 22 #[.val (.int c)] [(.int (0 : Int32)), (.ref t7), (.ref a5), (.ref a5)]))
  have f10 : Exa Z h7 a5 "java/lang/String" := Z5.keep K7
  have f11 : Fld Z h7 a5 "java/lang/String" "coder" "B" (.int (0 : Int32)) := (D5 (Or.inr (w31 hw)) (ty := .byte) (by decide) : Fld Z h5 a5 "java/lang/String" "coder" "B" (.int (0 : Int32))).keep K7 nin0
  have f12 : Fld Z h7 a5 "java/lang/String" "value" "[B" .null := (D5 (Or.inr (w33 hw)) (ty := (.array .byte)) (by decide) : Fld Z h5 a5 "java/lang/String" "value" "[B" .null).keep K7 nin0
  have f13 := C7.safe (x := a5) (ltA (by omega)) S5
  refine X7.callI (y := (⟨"java/lang/String", "<init>", "([BB)V"⟩ : MethodName)) (W := 1) rfl (w112 hw) (w113 hw) (w114 hw) (by decide) (X7.payM (sf := [a5]) (rm21 l Z a0 hw hEL zc O2 P5 a5 t7 h7 X7.old f10 f11 f12 (leA (by omega))) (sfS f13 sf0) (w114 hw) (w6 hw) (by decide) (by decide)) rfl (by rw [hml]; rfl) (a := a5) (argsL := [(.ref t7), (.int (0 : Int32))]) (rest := [(.ref a5)]) (lenOf pd3 rfl) rfl rfl (by show 2 * 0 + _ ≤ _; exact Nat.le_of_eq rfl) (hb hby d18_22) (by decide) (by decide) fun T14 h14 vm14 v14 X14 C14 z14 q14 => ?_
  obtain ⟨rfl, K14, g14_0, g14_1, g14_2⟩ := q14
  have l15 := ltA g14_0.lt
  have l16 := ltA g14_1.lt
  have l17 := ltA g14_2.lt
  have A18 := X14.at
  show Gets p e below _ (T14.setTop (mkF m 25 #[.val (.int c)] [(.ref a5)]))
  have f19 : Arv Z h14 t7 kb7 .byte (1 : Int32) [(.int (c.toInt8.toInt32))] (.int (0 : Int32)) := g7_0.keep K14 (ninS (neA (by omega)) nin0)
  have f20 : Str Z h14 a5 t7 kb7 [c] := ⟨g14_0, g14_1, g14_2, f19, (allI P0 allN), Nat.le_of_ble_eq_true rfl⟩
  exact X14.retA hret rfl rfl rfl (hb hby d18_25) (by decide) (by decide) ⟨a5, t7, kb7, rfl, ((((Keep.refl h0 []).ext E5).trans K7 all0).trans K14 (allS (Or.inr (leA (by omega))) all0)), f20, (leA (by omega)), (leA (by omega))⟩
abbrev Rrm0 : Room := { frames := 4, cells := 6, slots := 14, locals := 66 }
def Qrm0 (Z : State) (n : Int32) (c : Int32) (h0 : Heap) (v : Option Value) (h : Heap) : Prop := ∃ (a : Addr), v = some (.ref a) ∧ Keep h0 h [] ∧ Exa Z h a "java/lang/String" ∧ h0.size ≤ a
set_option maxRecDepth 65536 in
set_option maxHeartbeats 40000000 in
theorem rm0 (l : Launch) (Z : State) (a0 : Array Value) (hw : ∀ d ∈ tables_1, d.before a0 Z = true) (hEL : EW Z a0 consts_1) (zc : Int32) (O2 : Sta Z Z.heap "java/lang/String" "COMPACT_STRINGS" "Z" (.int zc)) (P5 : ¬ zc = 0) (n : Int32) (c : Int32) (h0 : Heap) (O0 : Old Z Z.heap.size h0)  : Met l Z consts_1 (⟨"org/holdfast/model/IdentifierOfPinLaw", "mk", "(II)Ljava/lang/String;"⟩ : MethodName) method_2_code 5 (some (.object "java/lang/String")) [] Rrm0 [] #[(.int n), (.int c)] h0 (Qrm0 Z n c h0) := by
  refine Met.start (a0 := a0) (Ls := #[.val (.int n), .val (.int c), .unset, .unset, .unset]) pn0 hEL O0 (fun m => by first | (simp [entryFrame, mkF, argsToLocals, Value.category]; done) | rfl) ?_
  intro p e s m below meth cc T0 vm0 X0 sf0_ hby hml hret hnm
  have hx := X0.hx
  have zz := X0.ge
  have A0 := X0.at
  show Gets p e below _ (T0.setTop (mkF m 0 #[.val (.int n), .val (.int c), .unset, .unset, .unset] []))
  refine Gets.via (fun _ k => (XS.iloadN A0 hx rfl (hb hby d0_0) rfl (XS.sipush A0 hx rfl (hb hby d0_1) (XS.iand A0 hx rfl (hb hby d0_4) rfl (i2cV A0 hx rfl (hb hby d0_5) rfl (v := (c &&& (255 : Int32))) (i2c_m255 _) (XS.istoreN A0 hx rfl (hb hby d0_6) rfl (l' := #[.val (.int n), .val (.int c), .val (.int (c &&& (255 : Int32))), .unset, .unset]) rfl (XS.iloadN A0 hx rfl (hb hby d0_7) rfl k))))))) ?_
  show Gets p e below _ (T0.setTop (mkF m 8 #[.val (.int n), .val (.int c), .val (.int (c &&& (255 : Int32))), .unset, .unset] [(.int c)]))
  refine Gets.via (fun _ k => (XS.bipush A0 hx rfl (hb hby d0_8) (XS.iushr A0 hx rfl (hb hby d0_10) rfl (XS.sipush A0 hx rfl (hb hby d0_11) (XS.iand A0 hx rfl (hb hby d0_14) rfl (i2cV A0 hx rfl (hb hby d0_15) rfl (v := ((Jvm.Free.XT.ushr c (8 : Int32)) &&& (255 : Int32))) (i2c_m255 _) (XS.istoreN A0 hx rfl (hb hby d0_16) rfl (l' := #[.val (.int n), .val (.int c), .val (.int (c &&& (255 : Int32))), .val (.int ((Jvm.Free.XT.ushr c (8 : Int32)) &&& (255 : Int32))), .unset]) rfl k))))))) ?_
  show Gets p e below _ (T0.setTop (mkF m 17 #[.val (.int n), .val (.int c), .val (.int (c &&& (255 : Int32))), .val (.int ((Jvm.Free.XT.ushr c (8 : Int32)) &&& (255 : Int32))), .unset] []))
  refine Gets.via (fun _ k => (XS.iloadN A0 hx rfl (hb hby d0_17) rfl (XS.bipush A0 hx rfl (hb hby d0_18) (XS.iushr A0 hx rfl (hb hby d0_20) rfl (XS.sipush A0 hx rfl (hb hby d0_21) (XS.iand A0 hx rfl (hb hby d0_24) rfl (i2cV A0 hx rfl (hb hby d0_25) rfl (v := ((Jvm.Free.XT.ushr c (16 : Int32)) &&& (255 : Int32))) (i2c_m255 _) k))))))) ?_
  show Gets p e below _ (T0.setTop (mkF m 26 #[.val (.int n), .val (.int c), .val (.int (c &&& (255 : Int32))), .val (.int ((Jvm.Free.XT.ushr c (8 : Int32)) &&& (255 : Int32))), .unset] [(.int ((Jvm.Free.XT.ushr c (16 : Int32)) &&& (255 : Int32)))]))
  refine Gets.via (fun _ k => (XS.istore A0 hx rfl (hb hby d0_26) rfl (l' := #[.val (.int n), .val (.int c), .val (.int (c &&& (255 : Int32))), .val (.int ((Jvm.Free.XT.ushr c (8 : Int32)) &&& (255 : Int32))), .val (.int ((Jvm.Free.XT.ushr c (16 : Int32)) &&& (255 : Int32)))]) rfl (XS.iloadN A0 hx rfl (hb hby d0_28) rfl k))) ?_
  show Gets p e below _ (T0.setTop (mkF m 29 #[.val (.int n), .val (.int c), .val (.int (c &&& (255 : Int32))), .val (.int ((Jvm.Free.XT.ushr c (8 : Int32)) &&& (255 : Int32))), .val (.int ((Jvm.Free.XT.ushr c (16 : Int32)) &&& (255 : Int32)))] [(.int n)]))
  by_cases b29 : n = (0 : Int32)
  · refine Gets.via (fun _ k => (XS.ifNo A0 hx rfl (hb hby d0_29) rfl (Jvm.Free.XT.i0_ne_f b29) k)) ?_
    show Gets p e below _ (T0.setTop (mkF m 32 #[.val (.int n), .val (.int c), .val (.int (c &&& (255 : Int32))), .val (.int ((Jvm.Free.XT.ushr c (8 : Int32)) &&& (255 : Int32))), .val (.int ((Jvm.Free.XT.ushr c (16 : Int32)) &&& (255 : Int32)))] []))
    refine X0.new (w4 hw) (w5 hw) (w6 hw) rfl (hb hby d0_32) (by decide) (by decide) fun T1 h1 a1 X1 C1 E1 g1 Z1 S1 D1 => ?_
    have z1 := E1.1
    have l1 := ltA Z1.lt
    have A2 := X1.at
    show Gets p e below _ (T1.setTop (mkF m 35 #[.val (.int n), .val (.int c), .val (.int (c &&& (255 : Int32))), .val (.int ((Jvm.Free.XT.ushr c (8 : Int32)) &&& (255 : Int32))), .val (.int ((Jvm.Free.XT.ushr c (16 : Int32)) &&& (255 : Int32)))] [(.ref a1)]))
    refine Gets.via (fun _ k => (XS.dup A2 hx rfl (hb hby d0_35) rfl rfl (XS.iconst A2 hx rfl (hb hby d0_36) k))) ?_
    show Gets p e below _ (T1.setTop (mkF m 37 #[.val (.int n), .val (.int c), .val (.int (c &&& (255 : Int32))), .val (.int ((Jvm.Free.XT.ushr c (8 : Int32)) &&& (255 : Int32))), .val (.int ((Jvm.Free.XT.ushr c (16 : Int32)) &&& (255 : Int32)))] [(.int (0 : Int32)), (.ref a1), (.ref a1)]))
    refine X1.newA (aty := .char) (w7 hw) rfl (hb hby d0_37) rfl (by decide) (cap := 0) (by decide) (by decide) (by decide) (by decide) fun T3 h3 a3 k3 X3 C3 E3 g3 S3 V3 => ?_
    have z3 := E3.1
    have l3 := ltA V3.lt
    have V3_ : Arv Z h3 a3 k3 .char (0 : Int32) [] (.int (0 : Int32)) := padN V3 0
    have A4 := X3.at
    show Gets p e below _ (T3.setTop (mkF m 39 #[.val (.int n), .val (.int c), .val (.int (c &&& (255 : Int32))), .val (.int ((Jvm.Free.XT.ushr c (8 : Int32)) &&& (255 : Int32))), .val (.int ((Jvm.Free.XT.ushr c (16 : Int32)) &&& (255 : Int32)))] [(.ref a3), (.ref a1), (.ref a1)]))
    have f5 : Exa Z h3 a1 "java/lang/String" := Z1.ext E3
    have f6 : Fld Z h3 a1 "java/lang/String" "coder" "B" (.int (0 : Int32)) := (D1 (Or.inr (w31 hw)) (ty := .byte) (by decide) : Fld Z h1 a1 "java/lang/String" "coder" "B" (.int (0 : Int32))).ext E3
    have f7 : Fld Z h3 a1 "java/lang/String" "value" "[B" .null := (D1 (Or.inr (w33 hw)) (ty := (.array .byte)) (by decide) : Fld Z h1 a1 "java/lang/String" "value" "[B" .null).ext E3
    have f8 := C3.safe (x := a1) (ltA (by omega)) S1
    refine X3.callI (y := (⟨"java/lang/String", "<init>", "([C)V"⟩ : MethodName)) (W := 1) rfl (w8 hw) (w9 hw) (w10 hw) (by decide) (X3.payM (sf := [a1]) (rmE1 l Z a0 hw hEL zc O2 P5 a1 a3 k3 h3 X3.old f5 f6 f7 (leA (by omega)) V3_) (sfS f8 sf0) (w10 hw) (w6 hw) (by decide) (by decide)) rfl (by rw [hml]; rfl) (a := a1) (argsL := [(.ref a3)]) (rest := [(.ref a1)]) (lenOf pd4 rfl) rfl rfl (by show 2 * 0 + _ ≤ _; exact Nat.le_of_eq rfl) (hb hby d0_39) (by decide) (by decide) fun T9 h9 vm9 v9 X9 C9 z9 q9 => ?_
    obtain ⟨t9, kb9, rfl, K9, g9_0⟩ := q9
    have l10 := ltA g9_0.lt
    have l11 := ltA g9_0.lb
    have A12 := X9.at
    show Gets p e below _ (T9.setTop (mkF m 42 #[.val (.int n), .val (.int c), .val (.int (c &&& (255 : Int32))), .val (.int ((Jvm.Free.XT.ushr c (8 : Int32)) &&& (255 : Int32))), .val (.int ((Jvm.Free.XT.ushr c (16 : Int32)) &&& (255 : Int32)))] [(.ref a1)]))
    have f13 : Exa Z h9 a1 "java/lang/String" := f5.keep K9
    exact X9.retA hret rfl rfl rfl (hb hby d0_42) (by decide) (by decide) ⟨a1, rfl, ((((Keep.refl h0 []).ext E1).ext E3).trans K9 (allS (Or.inr (leA (by omega))) all0)), f13, (leA (by omega))⟩
  · refine Gets.via (fun _ k => (XS.ifYes A0 hx rfl (pc0 := 29) (pc' := 43) rfl (hb hby d0_29) rfl (Jvm.Free.XT.i0_ne_t b29) (by decide) (by decide) k)) ?_
    show Gets p e below _ (T0.setTop (mkF m 43 #[.val (.int n), .val (.int c), .val (.int (c &&& (255 : Int32))), .val (.int ((Jvm.Free.XT.ushr c (8 : Int32)) &&& (255 : Int32))), .val (.int ((Jvm.Free.XT.ushr c (16 : Int32)) &&& (255 : Int32)))] []))
    refine Gets.via (fun _ k => (XS.iloadN A0 hx rfl (hb hby d0_43) rfl (XS.iconst A0 hx rfl (hb hby d0_44) k))) ?_
    show Gets p e below _ (T0.setTop (mkF m 45 #[.val (.int n), .val (.int c), .val (.int (c &&& (255 : Int32))), .val (.int ((Jvm.Free.XT.ushr c (8 : Int32)) &&& (255 : Int32))), .val (.int ((Jvm.Free.XT.ushr c (16 : Int32)) &&& (255 : Int32)))] [(.int (1 : Int32)), (.int n)]))
    by_cases b45 : n = (1 : Int32)
    · refine Gets.via (fun _ k => (XS.icmpNo A0 hx rfl (hb hby d0_45) rfl (Jvm.Free.XT.ii_ne_f b45) k)) ?_
      show Gets p e below _ (T0.setTop (mkF m 48 #[.val (.int n), .val (.int c), .val (.int (c &&& (255 : Int32))), .val (.int ((Jvm.Free.XT.ushr c (8 : Int32)) &&& (255 : Int32))), .val (.int ((Jvm.Free.XT.ushr c (16 : Int32)) &&& (255 : Int32)))] []))
      refine Gets.via (fun _ k => (XS.iloadN A0 hx rfl (hb hby d0_48) rfl k)) ?_
      show Gets p e below _ (T0.setTop (mkF m 49 #[.val (.int n), .val (.int c), .val (.int (c &&& (255 : Int32))), .val (.int ((Jvm.Free.XT.ushr c (8 : Int32)) &&& (255 : Int32))), .val (.int ((Jvm.Free.XT.ushr c (16 : Int32)) &&& (255 : Int32)))] [(.int (c &&& (255 : Int32)))]))
      refine X0.callS (y := (⟨"java/lang/String", "valueOf", "(C)Ljava/lang/String;"⟩ : MethodName)) (W := 0) (w101 hw) (w102 hw) (w6 hw) (w103 hw) (by decide) (X0.payM (sf := []) (rm18 l Z a0 hw hEL zc O2 P5 (c &&& (255 : Int32)) h0 X0.old (m255 _)) sf0 (w103 hw) (w6 hw) (by decide) (by decide)) rfl (by rw [hml]; rfl) (argsL := [(.int (c &&& (255 : Int32)))]) (rest := []) (lenOf pd5 rfl) rfl rfl (by show 2 * 0 + _ ≤ _; exact Nat.le_of_eq rfl) (hb hby d0_49) (by decide) (by decide) fun T14 h14 vm14 v14 X14 C14 z14 q14 => ?_
      obtain ⟨a14, t14, kb14, rfl, K14, g14_0, g14_1, g14_2⟩ := q14
      have l15 := ltA g14_0.lt
      have l16 := ltA g14_0.lb
      have A17 := X14.at
      show Gets p e below _ (T14.setTop (mkF m 52 #[.val (.int n), .val (.int c), .val (.int (c &&& (255 : Int32))), .val (.int ((Jvm.Free.XT.ushr c (8 : Int32)) &&& (255 : Int32))), .val (.int ((Jvm.Free.XT.ushr c (16 : Int32)) &&& (255 : Int32)))] [(.ref a14)]))
      exact X14.retA hret rfl rfl rfl (hb hby d0_52) (by decide) (by decide) ⟨a14, rfl, ((Keep.refl h0 []).trans K14 all0), g14_0.1, g14_1⟩
    · refine Gets.via (fun _ k => (XS.icmpYes A0 hx rfl (pc0 := 45) (pc' := 53) rfl (hb hby d0_45) rfl (Jvm.Free.XT.ii_ne_t b45) (by decide) (by decide) k)) ?_
      show Gets p e below _ (T0.setTop (mkF m 53 #[.val (.int n), .val (.int c), .val (.int (c &&& (255 : Int32))), .val (.int ((Jvm.Free.XT.ushr c (8 : Int32)) &&& (255 : Int32))), .val (.int ((Jvm.Free.XT.ushr c (16 : Int32)) &&& (255 : Int32)))] []))
      refine Gets.via (fun _ k => (XS.iloadN A0 hx rfl (hb hby d0_53) rfl (XS.iconst A0 hx rfl (hb hby d0_54) k))) ?_
      show Gets p e below _ (T0.setTop (mkF m 55 #[.val (.int n), .val (.int c), .val (.int (c &&& (255 : Int32))), .val (.int ((Jvm.Free.XT.ushr c (8 : Int32)) &&& (255 : Int32))), .val (.int ((Jvm.Free.XT.ushr c (16 : Int32)) &&& (255 : Int32)))] [(.int (2 : Int32)), (.int n)]))
      by_cases b55 : n = (2 : Int32)
      · refine Gets.via (fun _ k => (XS.icmpNo A0 hx rfl (hb hby d0_55) rfl (Jvm.Free.XT.ii_ne_f b55) k)) ?_
        show Gets p e below _ (T0.setTop (mkF m 58 #[.val (.int n), .val (.int c), .val (.int (c &&& (255 : Int32))), .val (.int ((Jvm.Free.XT.ushr c (8 : Int32)) &&& (255 : Int32))), .val (.int ((Jvm.Free.XT.ushr c (16 : Int32)) &&& (255 : Int32)))] []))
        refine X0.new (w4 hw) (w5 hw) (w6 hw) rfl (hb hby d0_58) (by decide) (by decide) fun T18 h18 a18 X18 C18 E18 g18 Z18 S18 D18 => ?_
        have z18 := E18.1
        have l18 := ltA Z18.lt
        have A19 := X18.at
        show Gets p e below _ (T18.setTop (mkF m 61 #[.val (.int n), .val (.int c), .val (.int (c &&& (255 : Int32))), .val (.int ((Jvm.Free.XT.ushr c (8 : Int32)) &&& (255 : Int32))), .val (.int ((Jvm.Free.XT.ushr c (16 : Int32)) &&& (255 : Int32)))] [(.ref a18)]))
        refine Gets.via (fun _ k => (XS.dup A19 hx rfl (hb hby d0_61) rfl rfl (XS.iconst A19 hx rfl (hb hby d0_62) k))) ?_
        show Gets p e below _ (T18.setTop (mkF m 63 #[.val (.int n), .val (.int c), .val (.int (c &&& (255 : Int32))), .val (.int ((Jvm.Free.XT.ushr c (8 : Int32)) &&& (255 : Int32))), .val (.int ((Jvm.Free.XT.ushr c (16 : Int32)) &&& (255 : Int32)))] [(.int (2 : Int32)), (.ref a18), (.ref a18)]))
        refine X18.newA (aty := .char) (w7 hw) rfl (hb hby d0_63) rfl (by decide) (cap := 2) (by decide) (by decide) (by decide) (by decide) fun T20 h20 a20 k20 X20 C20 E20 g20 S20 V20 => ?_
        have z20 := E20.1
        have l20 := ltA V20.lt
        have V20_ : Arv Z h20 a20 k20 .char (2 : Int32) [(.int (0 : Int32)), (.int (0 : Int32))] (.int (0 : Int32)) := padN V20 2
        have A21 := X20.at
        show Gets p e below _ (T20.setTop (mkF m 65 #[.val (.int n), .val (.int c), .val (.int (c &&& (255 : Int32))), .val (.int ((Jvm.Free.XT.ushr c (8 : Int32)) &&& (255 : Int32))), .val (.int ((Jvm.Free.XT.ushr c (16 : Int32)) &&& (255 : Int32)))] [(.ref a20), (.ref a18), (.ref a18)]))
        refine Gets.via (fun _ k => (XS.dup A21 hx rfl (hb hby d0_65) rfl rfl (XS.iconst A21 hx rfl (hb hby d0_66) (XS.iloadN A21 hx rfl (hb hby d0_67) rfl k)))) ?_
        show Gets p e below _ (T20.setTop (mkF m 68 #[.val (.int n), .val (.int c), .val (.int (c &&& (255 : Int32))), .val (.int ((Jvm.Free.XT.ushr c (8 : Int32)) &&& (255 : Int32))), .val (.int ((Jvm.Free.XT.ushr c (16 : Int32)) &&& (255 : Int32)))] [(.int (c &&& (255 : Int32))), (.int (0 : Int32)), (.ref a20), (.ref a20), (.ref a18), (.ref a18)]))
        refine X20.stC V20_ (i := 0) (by decide) (by decide) (Nat.le_of_ble_eq_true rfl) (by decide) (v := (c &&& (255 : Int32))) (i2c_m255 _) (leA (by omega)) rfl rfl (hb hby d0_68) fun T22 h22 X22 C22 K22 V22 => ?_
        have z22 := K22.1
        have V22_ : Arv Z h22 a20 k20 .char (2 : Int32) [(.int (c &&& (255 : Int32))), (.int (0 : Int32))] (.int (0 : Int32)) := V22
        have A23 := X22.at
        show Gets p e below _ (T22.setTop (mkF m 69 #[.val (.int n), .val (.int c), .val (.int (c &&& (255 : Int32))), .val (.int ((Jvm.Free.XT.ushr c (8 : Int32)) &&& (255 : Int32))), .val (.int ((Jvm.Free.XT.ushr c (16 : Int32)) &&& (255 : Int32)))] [(.ref a20), (.ref a18), (.ref a18)]))
        refine Gets.via (fun _ k => (XS.dup A23 hx rfl (hb hby d0_69) rfl rfl (XS.iconst A23 hx rfl (hb hby d0_70) (XS.iloadN A23 hx rfl (hb hby d0_71) rfl k)))) ?_
        show Gets p e below _ (T22.setTop (mkF m 72 #[.val (.int n), .val (.int c), .val (.int (c &&& (255 : Int32))), .val (.int ((Jvm.Free.XT.ushr c (8 : Int32)) &&& (255 : Int32))), .val (.int ((Jvm.Free.XT.ushr c (16 : Int32)) &&& (255 : Int32)))] [(.int ((Jvm.Free.XT.ushr c (8 : Int32)) &&& (255 : Int32))), (.int (1 : Int32)), (.ref a20), (.ref a20), (.ref a18), (.ref a18)]))
        refine X22.stC V22_ (i := 1) (by decide) (by decide) (Nat.le_of_ble_eq_true rfl) (by decide) (v := ((Jvm.Free.XT.ushr c (8 : Int32)) &&& (255 : Int32))) (i2c_m255 _) (leA (by omega)) rfl rfl (hb hby d0_72) fun T24 h24 X24 C24 K24 V24 => ?_
        have z24 := K24.1
        have V24_ : Arv Z h24 a20 k20 .char (2 : Int32) [(.int (c &&& (255 : Int32))), (.int ((Jvm.Free.XT.ushr c (8 : Int32)) &&& (255 : Int32)))] (.int (0 : Int32)) := V24
        have A25 := X24.at
        show Gets p e below _ (T24.setTop (mkF m 73 #[.val (.int n), .val (.int c), .val (.int (c &&& (255 : Int32))), .val (.int ((Jvm.Free.XT.ushr c (8 : Int32)) &&& (255 : Int32))), .val (.int ((Jvm.Free.XT.ushr c (16 : Int32)) &&& (255 : Int32)))] [(.ref a20), (.ref a18), (.ref a18)]))
        have f26 : Exa Z h20 a18 "java/lang/String" := Z18.ext E20
        have f27 : Exa Z h22 a18 "java/lang/String" := f26.keep K22
        have f28 : Exa Z h24 a18 "java/lang/String" := f27.keep K24
        have f29 : Fld Z h20 a18 "java/lang/String" "value" "[B" .null := (D18 (Or.inr (w33 hw)) (ty := (.array .byte)) (by decide) : Fld Z h18 a18 "java/lang/String" "value" "[B" .null).ext E20
        have f30 : Fld Z h22 a18 "java/lang/String" "value" "[B" .null := f29.keep K22 (ninS (neA (by omega)) nin0)
        have f31 : Fld Z h24 a18 "java/lang/String" "value" "[B" .null := f30.keep K24 (ninS (neA (by omega)) nin0)
        have f32 : Fld Z h20 a18 "java/lang/String" "coder" "B" (.int (0 : Int32)) := (D18 (Or.inr (w31 hw)) (ty := .byte) (by decide) : Fld Z h18 a18 "java/lang/String" "coder" "B" (.int (0 : Int32))).ext E20
        have f33 : Fld Z h22 a18 "java/lang/String" "coder" "B" (.int (0 : Int32)) := f32.keep K22 (ninS (neA (by omega)) nin0)
        have f34 : Fld Z h24 a18 "java/lang/String" "coder" "B" (.int (0 : Int32)) := f33.keep K24 (ninS (neA (by omega)) nin0)
        have f35 := C20.safe (x := a18) (ltA (by omega)) S18
        have f36 := C22.safe (x := a18) (ltA (by omega)) f35
        have f37 := C24.safe (x := a18) (ltA (by omega)) f36
        refine X24.callI (y := (⟨"java/lang/String", "<init>", "([C)V"⟩ : MethodName)) (W := 1) rfl (w8 hw) (w9 hw) (w10 hw) (by decide) (payStr X24 hw (w5 hw) [(c &&& (255 : Int32)), ((Jvm.Free.XT.ushr c (8 : Int32)) &&& (255 : Int32))] 2 (leA (by omega)) f28 f31 f34 V24_ O2 P5 rfl rfl (by decide) (by decide) (allI (m255 _) (allI (m255 _) allN)) (by decide) (by decide) f37) rfl (by rw [hml]; rfl) (a := a18) (argsL := [(.ref a20)]) (rest := [(.ref a18)]) (lenOf pd4 rfl) rfl rfl (by show 2 * 0 + _ ≤ _; exact Nat.le_of_eq rfl) (hb hby d0_73) (by decide) (by decide) fun T38 h38 vm38 v38 X38 C38 z38 q38 => ?_
        obtain ⟨t38, kb38, rfl, K38, g38_0, g38_1, g38_2, g38_3, g38_4⟩ := q38
        have g38_5 : Str Z h38 a18 t38 kb38 [(c &&& (255 : Int32)), ((Jvm.Free.XT.ushr c (8 : Int32)) &&& (255 : Int32))] := ⟨g38_0, g38_1, g38_2, g38_3, (allI (m255 _) (allI (m255 _) allN)), Nat.le_of_ble_eq_true rfl⟩
        have l39 := ltA g38_5.lt
        have l40 := ltA g38_5.lb
        have A41 := X38.at
        show Gets p e below _ (T38.setTop (mkF m 76 #[.val (.int n), .val (.int c), .val (.int (c &&& (255 : Int32))), .val (.int ((Jvm.Free.XT.ushr c (8 : Int32)) &&& (255 : Int32))), .val (.int ((Jvm.Free.XT.ushr c (16 : Int32)) &&& (255 : Int32)))] [(.ref a18)]))
        have f42 : Exa Z h38 a18 "java/lang/String" := f28.keep K38
        exact X38.retA hret rfl rfl rfl (hb hby d0_76) (by decide) (by decide) ⟨a18, rfl, ((((((Keep.refl h0 []).ext E18).ext E20).trans K22 (allS (Or.inr (leA (by omega))) all0)).trans K24 (allS (Or.inr (leA (by omega))) all0)).trans K38 (allS (Or.inr (leA (by omega))) all0)), f42, (leA (by omega))⟩
      · refine Gets.via (fun _ k => (XS.icmpYes A0 hx rfl (pc0 := 55) (pc' := 77) rfl (hb hby d0_55) rfl (Jvm.Free.XT.ii_ne_t b55) (by decide) (by decide) k)) ?_
        show Gets p e below _ (T0.setTop (mkF m 77 #[.val (.int n), .val (.int c), .val (.int (c &&& (255 : Int32))), .val (.int ((Jvm.Free.XT.ushr c (8 : Int32)) &&& (255 : Int32))), .val (.int ((Jvm.Free.XT.ushr c (16 : Int32)) &&& (255 : Int32)))] []))
        refine X0.new (w4 hw) (w5 hw) (w6 hw) rfl (hb hby d0_77) (by decide) (by decide) fun T43 h43 a43 X43 C43 E43 g43 Z43 S43 D43 => ?_
        have z43 := E43.1
        have l43 := ltA Z43.lt
        have A44 := X43.at
        show Gets p e below _ (T43.setTop (mkF m 80 #[.val (.int n), .val (.int c), .val (.int (c &&& (255 : Int32))), .val (.int ((Jvm.Free.XT.ushr c (8 : Int32)) &&& (255 : Int32))), .val (.int ((Jvm.Free.XT.ushr c (16 : Int32)) &&& (255 : Int32)))] [(.ref a43)]))
        refine Gets.via (fun _ k => (XS.dup A44 hx rfl (hb hby d0_80) rfl rfl (XS.iconst A44 hx rfl (hb hby d0_81) k))) ?_
        show Gets p e below _ (T43.setTop (mkF m 82 #[.val (.int n), .val (.int c), .val (.int (c &&& (255 : Int32))), .val (.int ((Jvm.Free.XT.ushr c (8 : Int32)) &&& (255 : Int32))), .val (.int ((Jvm.Free.XT.ushr c (16 : Int32)) &&& (255 : Int32)))] [(.int (3 : Int32)), (.ref a43), (.ref a43)]))
        refine X43.newA (aty := .char) (w7 hw) rfl (hb hby d0_82) rfl (by decide) (cap := 3) (by decide) (by decide) (by decide) (by decide) fun T45 h45 a45 k45 X45 C45 E45 g45 S45 V45 => ?_
        have z45 := E45.1
        have l45 := ltA V45.lt
        have V45_ : Arv Z h45 a45 k45 .char (3 : Int32) [(.int (0 : Int32)), (.int (0 : Int32)), (.int (0 : Int32))] (.int (0 : Int32)) := padN V45 3
        have A46 := X45.at
        show Gets p e below _ (T45.setTop (mkF m 84 #[.val (.int n), .val (.int c), .val (.int (c &&& (255 : Int32))), .val (.int ((Jvm.Free.XT.ushr c (8 : Int32)) &&& (255 : Int32))), .val (.int ((Jvm.Free.XT.ushr c (16 : Int32)) &&& (255 : Int32)))] [(.ref a45), (.ref a43), (.ref a43)]))
        refine Gets.via (fun _ k => (XS.dup A46 hx rfl (hb hby d0_84) rfl rfl (XS.iconst A46 hx rfl (hb hby d0_85) (XS.iloadN A46 hx rfl (hb hby d0_86) rfl k)))) ?_
        show Gets p e below _ (T45.setTop (mkF m 87 #[.val (.int n), .val (.int c), .val (.int (c &&& (255 : Int32))), .val (.int ((Jvm.Free.XT.ushr c (8 : Int32)) &&& (255 : Int32))), .val (.int ((Jvm.Free.XT.ushr c (16 : Int32)) &&& (255 : Int32)))] [(.int (c &&& (255 : Int32))), (.int (0 : Int32)), (.ref a45), (.ref a45), (.ref a43), (.ref a43)]))
        refine X45.stC V45_ (i := 0) (by decide) (by decide) (Nat.le_of_ble_eq_true rfl) (by decide) (v := (c &&& (255 : Int32))) (i2c_m255 _) (leA (by omega)) rfl rfl (hb hby d0_87) fun T47 h47 X47 C47 K47 V47 => ?_
        have z47 := K47.1
        have V47_ : Arv Z h47 a45 k45 .char (3 : Int32) [(.int (c &&& (255 : Int32))), (.int (0 : Int32)), (.int (0 : Int32))] (.int (0 : Int32)) := V47
        have A48 := X47.at
        show Gets p e below _ (T47.setTop (mkF m 88 #[.val (.int n), .val (.int c), .val (.int (c &&& (255 : Int32))), .val (.int ((Jvm.Free.XT.ushr c (8 : Int32)) &&& (255 : Int32))), .val (.int ((Jvm.Free.XT.ushr c (16 : Int32)) &&& (255 : Int32)))] [(.ref a45), (.ref a43), (.ref a43)]))
        refine Gets.via (fun _ k => (XS.dup A48 hx rfl (hb hby d0_88) rfl rfl (XS.iconst A48 hx rfl (hb hby d0_89) (XS.iloadN A48 hx rfl (hb hby d0_90) rfl k)))) ?_
        show Gets p e below _ (T47.setTop (mkF m 91 #[.val (.int n), .val (.int c), .val (.int (c &&& (255 : Int32))), .val (.int ((Jvm.Free.XT.ushr c (8 : Int32)) &&& (255 : Int32))), .val (.int ((Jvm.Free.XT.ushr c (16 : Int32)) &&& (255 : Int32)))] [(.int ((Jvm.Free.XT.ushr c (8 : Int32)) &&& (255 : Int32))), (.int (1 : Int32)), (.ref a45), (.ref a45), (.ref a43), (.ref a43)]))
        refine X47.stC V47_ (i := 1) (by decide) (by decide) (Nat.le_of_ble_eq_true rfl) (by decide) (v := ((Jvm.Free.XT.ushr c (8 : Int32)) &&& (255 : Int32))) (i2c_m255 _) (leA (by omega)) rfl rfl (hb hby d0_91) fun T49 h49 X49 C49 K49 V49 => ?_
        have z49 := K49.1
        have V49_ : Arv Z h49 a45 k45 .char (3 : Int32) [(.int (c &&& (255 : Int32))), (.int ((Jvm.Free.XT.ushr c (8 : Int32)) &&& (255 : Int32))), (.int (0 : Int32))] (.int (0 : Int32)) := V49
        have A50 := X49.at
        show Gets p e below _ (T49.setTop (mkF m 92 #[.val (.int n), .val (.int c), .val (.int (c &&& (255 : Int32))), .val (.int ((Jvm.Free.XT.ushr c (8 : Int32)) &&& (255 : Int32))), .val (.int ((Jvm.Free.XT.ushr c (16 : Int32)) &&& (255 : Int32)))] [(.ref a45), (.ref a43), (.ref a43)]))
        refine Gets.via (fun _ k => (XS.dup A50 hx rfl (hb hby d0_92) rfl rfl (XS.iconst A50 hx rfl (hb hby d0_93) (XS.iload A50 hx rfl (hb hby d0_94) rfl k)))) ?_
        show Gets p e below _ (T49.setTop (mkF m 96 #[.val (.int n), .val (.int c), .val (.int (c &&& (255 : Int32))), .val (.int ((Jvm.Free.XT.ushr c (8 : Int32)) &&& (255 : Int32))), .val (.int ((Jvm.Free.XT.ushr c (16 : Int32)) &&& (255 : Int32)))] [(.int ((Jvm.Free.XT.ushr c (16 : Int32)) &&& (255 : Int32))), (.int (2 : Int32)), (.ref a45), (.ref a45), (.ref a43), (.ref a43)]))
        refine X49.stC V49_ (i := 2) (by decide) (by decide) (Nat.le_of_ble_eq_true rfl) (by decide) (v := ((Jvm.Free.XT.ushr c (16 : Int32)) &&& (255 : Int32))) (i2c_m255 _) (leA (by omega)) rfl rfl (hb hby d0_96) fun T51 h51 X51 C51 K51 V51 => ?_
        have z51 := K51.1
        have V51_ : Arv Z h51 a45 k45 .char (3 : Int32) [(.int (c &&& (255 : Int32))), (.int ((Jvm.Free.XT.ushr c (8 : Int32)) &&& (255 : Int32))), (.int ((Jvm.Free.XT.ushr c (16 : Int32)) &&& (255 : Int32)))] (.int (0 : Int32)) := V51
        have A52 := X51.at
        show Gets p e below _ (T51.setTop (mkF m 97 #[.val (.int n), .val (.int c), .val (.int (c &&& (255 : Int32))), .val (.int ((Jvm.Free.XT.ushr c (8 : Int32)) &&& (255 : Int32))), .val (.int ((Jvm.Free.XT.ushr c (16 : Int32)) &&& (255 : Int32)))] [(.ref a45), (.ref a43), (.ref a43)]))
        have f53 : Exa Z h45 a43 "java/lang/String" := Z43.ext E45
        have f54 : Exa Z h47 a43 "java/lang/String" := f53.keep K47
        have f55 : Exa Z h49 a43 "java/lang/String" := f54.keep K49
        have f56 : Exa Z h51 a43 "java/lang/String" := f55.keep K51
        have f57 : Fld Z h45 a43 "java/lang/String" "value" "[B" .null := (D43 (Or.inr (w33 hw)) (ty := (.array .byte)) (by decide) : Fld Z h43 a43 "java/lang/String" "value" "[B" .null).ext E45
        have f58 : Fld Z h47 a43 "java/lang/String" "value" "[B" .null := f57.keep K47 (ninS (neA (by omega)) nin0)
        have f59 : Fld Z h49 a43 "java/lang/String" "value" "[B" .null := f58.keep K49 (ninS (neA (by omega)) nin0)
        have f60 : Fld Z h51 a43 "java/lang/String" "value" "[B" .null := f59.keep K51 (ninS (neA (by omega)) nin0)
        have f61 : Fld Z h45 a43 "java/lang/String" "coder" "B" (.int (0 : Int32)) := (D43 (Or.inr (w31 hw)) (ty := .byte) (by decide) : Fld Z h43 a43 "java/lang/String" "coder" "B" (.int (0 : Int32))).ext E45
        have f62 : Fld Z h47 a43 "java/lang/String" "coder" "B" (.int (0 : Int32)) := f61.keep K47 (ninS (neA (by omega)) nin0)
        have f63 : Fld Z h49 a43 "java/lang/String" "coder" "B" (.int (0 : Int32)) := f62.keep K49 (ninS (neA (by omega)) nin0)
        have f64 : Fld Z h51 a43 "java/lang/String" "coder" "B" (.int (0 : Int32)) := f63.keep K51 (ninS (neA (by omega)) nin0)
        have f65 := C45.safe (x := a43) (ltA (by omega)) S43
        have f66 := C47.safe (x := a43) (ltA (by omega)) f65
        have f67 := C49.safe (x := a43) (ltA (by omega)) f66
        have f68 := C51.safe (x := a43) (ltA (by omega)) f67
        refine X51.callI (y := (⟨"java/lang/String", "<init>", "([C)V"⟩ : MethodName)) (W := 1) rfl (w8 hw) (w9 hw) (w10 hw) (by decide) (payStr X51 hw (w5 hw) [(c &&& (255 : Int32)), ((Jvm.Free.XT.ushr c (8 : Int32)) &&& (255 : Int32)), ((Jvm.Free.XT.ushr c (16 : Int32)) &&& (255 : Int32))] 3 (leA (by omega)) f56 f60 f64 V51_ O2 P5 rfl rfl (by decide) (by decide) (allI (m255 _) (allI (m255 _) (allI (m255 _) allN))) (by decide) (by decide) f68) rfl (by rw [hml]; rfl) (a := a43) (argsL := [(.ref a45)]) (rest := [(.ref a43)]) (lenOf pd4 rfl) rfl rfl (by show 2 * 0 + _ ≤ _; exact Nat.le_of_eq rfl) (hb hby d0_97) (by decide) (by decide) fun T69 h69 vm69 v69 X69 C69 z69 q69 => ?_
        obtain ⟨t69, kb69, rfl, K69, g69_0, g69_1, g69_2, g69_3, g69_4⟩ := q69
        have g69_5 : Str Z h69 a43 t69 kb69 [(c &&& (255 : Int32)), ((Jvm.Free.XT.ushr c (8 : Int32)) &&& (255 : Int32)), ((Jvm.Free.XT.ushr c (16 : Int32)) &&& (255 : Int32))] := ⟨g69_0, g69_1, g69_2, g69_3, (allI (m255 _) (allI (m255 _) (allI (m255 _) allN))), Nat.le_of_ble_eq_true rfl⟩
        have l70 := ltA g69_5.lt
        have l71 := ltA g69_5.lb
        have A72 := X69.at
        show Gets p e below _ (T69.setTop (mkF m 100 #[.val (.int n), .val (.int c), .val (.int (c &&& (255 : Int32))), .val (.int ((Jvm.Free.XT.ushr c (8 : Int32)) &&& (255 : Int32))), .val (.int ((Jvm.Free.XT.ushr c (16 : Int32)) &&& (255 : Int32)))] [(.ref a43)]))
        have f73 : Exa Z h69 a43 "java/lang/String" := f56.keep K69
        exact X69.retA hret rfl rfl rfl (hb hby d0_100) (by decide) (by decide) ⟨a43, rfl, (((((((Keep.refl h0 []).ext E43).ext E45).trans K47 (allS (Or.inr (leA (by omega))) all0)).trans K49 (allS (Or.inr (leA (by omega))) all0)).trans K51 (allS (Or.inr (leA (by omega))) all0)).trans K69 (allS (Or.inr (leA (by omega))) all0)), f73, (leA (by omega))⟩
abbrev Rrm10 : Room := { frames := 1, cells := 0, slots := 0, locals := 12 }
def Qrm10 (Z : State) (x : Addr) (h0 : Heap) (v : Option Value) (h : Heap) : Prop := v = none ∧ h = h0
set_option maxRecDepth 65536 in
set_option maxHeartbeats 40000000 in
theorem rm10 (l : Launch) (Z : State) (a0 : Array Value) (hw : ∀ d ∈ tables_1, d.before a0 Z = true) (hEL : EW Z a0 consts_1) (zc : Int32) (O2 : Sta Z Z.heap "java/lang/String" "COMPACT_STRINGS" "Z" (.int zc)) (P5 : ¬ zc = 0) (x : Addr) (h0 : Heap) (O0 : Old Z Z.heap.size h0)  : Met l Z consts_1 (⟨"java/lang/Record", "<init>", "()V"⟩ : MethodName) jdk_30_method_1_code 1 (none) [] Rrm10 [] #[(.ref x)] h0 (Qrm10 Z x h0) := by
  refine Met.start (a0 := a0) (Ls := #[.val (.ref x)]) pn10 hEL O0 (fun m => by first | (simp [entryFrame, mkF, argsToLocals, Value.category]; done) | rfl) ?_
  intro p e s m below meth cc T0 vm0 X0 sf0_ hby hml hret hnm
  have hx := X0.hx
  have zz := X0.ge
  have A0 := X0.at
  show Gets p e below _ (T0.setTop (mkF m 0 #[.val (.ref x)] []))
  refine Gets.via (fun _ k => (XS.aloadN A0 hx rfl (hb hby d10_0) rfl rfl k)) ?_
  show Gets p e below _ (T0.setTop (mkF m 1 #[.val (.ref x)] [(.ref x)]))
  refine X0.objInit (w57 hw) (w16 hw) (w17 hw) rfl (by rw [hml]; rfl) rfl (hb hby d10_1) (by decide) (W := 0) (by show 2 * 0 + _ ≤ _; exact Nat.le_of_eq rfl) (by decide) fun T1 X1 => ?_
  have A2 := X1.at
  show Gets p e below _ (T1.setTop (mkF m 4 #[.val (.ref x)] []))
  exact X1.retV hret (hb hby d10_4) (by decide) (by decide) ⟨rfl, rfl⟩
abbrev Rrm9 : Room := { frames := 2, cells := 0, slots := 0, locals := 24 }
def Qrm9 (Z : State) (x : Addr) (b : Addr) (h0 : Heap) (v : Option Value) (h : Heap) : Prop := v = none ∧ Keep h0 h [x] ∧ Exa Z h x "org/holdfast/model/TypeOrSource" ∧ Fld Z h x "org/holdfast/model/TypeOrSource" "pointer" "Ljava/lang/String;" .null ∧ Fld Z h x "org/holdfast/model/TypeOrSource" "text" "Ljava/lang/String;" (.ref b)
set_option maxRecDepth 65536 in
set_option maxHeartbeats 40000000 in
theorem rm9 (l : Launch) (Z : State) (a0 : Array Value) (hw : ∀ d ∈ tables_1, d.before a0 Z = true) (hEL : EW Z a0 consts_1) (zc : Int32) (O2 : Sta Z Z.heap "java/lang/String" "COMPACT_STRINGS" "Z" (.int zc)) (P5 : ¬ zc = 0) (x : Addr) (b : Addr) (h0 : Heap) (O0 : Old Z Z.heap.size h0) (P0 : Exa Z h0 x "org/holdfast/model/TypeOrSource") (P1 : Fld Z h0 x "org/holdfast/model/TypeOrSource" "pointer" "Ljava/lang/String;" .null) (P2 : Fld Z h0 x "org/holdfast/model/TypeOrSource" "text" "Ljava/lang/String;" .null) (P3 : Z.heap.size ≤ x) : Met l Z consts_1 (⟨"org/holdfast/model/TypeOrSource", "<init>", "(Ljava/lang/String;Ljava/lang/String;)V"⟩ : MethodName) prog_44_method_1_code 3 (none) [] Rrm9 [] #[(.ref x), .null, (.ref b)] h0 (Qrm9 Z x b h0) := by
  refine Met.start (a0 := a0) (Ls := #[.val (.ref x), .val .null, .val (.ref b)]) pn9 hEL O0 (fun m => by first | (simp [entryFrame, mkF, argsToLocals, Value.category]; done) | rfl) ?_
  intro p e s m below meth cc T0 vm0 X0 sf0_ hby hml hret hnm
  have hx := X0.hx
  have zz := X0.ge
  have A0 := X0.at
  have l1 := ltA P0.lt
  have l2 := ltA P1.lt
  have l3 := ltA P2.lt
  show Gets p e below _ (T0.setTop (mkF m 0 #[.val (.ref x), .val .null, .val (.ref b)] []))
  refine Gets.via (fun _ k => (XS.aloadN A0 hx rfl (hb hby d9_0) rfl rfl k)) ?_
  show Gets p e below _ (T0.setTop (mkF m 1 #[.val (.ref x), .val .null, .val (.ref b)] [(.ref x)]))
  refine X0.callI (y := (⟨"java/lang/Record", "<init>", "()V"⟩ : MethodName)) (W := 0) rfl (w52 hw) (w53 hw) (w56 hw) (by decide) (X0.payM (sf := []) (rm10 l Z a0 hw hEL zc O2 P5 x h0 X0.old ) sf0 (w56 hw) (w55 hw) (by decide) (by decide)) rfl (by rw [hml]; rfl) (a := x) (argsL := []) (rest := []) (lenOf pd6 rfl) rfl rfl (by show 2 * 0 + _ ≤ _; exact Nat.le_of_eq rfl) (hb hby d9_1) (by decide) (by decide) fun T4 h4 vm4 v4 X4 C4 z4 q4 => ?_
  obtain ⟨rfl, K4⟩ := q4
  rw [K4] at X4 C4
  have A5 := X4.at
  show Gets p e below _ (T4.setTop (mkF m 4 #[.val (.ref x), .val .null, .val (.ref b)] []))
  refine Gets.via (fun _ k => (XS.aloadN A5 hx rfl (hb hby d9_4) rfl rfl (XS.ifnonnullNo A5 hx rfl (hb hby d9_5) rfl k))) ?_
  show Gets p e below _ (T4.setTop (mkF m 8 #[.val (.ref x), .val .null, .val (.ref b)] []))
  refine Gets.via (fun _ k => (XS.iconst A5 hx rfl (hb hby d9_8) (XS.goto A5 hx rfl (pc0 := 9) (pc' := 13) rfl (hb hby d9_9) (by decide) (by decide) k))) ?_
  show Gets p e below _ (T4.setTop (mkF m 13 #[.val (.ref x), .val .null, .val (.ref b)] [(.int (1 : Int32))]))
  refine Gets.via (fun _ k => (XS.aloadN A5 hx rfl (hb hby d9_13) rfl rfl (XS.ifnonnullYes A5 hx rfl (pc0 := 14) (pc' := 21) rfl (hb hby d9_14) rfl (by decide) (by decide) k))) ?_
  show Gets p e below _ (T4.setTop (mkF m 21 #[.val (.ref x), .val .null, .val (.ref b)] [(.int (1 : Int32))]))
  refine Gets.via (fun _ k => (XS.iconst A5 hx rfl (hb hby d9_21) (XS.icmpYes A5 hx rfl (pc0 := 22) (pc' := 35) rfl (hb hby d9_22) rfl (Jvm.Free.XT.ii_ne_t (by decide)) (by decide) (by decide) k))) ?_
  show Gets p e below _ (T4.setTop (mkF m 35 #[.val (.ref x), .val .null, .val (.ref b)] []))
  refine Gets.via (fun _ k => (XS.aloadN A5 hx rfl (hb hby d9_35) rfl rfl (XS.aloadN A5 hx rfl (hb hby d9_36) rfl rfl k))) ?_
  show Gets p e below _ (T4.setTop (mkF m 37 #[.val (.ref x), .val .null, .val (.ref b)] [.null, (.ref x)]))
  refine X4.putF (host := "") (Or.inl (w58 hw)) Via.refl P1 P0 (Or.inr ⟨(w59 hw), rfl, hnm⟩) (w48 hw) (ty := (.object "java/lang/String")) (by decide) rfl rfl (leA (by omega)) (Safe.exa X4.hZ.alike P0 (by decide) (by decide)) rfl rfl (hb hby d9_37) fun T6 h6 X6 C6 W6 F6 Z6 => ?_
  have z6 := W6.size
  have A7 := X6.at
  show Gets p e below _ (T6.setTop (mkF m 40 #[.val (.ref x), .val .null, .val (.ref b)] []))
  refine Gets.via (fun _ k => (XS.aloadN A7 hx rfl (hb hby d9_40) rfl rfl (XS.aloadN A7 hx rfl (hb hby d9_41) rfl rfl k))) ?_
  show Gets p e below _ (T6.setTop (mkF m 42 #[.val (.ref x), .val .null, .val (.ref b)] [(.ref b), (.ref x)]))
  have f9 : Fld Z h6 x "org/holdfast/model/TypeOrSource" "text" "Ljava/lang/String;" .null := P2.other W6 (Or.inr (slot_ne (t := (.object "java/lang/String")) (t' := (.object "java/lang/String")) (Or.inr (w61 hw)) (Or.inr (w59 hw)) (by decide) (by decide) (by decide)))
  refine X6.putF (host := "") (Or.inl (w60 hw)) Via.refl f9 Z6 (Or.inr ⟨(w61 hw), rfl, hnm⟩) (w48 hw) (ty := (.object "java/lang/String")) (by decide) rfl rfl (leA (by omega)) (Safe.exa X6.hZ.alike Z6 (by decide) (by decide)) rfl rfl (hb hby d9_42) fun T8 h8 X8 C8 W8 F8 Z8 => ?_
  have z8 := W8.size
  have A10 := X8.at
  show Gets p e below _ (T8.setTop (mkF m 45 #[.val (.ref x), .val .null, .val (.ref b)] []))
  have f11 : Fld Z h8 x "org/holdfast/model/TypeOrSource" "pointer" "Ljava/lang/String;" .null := F6.other W8 (Or.inr (slot_ne (t := (.object "java/lang/String")) (t' := (.object "java/lang/String")) (Or.inr (w59 hw)) (Or.inr (w61 hw)) (by decide) (by decide) (by decide)))
  exact X8.retV hret (hb hby d9_45) (by decide) (by decide) ⟨rfl, (((Keep.refl h0 [x]).wr W6 (Or.inl (List.mem_of_getElem? (i := 0) rfl))).wr W8 (Or.inl (List.mem_of_getElem? (i := 0) rfl))), Z8, f11, F8⟩
abbrev Rrm8 : Room := { frames := 3, cells := 1, slots := 2, locals := 39 }
def Qrm8 (Z : State) (b : Addr) (h0 : Heap) (v : Option Value) (h : Heap) : Prop := ∃ (a : Addr), v = some (.ref a) ∧ Keep h0 h [] ∧ Exa Z h a "org/holdfast/model/TypeOrSource" ∧ Fld Z h a "org/holdfast/model/TypeOrSource" "pointer" "Ljava/lang/String;" .null ∧ Fld Z h a "org/holdfast/model/TypeOrSource" "text" "Ljava/lang/String;" (.ref b) ∧ h0.size ≤ a
set_option maxRecDepth 65536 in
set_option maxHeartbeats 40000000 in
theorem rm8 (l : Launch) (Z : State) (a0 : Array Value) (hw : ∀ d ∈ tables_1, d.before a0 Z = true) (hEL : EW Z a0 consts_1) (zc : Int32) (O2 : Sta Z Z.heap "java/lang/String" "COMPACT_STRINGS" "Z" (.int zc)) (P5 : ¬ zc = 0) (b : Addr) (h0 : Heap) (O0 : Old Z Z.heap.size h0)  : Met l Z consts_1 (⟨"org/holdfast/model/TypeOrSource", "text", "(Ljava/lang/String;)Lorg/holdfast/model/TypeOrSource;"⟩ : MethodName) prog_44_method_2_code 1 (some (.object "org/holdfast/model/TypeOrSource")) [] Rrm8 [] #[(.ref b)] h0 (Qrm8 Z b h0) := by
  refine Met.start (a0 := a0) (Ls := #[.val (.ref b)]) pn8 hEL O0 (fun m => by first | (simp [entryFrame, mkF, argsToLocals, Value.category]; done) | rfl) ?_
  intro p e s m below meth cc T0 vm0 X0 sf0_ hby hml hret hnm
  have hx := X0.hx
  have zz := X0.ge
  have A0 := X0.at
  show Gets p e below _ (T0.setTop (mkF m 0 #[.val (.ref b)] []))
  refine X0.new (w47 hw) (w48 hw) (w45 hw) rfl (hb hby d8_0) (by decide) (by decide) fun T1 h1 a1 X1 C1 E1 g1 Z1 S1 D1 => ?_
  have z1 := E1.1
  have l1 := ltA Z1.lt
  have A2 := X1.at
  show Gets p e below _ (T1.setTop (mkF m 3 #[.val (.ref b)] [(.ref a1)]))
  refine Gets.via (fun _ k => (XS.dup A2 hx rfl (hb hby d8_3) rfl rfl (XS.aconstNull A2 hx rfl (hb hby d8_4) (XS.aloadN A2 hx rfl (hb hby d8_5) rfl rfl k)))) ?_
  show Gets p e below _ (T1.setTop (mkF m 6 #[.val (.ref b)] [(.ref b), .null, (.ref a1), (.ref a1)]))
  refine X1.callI (y := (⟨"org/holdfast/model/TypeOrSource", "<init>", "(Ljava/lang/String;Ljava/lang/String;)V"⟩ : MethodName)) (W := 1) rfl (w49 hw) (w50 hw) (w51 hw) (by decide) (X1.payM (sf := []) (rm9 l Z a0 hw hEL zc O2 P5 a1 b h1 X1.old Z1 (D1 (Or.inr (w59 hw)) (ty := (.object "java/lang/String")) (by decide) : Fld Z h1 a1 "org/holdfast/model/TypeOrSource" "pointer" "Ljava/lang/String;" .null) (D1 (Or.inr (w61 hw)) (ty := (.object "java/lang/String")) (by decide) : Fld Z h1 a1 "org/holdfast/model/TypeOrSource" "text" "Ljava/lang/String;" .null) (leA (by omega))) sf0 (w51 hw) (w45 hw) (by decide) (by decide)) rfl (by rw [hml]; rfl) (a := a1) (argsL := [.null, (.ref b)]) (rest := [(.ref a1)]) (lenOf pd7 rfl) rfl rfl (by show 2 * 0 + _ ≤ _; exact Nat.le_of_eq rfl) (hb hby d8_6) (by decide) (by decide) fun T3 h3 vm3 v3 X3 C3 z3 q3 => ?_
  obtain ⟨rfl, K3, g3_0, g3_1, g3_2⟩ := q3
  have l4 := ltA g3_0.lt
  have l5 := ltA g3_1.lt
  have l6 := ltA g3_2.lt
  have A7 := X3.at
  show Gets p e below _ (T3.setTop (mkF m 9 #[.val (.ref b)] [(.ref a1)]))
  exact X3.retA hret rfl rfl rfl (hb hby d8_9) (by decide) (by decide) ⟨a1, rfl, (((Keep.refl h0 []).ext E1).trans K3 (allS (Or.inr (leA (by omega))) all0)), g3_0, g3_1, g3_2, (leA (by omega))⟩
abbrev Rrm12 : Room := { frames := 0, cells := 0, slots := 0, locals := 0 }
def Qrm12 (Z : State) (a : Addr) (b : Addr) (h0 : Heap) (v : Option Value) (h : Heap) : Prop := v = some (.ref a) ∧ h = h0
set_option maxRecDepth 65536 in
set_option maxHeartbeats 40000000 in
theorem rm12 (l : Launch) (Z : State) (a0 : Array Value) (hw : ∀ d ∈ tables_1, d.before a0 Z = true) (hEL : EW Z a0 consts_1) (zc : Int32) (O2 : Sta Z Z.heap "java/lang/String" "COMPACT_STRINGS" "Z" (.int zc)) (P5 : ¬ zc = 0) (a : Addr) (b : Addr) (h0 : Heap) (O0 : Old Z Z.heap.size h0)  : Met l Z consts_1 (⟨"java/util/Objects", "requireNonNull", "(Ljava/lang/Object;Ljava/lang/String;)Ljava/lang/Object;"⟩ : MethodName) jdk_31_method_11_code 2 (some (.object "java/lang/Object")) [] Rrm12 [] #[(.ref a), (.ref b)] h0 (Qrm12 Z a b h0) := by
  refine Met.start (a0 := a0) (Ls := #[.val (.ref a), .val (.ref b)]) pn12 hEL O0 (fun m => by first | (simp [entryFrame, mkF, argsToLocals, Value.category]; done) | rfl) ?_
  intro p e s m below meth cc T0 vm0 X0 sf0_ hby hml hret hnm
  have hx := X0.hx
  have zz := X0.ge
  have A0 := X0.at
  show Gets p e below _ (T0.setTop (mkF m 0 #[.val (.ref a), .val (.ref b)] []))
  refine Gets.via (fun _ k => (XS.aloadN A0 hx rfl (hb hby d12_0) rfl rfl (XS.ifnonnullYes A0 hx rfl (pc0 := 1) (pc' := 13) rfl (hb hby d12_1) rfl (by decide) (by decide) k))) ?_
  show Gets p e below _ (T0.setTop (mkF m 13 #[.val (.ref a), .val (.ref b)] []))
  refine Gets.via (fun _ k => (XS.aloadN A0 hx rfl (hb hby d12_13) rfl rfl k)) ?_
  show Gets p e below _ (T0.setTop (mkF m 14 #[.val (.ref a), .val (.ref b)] [(.ref a)]))
  exact X0.retA hret rfl rfl rfl (hb hby d12_14) (by decide) (by decide) ⟨rfl, rfl⟩
abbrev Rrm11 : Room := { frames := 2, cells := 4, slots := 76, locals := 24 }
def Qrm11 (Z : State) (x : Addr) (b : Addr) (t : Addr) (h0 : Heap) (v : Option Value) (h : Heap) : Prop := v = none ∧ Keep h0 h [x] ∧ Exa Z h x "org/holdfast/model/Identifier" ∧ Fld Z h x "org/holdfast/model/Identifier" "value" "Ljava/lang/String;" (.ref b) ∧ Fld Z h x "org/holdfast/model/Identifier" "typeOrSource" "Lorg/holdfast/model/TypeOrSource;" (.ref t)
set_option maxRecDepth 65536 in
set_option maxHeartbeats 40000000 in
theorem rm11 (l : Launch) (Z : State) (a0 : Array Value) (hw : ∀ d ∈ tables_1, d.before a0 Z = true) (hEL : EW Z a0 consts_1) (zc : Int32) (O2 : Sta Z Z.heap "java/lang/String" "COMPACT_STRINGS" "Z" (.int zc)) (P5 : ¬ zc = 0) (x : Addr) (b : Addr) (t : Addr) (h0 : Heap) (O0 : Old Z Z.heap.size h0) (P0 : Exa Z h0 x "org/holdfast/model/Identifier") (P1 : Fld Z h0 x "org/holdfast/model/Identifier" "value" "Ljava/lang/String;" .null) (P2 : Fld Z h0 x "org/holdfast/model/Identifier" "typeOrSource" "Lorg/holdfast/model/TypeOrSource;" .null) (P3 : Z.heap.size ≤ x) : Met l Z consts_1 (⟨"org/holdfast/model/Identifier", "<init>", "(Ljava/lang/String;Lorg/holdfast/model/TypeOrSource;)V"⟩ : MethodName) prog_38_method_1_code 3 (none) [] Rrm11 [] #[(.ref x), (.ref b), (.ref t)] h0 (Qrm11 Z x b t h0) := by
  refine Met.start (a0 := a0) (Ls := #[.val (.ref x), .val (.ref b), .val (.ref t)]) pn11 hEL O0 (fun m => by first | (simp [entryFrame, mkF, argsToLocals, Value.category]; done) | rfl) ?_
  intro p e s m below meth cc T0 vm0 X0 sf0_ hby hml hret hnm
  have hx := X0.hx
  have zz := X0.ge
  have A0 := X0.at
  have l1 := ltA P0.lt
  have l2 := ltA P1.lt
  have l3 := ltA P2.lt
  show Gets p e below _ (T0.setTop (mkF m 0 #[.val (.ref x), .val (.ref b), .val (.ref t)] []))
  refine Gets.via (fun _ k => (XS.aloadN A0 hx rfl (hb hby d11_0) rfl rfl k)) ?_
  show Gets p e below _ (T0.setTop (mkF m 1 #[.val (.ref x), .val (.ref b), .val (.ref t)] [(.ref x)]))
  refine X0.callI (y := (⟨"java/lang/Record", "<init>", "()V"⟩ : MethodName)) (W := 0) rfl (w65 hw) (w53 hw) (w56 hw) (by decide) (X0.payM (sf := []) (rm10 l Z a0 hw hEL zc O2 P5 x h0 X0.old ) sf0 (w56 hw) (w55 hw) (by decide) (by decide)) rfl (by rw [hml]; rfl) (a := x) (argsL := []) (rest := []) (lenOf pd6 rfl) rfl rfl (by show 2 * 0 + _ ≤ _; exact Nat.le_of_eq rfl) (hb hby d11_1) (by decide) (by decide) fun T4 h4 vm4 v4 X4 C4 z4 q4 => ?_
  obtain ⟨rfl, K4⟩ := q4
  rw [K4] at X4 C4
  have A5 := X4.at
  show Gets p e below _ (T4.setTop (mkF m 4 #[.val (.ref x), .val (.ref b), .val (.ref t)] []))
  refine Gets.via (fun _ k => (XS.aloadN A5 hx rfl (hb hby d11_4) rfl rfl k)) ?_
  show Gets p e below _ (T4.setTop (mkF m 5 #[.val (.ref x), .val (.ref b), .val (.ref t)] [(.ref b)]))
  refine X4.ldcO (w66 hw) (wSt hw) rfl (hb hby d11_5) (n := 20) (by decide) (by decide) (by decide) (by decide) fun T6 h6 vm6 a6 X6 C6 E6 => ?_
  have z6 := E6.1
  have A7 := X6.at
  show Gets p e below _ (T6.setTop (mkF m 7 #[.val (.ref x), .val (.ref b), .val (.ref t)] [(.ref a6), (.ref b)]))
  refine X6.callS (y := (⟨"java/util/Objects", "requireNonNull", "(Ljava/lang/Object;Ljava/lang/String;)Ljava/lang/Object;"⟩ : MethodName)) (W := 0) (w67 hw) (w68 hw) (w69 hw) (w70 hw) (by decide) (X6.payM (sf := []) (rm12 l Z a0 hw hEL zc O2 P5 b a6 h6 X6.old ) sf0 (w70 hw) (w69 hw) (by decide) (by decide)) rfl (by rw [hml]; rfl) (argsL := [(.ref b), (.ref a6)]) (rest := []) (lenOf pd8 rfl) rfl rfl (by show 2 * 0 + _ ≤ _; exact Nat.le_of_eq rfl) (hb hby d11_7) (by decide) (by decide) fun T8 h8 vm8 v8 X8 C8 z8 q8 => ?_
  obtain ⟨rfl, K8⟩ := q8
  rw [K8] at X8 C8
  have A9 := X8.at
  show Gets p e below _ (T8.setTop (mkF m 10 #[.val (.ref x), .val (.ref b), .val (.ref t)] [(.ref b)]))
  refine Gets.via (fun _ k => (XS.pop A9 hx rfl (hb hby d11_10) rfl rfl (XS.aloadN A9 hx rfl (hb hby d11_11) rfl rfl k))) ?_
  show Gets p e below _ (T8.setTop (mkF m 12 #[.val (.ref x), .val (.ref b), .val (.ref t)] [(.ref t)]))
  refine X8.ldcO (w71 hw) (wSt hw) rfl (hb hby d11_12) (n := 48) (by decide) (by decide) (by decide) (by decide) fun T10 h10 vm10 a10 X10 C10 E10 => ?_
  have z10 := E10.1
  have A11 := X10.at
  show Gets p e below _ (T10.setTop (mkF m 14 #[.val (.ref x), .val (.ref b), .val (.ref t)] [(.ref a10), (.ref t)]))
  refine X10.callS (y := (⟨"java/util/Objects", "requireNonNull", "(Ljava/lang/Object;Ljava/lang/String;)Ljava/lang/Object;"⟩ : MethodName)) (W := 0) (w67 hw) (w68 hw) (w69 hw) (w70 hw) (by decide) (X10.payM (sf := []) (rm12 l Z a0 hw hEL zc O2 P5 t a10 h10 X10.old ) sf0 (w70 hw) (w69 hw) (by decide) (by decide)) rfl (by rw [hml]; rfl) (argsL := [(.ref t), (.ref a10)]) (rest := []) (lenOf pd8 rfl) rfl rfl (by show 2 * 0 + _ ≤ _; exact Nat.le_of_eq rfl) (hb hby d11_14) (by decide) (by decide) fun T12 h12 vm12 v12 X12 C12 z12 q12 => ?_
  obtain ⟨rfl, K12⟩ := q12
  rw [K12] at X12 C12
  have A13 := X12.at
  show Gets p e below _ (T12.setTop (mkF m 17 #[.val (.ref x), .val (.ref b), .val (.ref t)] [(.ref t)]))
  refine Gets.via (fun _ k => (XS.pop A13 hx rfl (hb hby d11_17) rfl rfl (XS.aloadN A13 hx rfl (hb hby d11_18) rfl rfl (XS.aloadN A13 hx rfl (hb hby d11_19) rfl rfl k)))) ?_
  show Gets p e below _ (T12.setTop (mkF m 20 #[.val (.ref x), .val (.ref b), .val (.ref t)] [(.ref b), (.ref x)]))
  have f15 : Fld Z h6 x "org/holdfast/model/Identifier" "value" "Ljava/lang/String;" .null := P1.ext E6
  have f16 : Fld Z h10 x "org/holdfast/model/Identifier" "value" "Ljava/lang/String;" .null := f15.ext E10
  have f17 : Exa Z h6 x "org/holdfast/model/Identifier" := P0.ext E6
  have f18 : Exa Z h10 x "org/holdfast/model/Identifier" := f17.ext E10
  refine X12.putF (host := "") (Or.inl (w72 hw)) Via.refl f16 f18 (Or.inr ⟨(w73 hw), rfl, hnm⟩) (w42 hw) (ty := (.object "java/lang/String")) (by decide) rfl rfl (leA (by omega)) (Safe.exa X12.hZ.alike f18 (by decide) (by decide)) rfl rfl (hb hby d11_20) fun T14 h14 X14 C14 W14 F14 Z14 => ?_
  have z14 := W14.size
  have A19 := X14.at
  show Gets p e below _ (T14.setTop (mkF m 23 #[.val (.ref x), .val (.ref b), .val (.ref t)] []))
  refine Gets.via (fun _ k => (XS.aloadN A19 hx rfl (hb hby d11_23) rfl rfl (XS.aloadN A19 hx rfl (hb hby d11_24) rfl rfl k))) ?_
  show Gets p e below _ (T14.setTop (mkF m 25 #[.val (.ref x), .val (.ref b), .val (.ref t)] [(.ref t), (.ref x)]))
  have f21 : Fld Z h6 x "org/holdfast/model/Identifier" "typeOrSource" "Lorg/holdfast/model/TypeOrSource;" .null := P2.ext E6
  have f22 : Fld Z h10 x "org/holdfast/model/Identifier" "typeOrSource" "Lorg/holdfast/model/TypeOrSource;" .null := f21.ext E10
  have f23 : Fld Z h14 x "org/holdfast/model/Identifier" "typeOrSource" "Lorg/holdfast/model/TypeOrSource;" .null := f22.other W14 (Or.inr (slot_ne (t := (.object "org/holdfast/model/TypeOrSource")) (t' := (.object "java/lang/String")) (Or.inr (w75 hw)) (Or.inr (w73 hw)) (by decide) (by decide) (by decide)))
  refine X14.putF (host := "") (Or.inl (w74 hw)) Via.refl f23 Z14 (Or.inr ⟨(w75 hw), rfl, hnm⟩) (w42 hw) (ty := (.object "org/holdfast/model/TypeOrSource")) (by decide) rfl rfl (leA (by omega)) (Safe.exa X14.hZ.alike Z14 (by decide) (by decide)) rfl rfl (hb hby d11_25) fun T20 h20 X20 C20 W20 F20 Z20 => ?_
  have z20 := W20.size
  have A24 := X20.at
  show Gets p e below _ (T20.setTop (mkF m 28 #[.val (.ref x), .val (.ref b), .val (.ref t)] []))
  have f25 : Fld Z h20 x "org/holdfast/model/Identifier" "value" "Ljava/lang/String;" (.ref b) := F14.other W20 (Or.inr (slot_ne (t := (.object "java/lang/String")) (t' := (.object "org/holdfast/model/TypeOrSource")) (Or.inr (w73 hw)) (Or.inr (w75 hw)) (by decide) (by decide) (by decide)))
  exact X20.retV hret (hb hby d11_28) (by decide) (by decide) ⟨rfl, (((((Keep.refl h0 [x]).ext E6).ext E10).wr W14 (Or.inl (List.mem_of_getElem? (i := 0) rfl))).wr W20 (Or.inl (List.mem_of_getElem? (i := 0) rfl))), Z20, f25, F20⟩
abbrev Rrm7 : Room := { frames := 4, cells := 6, slots := 80, locals := 54 }
def Qrm7 (Z : State) (b : Addr) (d : Addr) (h0 : Heap) (v : Option Value) (h : Heap) : Prop := ∃ (a : Addr) (t : Addr), v = some (.ref a) ∧ Keep h0 h [] ∧ Exa Z h a "org/holdfast/model/Identifier" ∧ Fld Z h a "org/holdfast/model/Identifier" "value" "Ljava/lang/String;" (.ref b) ∧ Fld Z h a "org/holdfast/model/Identifier" "typeOrSource" "Lorg/holdfast/model/TypeOrSource;" (.ref t) ∧ Exa Z h t "org/holdfast/model/TypeOrSource" ∧ Fld Z h t "org/holdfast/model/TypeOrSource" "pointer" "Ljava/lang/String;" .null ∧ Fld Z h t "org/holdfast/model/TypeOrSource" "text" "Ljava/lang/String;" (.ref d)
set_option maxRecDepth 65536 in
set_option maxHeartbeats 40000000 in
theorem rm7 (l : Launch) (Z : State) (a0 : Array Value) (hw : ∀ d ∈ tables_1, d.before a0 Z = true) (hEL : EW Z a0 consts_1) (zc : Int32) (O2 : Sta Z Z.heap "java/lang/String" "COMPACT_STRINGS" "Z" (.int zc)) (P5 : ¬ zc = 0) (b : Addr) (d : Addr) (h0 : Heap) (O0 : Old Z Z.heap.size h0)  : Met l Z consts_1 (⟨"org/holdfast/model/Identifier", "of", "(Ljava/lang/String;Ljava/lang/String;)Lorg/holdfast/model/Identifier;"⟩ : MethodName) prog_38_method_2_code 2 (some (.object "org/holdfast/model/Identifier")) [] Rrm7 [] #[(.ref b), (.ref d)] h0 (Qrm7 Z b d h0) := by
  refine Met.start (a0 := a0) (Ls := #[.val (.ref b), .val (.ref d)]) pn7 hEL O0 (fun m => by first | (simp [entryFrame, mkF, argsToLocals, Value.category]; done) | rfl) ?_
  intro p e s m below meth cc T0 vm0 X0 sf0_ hby hml hret hnm
  have hx := X0.hx
  have zz := X0.ge
  have A0 := X0.at
  show Gets p e below _ (T0.setTop (mkF m 0 #[.val (.ref b), .val (.ref d)] []))
  refine X0.new (w41 hw) (w42 hw) (w39 hw) rfl (hb hby d7_0) (by decide) (by decide) fun T1 h1 a1 X1 C1 E1 g1 Z1 S1 D1 => ?_
  have z1 := E1.1
  have l1 := ltA Z1.lt
  have A2 := X1.at
  show Gets p e below _ (T1.setTop (mkF m 3 #[.val (.ref b), .val (.ref d)] [(.ref a1)]))
  refine Gets.via (fun _ k => (XS.dup A2 hx rfl (hb hby d7_3) rfl rfl (XS.aloadN A2 hx rfl (hb hby d7_4) rfl rfl (XS.aloadN A2 hx rfl (hb hby d7_5) rfl rfl k)))) ?_
  show Gets p e below _ (T1.setTop (mkF m 6 #[.val (.ref b), .val (.ref d)] [(.ref d), (.ref b), (.ref a1), (.ref a1)]))
  refine X1.callS (y := (⟨"org/holdfast/model/TypeOrSource", "text", "(Ljava/lang/String;)Lorg/holdfast/model/TypeOrSource;"⟩ : MethodName)) (W := 3) (w43 hw) (w44 hw) (w45 hw) (w46 hw) (by decide) (X1.payM (sf := []) (rm8 l Z a0 hw hEL zc O2 P5 d h1 X1.old ) sf0 (w46 hw) (w45 hw) (by decide) (by decide)) rfl (by rw [hml]; rfl) (argsL := [(.ref d)]) (rest := [(.ref b), (.ref a1), (.ref a1)]) (lenOf pd9 rfl) rfl rfl (by show 2 * 0 + _ ≤ _; exact Nat.le_of_eq rfl) (hb hby d7_6) (by decide) (by decide) fun T3 h3 vm3 v3 X3 C3 z3 q3 => ?_
  obtain ⟨a3, rfl, K3, g3_0, g3_1, g3_2, g3_3⟩ := q3
  have l4 := ltA g3_0.lt
  have l5 := ltA g3_1.lt
  have l6 := ltA g3_2.lt
  have A7 := X3.at
  show Gets p e below _ (T3.setTop (mkF m 9 #[.val (.ref b), .val (.ref d)] [(.ref a3), (.ref b), (.ref a1), (.ref a1)]))
  have f8 : Exa Z h3 a1 "org/holdfast/model/Identifier" := Z1.keep K3
  have f9 : Fld Z h3 a1 "org/holdfast/model/Identifier" "value" "Ljava/lang/String;" .null := (D1 (Or.inr (w73 hw)) (ty := (.object "java/lang/String")) (by decide) : Fld Z h1 a1 "org/holdfast/model/Identifier" "value" "Ljava/lang/String;" .null).keep K3 nin0
  have f10 : Fld Z h3 a1 "org/holdfast/model/Identifier" "typeOrSource" "Lorg/holdfast/model/TypeOrSource;" .null := (D1 (Or.inr (w75 hw)) (ty := (.object "org/holdfast/model/TypeOrSource")) (by decide) : Fld Z h1 a1 "org/holdfast/model/Identifier" "typeOrSource" "Lorg/holdfast/model/TypeOrSource;" .null).keep K3 nin0
  refine X3.callI (y := (⟨"org/holdfast/model/Identifier", "<init>", "(Ljava/lang/String;Lorg/holdfast/model/TypeOrSource;)V"⟩ : MethodName)) (W := 1) rfl (w62 hw) (w63 hw) (w64 hw) (by decide) (X3.payM (sf := []) (rm11 l Z a0 hw hEL zc O2 P5 a1 b a3 h3 X3.old f8 f9 f10 (leA (by omega))) sf0 (w64 hw) (w39 hw) (by decide) (by decide)) rfl (by rw [hml]; rfl) (a := a1) (argsL := [(.ref b), (.ref a3)]) (rest := [(.ref a1)]) (lenOf pd10 rfl) rfl rfl (by show 2 * 0 + _ ≤ _; exact Nat.le_of_eq rfl) (hb hby d7_9) (by decide) (by decide) fun T11 h11 vm11 v11 X11 C11 z11 q11 => ?_
  obtain ⟨rfl, K11, g11_0, g11_1, g11_2⟩ := q11
  have l12 := ltA g11_0.lt
  have l13 := ltA g11_1.lt
  have l14 := ltA g11_2.lt
  have A15 := X11.at
  show Gets p e below _ (T11.setTop (mkF m 12 #[.val (.ref b), .val (.ref d)] [(.ref a1)]))
  have f16 : Exa Z h11 a3 "org/holdfast/model/TypeOrSource" := g3_0.keep K11
  have f17 : Fld Z h11 a3 "org/holdfast/model/TypeOrSource" "pointer" "Ljava/lang/String;" .null := g3_1.keep K11 (ninS (neA (by omega)) nin0)
  have f18 : Fld Z h11 a3 "org/holdfast/model/TypeOrSource" "text" "Ljava/lang/String;" (.ref d) := g3_2.keep K11 (ninS (neA (by omega)) nin0)
  exact X11.retA hret rfl rfl rfl (hb hby d7_12) (by decide) (by decide) ⟨a1, a3, rfl, ((((Keep.refl h0 []).ext E1).trans K3 all0).trans K11 (allS (Or.inr (leA (by omega))) all0)), g11_0, g11_1, g11_2, f16, f17, f18⟩
abbrev Rrm13 : Room := { frames := 0, cells := 0, slots := 0, locals := 0 }
def Qrm13 (Z : State) (x : Addr) (b : Addr) (h0 : Heap) (v : Option Value) (h : Heap) : Prop := v = some (.ref b) ∧ h = h0
set_option maxRecDepth 65536 in
set_option maxHeartbeats 40000000 in
theorem rm13 (l : Launch) (Z : State) (a0 : Array Value) (hw : ∀ d ∈ tables_1, d.before a0 Z = true) (hEL : EW Z a0 consts_1) (zc : Int32) (O2 : Sta Z Z.heap "java/lang/String" "COMPACT_STRINGS" "Z" (.int zc)) (P5 : ¬ zc = 0) (x : Addr) (b : Addr) (h0 : Heap) (O0 : Old Z Z.heap.size h0) (P0 : Fld Z h0 x "org/holdfast/model/Identifier" "typeOrSource" "Lorg/holdfast/model/TypeOrSource;" (.ref b)) : Met l Z consts_1 (⟨"org/holdfast/model/Identifier", "typeOrSource", "()Lorg/holdfast/model/TypeOrSource;"⟩ : MethodName) prog_38_method_7_code 1 (some (.object "org/holdfast/model/TypeOrSource")) [] Rrm13 [] #[(.ref x)] h0 (Qrm13 Z x b h0) := by
  refine Met.start (a0 := a0) (Ls := #[.val (.ref x)]) pn13 hEL O0 (fun m => by first | (simp [entryFrame, mkF, argsToLocals, Value.category]; done) | rfl) ?_
  intro p e s m below meth cc T0 vm0 X0 sf0_ hby hml hret hnm
  have hx := X0.hx
  have zz := X0.ge
  have A0 := X0.at
  have l1 := ltA P0.lt
  show Gets p e below _ (T0.setTop (mkF m 0 #[.val (.ref x)] []))
  refine Gets.via (fun _ k => (XS.aloadN A0 hx rfl (hb hby d13_0) rfl rfl k)) ?_
  show Gets p e below _ (T0.setTop (mkF m 1 #[.val (.ref x)] [(.ref x)]))
  refine X0.getF (host := "") (Or.inl (w74 hw)) Via.refl P0 rfl rfl (hb hby d13_1) fun T2 X2 => ?_
  have A3 := X2.at
  show Gets p e below _ (T2.setTop (mkF m 4 #[.val (.ref x)] [(.ref b)]))
  exact X2.retA hret rfl rfl rfl (hb hby d13_4) (by decide) (by decide) ⟨rfl, rfl⟩
abbrev Rrm14 : Room := { frames := 0, cells := 0, slots := 0, locals := 0 }
def Qrm14 (Z : State) (x : Addr) (b : Addr) (h0 : Heap) (v : Option Value) (h : Heap) : Prop := v = some (.ref b) ∧ h = h0
set_option maxRecDepth 65536 in
set_option maxHeartbeats 40000000 in
theorem rm14 (l : Launch) (Z : State) (a0 : Array Value) (hw : ∀ d ∈ tables_1, d.before a0 Z = true) (hEL : EW Z a0 consts_1) (zc : Int32) (O2 : Sta Z Z.heap "java/lang/String" "COMPACT_STRINGS" "Z" (.int zc)) (P5 : ¬ zc = 0) (x : Addr) (b : Addr) (h0 : Heap) (O0 : Old Z Z.heap.size h0) (P0 : Fld Z h0 x "org/holdfast/model/Identifier" "value" "Ljava/lang/String;" (.ref b)) : Met l Z consts_1 (⟨"org/holdfast/model/Identifier", "value", "()Ljava/lang/String;"⟩ : MethodName) prog_38_method_6_code 1 (some (.object "java/lang/String")) [] Rrm14 [] #[(.ref x)] h0 (Qrm14 Z x b h0) := by
  refine Met.start (a0 := a0) (Ls := #[.val (.ref x)]) pn14 hEL O0 (fun m => by first | (simp [entryFrame, mkF, argsToLocals, Value.category]; done) | rfl) ?_
  intro p e s m below meth cc T0 vm0 X0 sf0_ hby hml hret hnm
  have hx := X0.hx
  have zz := X0.ge
  have A0 := X0.at
  have l1 := ltA P0.lt
  show Gets p e below _ (T0.setTop (mkF m 0 #[.val (.ref x)] []))
  refine Gets.via (fun _ k => (XS.aloadN A0 hx rfl (hb hby d14_0) rfl rfl k)) ?_
  show Gets p e below _ (T0.setTop (mkF m 1 #[.val (.ref x)] [(.ref x)]))
  refine X0.getF (host := "") (Or.inl (w72 hw)) Via.refl P0 rfl rfl (hb hby d14_1) fun T2 X2 => ?_
  have A3 := X2.at
  show Gets p e below _ (T2.setTop (mkF m 4 #[.val (.ref x)] [(.ref b)]))
  exact X2.retA hret rfl rfl rfl (hb hby d14_4) (by decide) (by decide) ⟨rfl, rfl⟩
abbrev Rrm15 : Room := { frames := 0, cells := 0, slots := 0, locals := 0 }
def Qrm15 (Z : State) (x : Addr) (b : Addr) (h0 : Heap) (v : Option Value) (h : Heap) : Prop := v = some (.ref b) ∧ h = h0
set_option maxRecDepth 65536 in
set_option maxHeartbeats 40000000 in
theorem rm15 (l : Launch) (Z : State) (a0 : Array Value) (hw : ∀ d ∈ tables_1, d.before a0 Z = true) (hEL : EW Z a0 consts_1) (zc : Int32) (O2 : Sta Z Z.heap "java/lang/String" "COMPACT_STRINGS" "Z" (.int zc)) (P5 : ¬ zc = 0) (x : Addr) (b : Addr) (h0 : Heap) (O0 : Old Z Z.heap.size h0) (P0 : Fld Z h0 x "org/holdfast/model/TypeOrSource" "text" "Ljava/lang/String;" (.ref b)) : Met l Z consts_1 (⟨"org/holdfast/model/TypeOrSource", "text", "()Ljava/lang/String;"⟩ : MethodName) prog_44_method_7_code 1 (some (.object "java/lang/String")) [] Rrm15 [] #[(.ref x)] h0 (Qrm15 Z x b h0) := by
  refine Met.start (a0 := a0) (Ls := #[.val (.ref x)]) pn15 hEL O0 (fun m => by first | (simp [entryFrame, mkF, argsToLocals, Value.category]; done) | rfl) ?_
  intro p e s m below meth cc T0 vm0 X0 sf0_ hby hml hret hnm
  have hx := X0.hx
  have zz := X0.ge
  have A0 := X0.at
  have l1 := ltA P0.lt
  show Gets p e below _ (T0.setTop (mkF m 0 #[.val (.ref x)] []))
  refine Gets.via (fun _ k => (XS.aloadN A0 hx rfl (hb hby d15_0) rfl rfl k)) ?_
  show Gets p e below _ (T0.setTop (mkF m 1 #[.val (.ref x)] [(.ref x)]))
  refine X0.getF (host := "") (Or.inl (w60 hw)) Via.refl P0 rfl rfl (hb hby d15_1) fun T2 X2 => ?_
  have A3 := X2.at
  show Gets p e below _ (T2.setTop (mkF m 4 #[.val (.ref x)] [(.ref b)]))
  exact X2.retA hret rfl rfl rfl (hb hby d15_4) (by decide) (by decide) ⟨rfl, rfl⟩
abbrev Rrm17 : Room := { frames := 0, cells := 0, slots := 0, locals := 0 }
def Qrm17 (Z : State) (x : Addr) (h0 : Heap) (v : Option Value) (h : Heap) : Prop := v = some .null ∧ h = h0
set_option maxRecDepth 65536 in
set_option maxHeartbeats 40000000 in
theorem rm17 (l : Launch) (Z : State) (a0 : Array Value) (hw : ∀ d ∈ tables_1, d.before a0 Z = true) (hEL : EW Z a0 consts_1) (zc : Int32) (O2 : Sta Z Z.heap "java/lang/String" "COMPACT_STRINGS" "Z" (.int zc)) (P5 : ¬ zc = 0) (x : Addr) (h0 : Heap) (O0 : Old Z Z.heap.size h0) (P0 : Fld Z h0 x "org/holdfast/model/TypeOrSource" "pointer" "Ljava/lang/String;" .null) : Met l Z consts_1 (⟨"org/holdfast/model/TypeOrSource", "pointer", "()Ljava/lang/String;"⟩ : MethodName) prog_44_method_6_code 1 (some (.object "java/lang/String")) [] Rrm17 [] #[(.ref x)] h0 (Qrm17 Z x h0) := by
  refine Met.start (a0 := a0) (Ls := #[.val (.ref x)]) pn17 hEL O0 (fun m => by first | (simp [entryFrame, mkF, argsToLocals, Value.category]; done) | rfl) ?_
  intro p e s m below meth cc T0 vm0 X0 sf0_ hby hml hret hnm
  have hx := X0.hx
  have zz := X0.ge
  have A0 := X0.at
  have l1 := ltA P0.lt
  show Gets p e below _ (T0.setTop (mkF m 0 #[.val (.ref x)] []))
  refine Gets.via (fun _ k => (XS.aloadN A0 hx rfl (hb hby d17_0) rfl rfl k)) ?_
  show Gets p e below _ (T0.setTop (mkF m 1 #[.val (.ref x)] [(.ref x)]))
  refine X0.getF (host := "") (Or.inl (w58 hw)) Via.refl P0 rfl rfl (hb hby d17_1) fun T2 X2 => ?_
  have A3 := X2.at
  show Gets p e below _ (T2.setTop (mkF m 4 #[.val (.ref x)] [.null]))
  exact X2.retA hret rfl rfl rfl (hb hby d17_4) (by decide) (by decide) ⟨rfl, rfl⟩
abbrev Rrm16 : Room := { frames := 0, cells := 0, slots := 0, locals := 0 }
def Qrm16 (Z : State) (x : Addr) (h0 : Heap) (v : Option Value) (h : Heap) : Prop := v = some (.int (1 : Int32)) ∧ h = h0
set_option maxRecDepth 65536 in
set_option maxHeartbeats 40000000 in
theorem rm16 (l : Launch) (Z : State) (a0 : Array Value) (hw : ∀ d ∈ tables_1, d.before a0 Z = true) (hEL : EW Z a0 consts_1) (zc : Int32) (O2 : Sta Z Z.heap "java/lang/String" "COMPACT_STRINGS" "Z" (.int zc)) (P5 : ¬ zc = 0) (x : Addr) (h0 : Heap) (O0 : Old Z Z.heap.size h0)  : Met l Z consts_1 (⟨"java/lang/String", "equals", "(Ljava/lang/Object;)Z"⟩ : MethodName) jdk_42_method_66_code 3 (some .boolean) [] Rrm16 [] #[(.ref x), (.ref x)] h0 (Qrm16 Z x h0) := by
  refine Met.start (a0 := a0) (Ls := #[.val (.ref x), .val (.ref x), .unset]) pn16 hEL O0 (fun m => by first | (simp [entryFrame, mkF, argsToLocals, Value.category]; done) | rfl) ?_
  intro p e s m below meth cc T0 vm0 X0 sf0_ hby hml hret hnm
  have hx := X0.hx
  have zz := X0.ge
  have A0 := X0.at
  show Gets p e below _ (T0.setTop (mkF m 0 #[.val (.ref x), .val (.ref x), .unset] []))
  refine Gets.via (fun _ k => (XS.aloadN A0 hx rfl (hb hby d16_0) rfl rfl (XS.aloadN A0 hx rfl (hb hby d16_1) rfl rfl k))) ?_
  show Gets p e below _ (T0.setTop (mkF m 2 #[.val (.ref x), .val (.ref x), .unset] [(.ref x), (.ref x)]))
  refine X0.acmpW hx rfl rfl rfl (pc0 := 2) (pc' := 5) (same := true) rfl (hb hby d16_2) rfl (by simp) (by decide) (by decide) ?_
  show Gets p e below _ (T0.setTop (mkF m 5 #[.val (.ref x), .val (.ref x), .unset] []))
  refine Gets.via (fun _ k => (XS.iconst A0 hx rfl (hb hby d16_5) k)) ?_
  show Gets p e below _ (T0.setTop (mkF m 6 #[.val (.ref x), .val (.ref x), .unset] [(.int (1 : Int32))]))
  exact X0.retI hret (by decide) (by simp) (hb hby d16_6) (by decide) (by decide) ⟨rfl, rfl⟩
abbrev RrmLaw : Room := room_1
def QrmLaw (Z : State) (p0 : Int32) (p1 : Int32) (p2 : Int32) (h0 : Heap) (v : Option Value) (h : Heap) : Prop := v = some (.int (1 : Int32)) ∧ Keep h0 h []
set_option maxRecDepth 65536 in
set_option maxHeartbeats 40000000 in
theorem rmLaw (l : Launch) (Z : State) (a0 : Array Value) (hw : ∀ d ∈ tables_1, d.before a0 Z = true) (hEL : EW Z a0 consts_1) (zc : Int32) (O2 : Sta Z Z.heap "java/lang/String" "COMPACT_STRINGS" "Z" (.int zc)) (P5 : ¬ zc = 0) (p0 : Int32) (p1 : Int32) (p2 : Int32) (h0 : Heap) (O0 : Old Z Z.heap.size h0)  : Met l Z consts_1 x code maxLocals ret tables_1 RrmLaw [] #[(.int p0), (.int p1), (.int p2)] h0 (QrmLaw Z p0 p1 p2 h0) := by
  refine Met.start (a0 := a0) (Ls := #[.val (.int p0), .val (.int p1), .val (.int p2), .unset, .unset, .unset, .unset, .unset, .unset]) pn22 hEL O0 (fun m => by first | (simp [entryFrame, mkF, argsToLocals, Value.category, maxLocals]; done) | rfl) ?_
  intro p e s m below meth cc T0 vm0 X0 sf0_ hby hml hret hnm
  have hx := X0.hx
  have zz := X0.ge
  have A0 := X0.at
  show Gets p e below _ (T0.setTop (mkF m 0 #[.val (.int p0), .val (.int p1), .val (.int p2), .unset, .unset, .unset, .unset, .unset, .unset] []))
  refine Gets.via (fun _ k => (XS.iloadN A0 hx rfl (hb hby at_0) rfl (XS.iconst A0 hx rfl (hb hby at_1) (XS.iand A0 hx rfl (hb hby at_2) rfl (XS.iloadN A0 hx rfl (hb hby at_3) rfl k))))) ?_
  show Gets p e below _ (T0.setTop (mkF m 4 #[.val (.int p0), .val (.int p1), .val (.int p2), .unset, .unset, .unset, .unset, .unset, .unset] [(.int p0), (.int (p2 &&& (3 : Int32)))]))
  refine X0.callS (y := (⟨"org/holdfast/model/IdentifierOfPinLaw", "mk", "(II)Ljava/lang/String;"⟩ : MethodName)) (W := 0) (w0 hw) (w1 hw) (w2 hw) (w3 hw) (by decide) (X0.payM (sf := []) (rm0 l Z a0 hw hEL zc O2 P5 (p2 &&& (3 : Int32)) p0 h0 X0.old ) sf0 (w3 hw) (w2 hw) (by decide) (by decide)) rfl (by rw [hml]; rfl) (argsL := [(.int (p2 &&& (3 : Int32))), (.int p0)]) (rest := []) (lenOf pd11 rfl) rfl rfl (by show 2 * 0 + _ ≤ _; exact Nat.le_of_eq rfl) (hb hby at_4) (by decide) (by decide) fun T1 h1 vm1 v1 X1 C1 z1 q1 => ?_
  obtain ⟨a1, rfl, K1, g1_0, g1_1⟩ := q1
  have l2 := ltA g1_0.lt
  have A3 := X1.at
  show Gets p e below _ (T1.setTop (mkF m 7 #[.val (.int p0), .val (.int p1), .val (.int p2), .unset, .unset, .unset, .unset, .unset, .unset] [(.ref a1)]))
  refine Gets.via (fun _ k => (XS.astoreN A3 hx rfl (hb hby at_7) rfl rfl (l' := #[.val (.int p0), .val (.int p1), .val (.int p2), .val (.ref a1), .unset, .unset, .unset, .unset, .unset]) rfl (XS.iloadN A3 hx rfl (hb hby at_8) rfl (XS.iconst A3 hx rfl (hb hby at_9) (XS.iushr A3 hx rfl (hb hby at_10) rfl (XS.iconst A3 hx rfl (hb hby at_11) (XS.iand A3 hx rfl (hb hby at_12) rfl k))))))) ?_
  show Gets p e below _ (T1.setTop (mkF m 13 #[.val (.int p0), .val (.int p1), .val (.int p2), .val (.ref a1), .unset, .unset, .unset, .unset, .unset] [(.int ((Jvm.Free.XT.ushr p2 (2 : Int32)) &&& (3 : Int32)))]))
  refine Gets.via (fun _ k => (XS.iloadN A3 hx rfl (hb hby at_13) rfl k)) ?_
  show Gets p e below _ (T1.setTop (mkF m 14 #[.val (.int p0), .val (.int p1), .val (.int p2), .val (.ref a1), .unset, .unset, .unset, .unset, .unset] [(.int p1), (.int ((Jvm.Free.XT.ushr p2 (2 : Int32)) &&& (3 : Int32)))]))
  refine X1.callS (y := (⟨"org/holdfast/model/IdentifierOfPinLaw", "mk", "(II)Ljava/lang/String;"⟩ : MethodName)) (W := 0) (w0 hw) (w1 hw) (w2 hw) (w3 hw) (by decide) (X1.payM (sf := []) (rm0 l Z a0 hw hEL zc O2 P5 ((Jvm.Free.XT.ushr p2 (2 : Int32)) &&& (3 : Int32)) p1 h1 X1.old ) sf0 (w3 hw) (w2 hw) (by decide) (by decide)) rfl (by rw [hml]; rfl) (argsL := [(.int ((Jvm.Free.XT.ushr p2 (2 : Int32)) &&& (3 : Int32))), (.int p1)]) (rest := []) (lenOf pd11 rfl) rfl rfl (by show 2 * 0 + _ ≤ _; exact Nat.le_of_eq rfl) (hb hby at_14) (by decide) (by decide) fun T4 h4 vm4 v4 X4 C4 z4 q4 => ?_
  obtain ⟨a4, rfl, K4, g4_0, g4_1⟩ := q4
  have l5 := ltA g4_0.lt
  have A6 := X4.at
  show Gets p e below _ (T4.setTop (mkF m 17 #[.val (.int p0), .val (.int p1), .val (.int p2), .val (.ref a1), .unset, .unset, .unset, .unset, .unset] [(.ref a4)]))
  refine Gets.via (fun _ k => (XS.astore A6 hx rfl (hb hby at_17) rfl rfl (l' := #[.val (.int p0), .val (.int p1), .val (.int p2), .val (.ref a1), .val (.ref a4), .unset, .unset, .unset, .unset]) rfl (XS.aloadN A6 hx rfl (hb hby at_19) rfl rfl (XS.aload A6 hx rfl (hb hby at_20) rfl rfl k)))) ?_
  show Gets p e below _ (T4.setTop (mkF m 22 #[.val (.int p0), .val (.int p1), .val (.int p2), .val (.ref a1), .val (.ref a4), .unset, .unset, .unset, .unset] [(.ref a4), (.ref a1)]))
  refine X4.callS (y := (⟨"org/holdfast/model/Identifier", "of", "(Ljava/lang/String;Ljava/lang/String;)Lorg/holdfast/model/Identifier;"⟩ : MethodName)) (W := 0) (w37 hw) (w38 hw) (w39 hw) (w40 hw) (by decide) (X4.payM (sf := []) (rm7 l Z a0 hw hEL zc O2 P5 a1 a4 h4 X4.old ) sf0 (w40 hw) (w39 hw) (by decide) (by decide)) rfl (by rw [hml]; rfl) (argsL := [(.ref a1), (.ref a4)]) (rest := []) (lenOf pd12 rfl) rfl rfl (by show 2 * 0 + _ ≤ _; exact Nat.le_of_eq rfl) (hb hby at_22) (by decide) (by decide) fun T7 h7 vm7 v7 X7 C7 z7 q7 => ?_
  obtain ⟨a7, t7, rfl, K7, g7_0, g7_1, g7_2, g7_3, g7_4, g7_5⟩ := q7
  have l8 := ltA g7_0.lt
  have l9 := ltA g7_1.lt
  have l10 := ltA g7_2.lt
  have l11 := ltA g7_3.lt
  have l12 := ltA g7_4.lt
  have l13 := ltA g7_5.lt
  have A14 := X7.at
  show Gets p e below _ (T7.setTop (mkF m 25 #[.val (.int p0), .val (.int p1), .val (.int p2), .val (.ref a1), .val (.ref a4), .unset, .unset, .unset, .unset] [(.ref a7)]))
  refine Gets.via (fun _ k => (XS.astore A14 hx rfl (hb hby at_25) rfl rfl (l' := #[.val (.int p0), .val (.int p1), .val (.int p2), .val (.ref a1), .val (.ref a4), .val (.ref a7), .unset, .unset, .unset]) rfl (XS.aload A14 hx rfl (hb hby at_27) rfl rfl (XS.ifnonnullYes A14 hx rfl (pc0 := 29) (pc' := 34) rfl (hb hby at_29) rfl (by decide) (by decide) k)))) ?_
  show Gets p e below _ (T7.setTop (mkF m 34 #[.val (.int p0), .val (.int p1), .val (.int p2), .val (.ref a1), .val (.ref a4), .val (.ref a7), .unset, .unset, .unset] []))
  refine Gets.via (fun _ k => (XS.aload A14 hx rfl (hb hby at_34) rfl rfl k)) ?_
  show Gets p e below _ (T7.setTop (mkF m 36 #[.val (.int p0), .val (.int p1), .val (.int p2), .val (.ref a1), .val (.ref a4), .val (.ref a7), .unset, .unset, .unset] [(.ref a7)]))
  refine X7.callV (y := (⟨"org/holdfast/model/Identifier", "typeOrSource", "()Lorg/holdfast/model/TypeOrSource;"⟩ : MethodName)) (z := (⟨"org/holdfast/model/Identifier", "typeOrSource", "()Lorg/holdfast/model/TypeOrSource;"⟩ : MethodName)) (W := 0) (w76 hw) (w77 hw) (w79 hw) (w78 hw) (nfs rfl (w79 hw)) (by decide) (X7.payM (sf := []) (rm13 l Z a0 hw hEL zc O2 P5 a7 t7 h7 X7.old g7_2) sf0 (w80 hw) (w39 hw) (by decide) (by decide)) g7_0 rfl (by rw [hml]; rfl) (argsL := []) (rest := []) (lenOf pd13 rfl) rfl rfl (by show 2 * 0 + _ ≤ _; exact Nat.le_of_eq rfl) (hb hby at_36) (by decide) (by decide) fun T15 h15 vm15 v15 X15 C15 z15 q15 => ?_
  obtain ⟨rfl, K15⟩ := q15
  rw [K15] at X15 C15
  have A16 := X15.at
  show Gets p e below _ (T15.setTop (mkF m 39 #[.val (.int p0), .val (.int p1), .val (.int p2), .val (.ref a1), .val (.ref a4), .val (.ref a7), .unset, .unset, .unset] [(.ref t7)]))
  refine Gets.via (fun _ k => (XS.astore A16 hx rfl (hb hby at_39) rfl rfl (l' := #[.val (.int p0), .val (.int p1), .val (.int p2), .val (.ref a1), .val (.ref a4), .val (.ref a7), .val (.ref t7), .unset, .unset]) rfl (XS.aload A16 hx rfl (hb hby at_41) rfl rfl (XS.ifnonnullYes A16 hx rfl (pc0 := 43) (pc' := 48) rfl (hb hby at_43) rfl (by decide) (by decide) k)))) ?_
  show Gets p e below _ (T15.setTop (mkF m 48 #[.val (.int p0), .val (.int p1), .val (.int p2), .val (.ref a1), .val (.ref a4), .val (.ref a7), .val (.ref t7), .unset, .unset] []))
  refine Gets.via (fun _ k => (XS.aload A16 hx rfl (hb hby at_48) rfl rfl k)) ?_
  show Gets p e below _ (T15.setTop (mkF m 50 #[.val (.int p0), .val (.int p1), .val (.int p2), .val (.ref a1), .val (.ref a4), .val (.ref a7), .val (.ref t7), .unset, .unset] [(.ref a7)]))
  refine X15.callV (y := (⟨"org/holdfast/model/Identifier", "value", "()Ljava/lang/String;"⟩ : MethodName)) (z := (⟨"org/holdfast/model/Identifier", "value", "()Ljava/lang/String;"⟩ : MethodName)) (W := 0) (w81 hw) (w82 hw) (w84 hw) (w83 hw) (nfs rfl (w84 hw)) (by decide) (X15.payM (sf := []) (rm14 l Z a0 hw hEL zc O2 P5 a7 a1 h7 X15.old g7_1) sf0 (w85 hw) (w39 hw) (by decide) (by decide)) g7_0 rfl (by rw [hml]; rfl) (argsL := []) (rest := []) (lenOf pd14 rfl) rfl rfl (by show 2 * 0 + _ ≤ _; exact Nat.le_of_eq rfl) (hb hby at_50) (by decide) (by decide) fun T17 h17 vm17 v17 X17 C17 z17 q17 => ?_
  obtain ⟨rfl, K17⟩ := q17
  rw [K17] at X17 C17
  have A18 := X17.at
  show Gets p e below _ (T17.setTop (mkF m 53 #[.val (.int p0), .val (.int p1), .val (.int p2), .val (.ref a1), .val (.ref a4), .val (.ref a7), .val (.ref t7), .unset, .unset] [(.ref a1)]))
  refine Gets.via (fun _ k => (XS.astore A18 hx rfl (hb hby at_53) rfl rfl (l' := #[.val (.int p0), .val (.int p1), .val (.int p2), .val (.ref a1), .val (.ref a4), .val (.ref a7), .val (.ref t7), .val (.ref a1), .unset]) rfl (XS.aload A18 hx rfl (hb hby at_55) rfl rfl k))) ?_
  show Gets p e below _ (T17.setTop (mkF m 57 #[.val (.int p0), .val (.int p1), .val (.int p2), .val (.ref a1), .val (.ref a4), .val (.ref a7), .val (.ref t7), .val (.ref a1), .unset] [(.ref t7)]))
  refine X17.callV (y := (⟨"org/holdfast/model/TypeOrSource", "text", "()Ljava/lang/String;"⟩ : MethodName)) (z := (⟨"org/holdfast/model/TypeOrSource", "text", "()Ljava/lang/String;"⟩ : MethodName)) (W := 0) (w86 hw) (w87 hw) (w89 hw) (w88 hw) (nfs rfl (w89 hw)) (by decide) (X17.payM (sf := []) (rm15 l Z a0 hw hEL zc O2 P5 t7 a4 h7 X17.old g7_5) sf0 (w90 hw) (w45 hw) (by decide) (by decide)) g7_3 rfl (by rw [hml]; rfl) (argsL := []) (rest := []) (lenOf pd14 rfl) rfl rfl (by show 2 * 0 + _ ≤ _; exact Nat.le_of_eq rfl) (hb hby at_57) (by decide) (by decide) fun T19 h19 vm19 v19 X19 C19 z19 q19 => ?_
  obtain ⟨rfl, K19⟩ := q19
  rw [K19] at X19 C19
  have A20 := X19.at
  show Gets p e below _ (T19.setTop (mkF m 60 #[.val (.int p0), .val (.int p1), .val (.int p2), .val (.ref a1), .val (.ref a4), .val (.ref a7), .val (.ref t7), .val (.ref a1), .unset] [(.ref a4)]))
  refine Gets.via (fun _ k => (XS.astore A20 hx rfl (hb hby at_60) rfl rfl (l' := #[.val (.int p0), .val (.int p1), .val (.int p2), .val (.ref a1), .val (.ref a4), .val (.ref a7), .val (.ref t7), .val (.ref a1), .val (.ref a4)]) rfl (XS.aload A20 hx rfl (hb hby at_62) rfl rfl (XS.ifnullNo A20 hx rfl (hb hby at_64) rfl k)))) ?_
  show Gets p e below _ (T19.setTop (mkF m 67 #[.val (.int p0), .val (.int p1), .val (.int p2), .val (.ref a1), .val (.ref a4), .val (.ref a7), .val (.ref t7), .val (.ref a1), .val (.ref a4)] []))
  refine Gets.via (fun _ k => (XS.aload A20 hx rfl (hb hby at_67) rfl rfl (XS.ifnonnullYes A20 hx rfl (pc0 := 69) (pc' := 74) rfl (hb hby at_69) rfl (by decide) (by decide) k))) ?_
  show Gets p e below _ (T19.setTop (mkF m 74 #[.val (.int p0), .val (.int p1), .val (.int p2), .val (.ref a1), .val (.ref a4), .val (.ref a7), .val (.ref t7), .val (.ref a1), .val (.ref a4)] []))
  refine Gets.via (fun _ k => (XS.aloadN A20 hx rfl (hb hby at_74) rfl rfl (XS.aload A20 hx rfl (hb hby at_75) rfl rfl k))) ?_
  show Gets p e below _ (T19.setTop (mkF m 77 #[.val (.int p0), .val (.int p1), .val (.int p2), .val (.ref a1), .val (.ref a4), .val (.ref a7), .val (.ref t7), .val (.ref a1), .val (.ref a4)] [(.ref a1), (.ref a1)]))
  have f21 : Exa Z h4 a1 "java/lang/String" := g1_0.keep K4
  have f22 : Exa Z h7 a1 "java/lang/String" := f21.keep K7
  refine X19.callV (y := (⟨"java/lang/String", "equals", "(Ljava/lang/Object;)Z"⟩ : MethodName)) (z := (⟨"java/lang/String", "equals", "(Ljava/lang/Object;)Z"⟩ : MethodName)) (W := 0) (w91 hw) (w92 hw) (w94 hw) (w93 hw) (nfs rfl (w94 hw)) (by decide) (X19.payM (sf := []) (rm16 l Z a0 hw hEL zc O2 P5 a1 h7 X19.old ) sf0 (w95 hw) (w6 hw) (by decide) (by decide)) f22 rfl (by rw [hml]; rfl) (argsL := [(.ref a1)]) (rest := []) (lenOf pd15 rfl) rfl rfl (by show 2 * 0 + _ ≤ _; exact Nat.le_of_eq rfl) (hb hby at_77) (by decide) (by decide) fun T23 h23 vm23 v23 X23 C23 z23 q23 => ?_
  obtain ⟨rfl, K23⟩ := q23
  rw [K23] at X23 C23
  have A24 := X23.at
  show Gets p e below _ (T23.setTop (mkF m 80 #[.val (.int p0), .val (.int p1), .val (.int p2), .val (.ref a1), .val (.ref a4), .val (.ref a7), .val (.ref t7), .val (.ref a1), .val (.ref a4)] [(.int (1 : Int32))]))
  refine Gets.via (fun _ k => (XS.ifNo A24 hx rfl (hb hby at_80) rfl (Jvm.Free.XT.i0_eq_f (by decide)) k)) ?_
  show Gets p e below _ (T23.setTop (mkF m 83 #[.val (.int p0), .val (.int p1), .val (.int p2), .val (.ref a1), .val (.ref a4), .val (.ref a7), .val (.ref t7), .val (.ref a1), .val (.ref a4)] []))
  refine Gets.via (fun _ k => (XS.aload A24 hx rfl (hb hby at_83) rfl rfl k)) ?_
  show Gets p e below _ (T23.setTop (mkF m 85 #[.val (.int p0), .val (.int p1), .val (.int p2), .val (.ref a1), .val (.ref a4), .val (.ref a7), .val (.ref t7), .val (.ref a1), .val (.ref a4)] [(.ref t7)]))
  refine X23.callV (y := (⟨"org/holdfast/model/TypeOrSource", "pointer", "()Ljava/lang/String;"⟩ : MethodName)) (z := (⟨"org/holdfast/model/TypeOrSource", "pointer", "()Ljava/lang/String;"⟩ : MethodName)) (W := 0) (w96 hw) (w97 hw) (w99 hw) (w98 hw) (nfs rfl (w99 hw)) (by decide) (X23.payM (sf := []) (rm17 l Z a0 hw hEL zc O2 P5 t7 h7 X23.old g7_4) sf0 (w100 hw) (w45 hw) (by decide) (by decide)) g7_3 rfl (by rw [hml]; rfl) (argsL := []) (rest := []) (lenOf pd14 rfl) rfl rfl (by show 2 * 0 + _ ≤ _; exact Nat.le_of_eq rfl) (hb hby at_85) (by decide) (by decide) fun T25 h25 vm25 v25 X25 C25 z25 q25 => ?_
  obtain ⟨rfl, K25⟩ := q25
  rw [K25] at X25 C25
  have A26 := X25.at
  show Gets p e below _ (T25.setTop (mkF m 88 #[.val (.int p0), .val (.int p1), .val (.int p2), .val (.ref a1), .val (.ref a4), .val (.ref a7), .val (.ref t7), .val (.ref a1), .val (.ref a4)] [.null]))
  refine Gets.via (fun _ k => (XS.ifnonnullNo A26 hx rfl (hb hby at_88) rfl k)) ?_
  show Gets p e below _ (T25.setTop (mkF m 91 #[.val (.int p0), .val (.int p1), .val (.int p2), .val (.ref a1), .val (.ref a4), .val (.ref a7), .val (.ref t7), .val (.ref a1), .val (.ref a4)] []))
  refine Gets.via (fun _ k => (XS.aload A26 hx rfl (hb hby at_91) rfl rfl (XS.aload A26 hx rfl (hb hby at_93) rfl rfl k))) ?_
  show Gets p e below _ (T25.setTop (mkF m 95 #[.val (.int p0), .val (.int p1), .val (.int p2), .val (.ref a1), .val (.ref a4), .val (.ref a7), .val (.ref t7), .val (.ref a1), .val (.ref a4)] [(.ref a4), (.ref a4)]))
  have f27 : Exa Z h7 a4 "java/lang/String" := g4_0.keep K7
  refine X25.callV (y := (⟨"java/lang/String", "equals", "(Ljava/lang/Object;)Z"⟩ : MethodName)) (z := (⟨"java/lang/String", "equals", "(Ljava/lang/Object;)Z"⟩ : MethodName)) (W := 0) (w91 hw) (w92 hw) (w94 hw) (w93 hw) (nfs rfl (w94 hw)) (by decide) (X25.payM (sf := []) (rm16 l Z a0 hw hEL zc O2 P5 a4 h7 X25.old ) sf0 (w95 hw) (w6 hw) (by decide) (by decide)) f27 rfl (by rw [hml]; rfl) (argsL := [(.ref a4)]) (rest := []) (lenOf pd15 rfl) rfl rfl (by show 2 * 0 + _ ≤ _; exact Nat.le_of_eq rfl) (hb hby at_95) (by decide) (by decide) fun T28 h28 vm28 v28 X28 C28 z28 q28 => ?_
  obtain ⟨rfl, K28⟩ := q28
  rw [K28] at X28 C28
  have A29 := X28.at
  show Gets p e below _ (T28.setTop (mkF m 98 #[.val (.int p0), .val (.int p1), .val (.int p2), .val (.ref a1), .val (.ref a4), .val (.ref a7), .val (.ref t7), .val (.ref a1), .val (.ref a4)] [(.int (1 : Int32))]))
  refine Gets.via (fun _ k => (XS.ifNo A29 hx rfl (hb hby at_98) rfl (Jvm.Free.XT.i0_eq_f (by decide)) k)) ?_
  show Gets p e below _ (T28.setTop (mkF m 101 #[.val (.int p0), .val (.int p1), .val (.int p2), .val (.ref a1), .val (.ref a4), .val (.ref a7), .val (.ref t7), .val (.ref a1), .val (.ref a4)] []))
  refine Gets.via (fun _ k => (XS.iconst A29 hx rfl (hb hby at_101) (XS.goto A29 hx rfl (pc0 := 102) (pc' := 106) rfl (hb hby at_102) (by decide) (by decide) k))) ?_
  show Gets p e below _ (T28.setTop (mkF m 106 #[.val (.int p0), .val (.int p1), .val (.int p2), .val (.ref a1), .val (.ref a4), .val (.ref a7), .val (.ref t7), .val (.ref a1), .val (.ref a4)] [(.int (1 : Int32))]))
  exact X28.retI hret (by decide) (by simp) (hb hby at_106) (by decide) (by decide) ⟨rfl, ((((Keep.refl h0 []).trans K1 all0).trans K4 all0).trans K7 all0)⟩
set_option maxRecDepth 65536 in
set_option maxHeartbeats 40000000 in
theorem comes_1 {Post : Tables → Env → Array Value → State → Outcome → State → Prop} (hpost : ∀ tb e args s v u, (limb_1_1.after args s (.returned v) u = true ∧ limb_1_2.after args s (.returned v) u = true ∧ True) → FramedW s (.returned v) u (Jvm.fieldLocs frame_1_writes args s ++ Jvm.arrayLocs frame_1_arrays args s ++ Jvm.staticLocs frame_1_statics s) 32 3200 → Post tb e args s (.returned v) u) :
    ArmFor flags0 classFile x code maxLocals ret World_1 tables_1 room_1 Calls_1 rest_1 Pre_1 Post := by
  intro l hfl _ _ p e ha hc hk s m args below hf hA hF happ hP
  obtain ⟨hcalls, hrest, hpre⟩ := hP
  obtain ⟨-, -, -, hnamed, -, -, -, hat⟩ := (Spec.applies_iff hf).mp happ
  obtain ⟨hg, hn⟩ := and_e (Cond.before_iff.mp (show (Jvm.Cond.and given_1 narrow_1).before args s = true from hpre))
  obtain ⟨h1, h2⟩ := and_e hg
  obtain ⟨w0, w1, w2, rfl⟩ : ∃ w0 w1 w2 : Value, args = #[w0, w1, w2] := by
    have hs : args.size = 3 := by simpa [Cond.value, given_1] using h1
    obtain ⟨L⟩ := args
    match L, hs with
    | [w0, w1, w2], _ => exact ⟨w0, w1, w2, rfl⟩
  have hw := fun d (hd : d ∈ tables_1) => atoms_spec (ws := Jvm.Cond.code x code maxLocals ret :: tables_1) hat d (List.mem_cons_of_mem _ hd)
  obtain ⟨u0, r0⟩ := and_e h2
  obtain ⟨i0, e0⟩ := is_v u0
  obtain rfl : w0 = (.int i0) := Option.some.inj e0
  obtain ⟨u1, r1⟩ := and_e r0
  obtain ⟨i1, e1⟩ := is_v u1
  obtain rfl : w1 = (.int i1) := Option.some.inj e1
  obtain ⟨i2, e2⟩ := is_v r1
  obtain rfl : w2 = (.int i2) := Option.some.inj e2
  obtain ⟨hst, hown0⟩ := atoms_of _ (rest_1_c_eq ▸ (show rest_1_c.before _ s = true from hrest))
  obtain ⟨zc, ez⟩ := is_v (Cond.before_iff.mp (hst _ (List.mem_of_getElem? (i := 1) rfl)))
  have O2 : Sta s s.heap "java/lang/String" "COMPACT_STRINGS" "Z" (.int zc) := Sta.start ez (Or.inl (hst _ (List.mem_of_getElem? (i := 0) rfl)))
  have P5 : ¬ zc = 0 := gotF (Cond.eq_ints ez (Term.int_eval (0))) (not_v (Cond.before_iff.mp (hst _ (List.mem_of_getElem? (i := 2) rfl))))
  have hEL : EW s _ consts_1 := (EW.cons (w34 hw) (by decide) (EW.cons (w66 hw) (by decide) (EW.cons (w71 hw) (by decide) EW.nil)))
  have hCH : CHv s consts_1 s.vm s.heap := CHv.start hEL hcalls.1 (hst _ (List.mem_of_getElem? (i := 2) rfl)) (w23 hw) (w5 hw)
  obtain ⟨n, o, h1, h2, h3, v, L, rfl, ⟨⟨rfl, -⟩, N, -⟩, -, hq⟩ := rmLaw l s _ hw hEL zc O2 P5 i0 i1 i2 s.heap (Old.start s) p e ha hc hk s m _ below hf ((Spec.applies_iff_loose hf).mp happ).1 ⟨rfl, State.Warmed39.refl s, rfl, hCH, fun _ q => nomatch q⟩ trivial
  refine ⟨n, _, h1, h2, h3, hpost _ _ _ _ _ _ ⟨Cond.after_iff.mpr rfl, Cond.after_iff.mpr (eq_i res_at (Term.int_eval (1)) rfl), trivial⟩ ⟨hq.1, hq.2.1, hq.2.2.1, (hq.2.2.2.sift fun y hy => Or.inr (N y hy)).mono (by decide) (by decide)⟩⟩
theorem main_1_1 : Claimed_1_1 := comes_1 fun _ _ _ _ _ _ h hF => ⟨h.1, hF⟩
theorem main_1_2 : Claimed_1_2 := comes_1 fun _ _ _ _ _ _ h hF => ⟨h.2.1, hF⟩
end Jvm.Pilot.@@N@@
namespace Jvm.Pilot.@@N@@
open Jvm Jvm.ClassFile Sem Op Lib Jvm.Free Jvm.Stand Jvm.Pilot.@@N@@.Jvm.D
/-! MADE BY PROGRAM (witnessworld.py) out of the Statement's table words and the real class files: 23 classes; the members and pool entries that the words name. The judged class is class 1, her method 2. -/
namespace start1
open Jvm.ClassFile
def u (s : String) : CpInfo := .utf8 (stringToUtf16 s)
/-- a pool by its gaps: so many unusable entries, then the entry; so many at the end -/
def gap : Nat → List CpInfo → List CpInfo
  | 0, r => r
  | n + 1, r => .unusable :: gap n r
def poolList (es : List (Nat × CpInfo)) (last : Nat) : List CpInfo := es.foldr (fun e r => gap e.1 (e.2 :: r)) (gap last [])
def pool (es : List (Nat × CpInfo)) (last : Nat) : Array CpInfo := ⟨poolList es last⟩
def fileOf (pool : Array CpInfo) (this : Nat) (attrs : Array Attribute := #[]) (ms : Array MethodInfo := #[]) (fl : Nat := 33) (sup : Nat := 0) (ifs : Array Nat := #[]) (fds : Array FieldInfo := #[]) : ClassFile where
  minorVersion := 0
  majorVersion := 65
  constantPool := pool
  accessFlags := fl
  thisClass := this
  superClass := sup
  interfaces := ifs
  fields := fds
  methods := ms
  attributes := attrs
def plain (name : String) (sup : Option ClassId) : Class where
  name := name
  kind := .ordinary
  loader := none
  accessFlags := 33
  super := sup
  interfaces := #[]
  cf := none
  fields := #[]
  methods := #[]
  instanceTypes := #[]
  staticTypes := #[]
  resolved := #[]
  callSites := []
  init := .initialized
  statics := none
  mirror := none

def pool0 : Array CpInfo := pool [(5, u "<init>"), (0, u "()V"), (1, .class_ 10), (1, u "java/lang/Object")] 113

def k0c0 : Code := { maxStack := 0, maxLocals := 1, code := object_method_1_code, exceptionTable := #[], attributes := #[] }
def k0m0 : Method := { name := "<init>", desc := "()V", sig := { parameters := [], returnType := none }, accessFlags := 1, code := some k0c0 }
/-- java/lang/Object -/
def k0 : Class := { plain "java/lang/Object" none with
  accessFlags := 33
  interfaces := #[]
  cf := some (fileOf pool0 8 #[] #[{ accessFlags := 1, nameIndex := 5, descriptorIndex := 6, attributes := #[] }] 33 0 #[] #[])
  fields := #[]
  methods := #[k0m0]
  instanceTypes := #[]
  staticTypes := #[]
  resolved := Array.replicate 124 none
  statics := none }

def pool1 : Array CpInfo := pool [(2, .class_ 4), (1, u "java/lang/Object"), (0, u "<init>"), (0, u "()V"), (0, .class_ 8), (0, u "java/lang/String"), (0, .methodref 7 10), (0, .nameAndType 5 11), (0, u "([C)V"), (0, .methodref 7 13), (0, .nameAndType 14 15), (0, u "valueOf"), (0, u "(C)Ljava/lang/String;"), (0, .methodref 17 18), (0, .class_ 19), (0, .nameAndType 20 21), (0, u "org/holdfast/model/IdentifierOfPinLaw"), (0, u "mk"), (0, u "(II)Ljava/lang/String;"), (0, .methodref 23 24), (0, .class_ 25), (0, .nameAndType 26 27), (0, u "org/holdfast/model/Identifier"), (0, u "of"), (0, u "(Ljava/lang/String;Ljava/lang/String;)Lorg/holdfast/model/Identifier;"), (0, .methodref 23 29), (0, .nameAndType 30 31), (0, u "typeOrSource"), (0, u "()Lorg/holdfast/model/TypeOrSource;"), (0, .methodref 23 33), (0, .nameAndType 34 35), (0, u "value"), (0, u "()Ljava/lang/String;"), (0, .methodref 37 38), (0, .class_ 39), (0, .nameAndType 40 35), (0, u "org/holdfast/model/TypeOrSource"), (0, u "text"), (0, .methodref 7 42), (0, .nameAndType 43 44), (0, u "equals"), (0, u "(Ljava/lang/Object;)Z"), (0, .methodref 37 46), (0, .nameAndType 47 35), (0, u "pointer"), (3, u "law"), (0, u "(III)Z")] 2

def k1m0 : Method := { name := "<init>", desc := "()V", sig := { parameters := [], returnType := none }, accessFlags := 1, code := none }
def k1c1 : Code := { maxStack := 6, maxLocals := 5, code := method_2_code, exceptionTable := #[], attributes := #[] }
def k1m1 : Method := { name := "mk", desc := "(II)Ljava/lang/String;", sig := { parameters := [.int, .int], returnType := some (.object "java/lang/String") }, accessFlags := 10, code := some k1c1 }
def k1c2 : Code := { maxStack := 2, maxLocals := 9, code := code, exceptionTable := #[], attributes := #[] }
def k1m2 : Method := { name := "law", desc := "(III)Z", sig := { parameters := [.int, .int, .int], returnType := some .boolean }, accessFlags := 9, code := some k1c2 }
/-- org/holdfast/model/IdentifierOfPinLaw -/
def k1 : Class := { plain "org/holdfast/model/IdentifierOfPinLaw" (some 0) with
  accessFlags := 49
  interfaces := #[]
  cf := some (fileOf pool1 17 #[] #[{ accessFlags := 1, nameIndex := 5, descriptorIndex := 6, attributes := #[] }, { accessFlags := 10, nameIndex := 20, descriptorIndex := 21, attributes := #[] }, { accessFlags := 9, nameIndex := 51, descriptorIndex := 52, attributes := #[] }] 49 2 #[] #[])
  fields := #[]
  methods := #[k1m0, k1m1, k1m2]
  instanceTypes := #[]
  staticTypes := #[]
  resolved := Array.replicate 55 none
  statics := none }

def pool2 : Array CpInfo := pool [(1, .class_ 2), (0, u "java/io/Serializable"), (0, .class_ 4), (0, u "java/lang/Object")] 2

/-- java/io/Serializable -/
def k2 : Class := { plain "java/io/Serializable" (some 0) with
  accessFlags := 1537
  interfaces := #[]
  cf := some (fileOf pool2 1 #[] #[] 1537 3 #[] #[])
  fields := #[]
  methods := #[]
  instanceTypes := #[]
  staticTypes := #[]
  resolved := Array.replicate 7 none
  statics := none }

def pool3 : Array CpInfo := pool [(1, .class_ 2), (0, u "java/lang/Comparable"), (0, .class_ 4), (0, u "java/lang/Object")] 7

/-- java/lang/Comparable -/
def k3 : Class := { plain "java/lang/Comparable" (some 0) with
  accessFlags := 1537
  interfaces := #[]
  cf := some (fileOf pool3 1 #[] #[] 1537 3 #[] #[])
  fields := #[]
  methods := #[]
  instanceTypes := #[]
  staticTypes := #[]
  resolved := Array.replicate 12 none
  statics := none }

def pool4 : Array CpInfo := pool [(2, .class_ 4), (1, u "java/lang/CharSequence"), (42, .class_ 48), (0, u "java/lang/CharSequence$1CodePointIterator"), (10, .class_ 60), (0, u "java/lang/CharSequence$1CharIterator"), (5, .class_ 67), (0, u "java/lang/Object")] 63

/-- java/lang/CharSequence -/
def k4 : Class := { plain "java/lang/CharSequence" (some 0) with
  accessFlags := 1537
  interfaces := #[]
  cf := some (fileOf pool4 2 #[.nestMembers #[47, 59]] #[] 1537 66 #[] #[])
  fields := #[]
  methods := #[]
  instanceTypes := #[]
  staticTypes := #[]
  resolved := Array.replicate 131 none
  statics := none }

def pool5 : Array CpInfo := pool [(1, .class_ 2), (0, u "java/lang/constant/Constable"), (0, .class_ 4), (0, u "java/lang/Object")] 6

/-- java/lang/constant/Constable -/
def k5 : Class := { plain "java/lang/constant/Constable" (some 0) with
  accessFlags := 1537
  interfaces := #[]
  cf := some (fileOf pool5 1 #[] #[] 1537 3 #[] #[])
  fields := #[]
  methods := #[]
  instanceTypes := #[]
  staticTypes := #[]
  resolved := Array.replicate 11 none
  statics := none }

def pool6 : Array CpInfo := pool [(1, .class_ 2), (0, u "java/lang/constant/ConstantDesc"), (0, .class_ 4), (0, u "java/lang/Object")] 32

/-- java/lang/constant/ConstantDesc -/
def k6 : Class := { plain "java/lang/constant/ConstantDesc" (some 0) with
  accessFlags := 1537
  interfaces := #[]
  cf := some (fileOf pool6 1 #[] #[] 1537 3 #[] #[])
  fields := #[]
  methods := #[]
  instanceTypes := #[]
  staticTypes := #[]
  resolved := Array.replicate 37 none
  statics := none }

def pool7 : Array CpInfo := pool [(1, .methodref 2 3), (0, .class_ 4), (0, .nameAndType 5 6), (0, u "java/lang/Object"), (0, u "<init>"), (0, u "()V"), (0, .string 8), (0, u ""), (0, .fieldref 10 11), (0, .class_ 12), (0, .nameAndType 13 14), (0, u "java/lang/String"), (0, u "value"), (0, u "[B"), (0, .fieldref 10 16), (0, .nameAndType 17 18), (0, u "coder"), (0, u "B"), (2, u "hash"), (0, u "I"), (2, u "hashIsZero"), (0, u "Z"), (0, .methodref 10 28), (0, .nameAndType 5 29), (0, u "([CIILjava/lang/Void;)V"), (8, .fieldref 10 39), (0, .nameAndType 40 26), (0, u "COMPACT_STRINGS"), (1, .class_ 44), (1, u "java/lang/StringUTF16"), (0, u "compress"), (1, .methodref 42 48), (0, .nameAndType 49 50), (0, u "coderFromArrayLen"), (0, u "([BI)B"), (2, u "toBytes"), (53, .class_ 109), (1, u "java/lang/StringLatin1"), (67, .methodref 42 178), (0, .nameAndType 45 179), (0, u "([CII)[B"), (29, .methodref 10 210), (0, .nameAndType 5 211), (0, u "([BB)V"), (157, u "(C)Z"), (173, u "equals"), (29, u "(Ljava/lang/Object;)Z"), (1, .class_ 576), (0, u "java/lang/CharSequence"), (22, u "CASE_INSENSITIVE_ORDER"), (0, u "Ljava/util/Comparator;"), (181, u "valueOf"), (0, u "(C)Ljava/lang/String;"), (226, u "([C)V"), (4, .methodref 107 1016), (0, .nameAndType 1017 369), (0, u "canEncode"), (0, .methodref 107 1019), (0, .nameAndType 53 1020), (0, u "(C)[B"), (80, u "serialPersistentFields"), (0, u "[Ljava/io/ObjectStreamField;"), (0, .class_ 1104), (0, u "java/lang/String$CaseInsensitiveComparator"), (1, .class_ 1107), (0, u "java/io/Serializable"), (0, .class_ 1109), (0, u "java/lang/Comparable"), (0, .class_ 1111), (0, u "java/lang/constant/Constable"), (0, .class_ 1113), (0, u "java/lang/constant/ConstantDesc"), (2, u "serialVersionUID"), (0, u "J"), (3, u "REPL"), (0, u "C"), (2, u "LATIN1"), (1, u "UTF16")] 323

def k7m0 : Method := { name := "<init>", desc := "()V", sig := { parameters := [], returnType := none }, accessFlags := 1, code := none }
def k7c1 : Code := { maxStack := 5, maxLocals := 2, code := jdk_42_method_3_code, exceptionTable := #[], attributes := #[] }
def k7m1 : Method := { name := "<init>", desc := "([C)V", sig := { parameters := [(.array .char)], returnType := none }, accessFlags := 1, code := some k7c1 }
def k7c2 : Code := { maxStack := 2, maxLocals := 3, code := jdk_42_method_66_code, exceptionTable := #[], attributes := #[] }
def k7m2 : Method := { name := "equals", desc := "(Ljava/lang/Object;)Z", sig := { parameters := [(.object "java/lang/Object")], returnType := some .boolean }, accessFlags := 1, code := some k7c2 }
def k7c3 : Code := { maxStack := 4, maxLocals := 1, code := jdk_42_method_139_code, exceptionTable := #[], attributes := #[] }
def k7m3 : Method := { name := "valueOf", desc := "(C)Ljava/lang/String;", sig := { parameters := [.char], returnType := some (.object "java/lang/String") }, accessFlags := 9, code := some k7c3 }
def k7c4 : Code := { maxStack := 4, maxLocals := 6, code := jdk_42_method_149_code, exceptionTable := #[], attributes := #[] }
def k7m4 : Method := { name := "<init>", desc := "([CIILjava/lang/Void;)V", sig := { parameters := [(.array .char), .int, .int, (.object "java/lang/Void")], returnType := none }, accessFlags := 2, code := some k7c4 }
def k7c5 : Code := { maxStack := 2, maxLocals := 3, code := jdk_42_method_151_code, exceptionTable := #[], attributes := #[] }
def k7m5 : Method := { name := "<init>", desc := "([BB)V", sig := { parameters := [(.array .byte), .byte], returnType := none }, accessFlags := 0, code := some k7c5 }
/-- java/lang/String -/
def k7 : Class := { plain "java/lang/String" (some 0) with
  accessFlags := 49
  interfaces := #[2, 3, 4, 5, 6]
  cf := some (fileOf pool7 10 #[.nestMembers #[1103]] #[{ accessFlags := 1, nameIndex := 5, descriptorIndex := 6, attributes := #[] }, { accessFlags := 1, nameIndex := 5, descriptorIndex := 1010, attributes := #[] }, { accessFlags := 1, nameIndex := 543, descriptorIndex := 573, attributes := #[] }, { accessFlags := 9, nameIndex := 782, descriptorIndex := 783, attributes := #[] }, { accessFlags := 2, nameIndex := 5, descriptorIndex := 29, attributes := #[] }, { accessFlags := 0, nameIndex := 5, descriptorIndex := 211, attributes := #[] }] 49 2 #[1106, 1108, 575, 1110, 1112] #[{ accessFlags := 18, nameIndex := 13, descriptorIndex := 14, attributes := #[] }, { accessFlags := 18, nameIndex := 17, descriptorIndex := 18, attributes := #[] }, { accessFlags := 2, nameIndex := 21, descriptorIndex := 22, attributes := #[] }, { accessFlags := 2, nameIndex := 25, descriptorIndex := 26, attributes := #[] }, { accessFlags := 26, nameIndex := 1116, descriptorIndex := 1117, attributes := #[] }, { accessFlags := 24, nameIndex := 40, descriptorIndex := 26, attributes := #[] }, { accessFlags := 26, nameIndex := 1101, descriptorIndex := 1102, attributes := #[] }, { accessFlags := 26, nameIndex := 1121, descriptorIndex := 1122, attributes := #[] }, { accessFlags := 25, nameIndex := 599, descriptorIndex := 600, attributes := #[] }, { accessFlags := 24, nameIndex := 1125, descriptorIndex := 18, attributes := #[] }, { accessFlags := 24, nameIndex := 1127, descriptorIndex := 18, attributes := #[] }])
  fields := #[{ name := "value", type := (.array .byte), accessFlags := 18, slot := 0, constantValue := 0 }, { name := "coder", type := .byte, accessFlags := 18, slot := 1, constantValue := 0 }, { name := "hash", type := .int, accessFlags := 2, slot := 2, constantValue := 0 }, { name := "hashIsZero", type := .boolean, accessFlags := 2, slot := 3, constantValue := 0 }, { name := "serialVersionUID", type := .long, accessFlags := 26, slot := 0, constantValue := 0 }, { name := "COMPACT_STRINGS", type := .boolean, accessFlags := 24, slot := 1, constantValue := 0 }, { name := "serialPersistentFields", type := (.array (.object "java/io/ObjectStreamField")), accessFlags := 26, slot := 2, constantValue := 0 }, { name := "REPL", type := .char, accessFlags := 26, slot := 3, constantValue := 0 }, { name := "CASE_INSENSITIVE_ORDER", type := (.object "java/util/Comparator"), accessFlags := 25, slot := 4, constantValue := 0 }, { name := "LATIN1", type := .byte, accessFlags := 24, slot := 5, constantValue := 0 }, { name := "UTF16", type := .byte, accessFlags := 24, slot := 6, constantValue := 0 }]
  methods := #[k7m0, k7m1, k7m2, k7m3, k7m4, k7m5]
  instanceTypes := #[(.array .byte), .byte, .int, .boolean]
  staticTypes := #[.long, .boolean, (.array (.object "java/io/ObjectStreamField")), .char, (.object "java/util/Comparator"), .byte, .byte]
  resolved := Array.replicate 1451 none
  statics := some 0 }

def pool8 : Array CpInfo := pool [(6, .class_ 8), (1, u "java/lang/Object"), (0, u "<init>"), (0, u "()V"), (1, .class_ 14), (1, u "java/lang/StringUTF16"), (31, u "$assertionsDisabled"), (0, u "Z"), (13, u "HI_BYTE_SHIFT"), (0, u "I"), (2, u "LO_BYTE_SHIFT"), (49, .methodref 12 116), (0, .nameAndType 117 118), (0, u "compress"), (0, u "([CI[BII)I"), (3, u "([CII)[B"), (138, u "coderFromArrayLen"), (0, u "([BI)B"), (106, .class_ 371), (1, u "java/lang/StringUTF16$LinesSpliterator"), (58, u "MAX_LENGTH"), (196, .class_ 628), (0, u "java/lang/StringUTF16$CodePointsSpliterator"), (0, .class_ 630), (0, u "java/lang/StringUTF16$CharsSpliterator")] 4

def k8m0 : Method := { name := "<init>", desc := "()V", sig := { parameters := [], returnType := none }, accessFlags := 0, code := none }
def k8c1 : Code := { maxStack := 2, maxLocals := 2, code := jdk_52_method_15_code, exceptionTable := #[], attributes := #[] }
def k8m1 : Method := { name := "coderFromArrayLen", desc := "([BI)B", sig := { parameters := [(.array .byte), .int], returnType := some .byte }, accessFlags := 8, code := some k8c1 }
def k8c2 : Code := { maxStack := 5, maxLocals := 6, code := jdk_52_method_16_code, exceptionTable := #[], attributes := #[] }
def k8m2 : Method := { name := "compress", desc := "([CII)[B", sig := { parameters := [(.array .char), .int, .int], returnType := some (.array .byte) }, accessFlags := 9, code := some k8c2 }
def k8c3 : Code := { maxStack := 3, maxLocals := 7, code := jdk_52_method_21_code, exceptionTable := #[], attributes := #[] }
def k8m3 : Method := { name := "compress", desc := "([CI[BII)I", sig := { parameters := [(.array .char), .int, (.array .byte), .int, .int], returnType := some .int }, accessFlags := 9, code := some k8c3 }
/-- java/lang/StringUTF16 -/
def k8 : Class := { plain "java/lang/StringUTF16" (some 0) with
  accessFlags := 48
  interfaces := #[]
  cf := some (fileOf pool8 12 #[.nestMembers #[627, 629, 369]] #[{ accessFlags := 0, nameIndex := 9, descriptorIndex := 10, attributes := #[] }, { accessFlags := 8, nameIndex := 261, descriptorIndex := 262, attributes := #[] }, { accessFlags := 9, nameIndex := 117, descriptorIndex := 122, attributes := #[] }, { accessFlags := 9, nameIndex := 117, descriptorIndex := 118, attributes := #[] }] 48 6 #[] #[{ accessFlags := 26, nameIndex := 61, descriptorIndex := 62, attributes := #[] }, { accessFlags := 26, nameIndex := 65, descriptorIndex := 62, attributes := #[] }, { accessFlags := 24, nameIndex := 430, descriptorIndex := 62, attributes := #[] }, { accessFlags := 4120, nameIndex := 46, descriptorIndex := 47, attributes := #[] }])
  fields := #[{ name := "HI_BYTE_SHIFT", type := .int, accessFlags := 26, slot := 0, constantValue := 0 }, { name := "LO_BYTE_SHIFT", type := .int, accessFlags := 26, slot := 1, constantValue := 0 }, { name := "MAX_LENGTH", type := .int, accessFlags := 24, slot := 2, constantValue := 0 }, { name := "$assertionsDisabled", type := .boolean, accessFlags := 4120, slot := 3, constantValue := 0 }]
  methods := #[k8m0, k8m1, k8m2, k8m3]
  instanceTypes := #[]
  staticTypes := #[.int, .int, .int, .boolean]
  resolved := Array.replicate 635 none
  statics := none }

def pool9 : Array CpInfo := pool [(1, .methodref 2 3), (0, .class_ 4), (0, .nameAndType 5 6), (0, u "java/lang/Object"), (0, u "<init>"), (0, u "()V"), (0, .class_ 8), (0, u "java/lang/Record")] 13

def k9c0 : Code := { maxStack := 1, maxLocals := 1, code := jdk_30_method_1_code, exceptionTable := #[], attributes := #[] }
def k9m0 : Method := { name := "<init>", desc := "()V", sig := { parameters := [], returnType := none }, accessFlags := 4, code := some k9c0 }
/-- java/lang/Record -/
def k9 : Class := { plain "java/lang/Record" (some 0) with
  accessFlags := 1057
  interfaces := #[]
  cf := some (fileOf pool9 7 #[] #[{ accessFlags := 4, nameIndex := 5, descriptorIndex := 6, attributes := #[] }] 1057 2 #[] #[])
  fields := #[]
  methods := #[k9m0]
  instanceTypes := #[]
  staticTypes := #[]
  resolved := Array.replicate 22 none
  statics := none }

def pool10 : Array CpInfo := pool [(1, .methodref 2 3), (0, .class_ 4), (0, .nameAndType 5 6), (0, u "java/lang/Record"), (0, u "<init>"), (0, u "()V"), (0, .string 8), (0, u "value"), (0, .methodref 10 11), (0, .class_ 12), (0, .nameAndType 13 14), (0, u "java/util/Objects"), (0, u "requireNonNull"), (0, u "(Ljava/lang/Object;Ljava/lang/String;)Ljava/lang/Object;"), (0, .string 16), (0, u "typeOrSource"), (0, .fieldref 18 19), (0, .class_ 20), (0, .nameAndType 8 21), (0, u "org/holdfast/model/Identifier"), (0, u "Ljava/lang/String;"), (0, .fieldref 18 23), (0, .nameAndType 16 24), (0, u "Lorg/holdfast/model/TypeOrSource;"), (0, .methodref 26 27), (0, .class_ 28), (0, .nameAndType 29 30), (0, u "org/holdfast/model/TypeOrSource"), (0, u "text"), (0, u "(Ljava/lang/String;)Lorg/holdfast/model/TypeOrSource;"), (0, .methodref 18 32), (0, .nameAndType 5 33), (0, u "(Ljava/lang/String;Lorg/holdfast/model/TypeOrSource;)V"), (15, u "of"), (0, u "(Ljava/lang/String;Ljava/lang/String;)Lorg/holdfast/model/Identifier;"), (0, u "()Ljava/lang/String;"), (2, u "()Lorg/holdfast/model/TypeOrSource;")] 21

def k10c0 : Code := { maxStack := 2, maxLocals := 3, code := prog_38_method_1_code, exceptionTable := #[], attributes := #[] }
def k10m0 : Method := { name := "<init>", desc := "(Ljava/lang/String;Lorg/holdfast/model/TypeOrSource;)V", sig := { parameters := [(.object "java/lang/String"), (.object "org/holdfast/model/TypeOrSource")], returnType := none }, accessFlags := 1, code := some k10c0 }
def k10c1 : Code := { maxStack := 4, maxLocals := 2, code := prog_38_method_2_code, exceptionTable := #[], attributes := #[] }
def k10m1 : Method := { name := "of", desc := "(Ljava/lang/String;Ljava/lang/String;)Lorg/holdfast/model/Identifier;", sig := { parameters := [(.object "java/lang/String"), (.object "java/lang/String")], returnType := some (.object "org/holdfast/model/Identifier") }, accessFlags := 9, code := some k10c1 }
def k10c2 : Code := { maxStack := 1, maxLocals := 1, code := prog_38_method_6_code, exceptionTable := #[], attributes := #[] }
def k10m2 : Method := { name := "value", desc := "()Ljava/lang/String;", sig := { parameters := [], returnType := some (.object "java/lang/String") }, accessFlags := 1, code := some k10c2 }
def k10c3 : Code := { maxStack := 1, maxLocals := 1, code := prog_38_method_7_code, exceptionTable := #[], attributes := #[] }
def k10m3 : Method := { name := "typeOrSource", desc := "()Lorg/holdfast/model/TypeOrSource;", sig := { parameters := [], returnType := some (.object "org/holdfast/model/TypeOrSource") }, accessFlags := 1, code := some k10c3 }
/-- org/holdfast/model/Identifier -/
def k10 : Class := { plain "org/holdfast/model/Identifier" (some 9) with
  accessFlags := 49
  interfaces := #[]
  cf := some (fileOf pool10 18 #[] #[{ accessFlags := 1, nameIndex := 5, descriptorIndex := 33, attributes := #[] }, { accessFlags := 9, nameIndex := 49, descriptorIndex := 50, attributes := #[] }, { accessFlags := 1, nameIndex := 8, descriptorIndex := 51, attributes := #[] }, { accessFlags := 1, nameIndex := 16, descriptorIndex := 54, attributes := #[] }] 49 2 #[] #[{ accessFlags := 18, nameIndex := 8, descriptorIndex := 21, attributes := #[] }, { accessFlags := 18, nameIndex := 16, descriptorIndex := 24, attributes := #[] }])
  fields := #[{ name := "value", type := (.object "java/lang/String"), accessFlags := 18, slot := 0, constantValue := 0 }, { name := "typeOrSource", type := (.object "org/holdfast/model/TypeOrSource"), accessFlags := 18, slot := 1, constantValue := 0 }]
  methods := #[k10m0, k10m1, k10m2, k10m3]
  instanceTypes := #[(.object "java/lang/String"), (.object "org/holdfast/model/TypeOrSource")]
  staticTypes := #[]
  resolved := Array.replicate 76 none
  statics := none }

def pool11 : Array CpInfo := pool [(1, .methodref 2 3), (0, .class_ 4), (0, .nameAndType 5 6), (0, u "java/lang/Record"), (0, u "<init>"), (0, u "()V"), (7, .fieldref 15 16), (0, .class_ 17), (0, .nameAndType 18 19), (0, u "org/holdfast/model/TypeOrSource"), (0, u "pointer"), (0, u "Ljava/lang/String;"), (0, .fieldref 15 21), (0, .nameAndType 22 19), (0, u "text"), (0, .methodref 15 24), (0, .nameAndType 5 25), (0, u "(Ljava/lang/String;Ljava/lang/String;)V"), (18, u "(Ljava/lang/String;)Lorg/holdfast/model/TypeOrSource;"), (0, u "()Ljava/lang/String;")] 23

def k11c0 : Code := { maxStack := 3, maxLocals := 3, code := prog_44_method_1_code, exceptionTable := #[], attributes := #[] }
def k11m0 : Method := { name := "<init>", desc := "(Ljava/lang/String;Ljava/lang/String;)V", sig := { parameters := [(.object "java/lang/String"), (.object "java/lang/String")], returnType := none }, accessFlags := 1, code := some k11c0 }
def k11c1 : Code := { maxStack := 4, maxLocals := 1, code := prog_44_method_2_code, exceptionTable := #[], attributes := #[] }
def k11m1 : Method := { name := "text", desc := "(Ljava/lang/String;)Lorg/holdfast/model/TypeOrSource;", sig := { parameters := [(.object "java/lang/String")], returnType := some (.object "org/holdfast/model/TypeOrSource") }, accessFlags := 9, code := some k11c1 }
def k11c2 : Code := { maxStack := 1, maxLocals := 1, code := prog_44_method_6_code, exceptionTable := #[], attributes := #[] }
def k11m2 : Method := { name := "pointer", desc := "()Ljava/lang/String;", sig := { parameters := [], returnType := some (.object "java/lang/String") }, accessFlags := 1, code := some k11c2 }
def k11c3 : Code := { maxStack := 1, maxLocals := 1, code := prog_44_method_7_code, exceptionTable := #[], attributes := #[] }
def k11m3 : Method := { name := "text", desc := "()Ljava/lang/String;", sig := { parameters := [], returnType := some (.object "java/lang/String") }, accessFlags := 1, code := some k11c3 }
/-- org/holdfast/model/TypeOrSource -/
def k11 : Class := { plain "org/holdfast/model/TypeOrSource" (some 9) with
  accessFlags := 49
  interfaces := #[]
  cf := some (fileOf pool11 15 #[] #[{ accessFlags := 1, nameIndex := 5, descriptorIndex := 25, attributes := #[] }, { accessFlags := 9, nameIndex := 22, descriptorIndex := 44, attributes := #[] }, { accessFlags := 1, nameIndex := 18, descriptorIndex := 45, attributes := #[] }, { accessFlags := 1, nameIndex := 22, descriptorIndex := 45, attributes := #[] }] 49 2 #[] #[{ accessFlags := 18, nameIndex := 18, descriptorIndex := 19, attributes := #[] }, { accessFlags := 18, nameIndex := 22, descriptorIndex := 19, attributes := #[] }])
  fields := #[{ name := "pointer", type := (.object "java/lang/String"), accessFlags := 18, slot := 0, constantValue := 0 }, { name := "text", type := (.object "java/lang/String"), accessFlags := 18, slot := 1, constantValue := 0 }]
  methods := #[k11m0, k11m1, k11m2, k11m3]
  instanceTypes := #[(.object "java/lang/String"), (.object "java/lang/String")]
  staticTypes := #[]
  resolved := Array.replicate 69 none
  statics := none }

def pool12 : Array CpInfo := pool [(2, .class_ 4), (1, u "java/lang/Object"), (0, u "<init>"), (0, u "()V"), (35, .class_ 44), (1, u "java/util/Objects"), (0, u "requireNonNull"), (48, u "(Ljava/lang/Object;Ljava/lang/String;)Ljava/lang/Object;")] 89

def k12m0 : Method := { name := "<init>", desc := "()V", sig := { parameters := [], returnType := none }, accessFlags := 2, code := none }
def k12c1 : Code := { maxStack := 3, maxLocals := 2, code := jdk_31_method_11_code, exceptionTable := #[], attributes := #[] }
def k12m1 : Method := { name := "requireNonNull", desc := "(Ljava/lang/Object;Ljava/lang/String;)Ljava/lang/Object;", sig := { parameters := [(.object "java/lang/Object"), (.object "java/lang/String")], returnType := some (.object "java/lang/Object") }, accessFlags := 9, code := some k12c1 }
/-- java/util/Objects -/
def k12 : Class := { plain "java/util/Objects" (some 0) with
  accessFlags := 49
  interfaces := #[]
  cf := some (fileOf pool12 42 #[] #[{ accessFlags := 2, nameIndex := 5, descriptorIndex := 6, attributes := #[] }, { accessFlags := 9, nameIndex := 45, descriptorIndex := 94, attributes := #[] }] 49 2 #[] #[])
  fields := #[]
  methods := #[k12m0, k12m1]
  instanceTypes := #[]
  staticTypes := #[]
  resolved := Array.replicate 184 none
  statics := none }

def pool13 : Array CpInfo := pool [(4, .class_ 6), (1, u "java/lang/Object"), (0, u "<init>"), (0, u "()V"), (5, .class_ 16), (1, u "java/lang/StringLatin1"), (73, u "canEncode"), (14, u "(C)Z"), (15, u "$assertionsDisabled"), (0, u "Z"), (98, .class_ 223), (1, u "java/lang/StringLatin1$LinesSpliterator"), (156, u "toBytes"), (1, u "(C)[B"), (7, .class_ 391), (0, u "java/lang/StringLatin1$CharsSpliterator")] 3

def k13m0 : Method := { name := "<init>", desc := "()V", sig := { parameters := [], returnType := none }, accessFlags := 0, code := none }
def k13c1 : Code := { maxStack := 2, maxLocals := 1, code := jdk_43_method_3_code, exceptionTable := #[], attributes := #[] }
def k13m1 : Method := { name := "canEncode", desc := "(C)Z", sig := { parameters := [.char], returnType := some .boolean }, accessFlags := 9, code := some k13c1 }
def k13c2 : Code := { maxStack := 4, maxLocals := 1, code := jdk_43_method_46_code, exceptionTable := #[], attributes := #[] }
def k13m2 : Method := { name := "toBytes", desc := "(C)[B", sig := { parameters := [.char], returnType := some (.array .byte) }, accessFlags := 9, code := some k13c2 }
/-- java/lang/StringLatin1 -/
def k13 : Class := { plain "java/lang/StringLatin1" (some 0) with
  accessFlags := 48
  interfaces := #[]
  cf := some (fileOf pool13 14 #[.nestMembers #[390, 221]] #[{ accessFlags := 0, nameIndex := 7, descriptorIndex := 8, attributes := #[] }, { accessFlags := 9, nameIndex := 90, descriptorIndex := 105, attributes := #[] }, { accessFlags := 9, nameIndex := 380, descriptorIndex := 382, attributes := #[] }] 48 4 #[] #[{ accessFlags := 4120, nameIndex := 121, descriptorIndex := 122, attributes := #[] }])
  fields := #[{ name := "$assertionsDisabled", type := .boolean, accessFlags := 4120, slot := 0, constantValue := 0 }]
  methods := #[k13m0, k13m1, k13m2]
  instanceTypes := #[]
  staticTypes := #[.boolean]
  resolved := Array.replicate 395 none
  statics := none }

def pool14 : Array CpInfo := pool [(2, .class_ 4), (1, u "java/lang/Object"), (0, u "<init>"), (0, u "()V"), (17, .class_ 26), (1, u "jdk/internal/util/Preconditions"), (28, .class_ 56), (0, u "jdk/internal/util/Preconditions$4"), (57, .class_ 115), (0, u "jdk/internal/util/Preconditions$1"), (7, u "SIOOBE_FORMATTER"), (0, u "Ljava/util/function/BiFunction;"), (0, .class_ 126), (0, u "jdk/internal/util/Preconditions$2"), (3, u "AIOOBE_FORMATTER"), (0, .class_ 132), (0, u "jdk/internal/util/Preconditions$3"), (3, u "IOOBE_FORMATTER")] 57

def k14m0 : Method := { name := "<init>", desc := "()V", sig := { parameters := [], returnType := none }, accessFlags := 1, code := none }
/-- jdk/internal/util/Preconditions -/
def k14 : Class := { plain "jdk/internal/util/Preconditions" (some 0) with
  accessFlags := 33
  interfaces := #[]
  cf := some (fileOf pool14 24 #[.nestMembers #[55, 131, 125, 114]] #[{ accessFlags := 1, nameIndex := 5, descriptorIndex := 6, attributes := #[] }] 33 2 #[] #[{ accessFlags := 25, nameIndex := 123, descriptorIndex := 124, attributes := #[] }, { accessFlags := 25, nameIndex := 130, descriptorIndex := 124, attributes := #[] }, { accessFlags := 25, nameIndex := 136, descriptorIndex := 124, attributes := #[] }])
  fields := #[{ name := "SIOOBE_FORMATTER", type := (.object "java/util/function/BiFunction"), accessFlags := 25, slot := 0, constantValue := 0 }, { name := "AIOOBE_FORMATTER", type := (.object "java/util/function/BiFunction"), accessFlags := 25, slot := 1, constantValue := 0 }, { name := "IOOBE_FORMATTER", type := (.object "java/util/function/BiFunction"), accessFlags := 25, slot := 2, constantValue := 0 }]
  methods := #[k14m0]
  instanceTypes := #[]
  staticTypes := #[(.object "java/util/function/BiFunction"), (.object "java/util/function/BiFunction"), (.object "java/util/function/BiFunction")]
  resolved := Array.replicate 194 none
  statics := some 1 }

def pool15 : Array CpInfo := pool [(9, u "<init>"), (6, .class_ 18), (1, u "java/lang/Object"), (0, u "()V"), (1, .class_ 23), (1, u "jdk/internal/util/ArraysSupport"), (0, u "LOG2_ARRAY_LONG_INDEX_SCALE"), (0, u "I"), (2, u "U"), (0, u "Ljdk/internal/misc/Unsafe;"), (8, u "BIG_ENDIAN"), (0, u "Z"), (8, u "LOG2_BYTE_BIT_SIZE"), (4, u "LOG2_ARRAY_INT_INDEX_SCALE"), (54, u "JLA"), (0, u "Ljdk/internal/access/JavaLangAccess;"), (11, u "LOG2_ARRAY_BOOLEAN_INDEX_SCALE"), (9, u "LOG2_ARRAY_BYTE_INDEX_SCALE"), (5, u "LOG2_ARRAY_CHAR_INDEX_SCALE"), (5, u "LOG2_ARRAY_SHORT_INDEX_SCALE"), (18, u "LOG2_ARRAY_FLOAT_INDEX_SCALE"), (24, u "LOG2_ARRAY_DOUBLE_INDEX_SCALE"), (89, u "T_BOOLEAN"), (2, u "T_CHAR"), (1, u "T_FLOAT"), (1, u "T_DOUBLE"), (1, u "T_BYTE"), (1, u "T_SHORT"), (1, u "T_INT"), (1, u "T_LONG"), (1, u "SOFT_MAX_ARRAY_LENGTH")] 83

def k15m0 : Method := { name := "<init>", desc := "()V", sig := { parameters := [], returnType := none }, accessFlags := 2, code := none }
/-- jdk/internal/util/ArraysSupport -/
def k15 : Class := { plain "jdk/internal/util/ArraysSupport" (some 0) with
  accessFlags := 33
  interfaces := #[]
  cf := some (fileOf pool15 21 #[] #[{ accessFlags := 2, nameIndex := 9, descriptorIndex := 19, attributes := #[] }] 33 16 #[] #[{ accessFlags := 24, nameIndex := 28, descriptorIndex := 29, attributes := #[] }, { accessFlags := 26, nameIndex := 38, descriptorIndex := 39, attributes := #[] }, { accessFlags := 25, nameIndex := 121, descriptorIndex := 25, attributes := #[] }, { accessFlags := 25, nameIndex := 131, descriptorIndex := 25, attributes := #[] }, { accessFlags := 25, nameIndex := 137, descriptorIndex := 25, attributes := #[] }, { accessFlags := 25, nameIndex := 143, descriptorIndex := 25, attributes := #[] }, { accessFlags := 25, nameIndex := 53, descriptorIndex := 25, attributes := #[] }, { accessFlags := 25, nameIndex := 24, descriptorIndex := 25, attributes := #[] }, { accessFlags := 25, nameIndex := 162, descriptorIndex := 25, attributes := #[] }, { accessFlags := 25, nameIndex := 187, descriptorIndex := 25, attributes := #[] }, { accessFlags := 26, nameIndex := 48, descriptorIndex := 25, attributes := #[] }, { accessFlags := 25, nameIndex := 277, descriptorIndex := 25, attributes := #[] }, { accessFlags := 25, nameIndex := 280, descriptorIndex := 25, attributes := #[] }, { accessFlags := 25, nameIndex := 282, descriptorIndex := 25, attributes := #[] }, { accessFlags := 25, nameIndex := 284, descriptorIndex := 25, attributes := #[] }, { accessFlags := 25, nameIndex := 286, descriptorIndex := 25, attributes := #[] }, { accessFlags := 25, nameIndex := 288, descriptorIndex := 25, attributes := #[] }, { accessFlags := 25, nameIndex := 290, descriptorIndex := 25, attributes := #[] }, { accessFlags := 25, nameIndex := 292, descriptorIndex := 25, attributes := #[] }, { accessFlags := 26, nameIndex := 108, descriptorIndex := 109, attributes := #[] }, { accessFlags := 25, nameIndex := 294, descriptorIndex := 25, attributes := #[] }])
  fields := #[{ name := "U", type := (.object "jdk/internal/misc/Unsafe"), accessFlags := 24, slot := 0, constantValue := 0 }, { name := "BIG_ENDIAN", type := .boolean, accessFlags := 26, slot := 1, constantValue := 0 }, { name := "LOG2_ARRAY_BOOLEAN_INDEX_SCALE", type := .int, accessFlags := 25, slot := 2, constantValue := 0 }, { name := "LOG2_ARRAY_BYTE_INDEX_SCALE", type := .int, accessFlags := 25, slot := 3, constantValue := 0 }, { name := "LOG2_ARRAY_CHAR_INDEX_SCALE", type := .int, accessFlags := 25, slot := 4, constantValue := 0 }, { name := "LOG2_ARRAY_SHORT_INDEX_SCALE", type := .int, accessFlags := 25, slot := 5, constantValue := 0 }, { name := "LOG2_ARRAY_INT_INDEX_SCALE", type := .int, accessFlags := 25, slot := 6, constantValue := 0 }, { name := "LOG2_ARRAY_LONG_INDEX_SCALE", type := .int, accessFlags := 25, slot := 7, constantValue := 0 }, { name := "LOG2_ARRAY_FLOAT_INDEX_SCALE", type := .int, accessFlags := 25, slot := 8, constantValue := 0 }, { name := "LOG2_ARRAY_DOUBLE_INDEX_SCALE", type := .int, accessFlags := 25, slot := 9, constantValue := 0 }, { name := "LOG2_BYTE_BIT_SIZE", type := .int, accessFlags := 26, slot := 10, constantValue := 0 }, { name := "T_BOOLEAN", type := .int, accessFlags := 25, slot := 11, constantValue := 0 }, { name := "T_CHAR", type := .int, accessFlags := 25, slot := 12, constantValue := 0 }, { name := "T_FLOAT", type := .int, accessFlags := 25, slot := 13, constantValue := 0 }, { name := "T_DOUBLE", type := .int, accessFlags := 25, slot := 14, constantValue := 0 }, { name := "T_BYTE", type := .int, accessFlags := 25, slot := 15, constantValue := 0 }, { name := "T_SHORT", type := .int, accessFlags := 25, slot := 16, constantValue := 0 }, { name := "T_INT", type := .int, accessFlags := 25, slot := 17, constantValue := 0 }, { name := "T_LONG", type := .int, accessFlags := 25, slot := 18, constantValue := 0 }, { name := "JLA", type := (.object "jdk/internal/access/JavaLangAccess"), accessFlags := 26, slot := 19, constantValue := 0 }, { name := "SOFT_MAX_ARRAY_LENGTH", type := .int, accessFlags := 25, slot := 20, constantValue := 0 }]
  methods := #[k15m0]
  instanceTypes := #[]
  staticTypes := #[(.object "jdk/internal/misc/Unsafe"), .boolean, .int, .int, .int, .int, .int, .int, .int, .int, .int, .int, .int, .int, .int, .int, .int, .int, .int, (.object "jdk/internal/access/JavaLangAccess"), .int]
  resolved := Array.replicate 378 none
  statics := none }

def pool16 : Array CpInfo := pool [(1, u "java/lang/Cloneable"), (0, .class_ 1), (0, u "java/lang/Object"), (0, .class_ 3)] 3

/-- java/lang/Cloneable -/
def k16 : Class := { plain "java/lang/Cloneable" (some 0) with
  accessFlags := 1537
  interfaces := #[]
  cf := some (fileOf pool16 2 #[] #[] 1537 4 #[] #[])
  fields := #[]
  methods := #[]
  instanceTypes := #[]
  staticTypes := #[]
  resolved := Array.replicate 8 none
  statics := none }

/-- the primitive byte -/
def k17 : Class := { plain "byte" none with kind := .primitive 'B', accessFlags := 0x411 }
/-- [B -/
def k18 : Class := { plain "[B" (some 0) with kind := .array 17 .byte, interfaces := #[16, 2], accessFlags := 1041 }

/-- the primitive char -/
def k19 : Class := { plain "char" none with kind := .primitive 'C', accessFlags := 0x411 }
/-- [C -/
def k20 : Class := { plain "[C" (some 0) with kind := .array 19 .char, interfaces := #[16, 2], accessFlags := 1041 }

/-- the primitive int -/
def k21 : Class := { plain "int" none with kind := .primitive 'I', accessFlags := 0x411 }
/-- [I -/
def k22 : Class := { plain "[I" (some 0) with kind := .array 21 .int, interfaces := #[16, 2], accessFlags := 1041 }

def heap : Heap := #[{ cls := 7, slots := #[.long 0, .int 1, .null, .int 0, .null, .int 0, .int 0], vm := .statics 7 },
  { cls := 14, slots := #[.null, .null, .null], vm := .statics 14 }]
def classes : Array Class := #[k0, k1, k2, k3, k4, k5, k6, k7, k8, k9, k10, k11, k12, k13, k14, k15, k16, k17, k18, k19, k20, k21, k22]
def interned : List (Array UInt16 × Addr) := []
def slotsUsed : Nat := 10
def theMethod : MethodId := ⟨1, 2⟩
def args0 : Array Value := #[.int 5, .int 5, .int 5]
def aboutOver (below : List Frame) : State where
  vm := { classes := classes, interned := interned.toArray }
  heap := heap
  slotsUsed := slotsUsed
  threads := #[{ frames := .invoking theMethod args0 :: below }]
def below0 : List Frame := [.native { method := ⟨0, 0⟩, args := #[] }]
def about1 : State := aboutOver below0
def p0 : Program := .bare "" "" ""
def e0 : Env := launch0.env 0 0 0
theorem w_frames : about1.frames = Frame.invoking theMethod args0 :: below0 := rfl
set_option maxRecDepth 65536 in
theorem w_args : argsFit about1.vm theMethod args0 = true := by decide +kernel
set_option maxRecDepth 65536 in
theorem w_heap : heapFits about1 = true := by decide +kernel
set_option maxRecDepth 65536 in
theorem w_runnable : about1.curStatus? = some .runnable := by decide +kernel
set_option maxRecDepth 65536 in
theorem w_alone : about1.alone = true := by decide +kernel
set_option maxRecDepth 65536 in
theorem w_named : about1.methodNamed? x = some theMethod := by decide +kernel
set_option maxRecDepth 65536 in
theorem w_hears : about1.hears theMethod below0 = true := by decide +kernel
set_option maxRecDepth 65536 in
theorem w_ripe : about1.ripe theMethod args0 below0 = true := by decide +kernel
theorem w_running : about1.status = .running := rfl
set_option maxRecDepth 65536 in
theorem w_room : about1.hasRoom e0.platform room_1 = true :=
  launch0.hasRoom_least _ room_1 (by decide +kernel) (by decide +kernel) (by decide +kernel) (by decide +kernel) (by decide +kernel) (by decide +kernel)
theorem allAtoms_all (ts : List Jvm.Cond) (a : Array Jvm.Value) (st : Jvm.State) : (allAtoms ts).before a st = ts.all (fun c => c.before a st) := by
  induction ts with
  | nil => rfl
  | cons c t ih =>
    show (Jvm.Cond.and c (allAtoms t)).before a st = _
    rw [Jvm.Cond.before_and, ih, List.all_cons]
def words1 : List Jvm.Cond := Jvm.Cond.code x code maxLocals ret :: tables_1
/-- a 'code' word, met by the world's own term for the bytes: nothing is compared byte by byte -/
theorem code_word {y : MethodName} {bytes : ByteArray} {mx : Nat} {rt : Option FieldType} {a : Array Value} {s : State} {m : MethodId} {meth : Method} {c : Code} (h1 : s.methodNamed? y = some m) (h2 : s.vm.method? m = some meth) (h3 : meth.code = some c) (h4 : c.code = bytes)
    (h5 : (c.maxLocals == mx && c.exceptionTable.isEmpty && decide (c.maxStack ≤ mostOperands) && decide (meth.sig.returnType = rt) && !meth.locks && decide (parseMethodDescriptor y.desc = some meth.sig)) = true) : (Jvm.Cond.code y bytes mx rt).before a s = true := by
  simp only [Bool.and_eq_true, beq_iff_eq, Bool.not_eq_true', decide_eq_true_eq] at h5
  obtain ⟨⟨⟨⟨⟨g1, g2⟩, g3⟩, g4⟩, g5⟩, g6⟩ := h5
  simp [Cond.before, Cond.holds, Cond.value, h1, h2, h3, h4, g1, g2, g3, g4, g5, g6]
def isCode : Jvm.Cond → Bool
  | .code _ _ _ _ => true
  | _ => false
theorem all_split {L : List Jvm.Cond} {P : Jvm.Cond → Bool} (h1 : L.all (fun c => isCode c || P c) = true) (h2 : ∀ c ∈ L.filter isCode, P c = true) : L.all P = true := by
  refine List.all_eq_true.mpr fun c hc => ?_
  have h := List.all_eq_true.mp h1 c hc
  rcases Bool.eq_false_or_eq_true (isCode c) with hi | hi
  · exact h2 c (List.mem_filter.mpr ⟨hc, hi⟩)
  · simpa [hi] using h
set_option maxRecDepth 65536 in
theorem w_c0 : (Jvm.Cond.code x code maxLocals ret).before args0 about1 = true := code_word (m := ⟨1, 2⟩) (meth := k1m2) (c := k1c2) (by decide +kernel) rfl rfl rfl (by decide +kernel)
set_option maxRecDepth 65536 in
theorem w_c1 : (Jvm.Cond.code ({ cls := "org/holdfast/model/IdentifierOfPinLaw", name := "mk", desc := "(II)Ljava/lang/String;" } : Jvm.MethodName) method_2_code (5 : Nat) (Option.some (Jvm.ClassFile.FieldType.object "java/lang/String"))).before args0 about1 = true := code_word (m := ⟨1, 1⟩) (meth := k1m1) (c := k1c1) (by decide +kernel) rfl rfl rfl (by decide +kernel)
set_option maxRecDepth 65536 in
theorem w_c2 : (Jvm.Cond.code ({ cls := "java/lang/String", name := "<init>", desc := "([C)V" } : Jvm.MethodName) jdk_42_method_3_code (2 : Nat) (Option.none : Option Jvm.ClassFile.FieldType)).before args0 about1 = true := code_word (m := ⟨7, 1⟩) (meth := k7m1) (c := k7c1) (by decide +kernel) rfl rfl rfl (by decide +kernel)
set_option maxRecDepth 65536 in
theorem w_c3 : (Jvm.Cond.code ({ cls := "java/lang/String", name := "<init>", desc := "([CIILjava/lang/Void;)V" } : Jvm.MethodName) jdk_42_method_149_code (6 : Nat) (Option.none : Option Jvm.ClassFile.FieldType)).before args0 about1 = true := code_word (m := ⟨7, 4⟩) (meth := k7m4) (c := k7c4) (by decide +kernel) rfl rfl rfl (by decide +kernel)
set_option maxRecDepth 65536 in
theorem w_c4 : (Jvm.Cond.code ({ cls := "java/lang/Object", name := "<init>", desc := "()V" } : Jvm.MethodName) object_method_1_code (1 : Nat) (Option.none : Option Jvm.ClassFile.FieldType)).before args0 about1 = true := code_word (m := ⟨0, 0⟩) (meth := k0m0) (c := k0c0) (by decide +kernel) rfl rfl rfl (by decide +kernel)
set_option maxRecDepth 65536 in
theorem w_c5 : (Jvm.Cond.code ({ cls := "java/lang/StringUTF16", name := "compress", desc := "([CII)[B" } : Jvm.MethodName) jdk_52_method_16_code (6 : Nat) (Option.some (Jvm.ClassFile.FieldType.array Jvm.ClassFile.FieldType.byte))).before args0 about1 = true := code_word (m := ⟨8, 2⟩) (meth := k8m2) (c := k8c2) (by decide +kernel) rfl rfl rfl (by decide +kernel)
set_option maxRecDepth 65536 in
theorem w_c6 : (Jvm.Cond.code ({ cls := "java/lang/StringUTF16", name := "compress", desc := "([CI[BII)I" } : Jvm.MethodName) jdk_52_method_21_code (7 : Nat) (Option.some Jvm.ClassFile.FieldType.int)).before args0 about1 = true := code_word (m := ⟨8, 3⟩) (meth := k8m3) (c := k8c3) (by decide +kernel) rfl rfl rfl (by decide +kernel)
set_option maxRecDepth 65536 in
theorem w_c7 : (Jvm.Cond.code ({ cls := "java/lang/StringUTF16", name := "coderFromArrayLen", desc := "([BI)B" } : Jvm.MethodName) jdk_52_method_15_code (2 : Nat) (Option.some Jvm.ClassFile.FieldType.byte)).before args0 about1 = true := code_word (m := ⟨8, 1⟩) (meth := k8m1) (c := k8c1) (by decide +kernel) rfl rfl rfl (by decide +kernel)
set_option maxRecDepth 65536 in
theorem w_c8 : (Jvm.Cond.code ({ cls := "org/holdfast/model/Identifier", name := "of", desc := "(Ljava/lang/String;Ljava/lang/String;)Lorg/holdfast/model/Identifier;" } : Jvm.MethodName) prog_38_method_2_code (2 : Nat) (Option.some (Jvm.ClassFile.FieldType.object "org/holdfast/model/Identifier"))).before args0 about1 = true := code_word (m := ⟨10, 1⟩) (meth := k10m1) (c := k10c1) (by decide +kernel) rfl rfl rfl (by decide +kernel)
set_option maxRecDepth 65536 in
theorem w_c9 : (Jvm.Cond.code ({ cls := "org/holdfast/model/TypeOrSource", name := "text", desc := "(Ljava/lang/String;)Lorg/holdfast/model/TypeOrSource;" } : Jvm.MethodName) prog_44_method_2_code (1 : Nat) (Option.some (Jvm.ClassFile.FieldType.object "org/holdfast/model/TypeOrSource"))).before args0 about1 = true := code_word (m := ⟨11, 1⟩) (meth := k11m1) (c := k11c1) (by decide +kernel) rfl rfl rfl (by decide +kernel)
set_option maxRecDepth 65536 in
theorem w_c10 : (Jvm.Cond.code ({ cls := "org/holdfast/model/TypeOrSource", name := "<init>", desc := "(Ljava/lang/String;Ljava/lang/String;)V" } : Jvm.MethodName) prog_44_method_1_code (3 : Nat) (Option.none : Option Jvm.ClassFile.FieldType)).before args0 about1 = true := code_word (m := ⟨11, 0⟩) (meth := k11m0) (c := k11c0) (by decide +kernel) rfl rfl rfl (by decide +kernel)
set_option maxRecDepth 65536 in
theorem w_c11 : (Jvm.Cond.code ({ cls := "java/lang/Record", name := "<init>", desc := "()V" } : Jvm.MethodName) jdk_30_method_1_code (1 : Nat) (Option.none : Option Jvm.ClassFile.FieldType)).before args0 about1 = true := code_word (m := ⟨9, 0⟩) (meth := k9m0) (c := k9c0) (by decide +kernel) rfl rfl rfl (by decide +kernel)
set_option maxRecDepth 65536 in
theorem w_c12 : (Jvm.Cond.code ({ cls := "org/holdfast/model/Identifier", name := "<init>", desc := "(Ljava/lang/String;Lorg/holdfast/model/TypeOrSource;)V" } : Jvm.MethodName) prog_38_method_1_code (3 : Nat) (Option.none : Option Jvm.ClassFile.FieldType)).before args0 about1 = true := code_word (m := ⟨10, 0⟩) (meth := k10m0) (c := k10c0) (by decide +kernel) rfl rfl rfl (by decide +kernel)
set_option maxRecDepth 65536 in
theorem w_c13 : (Jvm.Cond.code ({ cls := "java/util/Objects", name := "requireNonNull", desc := "(Ljava/lang/Object;Ljava/lang/String;)Ljava/lang/Object;" } : Jvm.MethodName) jdk_31_method_11_code (2 : Nat) (Option.some (Jvm.ClassFile.FieldType.object "java/lang/Object"))).before args0 about1 = true := code_word (m := ⟨12, 1⟩) (meth := k12m1) (c := k12c1) (by decide +kernel) rfl rfl rfl (by decide +kernel)
set_option maxRecDepth 65536 in
theorem w_c14 : (Jvm.Cond.code ({ cls := "org/holdfast/model/Identifier", name := "typeOrSource", desc := "()Lorg/holdfast/model/TypeOrSource;" } : Jvm.MethodName) prog_38_method_7_code (1 : Nat) (Option.some (Jvm.ClassFile.FieldType.object "org/holdfast/model/TypeOrSource"))).before args0 about1 = true := code_word (m := ⟨10, 3⟩) (meth := k10m3) (c := k10c3) (by decide +kernel) rfl rfl rfl (by decide +kernel)
set_option maxRecDepth 65536 in
theorem w_c15 : (Jvm.Cond.code ({ cls := "org/holdfast/model/Identifier", name := "value", desc := "()Ljava/lang/String;" } : Jvm.MethodName) prog_38_method_6_code (1 : Nat) (Option.some (Jvm.ClassFile.FieldType.object "java/lang/String"))).before args0 about1 = true := code_word (m := ⟨10, 2⟩) (meth := k10m2) (c := k10c2) (by decide +kernel) rfl rfl rfl (by decide +kernel)
set_option maxRecDepth 65536 in
theorem w_c16 : (Jvm.Cond.code ({ cls := "org/holdfast/model/TypeOrSource", name := "text", desc := "()Ljava/lang/String;" } : Jvm.MethodName) prog_44_method_7_code (1 : Nat) (Option.some (Jvm.ClassFile.FieldType.object "java/lang/String"))).before args0 about1 = true := code_word (m := ⟨11, 3⟩) (meth := k11m3) (c := k11c3) (by decide +kernel) rfl rfl rfl (by decide +kernel)
set_option maxRecDepth 65536 in
theorem w_c17 : (Jvm.Cond.code ({ cls := "java/lang/String", name := "equals", desc := "(Ljava/lang/Object;)Z" } : Jvm.MethodName) jdk_42_method_66_code (3 : Nat) (Option.some Jvm.ClassFile.FieldType.boolean)).before args0 about1 = true := code_word (m := ⟨7, 2⟩) (meth := k7m2) (c := k7c2) (by decide +kernel) rfl rfl rfl (by decide +kernel)
set_option maxRecDepth 65536 in
theorem w_c18 : (Jvm.Cond.code ({ cls := "org/holdfast/model/TypeOrSource", name := "pointer", desc := "()Ljava/lang/String;" } : Jvm.MethodName) prog_44_method_6_code (1 : Nat) (Option.some (Jvm.ClassFile.FieldType.object "java/lang/String"))).before args0 about1 = true := code_word (m := ⟨11, 2⟩) (meth := k11m2) (c := k11c2) (by decide +kernel) rfl rfl rfl (by decide +kernel)
set_option maxRecDepth 65536 in
theorem w_c19 : (Jvm.Cond.code ({ cls := "java/lang/String", name := "valueOf", desc := "(C)Ljava/lang/String;" } : Jvm.MethodName) jdk_42_method_139_code (1 : Nat) (Option.some (Jvm.ClassFile.FieldType.object "java/lang/String"))).before args0 about1 = true := code_word (m := ⟨7, 3⟩) (meth := k7m3) (c := k7c3) (by decide +kernel) rfl rfl rfl (by decide +kernel)
set_option maxRecDepth 65536 in
theorem w_c20 : (Jvm.Cond.code ({ cls := "java/lang/StringLatin1", name := "canEncode", desc := "(C)Z" } : Jvm.MethodName) jdk_43_method_3_code (1 : Nat) (Option.some Jvm.ClassFile.FieldType.boolean)).before args0 about1 = true := code_word (m := ⟨13, 1⟩) (meth := k13m1) (c := k13c1) (by decide +kernel) rfl rfl rfl (by decide +kernel)
set_option maxRecDepth 65536 in
theorem w_c21 : (Jvm.Cond.code ({ cls := "java/lang/StringLatin1", name := "toBytes", desc := "(C)[B" } : Jvm.MethodName) jdk_43_method_46_code (1 : Nat) (Option.some (Jvm.ClassFile.FieldType.array Jvm.ClassFile.FieldType.byte))).before args0 about1 = true := code_word (m := ⟨13, 2⟩) (meth := k13m2) (c := k13c2) (by decide +kernel) rfl rfl rfl (by decide +kernel)
set_option maxRecDepth 65536 in
theorem w_c22 : (Jvm.Cond.code ({ cls := "java/lang/String", name := "<init>", desc := "([BB)V" } : Jvm.MethodName) jdk_42_method_151_code (3 : Nat) (Option.none : Option Jvm.ClassFile.FieldType)).before args0 about1 = true := code_word (m := ⟨7, 5⟩) (meth := k7m5) (c := k7c5) (by decide +kernel) rfl rfl rfl (by decide +kernel)
def codes1 : List Jvm.Cond := [Jvm.Cond.code x code maxLocals ret, Jvm.Cond.code ({ cls := "org/holdfast/model/IdentifierOfPinLaw", name := "mk", desc := "(II)Ljava/lang/String;" } : Jvm.MethodName) method_2_code (5 : Nat) (Option.some (Jvm.ClassFile.FieldType.object "java/lang/String")), Jvm.Cond.code ({ cls := "java/lang/String", name := "<init>", desc := "([C)V" } : Jvm.MethodName) jdk_42_method_3_code (2 : Nat) (Option.none : Option Jvm.ClassFile.FieldType), Jvm.Cond.code ({ cls := "java/lang/String", name := "<init>", desc := "([CIILjava/lang/Void;)V" } : Jvm.MethodName) jdk_42_method_149_code (6 : Nat) (Option.none : Option Jvm.ClassFile.FieldType), Jvm.Cond.code ({ cls := "java/lang/Object", name := "<init>", desc := "()V" } : Jvm.MethodName) object_method_1_code (1 : Nat) (Option.none : Option Jvm.ClassFile.FieldType), Jvm.Cond.code ({ cls := "java/lang/StringUTF16", name := "compress", desc := "([CII)[B" } : Jvm.MethodName) jdk_52_method_16_code (6 : Nat) (Option.some (Jvm.ClassFile.FieldType.array Jvm.ClassFile.FieldType.byte)), Jvm.Cond.code ({ cls := "java/lang/StringUTF16", name := "compress", desc := "([CI[BII)I" } : Jvm.MethodName) jdk_52_method_21_code (7 : Nat) (Option.some Jvm.ClassFile.FieldType.int), Jvm.Cond.code ({ cls := "java/lang/StringUTF16", name := "coderFromArrayLen", desc := "([BI)B" } : Jvm.MethodName) jdk_52_method_15_code (2 : Nat) (Option.some Jvm.ClassFile.FieldType.byte), Jvm.Cond.code ({ cls := "org/holdfast/model/Identifier", name := "of", desc := "(Ljava/lang/String;Ljava/lang/String;)Lorg/holdfast/model/Identifier;" } : Jvm.MethodName) prog_38_method_2_code (2 : Nat) (Option.some (Jvm.ClassFile.FieldType.object "org/holdfast/model/Identifier")), Jvm.Cond.code ({ cls := "org/holdfast/model/TypeOrSource", name := "text", desc := "(Ljava/lang/String;)Lorg/holdfast/model/TypeOrSource;" } : Jvm.MethodName) prog_44_method_2_code (1 : Nat) (Option.some (Jvm.ClassFile.FieldType.object "org/holdfast/model/TypeOrSource")), Jvm.Cond.code ({ cls := "org/holdfast/model/TypeOrSource", name := "<init>", desc := "(Ljava/lang/String;Ljava/lang/String;)V" } : Jvm.MethodName) prog_44_method_1_code (3 : Nat) (Option.none : Option Jvm.ClassFile.FieldType), Jvm.Cond.code ({ cls := "java/lang/Record", name := "<init>", desc := "()V" } : Jvm.MethodName) jdk_30_method_1_code (1 : Nat) (Option.none : Option Jvm.ClassFile.FieldType), Jvm.Cond.code ({ cls := "org/holdfast/model/Identifier", name := "<init>", desc := "(Ljava/lang/String;Lorg/holdfast/model/TypeOrSource;)V" } : Jvm.MethodName) prog_38_method_1_code (3 : Nat) (Option.none : Option Jvm.ClassFile.FieldType), Jvm.Cond.code ({ cls := "java/util/Objects", name := "requireNonNull", desc := "(Ljava/lang/Object;Ljava/lang/String;)Ljava/lang/Object;" } : Jvm.MethodName) jdk_31_method_11_code (2 : Nat) (Option.some (Jvm.ClassFile.FieldType.object "java/lang/Object")), Jvm.Cond.code ({ cls := "org/holdfast/model/Identifier", name := "typeOrSource", desc := "()Lorg/holdfast/model/TypeOrSource;" } : Jvm.MethodName) prog_38_method_7_code (1 : Nat) (Option.some (Jvm.ClassFile.FieldType.object "org/holdfast/model/TypeOrSource")), Jvm.Cond.code ({ cls := "org/holdfast/model/Identifier", name := "value", desc := "()Ljava/lang/String;" } : Jvm.MethodName) prog_38_method_6_code (1 : Nat) (Option.some (Jvm.ClassFile.FieldType.object "java/lang/String")), Jvm.Cond.code ({ cls := "org/holdfast/model/TypeOrSource", name := "text", desc := "()Ljava/lang/String;" } : Jvm.MethodName) prog_44_method_7_code (1 : Nat) (Option.some (Jvm.ClassFile.FieldType.object "java/lang/String")), Jvm.Cond.code ({ cls := "java/lang/String", name := "equals", desc := "(Ljava/lang/Object;)Z" } : Jvm.MethodName) jdk_42_method_66_code (3 : Nat) (Option.some Jvm.ClassFile.FieldType.boolean), Jvm.Cond.code ({ cls := "org/holdfast/model/TypeOrSource", name := "pointer", desc := "()Ljava/lang/String;" } : Jvm.MethodName) prog_44_method_6_code (1 : Nat) (Option.some (Jvm.ClassFile.FieldType.object "java/lang/String")), Jvm.Cond.code ({ cls := "java/lang/String", name := "valueOf", desc := "(C)Ljava/lang/String;" } : Jvm.MethodName) jdk_42_method_139_code (1 : Nat) (Option.some (Jvm.ClassFile.FieldType.object "java/lang/String")), Jvm.Cond.code ({ cls := "java/lang/StringLatin1", name := "canEncode", desc := "(C)Z" } : Jvm.MethodName) jdk_43_method_3_code (1 : Nat) (Option.some Jvm.ClassFile.FieldType.boolean), Jvm.Cond.code ({ cls := "java/lang/StringLatin1", name := "toBytes", desc := "(C)[B" } : Jvm.MethodName) jdk_43_method_46_code (1 : Nat) (Option.some (Jvm.ClassFile.FieldType.array Jvm.ClassFile.FieldType.byte)), Jvm.Cond.code ({ cls := "java/lang/String", name := "<init>", desc := "([BB)V" } : Jvm.MethodName) jdk_42_method_151_code (3 : Nat) (Option.none : Option Jvm.ClassFile.FieldType)]
set_option maxRecDepth 65536 in
theorem codes_eq : words1.filter isCode = codes1 := rfl
theorem w_codes : ∀ c ∈ words1.filter isCode, c.before args0 about1 = true := by
  rw [codes_eq]
  intro c hc
  simp only [codes1, List.mem_cons, List.not_mem_nil, or_false] at hc
  rcases hc with rfl | rfl | rfl | rfl | rfl | rfl | rfl | rfl | rfl | rfl | rfl | rfl | rfl | rfl | rfl | rfl | rfl | rfl | rfl | rfl | rfl | rfl | rfl
  · exact w_c0
  · exact w_c1
  · exact w_c2
  · exact w_c3
  · exact w_c4
  · exact w_c5
  · exact w_c6
  · exact w_c7
  · exact w_c8
  · exact w_c9
  · exact w_c10
  · exact w_c11
  · exact w_c12
  · exact w_c13
  · exact w_c14
  · exact w_c15
  · exact w_c16
  · exact w_c17
  · exact w_c18
  · exact w_c19
  · exact w_c20
  · exact w_c21
  · exact w_c22
set_option maxRecDepth 65536 in
theorem w_t1 : (words1.take 24).all (fun c => isCode c || c.before args0 about1) = true := by decide +kernel
set_option maxRecDepth 65536 in
theorem w_t2 : ((words1.drop 24).take 24).all (fun c => isCode c || c.before args0 about1) = true := by decide +kernel
set_option maxRecDepth 65536 in
theorem w_t3 : (((words1.drop 24).drop 24).take 24).all (fun c => isCode c || c.before args0 about1) = true := by decide +kernel
set_option maxRecDepth 65536 in
theorem w_t4 : ((((words1.drop 24).drop 24).drop 24).take 24).all (fun c => isCode c || c.before args0 about1) = true := by decide +kernel
set_option maxRecDepth 65536 in
theorem w_t5 : ((((words1.drop 24).drop 24).drop 24).drop 24).all (fun c => isCode c || c.before args0 about1) = true := by decide +kernel
theorem w_tables : (allAtoms (Jvm.Cond.code x code maxLocals ret :: tables_1)).before args0 about1 = true := by
  rw [allAtoms_all]
  show words1.all (fun c => c.before args0 about1) = true
  refine all_split ?_ w_codes
  rw [← List.take_append_drop 24 words1, List.all_append, w_t1, ← List.take_append_drop 24 (words1.drop 24), List.all_append, w_t2, ← List.take_append_drop 24 ((words1.drop 24).drop 24), List.all_append, w_t3, ← List.take_append_drop 24 (((words1.drop 24).drop 24).drop 24), List.all_append, w_t4, w_t5]
  rfl
set_option maxRecDepth 65536 in
theorem w_rest : rest_1_c.before args0 about1 = true := by decide +kernel
set_option maxRecDepth 65536 in
theorem w_case : (Jvm.Cond.and given_1 narrow_1).before args0 about1 = true := by decide +kernel
set_option maxRecDepth 65536 in
theorem w_consts : constsHeld consts_1 about1 := Jvm.Lit.constsHeldB_iff.mp (by decide +kernel)
theorem w_applies : (headSpec (Jvm.Cond.code x code maxLocals ret :: tables_1) room_1).applies x e0.platform about1 = true :=
  (Spec.applies_iff w_frames).mpr ⟨w_running, w_runnable, w_alone, w_named, w_hears, w_ripe, w_room, w_tables⟩
theorem atStart : AtStart classFile x code maxLocals ret World_1 tables_1 room_1 Calls_1 rest_1 Pre_1 launch0 p0 e0 about1 theMethod args0 below0 :=
  ⟨lists_1, trivial, launch0.admits_env _ _ _, launch0.least_env, fairChoices_fair.cas, fairChoices_fair.clock, w_frames, w_args, w_heap, w_applies, ⟨w_consts, trivial⟩, w_rest, w_case⟩
end start1
theorem witness_1 : WitnessClaimed_1 := ⟨start1.p0, start1.e0, start1.about1, start1.theMethod, start1.args0, start1.below0, start1.atStart⟩
end Jvm.Pilot.@@N@@
